import JvmDerived
import JvmDerived.Pilot.@@N@@Statement
import JvmDerived.Pilot.@@N@@Code
set_option linter.unusedVariables false
set_option linter.unusedSimpArgs false
namespace Jvm.Pilot.@@N@@
open Jvm Jvm.ClassFile Sem Op Lib Jvm.Free Jvm.Stand Jvm.LawKit Jvm.RoadKit Bundle Jvm.Pilot.@@N@@.Jvm.D
theorem wd {Z : State} {a0 : Array Value} (hw : ∀ d ∈ tables_1, d.before a0 Z = true) (i : Nat) {d : Jvm.Cond} (e : tables_1[i]? = some d) : d.before a0 Z = true := hw _ (List.mem_of_getElem? e)
section Layer
variable {p : Program} {l : Launch} {e : Env} {R : Room} {s : State} {m : MethodId} {args : Array Value} {below : List Frame} {meth : Method} {c : Code} {Z : State} {a0 : Array Value}
variable {own nm : String} {bytes : ByteArray} {maxL : Nat} {ret : Option FieldType} {n0 : Nat} {Q : Option Value → Heap → Prop} {h : Heap} {k n : Nat} {pc q : Nat} {ls : Array Slot} {st : List Value}
/-- what stays fixed while one body is walked -/
def Cx (p : Program) (s : State) (m : MethodId) (meth : Method) (c : Code) (Z : State) (own nm : String) (bytes : ByteArray) (maxL : Nat) (ret : Option FieldType) : Prop :=
  p.tables.exec = Jvm.exec ∧ Z.Warmed39 s.vm ∧ s.vm.findClass own = some m.cls ∧ c.code = bytes ∧ c.maxLocals = maxL ∧ meth.sig.returnType = ret ∧ meth.locks = false ∧ meth.name = nm
/-- from this frame, over a heap h, with k cells and n slots made, the body ends and Q holds -/
def Go (p : Program) (l : Launch) (e : Env) (R : Room) (s : State) (m : MethodId) (args : Array Value) (below : List Frame) (meth : Method) (c : Code) (n0 : Nat) (Q : Option Value → Heap → Prop) (h : Heap) (k n : Nat) (g : JFrame) : Prop :=
  ∀ T L, Stand p l e R s m args below meth c T L k n → Fr n0 L → T.heap = h →
    ∃ s₂ o, Steps p.tables e below (T.setTop g) s₂ ∧ s₂.status = .running ∧ Ended s₂ below o ∧ ∃ v L', o = .returned v ∧ (Q v s₂.heap ∧ Fr n0 L') ∧ FrameEnd s o s₂ L' R.cells R.slots
theorem Go.of {g g' : JFrame} (f : ∀ T target, At T m c below → Steps p.tables e below (T.setTop g') target → Steps p.tables e below (T.setTop g) target) (r : Go p l e R s m args below meth c n0 Q h k n g') : Go p l e R s m args below meth c n0 Q h k n g := fun T L X N eT => by
  obtain ⟨s₂, o, hs, z⟩ := r T L X N eT
  exact ⟨s₂, o, f T _ X.here hs, z⟩
theorem Go.ofX {g g' : JFrame} (f : ∀ T L target, Stand p l e R s m args below meth c T L k n → T.heap = h → Steps p.tables e below (T.setTop g') target → Steps p.tables e below (T.setTop g) target) (r : Go p l e R s m args below meth c n0 Q h k n g') : Go p l e R s m args below meth c n0 Q h k n g := fun T L X N eT => by
  obtain ⟨s₂, o, hs, z⟩ := r T L X N eT
  exact ⟨s₂, o, f T L _ X eT hs, z⟩
theorem Go.mono {Q' : Option Value → Heap → Prop} {g : JFrame} (r : Go p l e R s m args below meth c n0 Q h k n g) (f : ∀ v h', Q v h' → Q' v h') : Go p l e R s m args below meth c n0 Q' h k n g := fun T L X N eT => by
  obtain ⟨s₂, o, hs, h1, h2, v, L', h3, h4, h5⟩ := r T L X N eT
  exact ⟨s₂, o, hs, h1, h2, v, L', h3, ⟨f _ _ h4.1, h4.2⟩, h5⟩
theorem Go.less {g : JFrame} {k' n' : Nat} (r : Go p l e R s m args below meth c n0 Q h k' n' g) (hk : k ≤ k') (hn : n ≤ n') : Go p l e R s m args below meth c n0 Q h k n g := fun T L X N eT => r T L (X.more hk hn) N eT
theorem Go.at {g : JFrame} {h' : Heap} (r : Go p l e R s m args below meth c n0 Q h' k n g) (q : h = h') : Go p l e R s m args below meth c n0 Q h k n g := q ▸ r

theorem go_eqI {x y : Int32} {stl : List Value} (hxy : x = y) (r : Go p l e R s m args below meth c n0 Q h k n (mkF m pc ls (.int y :: stl))) : Go p l e R s m args below meth c n0 Q h k n (mkF m pc ls (.int x :: stl)) := hxy ▸ r
theorem go_eqJ {x y : Int64} {stl : List Value} (hxy : x = y) (r : Go p l e R s m args below meth c n0 Q h k n (mkF m pc ls (.long y :: stl))) : Go p l e R s m args below meth c n0 Q h k n (mkF m pc ls (.long x :: stl)) := hxy ▸ r

theorem go_nameI {x : Int32} {stl : List Value} (r : ∀ z, z = x → Go p l e R s m args below meth c n0 Q h k n (mkF m pc ls (.int z :: stl))) : Go p l e R s m args below meth c n0 Q h k n (mkF m pc ls (.int x :: stl)) := r x rfl
theorem go_nameJ {x : Int64} {stl : List Value} (r : ∀ z, z = x → Go p l e R s m args below meth c n0 Q h k n (mkF m pc ls (.long z :: stl))) : Go p l e R s m args below meth c n0 Q h k n (mkF m pc ls (.long x :: stl)) := r x rfl

theorem go_aloadN (K : Cx p s m meth c Z own nm bytes maxL ret) {i : Fin 4} {v : Value} (hd : decode bytes pc = .ok (.aload_n i, 1)) (hl : ls[i.val]? = some (.val v)) (hv : v.isRef = true) (hq : pc + 1 = q) (r : Go p l e R s m args below meth c n0 Q h k n (mkF m q ls (v :: st))) : Go p l e R s m args below meth c n0 Q h k n (mkF m pc ls st) := by
  subst hq; exact Go.of (fun T tg A => XS.aloadN A K.1 rfl (hb K.2.2.2.1 hd) hl hv) r
theorem go_aload (K : Cx p s m meth c Z own nm bytes maxL ret) {i : Nat} {v : Value} (hd : decode bytes pc = .ok (.aload i, 2)) (hl : ls[i]? = some (.val v)) (hv : v.isRef = true) (hq : pc + 2 = q) (r : Go p l e R s m args below meth c n0 Q h k n (mkF m q ls (v :: st))) : Go p l e R s m args below meth c n0 Q h k n (mkF m pc ls st) := by
  subst hq; exact Go.of (fun T tg A => XS.aload A K.1 rfl (hb K.2.2.2.1 hd) hl hv) r
theorem go_iloadN (K : Cx p s m meth c Z own nm bytes maxL ret) {i : Fin 4} {v : Int32} (hd : decode bytes pc = .ok (.iload_n i, 1)) (hl : ls[i.val]? = some (.val (.int v))) (hq : pc + 1 = q) (r : Go p l e R s m args below meth c n0 Q h k n (mkF m q ls (.int v :: st))) : Go p l e R s m args below meth c n0 Q h k n (mkF m pc ls st) := by
  subst hq; exact Go.of (fun T tg A => XS.iloadN A K.1 rfl (hb K.2.2.2.1 hd) hl) r
theorem go_iload (K : Cx p s m meth c Z own nm bytes maxL ret) {i : Nat} {v : Int32} (hd : decode bytes pc = .ok (.iload i, 2)) (hl : ls[i]? = some (.val (.int v))) (hq : pc + 2 = q) (r : Go p l e R s m args below meth c n0 Q h k n (mkF m q ls (.int v :: st))) : Go p l e R s m args below meth c n0 Q h k n (mkF m pc ls st) := by
  subst hq; exact Go.of (fun T tg A => XS.iload A K.1 rfl (hb K.2.2.2.1 hd) hl) r
theorem go_lloadN (K : Cx p s m meth c Z own nm bytes maxL ret) {i : Fin 4} {v : Int64} (hd : decode bytes pc = .ok (.lload_n i, 1)) (hl : ls[i.val]? = some (.val (.long v))) (hq : pc + 1 = q) (r : Go p l e R s m args below meth c n0 Q h k n (mkF m q ls (.long v :: st))) : Go p l e R s m args below meth c n0 Q h k n (mkF m pc ls st) := by
  subst hq; exact Go.of (fun T tg A => XT.lloadN A K.1 rfl (hb K.2.2.2.1 hd) hl) r
theorem go_lload (K : Cx p s m meth c Z own nm bytes maxL ret) {i : Nat} {v : Int64} (hd : decode bytes pc = .ok (.lload i, 2)) (hl : ls[i]? = some (.val (.long v))) (hq : pc + 2 = q) (r : Go p l e R s m args below meth c n0 Q h k n (mkF m q ls (.long v :: st))) : Go p l e R s m args below meth c n0 Q h k n (mkF m pc ls st) := by
  subst hq; exact Go.of (fun T tg A => XT.lload A K.1 rfl (hb K.2.2.2.1 hd) hl) r
theorem go_iconst (K : Cx p s m meth c Z own nm bytes maxL ret) {i : Int} (hd : decode bytes pc = .ok (.iconst i, 1)) (v : Int32) (hv : Int32.ofInt i = v) (hq : pc + 1 = q) (r : Go p l e R s m args below meth c n0 Q h k n (mkF m q ls (.int v :: st))) : Go p l e R s m args below meth c n0 Q h k n (mkF m pc ls st) := by
  subst hq; exact Go.of (fun T tg A => XT.iconstV A K.1 rfl v (hb K.2.2.2.1 hd) hv) r
theorem go_bipush (K : Cx p s m meth c Z own nm bytes maxL ret) {i : Int} (hd : decode bytes pc = .ok (.bipush i, 2)) (v : Int32) (hv : (Int8.ofInt i).toInt32 = v) (hq : pc + 2 = q) (r : Go p l e R s m args below meth c n0 Q h k n (mkF m q ls (.int v :: st))) : Go p l e R s m args below meth c n0 Q h k n (mkF m pc ls st) := by
  subst hq; exact Go.of (fun T tg A => XT.bipushV A K.1 rfl v (hb K.2.2.2.1 hd) hv) r
theorem go_sipush (K : Cx p s m meth c Z own nm bytes maxL ret) {i : Int} (hd : decode bytes pc = .ok (.sipush i, 3)) (v : Int32) (hv : (Int16.ofInt i).toInt32 = v) (hq : pc + 3 = q) (r : Go p l e R s m args below meth c n0 Q h k n (mkF m q ls (.int v :: st))) : Go p l e R s m args below meth c n0 Q h k n (mkF m pc ls st) := by
  subst hq; exact Go.of (fun T tg A => XT.sipushV A K.1 rfl v (hb K.2.2.2.1 hd) hv) r
theorem go_lconst (K : Cx p s m meth c Z own nm bytes maxL ret) {i : Fin 2} (hd : decode bytes pc = .ok (.lconst i, 1)) (v : Int64) (hv : Int64.ofNat i = v) (hq : pc + 1 = q) (r : Go p l e R s m args below meth c n0 Q h k n (mkF m q ls (.long v :: st))) : Go p l e R s m args below meth c n0 Q h k n (mkF m pc ls st) := by
  subst hq; exact Go.of (fun T tg A => XT.lconstV A K.1 rfl v (hb K.2.2.2.1 hd) hv) r
theorem go_aconst_null (K : Cx p s m meth c Z own nm bytes maxL ret)  (hd : decode bytes pc = .ok (.aconst_null, 1))  (hq : pc + 1 = q) (r : Go p l e R s m args below meth c n0 Q h k n (mkF m q ls (.null :: st))) : Go p l e R s m args below meth c n0 Q h k n (mkF m pc ls st) := by
  subst hq; exact Go.of (fun T tg A => XS.aconstNull A K.1 rfl (hb K.2.2.2.1 hd)) r
theorem go_iadd (K : Cx p s m meth c Z own nm bytes maxL ret) {x y : Int32} (hd : decode bytes pc = .ok (.iadd, 1))  (hq : pc + 1 = q) (r : Go p l e R s m args below meth c n0 Q h k n (mkF m q ls (.int (x + y) :: st))) : Go p l e R s m args below meth c n0 Q h k n (mkF m pc ls (.int y :: .int x :: st)) := by
  subst hq; exact Go.of (fun T tg A => XS.iadd A K.1 rfl (hb K.2.2.2.1 hd) rfl) r
theorem go_isub (K : Cx p s m meth c Z own nm bytes maxL ret) {x y : Int32} (hd : decode bytes pc = .ok (.isub, 1))  (hq : pc + 1 = q) (r : Go p l e R s m args below meth c n0 Q h k n (mkF m q ls (.int (x - y) :: st))) : Go p l e R s m args below meth c n0 Q h k n (mkF m pc ls (.int y :: .int x :: st)) := by
  subst hq; exact Go.of (fun T tg A => XS.isub A K.1 rfl (hb K.2.2.2.1 hd) rfl) r
theorem go_iand (K : Cx p s m meth c Z own nm bytes maxL ret) {x y : Int32} (hd : decode bytes pc = .ok (.iand, 1))  (hq : pc + 1 = q) (r : Go p l e R s m args below meth c n0 Q h k n (mkF m q ls (.int (x &&& y) :: st))) : Go p l e R s m args below meth c n0 Q h k n (mkF m pc ls (.int y :: .int x :: st)) := by
  subst hq; exact Go.of (fun T tg A => XS.iand A K.1 rfl (hb K.2.2.2.1 hd) rfl) r
theorem go_imul (K : Cx p s m meth c Z own nm bytes maxL ret) {x y : Int32} (hd : decode bytes pc = .ok (.imul, 1))  (hq : pc + 1 = q) (r : Go p l e R s m args below meth c n0 Q h k n (mkF m q ls (.int (x * y) :: st))) : Go p l e R s m args below meth c n0 Q h k n (mkF m pc ls (.int y :: .int x :: st)) := by
  subst hq; exact Go.of (fun T tg A => XS.imul A K.1 rfl (hb K.2.2.2.1 hd) rfl) r
theorem go_ixor (K : Cx p s m meth c Z own nm bytes maxL ret) {x y : Int32} (hd : decode bytes pc = .ok (.ixor, 1))  (hq : pc + 1 = q) (r : Go p l e R s m args below meth c n0 Q h k n (mkF m q ls (.int (x ^^^ y) :: st))) : Go p l e R s m args below meth c n0 Q h k n (mkF m pc ls (.int y :: .int x :: st)) := by
  subst hq; exact Go.of (fun T tg A => XT.ixor A K.1 rfl (hb K.2.2.2.1 hd) rfl) r
theorem go_ior (K : Cx p s m meth c Z own nm bytes maxL ret) {x y : Int32} (hd : decode bytes pc = .ok (.ior, 1))  (hq : pc + 1 = q) (r : Go p l e R s m args below meth c n0 Q h k n (mkF m q ls (.int (x ||| y) :: st))) : Go p l e R s m args below meth c n0 Q h k n (mkF m pc ls (.int y :: .int x :: st)) := by
  subst hq; exact Go.of (fun T tg A => XT.ior A K.1 rfl (hb K.2.2.2.1 hd) rfl) r
theorem go_ishl (K : Cx p s m meth c Z own nm bytes maxL ret) {x y : Int32} (hd : decode bytes pc = .ok (.ishl, 1))  (hq : pc + 1 = q) (r : Go p l e R s m args below meth c n0 Q h k n (mkF m q ls (.int (x <<< (y &&& 31)) :: st))) : Go p l e R s m args below meth c n0 Q h k n (mkF m pc ls (.int y :: .int x :: st)) := by
  subst hq; exact Go.of (fun T tg A => XT.ishl A K.1 rfl (hb K.2.2.2.1 hd) rfl) r
theorem go_ishr (K : Cx p s m meth c Z own nm bytes maxL ret) {x y : Int32} (hd : decode bytes pc = .ok (.ishr, 1))  (hq : pc + 1 = q) (r : Go p l e R s m args below meth c n0 Q h k n (mkF m q ls (.int (x >>> (y &&& 31)) :: st))) : Go p l e R s m args below meth c n0 Q h k n (mkF m pc ls (.int y :: .int x :: st)) := by
  subst hq; exact Go.of (fun T tg A => XT.ishr A K.1 rfl (hb K.2.2.2.1 hd) rfl) r
theorem go_iushr (K : Cx p s m meth c Z own nm bytes maxL ret) {x y : Int32} (hd : decode bytes pc = .ok (.iushr, 1))  (hq : pc + 1 = q) (r : Go p l e R s m args below meth c n0 Q h k n (mkF m q ls (.int (XT.ushr x y) :: st))) : Go p l e R s m args below meth c n0 Q h k n (mkF m pc ls (.int y :: .int x :: st)) := by
  subst hq; exact Go.of (fun T tg A => XT.iushr A K.1 rfl (hb K.2.2.2.1 hd) rfl) r
theorem go_ladd (K : Cx p s m meth c Z own nm bytes maxL ret) {x y : Int64} (hd : decode bytes pc = .ok (.ladd, 1))  (hq : pc + 1 = q) (r : Go p l e R s m args below meth c n0 Q h k n (mkF m q ls (.long (x + y) :: st))) : Go p l e R s m args below meth c n0 Q h k n (mkF m pc ls (.long y :: .long x :: st)) := by
  subst hq; exact Go.of (fun T tg A => XT.ladd A K.1 rfl (hb K.2.2.2.1 hd) rfl) r
theorem go_lsub (K : Cx p s m meth c Z own nm bytes maxL ret) {x y : Int64} (hd : decode bytes pc = .ok (.lsub, 1))  (hq : pc + 1 = q) (r : Go p l e R s m args below meth c n0 Q h k n (mkF m q ls (.long (x - y) :: st))) : Go p l e R s m args below meth c n0 Q h k n (mkF m pc ls (.long y :: .long x :: st)) := by
  subst hq; exact Go.of (fun T tg A => XT.lsub A K.1 rfl (hb K.2.2.2.1 hd) rfl) r
theorem go_lmul (K : Cx p s m meth c Z own nm bytes maxL ret) {x y : Int64} (hd : decode bytes pc = .ok (.lmul, 1))  (hq : pc + 1 = q) (r : Go p l e R s m args below meth c n0 Q h k n (mkF m q ls (.long (x * y) :: st))) : Go p l e R s m args below meth c n0 Q h k n (mkF m pc ls (.long y :: .long x :: st)) := by
  subst hq; exact Go.of (fun T tg A => XT.lmul A K.1 rfl (hb K.2.2.2.1 hd) rfl) r
theorem go_land (K : Cx p s m meth c Z own nm bytes maxL ret) {x y : Int64} (hd : decode bytes pc = .ok (.land, 1))  (hq : pc + 1 = q) (r : Go p l e R s m args below meth c n0 Q h k n (mkF m q ls (.long (x &&& y) :: st))) : Go p l e R s m args below meth c n0 Q h k n (mkF m pc ls (.long y :: .long x :: st)) := by
  subst hq; exact Go.of (fun T tg A => XT.land A K.1 rfl (hb K.2.2.2.1 hd) rfl) r
theorem go_lor (K : Cx p s m meth c Z own nm bytes maxL ret) {x y : Int64} (hd : decode bytes pc = .ok (.lor, 1))  (hq : pc + 1 = q) (r : Go p l e R s m args below meth c n0 Q h k n (mkF m q ls (.long (x ||| y) :: st))) : Go p l e R s m args below meth c n0 Q h k n (mkF m pc ls (.long y :: .long x :: st)) := by
  subst hq; exact Go.of (fun T tg A => XT.lor A K.1 rfl (hb K.2.2.2.1 hd) rfl) r
theorem go_lxor (K : Cx p s m meth c Z own nm bytes maxL ret) {x y : Int64} (hd : decode bytes pc = .ok (.lxor, 1))  (hq : pc + 1 = q) (r : Go p l e R s m args below meth c n0 Q h k n (mkF m q ls (.long (x ^^^ y) :: st))) : Go p l e R s m args below meth c n0 Q h k n (mkF m pc ls (.long y :: .long x :: st)) := by
  subst hq; exact Go.of (fun T tg A => XT.lxor A K.1 rfl (hb K.2.2.2.1 hd) rfl) r
theorem go_lshl (K : Cx p s m meth c Z own nm bytes maxL ret) {x : Int64} {y : Int32} (hd : decode bytes pc = .ok (.lshl, 1))  (hq : pc + 1 = q) (r : Go p l e R s m args below meth c n0 Q h k n (mkF m q ls (.long (x <<< (y.toInt64 &&& 63)) :: st))) : Go p l e R s m args below meth c n0 Q h k n (mkF m pc ls (.int y :: .long x :: st)) := by
  subst hq; exact Go.of (fun T tg A => XT.lshl A K.1 rfl (hb K.2.2.2.1 hd) rfl) r
theorem go_lshr (K : Cx p s m meth c Z own nm bytes maxL ret) {x : Int64} {y : Int32} (hd : decode bytes pc = .ok (.lshr, 1))  (hq : pc + 1 = q) (r : Go p l e R s m args below meth c n0 Q h k n (mkF m q ls (.long (x >>> (y.toInt64 &&& 63)) :: st))) : Go p l e R s m args below meth c n0 Q h k n (mkF m pc ls (.int y :: .long x :: st)) := by
  subst hq; exact Go.of (fun T tg A => XT.lshr A K.1 rfl (hb K.2.2.2.1 hd) rfl) r
theorem go_lushr (K : Cx p s m meth c Z own nm bytes maxL ret) {x : Int64} {y : Int32} (hd : decode bytes pc = .ok (.lushr, 1))  (hq : pc + 1 = q) (r : Go p l e R s m args below meth c n0 Q h k n (mkF m q ls (.long (XT.ushrL x y) :: st))) : Go p l e R s m args below meth c n0 Q h k n (mkF m pc ls (.int y :: .long x :: st)) := by
  subst hq; exact Go.of (fun T tg A => XT.lushr A K.1 rfl (hb K.2.2.2.1 hd) rfl) r
theorem go_idiv (K : Cx p s m meth c Z own nm bytes maxL ret) {x y : Int32} (hd : decode bytes pc = .ok (.idiv, 1)) (hy : y ≠ 0) (hq : pc + 1 = q) (r : Go p l e R s m args below meth c n0 Q h k n (mkF m q ls (.int (x / y) :: st))) : Go p l e R s m args below meth c n0 Q h k n (mkF m pc ls (.int y :: .int x :: st)) := by
  subst hq; exact Go.of (fun T tg A => XS.idiv A K.1 rfl (hb K.2.2.2.1 hd) rfl hy) r
theorem go_irem (K : Cx p s m meth c Z own nm bytes maxL ret) {x y : Int32} (hd : decode bytes pc = .ok (.irem, 1)) (hy : y ≠ 0) (hq : pc + 1 = q) (r : Go p l e R s m args below meth c n0 Q h k n (mkF m q ls (.int (x % y) :: st))) : Go p l e R s m args below meth c n0 Q h k n (mkF m pc ls (.int y :: .int x :: st)) := by
  subst hq; exact Go.ofX (fun T L tg S _ => iremM S K.1 rfl (hb K.2.2.2.1 hd) rfl hy) r
theorem go_ldiv (K : Cx p s m meth c Z own nm bytes maxL ret) {x y : Int64} (hd : decode bytes pc = .ok (.ldiv, 1)) (hy : y ≠ 0) (hq : pc + 1 = q) (r : Go p l e R s m args below meth c n0 Q h k n (mkF m q ls (.long (x / y) :: st))) : Go p l e R s m args below meth c n0 Q h k n (mkF m pc ls (.long y :: .long x :: st)) := by
  subst hq; exact Go.of (fun T tg A => XT.ldiv A K.1 rfl (hb K.2.2.2.1 hd) rfl hy) r
theorem go_lrem (K : Cx p s m meth c Z own nm bytes maxL ret) {x y : Int64} (hd : decode bytes pc = .ok (.lrem, 1)) (hy : y ≠ 0) (hq : pc + 1 = q) (r : Go p l e R s m args below meth c n0 Q h k n (mkF m q ls (.long (x % y) :: st))) : Go p l e R s m args below meth c n0 Q h k n (mkF m pc ls (.long y :: .long x :: st)) := by
  subst hq; rw [← lrem_mod x y] at r; exact Go.of (fun T tg A => XT.lrem A K.1 rfl (hb K.2.2.2.1 hd) rfl hy) r
theorem go_ineg (K : Cx p s m meth c Z own nm bytes maxL ret) {x : Int32} (hd : decode bytes pc = .ok (.ineg, 1))  (hq : pc + 1 = q) (r : Go p l e R s m args below meth c n0 Q h k n (mkF m q ls (.int (-x) :: st))) : Go p l e R s m args below meth c n0 Q h k n (mkF m pc ls (.int x :: st)) := by
  subst hq; exact Go.of (fun T tg A => XS.ineg A K.1 rfl (hb K.2.2.2.1 hd) rfl) r
theorem go_lneg (K : Cx p s m meth c Z own nm bytes maxL ret) {x : Int64} (hd : decode bytes pc = .ok (.lneg, 1))  (hq : pc + 1 = q) (r : Go p l e R s m args below meth c n0 Q h k n (mkF m q ls (.long (-x) :: st))) : Go p l e R s m args below meth c n0 Q h k n (mkF m pc ls (.long x :: st)) := by
  subst hq; exact Go.of (fun T tg A => XT.lneg A K.1 rfl (hb K.2.2.2.1 hd) rfl) r
theorem go_i2l (K : Cx p s m meth c Z own nm bytes maxL ret) {x : Int32} (hd : decode bytes pc = .ok (.i2l, 1))  (hq : pc + 1 = q) (r : Go p l e R s m args below meth c n0 Q h k n (mkF m q ls (.long (x.toInt64) :: st))) : Go p l e R s m args below meth c n0 Q h k n (mkF m pc ls (.int x :: st)) := by
  subst hq; exact Go.of (fun T tg A => XT.i2l A K.1 rfl (hb K.2.2.2.1 hd) rfl) r
theorem go_l2i (K : Cx p s m meth c Z own nm bytes maxL ret) {x : Int64} (hd : decode bytes pc = .ok (.l2i, 1))  (hq : pc + 1 = q) (r : Go p l e R s m args below meth c n0 Q h k n (mkF m q ls (.int (x.toInt32) :: st))) : Go p l e R s m args below meth c n0 Q h k n (mkF m pc ls (.long x :: st)) := by
  subst hq; exact Go.of (fun T tg A => XT.l2i A K.1 rfl (hb K.2.2.2.1 hd) rfl) r
theorem go_i2b (K : Cx p s m meth c Z own nm bytes maxL ret) {x : Int32} (hd : decode bytes pc = .ok (.i2b, 1))  (hq : pc + 1 = q) (r : Go p l e R s m args below meth c n0 Q h k n (mkF m q ls (.int (x.toInt8.toInt32) :: st))) : Go p l e R s m args below meth c n0 Q h k n (mkF m pc ls (.int x :: st)) := by
  subst hq; exact Go.of (fun T tg A => XT.i2b A K.1 rfl (hb K.2.2.2.1 hd) rfl) r
theorem go_i2c (K : Cx p s m meth c Z own nm bytes maxL ret) {x : Int32} (hd : decode bytes pc = .ok (.i2c, 1))  (hq : pc + 1 = q) (r : Go p l e R s m args below meth c n0 Q h k n (mkF m q ls (.int (x.toUInt32.toUInt16.toUInt32.toInt32) :: st))) : Go p l e R s m args below meth c n0 Q h k n (mkF m pc ls (.int x :: st)) := by
  subst hq; exact Go.of (fun T tg A => XT.i2c A K.1 rfl (hb K.2.2.2.1 hd) rfl) r
theorem go_i2s (K : Cx p s m meth c Z own nm bytes maxL ret) {x : Int32} (hd : decode bytes pc = .ok (.i2s, 1))  (hq : pc + 1 = q) (r : Go p l e R s m args below meth c n0 Q h k n (mkF m q ls (.int (x.toInt16.toInt32) :: st))) : Go p l e R s m args below meth c n0 Q h k n (mkF m pc ls (.int x :: st)) := by
  subst hq; exact Go.of (fun T tg A => XT.i2s A K.1 rfl (hb K.2.2.2.1 hd) rfl) r
theorem go_lcmp (K : Cx p s m meth c Z own nm bytes maxL ret) {x y : Int64} (hd : decode bytes pc = .ok (.lcmp, 1))  (hq : pc + 1 = q) (r : Go p l e R s m args below meth c n0 Q h k n (mkF m q ls (.int (XT.cmpL x y) :: st))) : Go p l e R s m args below meth c n0 Q h k n (mkF m pc ls (.long y :: .long x :: st)) := by
  subst hq; exact Go.of (fun T tg A => XT.lcmp A K.1 rfl (hb K.2.2.2.1 hd) rfl) r
theorem go_dup (K : Cx p s m meth c Z own nm bytes maxL ret) {x : Value} (hd : decode bytes pc = .ok (.dup, 1)) (hc : x.category = 1) (hq : pc + 1 = q) (r : Go p l e R s m args below meth c n0 Q h k n (mkF m q ls (x :: x :: st))) : Go p l e R s m args below meth c n0 Q h k n (mkF m pc ls (x :: st)) := by
  subst hq; exact Go.of (fun T tg A => XS.dup A K.1 rfl (hb K.2.2.2.1 hd) rfl hc) r
theorem go_pop (K : Cx p s m meth c Z own nm bytes maxL ret) {x : Value} (hd : decode bytes pc = .ok (.pop, 1)) (hc : x.category = 1) (hq : pc + 1 = q) (r : Go p l e R s m args below meth c n0 Q h k n (mkF m q ls st)) : Go p l e R s m args below meth c n0 Q h k n (mkF m pc ls (x :: st)) := by
  subst hq; exact Go.of (fun T tg A => XT.pop A K.1 rfl (hb K.2.2.2.1 hd) rfl hc) r
theorem go_dup_x1 (K : Cx p s m meth c Z own nm bytes maxL ret) {x y : Value} (hd : decode bytes pc = .ok (.dup_x1, 1)) (hc : x.category = 1) (hc2 : y.category = 1) (hq : pc + 1 = q) (r : Go p l e R s m args below meth c n0 Q h k n (mkF m q ls (x :: y :: x :: st))) : Go p l e R s m args below meth c n0 Q h k n (mkF m pc ls (x :: y :: st)) := by
  subst hq; exact Go.of (fun T tg A => XT.dupX1 A K.1 rfl (hb K.2.2.2.1 hd) rfl hc hc2) r
theorem go_dup2L (K : Cx p s m meth c Z own nm bytes maxL ret) {x : Int64} (hd : decode bytes pc = .ok (.dup2, 1))  (hq : pc + 1 = q) (r : Go p l e R s m args below meth c n0 Q h k n (mkF m q ls (.long x :: .long x :: st))) : Go p l e R s m args below meth c n0 Q h k n (mkF m pc ls (.long x :: st)) := by
  subst hq; exact Go.of (fun T tg A => XT.dup2L A K.1 rfl (hb K.2.2.2.1 hd) rfl) r
theorem go_istoreN (K : Cx p s m meth c Z own nm bytes maxL ret) {i : Fin 4} {x : Int32} (hd : decode bytes pc = .ok (.istore_n i, 1)) (l' : Array Slot) (hl : storeLocals ls i.val (.int x) = some l') (hq : pc + 1 = q) (r : Go p l e R s m args below meth c n0 Q h k n (mkF m q l' st)) : Go p l e R s m args below meth c n0 Q h k n (mkF m pc ls (.int x :: st)) := by
  subst hq; exact Go.of (fun T tg A => XS.istoreN A K.1 rfl (hb K.2.2.2.1 hd) rfl hl) r
theorem go_istore (K : Cx p s m meth c Z own nm bytes maxL ret) {i : Nat} {x : Int32} (hd : decode bytes pc = .ok (.istore i, 2)) (l' : Array Slot) (hl : storeLocals ls i (.int x) = some l') (hq : pc + 2 = q) (r : Go p l e R s m args below meth c n0 Q h k n (mkF m q l' st)) : Go p l e R s m args below meth c n0 Q h k n (mkF m pc ls (.int x :: st)) := by
  subst hq; exact Go.of (fun T tg A => XS.istore A K.1 rfl (hb K.2.2.2.1 hd) rfl hl) r
theorem go_lstoreN (K : Cx p s m meth c Z own nm bytes maxL ret) {i : Fin 4} {x : Int64} (hd : decode bytes pc = .ok (.lstore_n i, 1)) (l' : Array Slot) (hl : storeLocals ls i.val (.long x) = some l') (hq : pc + 1 = q) (r : Go p l e R s m args below meth c n0 Q h k n (mkF m q l' st)) : Go p l e R s m args below meth c n0 Q h k n (mkF m pc ls (.long x :: st)) := by
  subst hq; exact Go.of (fun T tg A => XT.lstoreN A K.1 rfl (hb K.2.2.2.1 hd) rfl hl) r
theorem go_lstore (K : Cx p s m meth c Z own nm bytes maxL ret) {i : Nat} {x : Int64} (hd : decode bytes pc = .ok (.lstore i, 2)) (l' : Array Slot) (hl : storeLocals ls i (.long x) = some l') (hq : pc + 2 = q) (r : Go p l e R s m args below meth c n0 Q h k n (mkF m q l' st)) : Go p l e R s m args below meth c n0 Q h k n (mkF m pc ls (.long x :: st)) := by
  subst hq; exact Go.of (fun T tg A => XT.lstore A K.1 rfl (hb K.2.2.2.1 hd) rfl hl) r
theorem go_astoreN (K : Cx p s m meth c Z own nm bytes maxL ret) {i : Fin 4} {x : Value} (hd : decode bytes pc = .ok (.astore_n i, 1)) (l' : Array Slot) (hv : x.isRef = true) (hl : storeLocals ls i.val x = some l') (hq : pc + 1 = q) (r : Go p l e R s m args below meth c n0 Q h k n (mkF m q l' st)) : Go p l e R s m args below meth c n0 Q h k n (mkF m pc ls (x :: st)) := by
  subst hq; exact Go.of (fun T tg A => XS.astoreN A K.1 rfl (hb K.2.2.2.1 hd) rfl hv hl) r
theorem go_astore (K : Cx p s m meth c Z own nm bytes maxL ret) {i : Nat} {x : Value} (hd : decode bytes pc = .ok (.astore i, 2)) (l' : Array Slot) (hv : x.isRef = true) (hl : storeLocals ls i x = some l') (hq : pc + 2 = q) (r : Go p l e R s m args below meth c n0 Q h k n (mkF m q l' st)) : Go p l e R s m args below meth c n0 Q h k n (mkF m pc ls (x :: st)) := by
  subst hq; exact Go.of (fun T tg A => XS.astore A K.1 rfl (hb K.2.2.2.1 hd) rfl hv hl) r
theorem go_iinc (K : Cx p s m meth c Z own nm bytes maxL ret) {i : Nat} {z : Int} {x : Int32} (hd : decode bytes pc = .ok (.iinc i z, 3)) (v : Int32) (l' : Array Slot) (hv : Int32.ofInt z = v) (hl : ls[i]? = some (.val (.int x))) (hl' : storeLocals ls i (.int (x + v)) = some l') (hq : pc + 3 = q) (r : Go p l e R s m args below meth c n0 Q h k n (mkF m q l' st)) : Go p l e R s m args below meth c n0 Q h k n (mkF m pc ls st) := by
  subst hq; exact Go.of (fun T tg A => XT.iincV A K.1 rfl v (hb K.2.2.2.1 hd) hv hl hl') r
theorem go_goto (K : Cx p s m meth c Z own nm bytes maxL ret)  {o : Int} (hd : decode bytes pc = .ok (.goto o, 3))  (ho : 0 ≤ (pc : Int) + o) (hq : ((pc : Int) + o).toNat = q) (r : Go p l e R s m args below meth c n0 Q h k n (mkF m q ls st)) : Go p l e R s m args below meth c n0 Q h k n (mkF m pc ls st) := by
  exact Go.of (fun T tg A => XS.goto A K.1 rfl rfl (hb K.2.2.2.1 hd) ho hq) r
def cP : ClassFile.Cond → Int32 → Int32 → Prop
  | .eq, x, y => x = y
  | .ne, x, y => ¬ x = y
  | .lt, x, y => x < y
  | .ge, x, y => ¬ x < y
  | .gt, x, y => y < x
  | .le, x, y => ¬ y < x
theorem cP_t {cd : ClassFile.Cond} {x y : Int32} (h : cP cd x y) : if_icmp.holds cd x y = true := by
  cases cd
  · exact XT.ii_eq_t h
  · exact XT.ii_ne_t h
  · exact XT.ii_lt_t h
  · exact XT.ii_ge_t h
  · exact XT.ii_gt_t h
  · exact XT.ii_le_t h
def cN : ClassFile.Cond → Int32 → Int32 → Prop
  | .eq, x, y => ¬ x = y
  | .ne, x, y => x = y
  | .lt, x, y => ¬ x < y
  | .ge, x, y => x < y
  | .gt, x, y => ¬ y < x
  | .le, x, y => y < x
theorem cN_no {cd : ClassFile.Cond} {x y : Int32} {G : Prop} (h : cP cd x y) (h' : cN cd x y) : G := by
  cases cd <;> first | exact absurd h h' | exact absurd h' h
theorem cN_no2 {cd : ClassFile.Cond} {x y : Int32} {G : Prop} (h' : cN cd x y) (h : cP cd x y) : G := cN_no h h'
theorem cP_or (cd : ClassFile.Cond) (x y : Int32) : cP cd x y ∨ cN cd x y := by
  cases cd
  · exact Classical.em (x = y)
  · exact (Classical.em (x = y)).symm
  · exact Classical.em (x < y)
  · exact (Classical.em (x < y)).symm
  · exact Classical.em (y < x)
  · exact (Classical.em (y < x)).symm
theorem cP_f {cd : ClassFile.Cond} {x y : Int32} (h : cN cd x y) : if_icmp.holds cd x y = false := by
  cases cd
  · exact XT.ii_eq_f h
  · exact XT.ii_ne_f h
  · exact XT.ii_lt_f h
  · exact XT.ii_ge_f h
  · exact XT.ii_gt_f h
  · exact XT.ii_le_f h

theorem go_icmp (K : Cx p s m meth c Z own nm bytes maxL ret) {cd : ClassFile.Cond} {x y : Int32} {o : Int} {q' : Nat} (hd : decode bytes pc = .ok (.if_icmp cd o, 3)) (ho : 0 ≤ (pc : Int) + o) (hq : ((pc : Int) + o).toNat = q) (hq' : pc + 3 = q') (r : cP cd x y → Go p l e R s m args below meth c n0 Q h k n (mkF m q ls st)) (r' : cN cd x y → Go p l e R s m args below meth c n0 Q h k n (mkF m q' ls st)) : Go p l e R s m args below meth c n0 Q h k n (mkF m pc ls (.int y :: .int x :: st)) := by
  subst hq'; rcases cP_or cd x y with hc | hc
  · exact Go.of (fun T tg A => XS.icmpYes A K.1 rfl rfl (hb K.2.2.2.1 hd) rfl (cP_t hc) ho hq) (r hc)
  · exact Go.of (fun T tg A => XS.icmpNo A K.1 rfl (hb K.2.2.2.1 hd) rfl (cP_f hc)) (r' hc)
theorem go_if0 (K : Cx p s m meth c Z own nm bytes maxL ret) {cd : ClassFile.Cond} {x : Int32} {o : Int} {q' : Nat} (hd : decode bytes pc = .ok (.ifCond cd o, 3)) (ho : 0 ≤ (pc : Int) + o) (hq : ((pc : Int) + o).toNat = q) (hq' : pc + 3 = q') (r : cP cd x 0 → Go p l e R s m args below meth c n0 Q h k n (mkF m q ls st)) (r' : cN cd x 0 → Go p l e R s m args below meth c n0 Q h k n (mkF m q' ls st)) : Go p l e R s m args below meth c n0 Q h k n (mkF m pc ls (.int x :: st)) := by
  subst hq'; rcases cP_or cd x 0 with hc | hc
  · exact Go.of (fun T tg A => XS.ifYes A K.1 rfl rfl (hb K.2.2.2.1 hd) rfl (by rw [if0]; exact cP_t hc) ho hq) (r hc)
  · exact Go.of (fun T tg A => XS.ifNo A K.1 rfl (hb K.2.2.2.1 hd) rfl (by rw [if0]; exact cP_f hc)) (r' hc)
def cL : ClassFile.Cond → Int64 → Int64 → Prop
  | .eq, x, y => x = y
  | .ne, x, y => ¬ x = y
  | .lt, x, y => x < y
  | .ge, x, y => ¬ x < y
  | .gt, x, y => y < x
  | .le, x, y => ¬ y < x
theorem cL_t {cd : ClassFile.Cond} {x y : Int64} (h : cL cd x y) : ifCond.holds cd (XT.cmpL x y) = true := by
  cases cd
  · exact XT.ll_eq_t h
  · exact XT.ll_ne_t h
  · exact XT.ll_lt_t h
  · exact XT.ll_ge_t h
  · exact XT.ll_gt_t h
  · exact XT.ll_le_t h
def cLN : ClassFile.Cond → Int64 → Int64 → Prop
  | .eq, x, y => ¬ x = y
  | .ne, x, y => x = y
  | .lt, x, y => ¬ x < y
  | .ge, x, y => x < y
  | .gt, x, y => ¬ y < x
  | .le, x, y => y < x
theorem cLN_no {cd : ClassFile.Cond} {x y : Int64} {G : Prop} (h : cL cd x y) (h' : cLN cd x y) : G := by
  cases cd <;> first | exact absurd h h' | exact absurd h' h
theorem cLN_no2 {cd : ClassFile.Cond} {x y : Int64} {G : Prop} (h' : cLN cd x y) (h : cL cd x y) : G := cLN_no h h'
theorem cL_or (cd : ClassFile.Cond) (x y : Int64) : cL cd x y ∨ cLN cd x y := by
  cases cd
  · exact Classical.em (x = y)
  · exact (Classical.em (x = y)).symm
  · exact Classical.em (x < y)
  · exact (Classical.em (x < y)).symm
  · exact Classical.em (y < x)
  · exact (Classical.em (y < x)).symm
theorem cL_f {cd : ClassFile.Cond} {x y : Int64} (h : cLN cd x y) : ifCond.holds cd (XT.cmpL x y) = false := by
  cases cd
  · exact XT.ll_eq_f h
  · exact XT.ll_ne_f h
  · exact XT.ll_lt_f h
  · exact XT.ll_ge_f h
  · exact XT.ll_gt_f h
  · exact XT.ll_le_f h

theorem go_ifL (K : Cx p s m meth c Z own nm bytes maxL ret) {cd : ClassFile.Cond} {x y : Int64} {o : Int} {q' : Nat} (hd : decode bytes pc = .ok (.ifCond cd o, 3)) (ho : 0 ≤ (pc : Int) + o) (hq : ((pc : Int) + o).toNat = q) (hq' : pc + 3 = q') (r : cL cd x y → Go p l e R s m args below meth c n0 Q h k n (mkF m q ls st)) (r' : cLN cd x y → Go p l e R s m args below meth c n0 Q h k n (mkF m q' ls st)) : Go p l e R s m args below meth c n0 Q h k n (mkF m pc ls (.int (XT.cmpL x y) :: st)) := by
  subst hq'; rcases cL_or cd x y with hc | hc
  · exact Go.of (fun T tg A => XS.ifYes A K.1 rfl rfl (hb K.2.2.2.1 hd) rfl (cL_t hc) ho hq) (r hc)
  · exact Go.of (fun T tg A => XS.ifNo A K.1 rfl (hb K.2.2.2.1 hd) rfl (cL_f hc)) (r' hc)
theorem go_ifnullY (K : Cx p s m meth c Z own nm bytes maxL ret)  {o : Int} (hd : decode bytes pc = .ok (.ifnull o, 3))  (ho : 0 ≤ (pc : Int) + o) (hq : ((pc : Int) + o).toNat = q) (r : Go p l e R s m args below meth c n0 Q h k n (mkF m q ls st)) : Go p l e R s m args below meth c n0 Q h k n (mkF m pc ls (.null :: st)) := by
  exact Go.of (fun T tg A => XS.ifnullYes A K.1 rfl rfl (hb K.2.2.2.1 hd) rfl ho hq) r
theorem go_ifnullN (K : Cx p s m meth c Z own nm bytes maxL ret) {a : Addr} {o : Int} (hd : decode bytes pc = .ok (.ifnull o, 3))  (hq : pc + 3 = q) (r : Go p l e R s m args below meth c n0 Q h k n (mkF m q ls st)) : Go p l e R s m args below meth c n0 Q h k n (mkF m pc ls (.ref a :: st)) := by
  subst hq; exact Go.of (fun T tg A => XS.ifnullNo A K.1 rfl (hb K.2.2.2.1 hd) rfl) r
theorem go_ifnonnullY (K : Cx p s m meth c Z own nm bytes maxL ret) {a : Addr} {o : Int} (hd : decode bytes pc = .ok (.ifnonnull o, 3))  (ho : 0 ≤ (pc : Int) + o) (hq : ((pc : Int) + o).toNat = q) (r : Go p l e R s m args below meth c n0 Q h k n (mkF m q ls st)) : Go p l e R s m args below meth c n0 Q h k n (mkF m pc ls (.ref a :: st)) := by
  exact Go.of (fun T tg A => XT.ifnonnullYes A K.1 rfl rfl (hb K.2.2.2.1 hd) rfl ho hq) r
theorem go_ifnonnullN (K : Cx p s m meth c Z own nm bytes maxL ret) {o : Int} (hd : decode bytes pc = .ok (.ifnonnull o, 3))  (hq : pc + 3 = q) (r : Go p l e R s m args below meth c n0 Q h k n (mkF m q ls st)) : Go p l e R s m args below meth c n0 Q h k n (mkF m pc ls (.null :: st)) := by
  subst hq; exact Go.of (fun T tg A => XT.ifnonnullNo A K.1 rfl (hb K.2.2.2.1 hd) rfl) r
def cA : ClassFile.ACond → Value → Value → Prop
  | .eq, x, y => x = y
  | .ne, x, y => ¬ x = y
def cAN : ClassFile.ACond → Value → Value → Prop
  | .eq, x, y => ¬ x = y
  | .ne, x, y => x = y
theorem cAN_no {cd : ClassFile.ACond} {x y : Value} {G : Prop} (h : cA cd x y) (h' : cAN cd x y) : G := by
  cases cd <;> first | exact absurd h h' | exact absurd h' h
theorem cAN_no2 {cd : ClassFile.ACond} {x y : Value} {G : Prop} (h' : cAN cd x y) (h : cA cd x y) : G := cAN_no h h'
theorem cA_or (cd : ClassFile.ACond) (x y : Value) : cA cd x y ∨ cAN cd x y := by
  cases cd
  · exact Classical.em (x = y)
  · exact (Classical.em (x = y)).symm
theorem cA_v {cd : ClassFile.ACond} {x y : Value} {b : Bool} (hb : decide (x = y) = b) : (acV cd b = true ↔ cA cd x y) := by
  subst hb; cases cd <;> simp [acV, cA]

theorem go_acmp (K : Cx p s m meth c Z own nm bytes maxL ret) {cd : ClassFile.ACond} {x y : Value} {o : Int} {q' : Nat} (hd : decode bytes pc = .ok (.if_acmp cd o, 3)) (h1 : x.isRef = true) (h2 : y.isRef = true) (ho : 0 ≤ (pc : Int) + o) (hq : ((pc : Int) + o).toNat = q) (hq' : pc + 3 = q') (r : cA cd x y → Go p l e R s m args below meth c n0 Q h k n (mkF m q ls st)) (r' : cAN cd x y → Go p l e R s m args below meth c n0 Q h k n (mkF m q' ls st)) : Go p l e R s m args below meth c n0 Q h k n (mkF m pc ls (y :: x :: st)) := by
  subst hq'; rcases cA_or cd x y with hc | hc
  · exact Go.ofX (fun T L tg S _ => acmp S K.1 rfl h1 h2 rfl (hb K.2.2.2.1 hd) rfl rfl ho (by rw [if_pos ((cA_v rfl).mpr hc)]; exact hq.symm)) (r hc)
  · exact Go.ofX (fun T L tg S _ => acmp S K.1 rfl h1 h2 rfl (hb K.2.2.2.1 hd) rfl rfl ho (by rw [if_neg (fun z => cAN_no ((cA_v rfl).mp z) hc)])) (r' hc)
theorem go_ldcI (K : Cx p s m meth c Z own nm bytes maxL ret) {i : Nat} {v : Int32} (wc : (Cond.constant own i v).before a0 Z = true) (hd : decode bytes pc = .ok (.ldc i, 2)) (hq : pc + 2 = q) (r : Go p l e R s m args below meth c n0 Q h k n (mkF m q ls (.int v :: st))) : Go p l e R s m args below meth c n0 Q h k n (mkF m pc ls st) := by
  subst hq; exact Go.ofX (fun T L tg S _ => S.ldcI K.1 K.2.2.1 (mvT K.2.1 wc) rfl (hb K.2.2.2.1 hd)) r
theorem go_ldcWI (K : Cx p s m meth c Z own nm bytes maxL ret) {i : Nat} {v : Int32} (wc : (Cond.constant own i v).before a0 Z = true) (hd : decode bytes pc = .ok (.ldc_w i, 3)) (hq : pc + 3 = q) (r : Go p l e R s m args below meth c n0 Q h k n (mkF m q ls (.int v :: st))) : Go p l e R s m args below meth c n0 Q h k n (mkF m pc ls st) := by
  subst hq; exact Go.ofX (fun T L tg S _ => S.ldcWI K.1 K.2.2.1 (mvT K.2.1 wc) rfl (hb K.2.2.2.1 hd)) r
theorem go_ldc2J (K : Cx p s m meth c Z own nm bytes maxL ret) {i : Nat} {v : Int64} (wc : (Cond.constantLong own i v).before a0 Z = true) (hd : decode bytes pc = .ok (.ldc2_w i, 3)) (hq : pc + 3 = q) (r : Go p l e R s m args below meth c n0 Q h k n (mkF m q ls (.long v :: st))) : Go p l e R s m args below meth c n0 Q h k n (mkF m pc ls st) := by
  subst hq; exact Go.ofX (fun T L tg S _ => S.ldc2J K.1 K.2.2.1 (mvT K.2.1 wc) rfl (hb K.2.2.2.1 hd)) r
theorem go_ldcF (K : Cx p s m meth c Z own nm bytes maxL ret) {i : Nat} {v : UInt32} (wc : (Cond.constantFloat own i v).before a0 Z = true) (hd : decode bytes pc = .ok (.ldc i, 2)) (hq : pc + 2 = q) (r : Go p l e R s m args below meth c n0 Q h k n (mkF m q ls (.float v :: st))) : Go p l e R s m args below meth c n0 Q h k n (mkF m pc ls st) := by
  subst hq; exact Go.ofX (fun T L tg S _ => S.ldcFloatC K.1 K.2.2.1 (mvT K.2.1 wc) (g := mkF m pc ls st) rfl (hb K.2.2.2.1 hd) tg) r
theorem lswAt {tb : Tables} [Ours tb] {e : Env} {below : List Frame} {T target : State} {m : MethodId} {c : Code} {g : JFrame} (h : At T m c below) (hx : tb.exec = Jvm.exec) (hg : g.method = m) {dflt o : Int} {prs : Array (Int × Int)} {len pc0 pc' : Nat} (hpc : g.pc = pc0) (hd : decode c.code g.pc = .ok (.lookupswitch dflt prs, len)) {i : Int32} {rest : List Value} (hs : g.stack = .int i :: rest)
    (hinc : (prs.toList.zip (prs.toList.drop 1)).all (fun (a, next) => a.1 < next.1) = true) (hoff : lookupswitch.offset prs.toList dflt i.toInt = o) (ho : 0 ≤ (pc0 : Int) + o) (hp : ((pc0 : Int) + o).toNat = pc')
    (hr : Steps tb e below (T.setTop { g with pc := pc', stack := rest }) target) : Steps tb e below (T.setTop g) target := by
  subst hg hpc hp
  jvm_step h [h.top, hx, hd, hs, lookupswitch.wp_chain, hoff, ho]
  exact ⟨by simpa using hinc, hr⟩
theorem go_lsw (K : Cx p s m meth c Z own nm bytes maxL ret) {dflt o : Int} {prs : Array (Int × Int)} {len : Nat} {x : Int32} (hd : decode bytes pc = .ok (.lookupswitch dflt prs, len)) (hinc : (prs.toList.zip (prs.toList.drop 1)).all (fun (a, next) => a.1 < next.1) = true) (hoff : lookupswitch.offset prs.toList dflt x.toInt = o) (ho : 0 ≤ (pc : Int) + o) (hq : ((pc : Int) + o).toNat = q)
    (r : Go p l e R s m args below meth c n0 Q h k n (mkF m q ls st)) : Go p l e R s m args below meth c n0 Q h k n (mkF m pc ls (.int x :: st)) :=
  by exact Go.of (fun T tg A => lswAt (g := mkF m pc ls (.int x :: st)) A K.1 rfl (pc0 := pc) (pc' := q) rfl (hb K.2.2.2.1 hd) rfl hinc hoff ho hq) r
theorem go_tsw (K : Cx p s m meth c Z own nm bytes maxL ret) {dflt low high o : Int} {offs : Array Int} {len : Nat} {x : Int32} (hd : decode bytes pc = .ok (.tableswitch dflt low high offs, len)) (hin : ¬ (x.toInt < low ∨ x.toInt > high)) (hoff : offs[(x.toInt - low).toNat]? = some o) (ho : 0 ≤ (pc : Int) + o) (hq : ((pc : Int) + o).toNat = q)
    (r : Go p l e R s m args below meth c n0 Q h k n (mkF m q ls st)) : Go p l e R s m args below meth c n0 Q h k n (mkF m pc ls (.int x :: st)) :=
  by exact Go.of (fun T tg A => XS.tswIn (g := mkF m pc ls (.int x :: st)) A K.1 rfl (pc0 := pc) (pc' := q) rfl (hb K.2.2.2.1 hd) rfl hin hoff ho hq) r

theorem go_return (K : Cx p s m meth c Z own nm bytes maxL ret) (hd : decode bytes pc = .ok (.return_, 1)) (hr : ret = none) (hk : k ≤ R.cells) (hn : n ≤ R.slots) (hQ : Q none h) : Go p l e R s m args below meth c n0 Q h k n (mkF m pc ls []) := fun T L S N eT => by
  obtain ⟨fs, hr', hrun, hended, hW, hsame⟩ := S.leave (v := none) (fun _ => rfl) K.2.2.2.2.2.2.1
  exact ⟨_, _, S.returnOut K.1 (K.2.2.2.2.2.1.trans hr) (hb K.2.2.2.1 hd) hr', hrun, hended, _, _, rfl, ⟨by show Q none T.heap; rw [eT]; exact hQ, N⟩, ⟨_, rfl⟩, hW, hsame.mono hk hn⟩
theorem go_ret (K : Cx p s m meth c Z own nm bytes maxL ret) {v : Value} {t : FieldType} {i : Instr} (hd : decode bytes pc = .ok (i, 1)) (hr : ret = some t) (hnw : narrow t v = v) (hi : (i = .ireturn ∧ (t = .int ∨ t = .boolean ∨ t = .byte ∨ t = .char ∨ t = .short) ∧ ∃ z, v = .int z) ∨ (i = .lreturn ∧ t = .long ∧ ∃ z, v = .long z) ∨ (i = .dreturn ∧ t = .double ∧ ∃ z, v = .double z) ∨ (i = .freturn ∧ t = .float ∧ ∃ z, v = .float z) ∨ (i = .areturn ∧ t.isReference = true ∧ v.isRef = true)) (hk : k ≤ R.cells) (hn : n ≤ R.slots) (hQ : Q (some v) h) : Go p l e R s m args below meth c n0 Q h k n (mkF m pc ls (v :: st)) := fun T L S N eT => by
  obtain ⟨fs, hr', hrun, hended, hW, hsame⟩ := S.leave (v := some v) (fun z => by rw [K.2.2.2.2.2.1, hr] at z; cases z) K.2.2.2.2.2.2.1
  exact ⟨_, _, retOut S K.1 (K.2.2.2.2.2.1.trans hr) hnw hi (hb K.2.2.2.1 hd) hr', hrun, hended, _, _, rfl, ⟨by show Q (some v) T.heap; rw [eT]; exact hQ, N⟩, ⟨_, rfl⟩, hW, hsame.mono hk hn⟩
theorem go_iret (K : Cx p s m meth c Z own nm bytes maxL ret) {v : Int32} {t : FieldType} (hd : decode bytes pc = .ok (.ireturn, 1)) (hr : ret = some t) (ht : t = .int ∨ t = .boolean ∨ t = .byte ∨ t = .char ∨ t = .short) (hnw : narrow t (.int v) = .int v) (hk : k ≤ R.cells) (hn : n ≤ R.slots) (hQ : Q (some (.int v)) h) : Go p l e R s m args below meth c n0 Q h k n (mkF m pc ls (.int v :: st)) :=
  go_ret K hd hr hnw (Or.inl ⟨rfl, ht, v, rfl⟩) hk hn hQ
theorem go_lret (K : Cx p s m meth c Z own nm bytes maxL ret) {v : Int64} (hd : decode bytes pc = .ok (.lreturn, 1)) (hr : ret = some .long) (hk : k ≤ R.cells) (hn : n ≤ R.slots) (hQ : Q (some (.long v)) h) : Go p l e R s m args below meth c n0 Q h k n (mkF m pc ls (.long v :: st)) :=
  go_ret K hd hr rfl (Or.inr (Or.inl ⟨rfl, rfl, v, rfl⟩)) hk hn hQ
theorem go_aret (K : Cx p s m meth c Z own nm bytes maxL ret) {v : Value} {t : FieldType} (hd : decode bytes pc = .ok (.areturn, 1)) (hr : ret = some t) (ht : t.isReference = true) (hv : v.isRef = true) (hnw : narrow t v = v) (hk : k ≤ R.cells) (hn : n ≤ R.slots) (hQ : Q (some v) h) : Go p l e R s m args below meth c n0 Q h k n (mkF m pc ls (v :: st)) :=
  go_ret K hd hr hnw (Or.inr (Or.inr (Or.inr (Or.inr ⟨rfl, ht, hv⟩)))) hk hn hQ
/-- a body's contract: called with just these arguments over the heap h it comes back, Q holds, and nothing below n0 was written -/
def Met (l : Launch) (y : MethodName) (bytes : ByteArray) (maxL : Nat) (ret : Option FieldType) (ws : List Jvm.Cond) (R : Room) (as' : Array Value) (Z : State) (h : Heap) (n0 : Nat) (Q : Option Value → Heap → Prop) : Prop :=
  MetFree l y (head1 (Jvm.Cond.code y bytes maxL ret :: ws) R) (fun a U => a = as' ∧ Z.Warmed39 U.vm ∧ U.heap = h) (fun _ _ _ _ _ => True) (fun _ U o U' => ∃ v L, o = .returned v ∧ (Q v U'.heap ∧ Fr n0 L) ∧ FrameEnd U o U' L R.cells R.slots)
theorem Met.of {y : MethodName} {ws : List Jvm.Cond} {as' : Array Value} (hp : plainFor y = true)
    (body : ∀ (p : Program) (e : Env) (s : State) (m : MethodId) (below : List Frame) (meth : Method) (c : Code), Cx p s m meth c Z y.cls y.name bytes maxL ret → Go p l e R s m as' below meth c n0 Q h 0 0 (entryFrame m as' maxL)) : Met l y bytes maxL ret ws R as' Z h n0 Q := by
  refine MetFree.of_bodySF hp hisR ?_
  intro p e s m args below meth c s₁ Bd hml0 hP hK
  obtain ⟨rfl, hZ, hh⟩ := hP
  have hown : s.vm.findClass y.cls = some m.cls := findClass_of_methodNamed Bd.named
  have hnm := (name_of_methodNamed Bd.named Bd.method).1
  exact body p e s m below meth c ⟨Bd.exec, hZ, hown, Bd.bytes, hml0, Bd.returns, Bd.notSynchronized, hnm⟩ s₁ [] (Stand.of_body Bd) (Fr.nil n0) (by rw [← hh, Bd.state]; rfl)
theorem Met.mono {y : MethodName} {ws : List Jvm.Cond} {as' : Array Value} {Q' : Option Value → Heap → Prop} (M : Met l y bytes maxL ret ws R as' Z h n0 Q) (f : ∀ v h', Q v h' → Q' v h') : Met l y bytes maxL ret ws R as' Z h n0 Q' := by
  intro p e ha hc hk s m args below hf happ hP hK
  obtain ⟨n, o, h1, h2, h3, v, L, h4, h5, h6⟩ := M p e ha hc hk s m args below hf happ hP hK
  exact ⟨n, o, h1, h2, h3, v, L, h4, ⟨f _ _ h5.1, h5.2⟩, h6⟩
theorem Go.entry {maxL' : Nat} {as' : Array Value} (hl : argsToLocals as' maxL' = ls) (r : Go p l e R s m args below meth c n0 Q h k n (mkF m 0 ls [])) : Go p l e R s m args below meth c n0 Q h k n (entryFrame m as' maxL') := by
  subst hl; exact r

/-- what a static call by contract needs -/
theorem go_callS (K : Cx p s m meth c Z own nm bytes maxL ret) {y : MethodName} {bytes' : ByteArray} {maxL' : Nat} {ret' : Option FieldType} {rm : Room} {W i : Nat} {Q' : Option Value → Heap → Prop} {ps : List FieldType}
    (w1 : (Cond.methodLink own i y).before a0 Z = true) (w2 : (Cond.static y).before a0 Z = true) (w3 : (Cond.initialized y.cls).before a0 Z = true) (w4 : (Cond.code y bytes' maxL' ret').before a0 Z = true)
    (argsL rest : List Value) (hM : Met l y bytes' maxL' ret' [] rm argsL.toArray Z h n0 Q') (hd : decode bytes pc = .ok (.invokestatic i, 3)) (hpd : parseMethodDescriptor y.desc = some ⟨ps, ret'⟩) (hlen : argsL.length = ps.length) (hst : st = argsL.reverse ++ rest)
    (hls : ls.size = maxL) (hy : y.cls ≠ "java/lang/invoke/MethodHandle" ∧ y.cls ≠ "java/lang/invoke/VarHandle") (hW : (rest.map fun v => v.category).sum = W) (hfr : rm.frames + 1 ≤ R.frames) (hlo : W + (maxL' + 11) + rm.locals ≤ R.locals) (hce : k + rm.cells ≤ R.cells) (hsl : n + rm.slots ≤ R.slots) (hq : pc + 3 = q)
    (r : ∀ v h', Q' v h' → Go p l e R s m args below meth c n0 Q h' (k + rm.cells) (n + rm.slots) (mkF m q ls (v.toList ++ rest))) : Go p l e R s m args below meth c n0 Q h k n (mkF m pc ls st) := fun T L S N eT => by
  subst hq hst
  obtain ⟨v, _, B, -, X, ⟨Lc, hQ, l1, y1, z1⟩, stp⟩ := Jvm.LawKit.callS S K.1 (y := y) K.2.2.1 (mvT K.2.1 w1) (mvT K.2.1 w2) (mvT K.2.1 w3) (mvT K.2.1 w4) hy (backOf (W := W) (Q := fun v h' L => Q' v h' ∧ Fr n0 L) hM K.2.1 w4 w3 hfr hlo) (g := mkF m pc ls (argsL.reverse ++ rest)) rfl (hls.trans K.2.2.2.2.1.symm) (argsL := argsL) (rest := rest) (lenOf hpd hlen) rfl (by show 2 * 0 + _ ≤ _; rw [hW]; omega) (hb K.2.2.2.1 hd) (fun _ _ => ⟨rfl, eT, hce, hsl⟩)
  obtain ⟨T', L', k', n'⟩ := B
  dsimp only [Pt.U, Pt.locs, Pt.cells, Pt.slots] at X l1 y1 z1 stp hQ
  subst l1 y1 z1
  obtain ⟨s₂, o, hs, z⟩ := r v _ hQ.1 T' _ X (Fr.app N hQ.2) rfl
  exact ⟨s₂, o, stp _ hs, z⟩
theorem go_callI (K : Cx p s m meth c Z own nm bytes maxL ret) {y : MethodName} {bytes' : ByteArray} {maxL' : Nat} {rm : Room} {W i : Nat} {Q' : Option Value → Heap → Prop} {ps : List FieldType} {a : Addr}
    (w1 : (Cond.methodLink own i y).before a0 Z = true) (w2 : (Cond.instanceMethod y).before a0 Z = true) (w3 : (Cond.initialized y.cls).before a0 Z = true) (w4 : (Cond.code y bytes' maxL' none).before a0 Z = true) (hy1 : y.name = "<init>")
    (argsL rest : List Value) (hM : Met l y bytes' maxL' none [] rm (.ref a :: argsL).toArray Z h n0 Q') (hd : decode bytes pc = .ok (.invokespecial i, 3)) (hpd : parseMethodDescriptor y.desc = some ⟨ps, none⟩) (hlen : argsL.length = ps.length) (hst : st = argsL.reverse ++ .ref a :: rest)
    (hls : ls.size = maxL) (hy : y.cls ≠ "java/lang/invoke/MethodHandle" ∧ y.cls ≠ "java/lang/invoke/VarHandle") (hW : (rest.map fun v => v.category).sum = W) (hfr : rm.frames + 1 ≤ R.frames) (hlo : W + (maxL' + 11) + rm.locals ≤ R.locals) (hce : k + rm.cells ≤ R.cells) (hsl : n + rm.slots ≤ R.slots) (hq : pc + 3 = q)
    (r : ∀ v h', Q' v h' → Go p l e R s m args below meth c n0 Q h' (k + rm.cells) (n + rm.slots) (mkF m q ls (v.toList ++ rest))) : Go p l e R s m args below meth c n0 Q h k n (mkF m pc ls st) := fun T L S N eT => by
  subst hq hst
  obtain ⟨v, _, B, -, X, ⟨Lc, hQ, l1, y1, z1⟩, stp⟩ := S.specialBack K.1 (y := y) hy1 K.2.2.1 (mvT K.2.1 w1) (mvT K.2.1 w2) (mvT K.2.1 w4) hy (backOf (W := W) (Q := fun v h' L => Q' v h' ∧ Fr n0 L) hM K.2.1 w4 w3 hfr hlo) (g := mkF m pc ls (argsL.reverse ++ .ref a :: rest)) rfl (hls.trans K.2.2.2.2.1.symm) (Steps.refl _) (a := a) (argsL := argsL) (rest := rest) (lenOf hpd hlen) rfl (by show 2 * 0 + _ ≤ _; rw [hW]; omega) (hb K.2.2.2.1 hd) (fun _ _ => ⟨rfl, eT, hce, hsl⟩)
  obtain ⟨T', L', k', n'⟩ := B
  dsimp only [Pt.U, Pt.locs, Pt.cells, Pt.slots] at X l1 y1 z1 stp hQ
  subst l1 y1 z1
  obtain ⟨s₂, o, hs, z⟩ := r v _ hQ.1 T' _ X (Fr.app N hQ.2) rfl
  exact ⟨s₂, o, stp.trans hs, z⟩
theorem nf_of {y yf : MethodName} {Cf : String} (w : (Cond.selects Cf yf yf).before args s = true) (hyf : yf.cls = y.cls) : NotFace s y := fun r0 h0 => by
  obtain ⟨c2, r2, m2, -, -, q3, -, kP, hkP, hkPi⟩ := Cond.selects_spec w
  have hcl : m2.cls = r0.cls := by
    have e1 := findClass_of_methodNamed q3
    have e2 := findClass_of_methodNamed h0
    rw [hyf] at e1
    exact Option.some.inj (e1.symm.trans e2)
  rw [hcl] at hkP
  exact ⟨kP, hkP, hkPi⟩
theorem go_callV (K : Cx p s m meth c Z own nm bytes maxL ret) {y yz yf : MethodName} {C Cf : String} {bytes' : ByteArray} {maxL' : Nat} {ret' : Option FieldType} {rm : Room} {W i : Nat} {Q' : Option Value → Heap → Prop} {ps : List FieldType} {a : Addr}
    (w1 : (Cond.methodLink own i y).before a0 Z = true) (w2 : (Cond.declares y).before a0 Z = true) (w3 : (Cond.selects C y yz).before a0 Z = true) (w4 : (Cond.instanceMethod yz).before a0 Z = true) (w5 : (Cond.initialized yz.cls).before a0 Z = true) (w6 : (Cond.code yz bytes' maxL' ret').before a0 Z = true) (w7 : (Cond.selects Cf yf yf).before a0 Z = true) (hyf : yf.cls = y.cls)
    (E : Exa Z h a C) (argsL rest : List Value) (hM : Met l yz bytes' maxL' ret' [] rm (.ref a :: argsL).toArray Z h n0 Q') (hd : decode bytes pc = .ok (.invokevirtual i, 3)) (hpd : parseMethodDescriptor y.desc = some ⟨ps, ret'⟩) (hlen : argsL.length = ps.length) (hst : st = argsL.reverse ++ .ref a :: rest)
    (hls : ls.size = maxL) (hy : y.cls ≠ "java/lang/invoke/MethodHandle" ∧ y.cls ≠ "java/lang/invoke/VarHandle") (hW : (rest.map fun v => v.category).sum = W) (hfr : rm.frames + 1 ≤ R.frames) (hlo : W + (maxL' + 11) + rm.locals ≤ R.locals) (hce : k + rm.cells ≤ R.cells) (hsl : n + rm.slots ≤ R.slots) (hq : pc + 3 = q)
    (r : ∀ v h', Q' v h' → Go p l e R s m args below meth c n0 Q h' (k + rm.cells) (n + rm.slots) (mkF m q ls (v.toList ++ rest))) : Go p l e R s m args below meth c n0 Q h k n (mkF m pc ls st) := fun T L S N eT => by
  subst hq hst
  obtain ⟨cq, kq, qa, qb, qc⟩ := isOf K.2.1 eT E
  obtain ⟨v, _, B, -, X, ⟨Lc, hQ, l1, y1, z1⟩, stp⟩ := S.virtualBack K.1 (y := y) (z := yz) K.2.2.1 (mvT K.2.1 w1) (mvT K.2.1 w2) (nf_of (args := #[]) (mvT K.2.1 w7) hyf) (mvT K.2.1 w3) (mvT K.2.1 w4) hy (backOf (W := W) (Q := fun v h' L => Q' v h' ∧ Fr n0 L) hM K.2.1 w6 w5 hfr hlo) qa qc (g := mkF m pc ls (argsL.reverse ++ .ref a :: rest)) rfl (hls.trans K.2.2.2.2.1.symm) (Steps.refl _) (argsL := argsL) (rest := rest) (lenOf hpd hlen) rfl (by show 2 * 0 + _ ≤ _; rw [hW]; omega) (hb K.2.2.2.1 hd) (fun _ _ => ⟨rfl, eT, hce, hsl⟩)
  obtain ⟨T', L', k', n'⟩ := B
  dsimp only [Pt.U, Pt.locs, Pt.cells, Pt.slots] at X l1 y1 z1 stp hQ
  subst l1 y1 z1
  obtain ⟨s₂, o, hs, z⟩ := r v _ hQ.1 T' _ X (Fr.app N hQ.2) rfl
  exact ⟨s₂, o, stp.trans hs, z⟩

/-! the heap: fields, statics, objects -/
theorem go_getF (K : Cx p s m meth c Z own nm bytes maxL ret) {R0 O f d : String} {i : Nat} {a : Addr} {v : Value} (w1 : (Cond.fieldLink own i R0 f d).before a0 Z = true) (via : Via Z R0 O f d) (F : Fld Z h a O f d v) (hd : decode bytes pc = .ok (.getfield i, 3)) (hq : pc + 3 = q)
    (r : Go p l e R s m args below meth c n0 Q h k n (mkF m q ls (v :: st))) : Go p l e R s m args below meth c n0 Q h k n (mkF m pc ls (.ref a :: st)) := fun T L S N eT => by
  subst hq
  obtain ⟨T', X, e', stp⟩ := getF S K.1 K.2.1 K.2.2.1 (host := "") (Or.inl w1) via eT F (g := mkF m pc ls (.ref a :: st)) rfl rfl (hb K.2.2.2.1 hd)
  obtain ⟨s₂, o, hs, z⟩ := r T' L X N e'
  exact ⟨s₂, o, stp _ hs, z⟩
theorem go_getS (K : Cx p s m meth c Z own nm bytes maxL ret) {R0 O f d : String} {i : Nat} {v : Value} (w1 : (Cond.fieldLink own i R0 f d).before a0 Z = true) (via : Via Z R0 O f d) (F : Sta Z h O f d v) (hd : decode bytes pc = .ok (.getstatic i, 3)) (hq : pc + 3 = q)
    (r : Go p l e R s m args below meth c n0 Q h k n (mkF m q ls (v :: st))) : Go p l e R s m args below meth c n0 Q h k n (mkF m pc ls st) := fun T L S N eT => by
  subst hq
  obtain ⟨T', X, e', stp⟩ := getS S K.1 K.2.1 (host := "") K.2.2.1 w1 via eT F (g := mkF m pc ls st) rfl (hb K.2.2.2.1 hd)
  obtain ⟨s₂, o, hs, z⟩ := r T' L X N e'
  exact ⟨s₂, o, stp _ hs, z⟩
theorem go_putF (K : Cx p s m meth c Z own nm bytes maxL ret) {R0 O f d C : String} {i kk : Nat} {ty : FieldType} {a : Addr} {v old : Value} (w1 : (Cond.fieldLink own i R0 f d).before a0 Z = true) (via : Via Z R0 O f d) (F : Fld Z h a O f d old) (E : Exa Z h a C)
    (Ly : (Cond.lays C O f d).before a0 Z = true ∨ ((Cond.laysFinal C O f d).before a0 Z = true ∧ own = O ∧ nm = "<init>")) (wi : (Cond.instantiable C kk).before a0 Z = true) (hty : parseFieldDescriptor d = some ty) (hnw : narrow ty v = v) (hf : fits ty v = true) (ha : n0 ≤ a)
    (hd : decode bytes pc = .ok (.putfield i, 3)) (hq : pc + 3 = q)
    (r : ∀ h', Wr h h' a (Jvm.RoadKit.slotOf Z O f d) v → Go p l e R s m args below meth c n0 Q h' k n (mkF m q ls st)) : Go p l e R s m args below meth c n0 Q h k n (mkF m pc ls (v :: .ref a :: st)) := fun T L S N eT => by
  subst hq
  obtain ⟨T', h', X, e', W, stp⟩ := putF S K.1 K.2.1 K.2.2.1 (host := "") (Or.inl w1) via eT F E (Ly.imp id fun z => ⟨z.1, z.2.1, K.2.2.2.2.2.2.2.trans z.2.2⟩) wi hty hnw hf (g := mkF m pc ls (v :: .ref a :: st)) rfl rfl (hb K.2.2.2.1 hd)
  obtain ⟨s₂, o, hs, z⟩ := r h' W T' _ X (Fr.snoc X N ha) e'
  exact ⟨s₂, o, stp _ hs, z⟩
theorem go_new (K : Cx p s m meth c Z own nm bytes maxL ret) {C : String} {i sz : Nat} (w1 : (Cond.classLink own i C).before a0 Z = true) (w2 : (Cond.instantiable C sz).before a0 Z = true) (w3 : (Cond.initialized C).before a0 Z = true) (hd : decode bytes pc = .ok (.new i, 3)) (hce : k + 1 ≤ R.cells) (hsl : n + sz ≤ R.slots) (hq : pc + 3 = q)
    (r : ∀ h' a, a = h.size → Ext h h' → Exa Z h' a C → (∀ {O f d : String} {ty : FieldType}, Laid Z a0 C O f d → parseFieldDescriptor d = some ty → Fld Z h' a O f d (defaultValue ty)) → Go p l e R s m args below meth c n0 Q h' (k + 1) (n + sz) (mkF m q ls (.ref a :: st))) : Go p l e R s m args below meth c n0 Q h k n (mkF m pc ls st) := fun T L S N eT => by
  subst hq
  obtain ⟨T', h', X, e', E, A, D, -, stp⟩ := newO S K.1 K.2.1 K.2.2.1 w1 w2 w3 eT (g := mkF m pc ls st) rfl (hb K.2.2.2.1 hd) hce hsl
  obtain ⟨s₂, o, hs, z⟩ := r h' _ rfl E A D T' _ X N e'
  exact ⟨s₂, o, stp _ hs, z⟩
theorem go_initO (K : Cx p s m meth c Z own nm bytes maxL ret) {i : Nat} {a : Addr} (w1 : (Cond.methodLink own i Lib.objectInit).before a0 Z = true) (w2 : (Cond.instanceMethod Lib.objectInit).before a0 Z = true) (w3 : (Cond.code Lib.objectInit ⟨#[0xb1]⟩ 1 none).before a0 Z = true) (hd : decode bytes pc = .ok (.invokespecial i, 3)) {W : Nat} (hls : ls.size = maxL) (hW : (st.map fun v => v.category).sum = W) (hfr : 1 ≤ R.frames) (hlo : W + 12 ≤ R.locals) (hq : pc + 3 = q)
    (r : Go p l e R s m args below meth c n0 Q h k n (mkF m q ls st)) : Go p l e R s m args below meth c n0 Q h k n (mkF m pc ls (.ref a :: st)) := fun T L S N eT => by
  subst hq
  obtain ⟨T', X, e', stp⟩ := initO S K.1 K.2.1 K.2.2.1 w1 w2 w3 eT (g := mkF m pc ls (.ref a :: st)) rfl (hls.trans K.2.2.2.2.1.symm) rfl (hb K.2.2.2.1 hd) hfr (W := W) (by show 2 * 0 + _ ≤ _; rw [hW]; omega) hlo
  obtain ⟨s₂, o, hs, z⟩ := r T' L X N e'
  exact ⟨s₂, o, stp _ hs, z⟩
/-! arrays: a known array and the list of what it holds -/
def Ary (Z : State) (h : Heap) (a : Addr) (kl : ClassId) (ty : FieldType) (vs : List Value) : Prop := ∃ cl : Cell, Arr Z h a cl ty ∧ cl.cls = kl ∧ cl.slots.toList = vs ∧ vs.length < 2 ^ 31
theorem Ary.lt {a : Addr} {kl : ClassId} {ty : FieldType} {vs : List Value} (F : Ary Z h a kl ty vs) : a < h.size := by obtain ⟨cl, A, -⟩ := F; exact A.lt
theorem Ary.ext {h' : Heap} {a : Addr} {kl : ClassId} {ty : FieldType} {vs : List Value} (F : Ary Z h a kl ty vs) (E : Ext h h') : Ary Z h' a kl ty vs := by obtain ⟨cl, A, r⟩ := F; exact ⟨cl, A.ext E, r⟩
theorem Ary.other {h' : Heap} {a b : Addr} {sl : Nat} {v : Value} {kl : ClassId} {ty : FieldType} {vs : List Value} (F : Ary Z h b kl ty vs) (W : Wr h h' a sl v) (q : b ≠ a) : Ary Z h' b kl ty vs := by obtain ⟨cl, A, r⟩ := F; exact ⟨cl, A.other W q, r⟩
theorem Ary.keep {h' : Heap} {ws : List Addr} {a : Addr} {kl : ClassId} {ty : FieldType} {vs : List Value} (F : Ary Z h a kl ty vs) (K : Keep h h' ws) (q : a ∉ ws) : Ary Z h' a kl ty vs := by obtain ⟨cl, A, r⟩ := F; exact ⟨cl, ⟨K.2.1 a cl A.1 q, A.2⟩, r⟩
theorem Ary.set {h' : Heap} {a : Addr} {j : Nat} {v : Value} {kl : ClassId} {ty : FieldType} {vs : List Value} (F : Ary Z h a kl ty vs) (W : Wr h h' a j v) : Ary Z h' a kl ty (vs.set j v) := by
  obtain ⟨cl, A, r1, r2, r3⟩ := F
  refine ⟨_, A.same W, r1, ?_, by simpa using r3⟩
  subst r2
  simp [Cell.setSlot]
theorem ary_in {cl : Cell} {vs : List Value} {j : Int32} (r2 : cl.slots.toList = vs) (hj0 : ¬ j < 0) (hj : j.toNatClampNeg < vs.length) : ¬ (j < 0 ∨ cl.slots.size ≤ j.toNatClampNeg) := by
  subst r2
  rintro (q | q)
  · exact hj0 q
  · simp at hj; omega

theorem go_iaload (K : Cx p s m meth c Z own nm bytes maxL ret) {a : Addr} {kl : ClassId} {vs : List Value} {j : Int32} {v : Int32} (F : Ary Z h a kl .int vs) (hj0 : ¬ j < 0) (hj : vs[j.toNatClampNeg]? = some (.int v)) (hd : decode bytes pc = .ok (.iaload, 1)) (hq : pc + 1 = q)
    (r : Go p l e R s m args below meth c n0 Q h k n (mkF m q ls ((.int v) :: st))) : Go p l e R s m args below meth c n0 Q h k n (mkF m pc ls (.int j :: .ref a :: st)) := by
  subst hq
  obtain ⟨cl, A, r1, r2, r3⟩ := F
  refine Go.ofX (fun T L tg S eT => S.iaload K.1 (j := j) (v := (.int v)) (by rw [eT]; exact A.1) (State.isArrayOf_alike K.2.1.alike A.2.1) A.2.2 (ary_in r2 hj0 (List.getElem?_eq_some_iff.mp hj).1) (by rw [← hj, ← r2]; simp) (g := mkF m pc ls (.int j :: .ref a :: st)) rfl rfl (hb K.2.2.2.1 hd) tg) r
theorem go_laload (K : Cx p s m meth c Z own nm bytes maxL ret) {a : Addr} {kl : ClassId} {vs : List Value} {j : Int32} {v : Int64} (F : Ary Z h a kl .long vs) (hj0 : ¬ j < 0) (hj : vs[j.toNatClampNeg]? = some (.long v)) (hd : decode bytes pc = .ok (.laload, 1)) (hq : pc + 1 = q)
    (r : Go p l e R s m args below meth c n0 Q h k n (mkF m q ls ((.long v) :: st))) : Go p l e R s m args below meth c n0 Q h k n (mkF m pc ls (.int j :: .ref a :: st)) := by
  subst hq
  obtain ⟨cl, A, r1, r2, r3⟩ := F
  refine Go.ofX (fun T L tg S eT => S.laload K.1 (j := j) (v := (.long v)) (by rw [eT]; exact A.1) (State.isArrayOf_alike K.2.1.alike A.2.1) A.2.2 (ary_in r2 hj0 (List.getElem?_eq_some_iff.mp hj).1) (by rw [← hj, ← r2]; simp) (g := mkF m pc ls (.int j :: .ref a :: st)) rfl rfl (hb K.2.2.2.1 hd) tg) r
theorem go_caload (K : Cx p s m meth c Z own nm bytes maxL ret) {a : Addr} {kl : ClassId} {vs : List Value} {j : Int32} {v : Int32} (F : Ary Z h a kl .char vs) (hj0 : ¬ j < 0) (hj : vs[j.toNatClampNeg]? = some (.int v)) (hd : decode bytes pc = .ok (.caload, 1)) (hq : pc + 1 = q)
    (r : Go p l e R s m args below meth c n0 Q h k n (mkF m q ls ((.int v) :: st))) : Go p l e R s m args below meth c n0 Q h k n (mkF m pc ls (.int j :: .ref a :: st)) := by
  subst hq
  obtain ⟨cl, A, r1, r2, r3⟩ := F
  refine Go.ofX (fun T L tg S eT => S.caload K.1 (j := j) (v := (.int v)) (by rw [eT]; exact A.1) (State.isArrayOf_alike K.2.1.alike A.2.1) A.2.2 (ary_in r2 hj0 (List.getElem?_eq_some_iff.mp hj).1) (by rw [← hj, ← r2]; simp) (g := mkF m pc ls (.int j :: .ref a :: st)) rfl rfl (hb K.2.2.2.1 hd) tg) r
theorem go_baload (K : Cx p s m meth c Z own nm bytes maxL ret) {a : Addr} {kl : ClassId} {vs : List Value} {j : Int32} {v : Int32} (F : Ary Z h a kl .byte vs) (hj0 : ¬ j < 0) (hj : vs[j.toNatClampNeg]? = some (.int v)) (hd : decode bytes pc = .ok (.baload, 1)) (hq : pc + 1 = q)
    (r : Go p l e R s m args below meth c n0 Q h k n (mkF m q ls ((.int v) :: st))) : Go p l e R s m args below meth c n0 Q h k n (mkF m pc ls (.int j :: .ref a :: st)) := by
  subst hq
  obtain ⟨cl, A, r1, r2, r3⟩ := F
  refine Go.ofX (fun T L tg S eT => S.baloadBytes K.1 (j := j) (v := (.int v)) (by rw [eT]; exact A.1) (State.isArrayOf_alike K.2.1.alike A.2.1) A.2.2 (ary_in r2 hj0 (List.getElem?_eq_some_iff.mp hj).1) (by rw [← hj, ← r2]; simp) (g := mkF m pc ls (.int j :: .ref a :: st)) rfl rfl (hb K.2.2.2.1 hd) tg) r
theorem go_aaload (K : Cx p s m meth c Z own nm bytes maxL ret) {a : Addr} {kl : ClassId} {vs : List Value} {j : Int32} {v : Value} {ty : FieldType} (F : Ary Z h a kl ty vs) (ht : ty.isReference = true) (hv : v.isRef = true) (hj0 : ¬ j < 0) (hj : vs[j.toNatClampNeg]? = some v) (hd : decode bytes pc = .ok (.aaload, 1)) (hq : pc + 1 = q)
    (r : Go p l e R s m args below meth c n0 Q h k n (mkF m q ls (v :: st))) : Go p l e R s m args below meth c n0 Q h k n (mkF m pc ls (.int j :: .ref a :: st)) := by
  subst hq
  obtain ⟨cl, A, r1, r2, r3⟩ := F
  refine Go.ofX (fun T L tg S eT => S.aaload K.1 (j := j) (v := v) (by rw [eT]; exact A.1) (State.isArrayOf_alike K.2.1.alike A.2.1) ht A.2.2 (ary_in r2 hj0 (List.getElem?_eq_some_iff.mp hj).1) (by rw [← hj, ← r2]; simp) (g := mkF m pc ls (.int j :: .ref a :: st)) rfl rfl (hb K.2.2.2.1 hd) tg) r
theorem go_arraylength (K : Cx p s m meth c Z own nm bytes maxL ret) {a : Addr} {kl : ClassId} {vs : List Value} {ty : FieldType} {z : Int32} (F : Ary Z h a kl ty vs) (hz : vs.length.toInt32 = z) (hd : decode bytes pc = .ok (.arraylength, 1)) (hq : pc + 1 = q)
    (r : Go p l e R s m args below meth c n0 Q h k n (mkF m q ls (.int z :: st))) : Go p l e R s m args below meth c n0 Q h k n (mkF m pc ls (.ref a :: st)) := by
  subst hq
  obtain ⟨cl, A, r1, r2, r3⟩ := F
  have e1 : cl.slots.size.toInt32 = z := by rw [← hz, ← r2]; simp
  subst e1
  refine Go.ofX (fun T L tg S eT => S.arraylength K.1 (cell := cl) (by rw [eT]; exact A.1) (State.isArrayOf_alike K.2.1.alike A.2.1) (g := mkF m pc ls (.ref a :: st)) rfl (rest := st) rfl (hb K.2.2.2.1 hd) tg) r
theorem go_iastore (K : Cx p s m meth c Z own nm bytes maxL ret) {a : Addr} {kl : ClassId} {vs : List Value} {j : Int32} {v : Int32} (F : Ary Z h a kl .int vs) (hj0 : ¬ j < 0) (hj : j.toNatClampNeg < vs.length) (ha : n0 ≤ a) (hd : decode bytes pc = .ok (.iastore, 1)) (hq : pc + 1 = q)
    (r : ∀ h', Wr h h' a j.toNatClampNeg (.int v) → Ary Z h' a kl .int (vs.set j.toNatClampNeg (.int v)) → Go p l e R s m args below meth c n0 Q h' k n (mkF m q ls st)) : Go p l e R s m args below meth c n0 Q h k n (mkF m pc ls (.int v :: .int j :: .ref a :: st)) := fun T L S N eT => by
  subst hq
  obtain ⟨cl, A, r1, r2, r3⟩ := id F
  obtain ⟨T', h', X, e', W, stp⟩ := stI S K.1 K.2.1 eT A (j := j) (x := v) (ary_in r2 hj0 hj) (g := mkF m pc ls (.int v :: .int j :: .ref a :: st)) rfl rfl (hb K.2.2.2.1 hd)
  obtain ⟨s₂, o, hs, z⟩ := r h' W (F.set W) T' _ X (Fr.snoc X N ha) e'
  exact ⟨s₂, o, stp _ hs, z⟩
theorem go_lastore (K : Cx p s m meth c Z own nm bytes maxL ret) {a : Addr} {kl : ClassId} {vs : List Value} {j : Int32} {v : Int64} (F : Ary Z h a kl .long vs) (hj0 : ¬ j < 0) (hj : j.toNatClampNeg < vs.length) (ha : n0 ≤ a) (hd : decode bytes pc = .ok (.lastore, 1)) (hq : pc + 1 = q)
    (r : ∀ h', Wr h h' a j.toNatClampNeg (.long v) → Ary Z h' a kl .long (vs.set j.toNatClampNeg (.long v)) → Go p l e R s m args below meth c n0 Q h' k n (mkF m q ls st)) : Go p l e R s m args below meth c n0 Q h k n (mkF m pc ls (.long v :: .int j :: .ref a :: st)) := fun T L S N eT => by
  subst hq
  obtain ⟨cl, A, r1, r2, r3⟩ := id F
  obtain ⟨T', h', X, e', W, stp⟩ := stJ S K.1 K.2.1 eT A (j := j) (x := v) (ary_in r2 hj0 hj) (g := mkF m pc ls (.long v :: .int j :: .ref a :: st)) rfl rfl (hb K.2.2.2.1 hd)
  obtain ⟨s₂, o, hs, z⟩ := r h' W (F.set W) T' _ X (Fr.snoc X N ha) e'
  exact ⟨s₂, o, stp _ hs, z⟩
theorem go_castore (K : Cx p s m meth c Z own nm bytes maxL ret) {a : Addr} {kl : ClassId} {vs : List Value} {j : Int32} {v : Int32} (F : Ary Z h a kl .char vs) (hj0 : ¬ j < 0) (hj : j.toNatClampNeg < vs.length) (ha : n0 ≤ a) (hd : decode bytes pc = .ok (.castore, 1)) (hq : pc + 1 = q)
    (r : ∀ h', Wr h h' a j.toNatClampNeg (.int (nar .char v)) → Ary Z h' a kl .char (vs.set j.toNatClampNeg (.int (nar .char v))) → Go p l e R s m args below meth c n0 Q h' k n (mkF m q ls st)) : Go p l e R s m args below meth c n0 Q h k n (mkF m pc ls (.int v :: .int j :: .ref a :: st)) := fun T L S N eT => by
  subst hq
  obtain ⟨cl, A, r1, r2, r3⟩ := id F
  obtain ⟨T', h', X, e', W, stp⟩ := stC S K.1 K.2.1 eT A (j := j) (x := v) (ary_in r2 hj0 hj) (g := mkF m pc ls (.int v :: .int j :: .ref a :: st)) rfl rfl (hb K.2.2.2.1 hd)
  obtain ⟨s₂, o, hs, z⟩ := r h' W (F.set W) T' _ X (Fr.snoc X N ha) e'
  exact ⟨s₂, o, stp _ hs, z⟩
theorem go_bastore (K : Cx p s m meth c Z own nm bytes maxL ret) {a : Addr} {kl : ClassId} {vs : List Value} {j : Int32} {v : Int32} (F : Ary Z h a kl .byte vs) (hj0 : ¬ j < 0) (hj : j.toNatClampNeg < vs.length) (ha : n0 ≤ a) (hd : decode bytes pc = .ok (.bastore, 1)) (hq : pc + 1 = q)
    (r : ∀ h', Wr h h' a j.toNatClampNeg (.int (nar .byte v)) → Ary Z h' a kl .byte (vs.set j.toNatClampNeg (.int (nar .byte v))) → Go p l e R s m args below meth c n0 Q h' k n (mkF m q ls st)) : Go p l e R s m args below meth c n0 Q h k n (mkF m pc ls (.int v :: .int j :: .ref a :: st)) := fun T L S N eT => by
  subst hq
  obtain ⟨cl, A, r1, r2, r3⟩ := id F
  obtain ⟨T', h', X, e', W, stp⟩ := stB S K.1 K.2.1 eT A (j := j) (x := v) (ary_in r2 hj0 hj) (g := mkF m pc ls (.int v :: .int j :: .ref a :: st)) rfl rfl (hb K.2.2.2.1 hd)
  obtain ⟨s₂, o, hs, z⟩ := r h' W (F.set W) T' _ X (Fr.snoc X N ha) e'
  exact ⟨s₂, o, stp _ hs, z⟩
theorem go_newarray (K : Cx p s m meth c Z own nm bytes maxL ret) {aty : ArrayType} {z : Int32} {num cap : Nat} (w1 : (Cond.arrayClass (newarray.typeOf aty)).before a0 Z = true) (hd : decode bytes pc = .ok (.newarray aty, 2)) (hz : ¬ z < 0) (hzn : z.toNatClampNeg = num) (hcap : num ≤ cap) (hcb : cap * 8 ≤ 536870912) (hce : k + 1 ≤ R.cells) (hsl : n + cap ≤ R.slots) (hq : pc + 2 = q)
    (r : ∀ h' a kl, a = h.size → Ext h h' → Ary Z h' a kl (newarray.typeOf aty) (List.replicate num (defaultValue (newarray.typeOf aty))) → Go p l e R s m args below meth c n0 Q h' (k + 1) (n + cap) (mkF m q ls (.ref a :: st))) : Go p l e R s m args below meth c n0 Q h k n (mkF m pc ls (.int z :: st)) := fun T L S N eT => by
  subst hq hzn
  obtain ⟨T', h', kl, X, e', E, A, stp⟩ := newP S K.1 K.2.1 w1 eT (g := mkF m pc ls (.int z :: st)) rfl (hb K.2.2.2.1 hd) (n := z) (rest := st) rfl hz hcap hcb hce hsl
  obtain ⟨s₂, o, hs, zz⟩ := r h' _ kl rfl E ⟨_, A, rfl, by simp [newA], by simp; omega⟩ T' _ X N e'
  exact ⟨s₂, o, stp _ hs, zz⟩

theorem go_anewarray (K : Cx p s m meth c Z own nm bytes maxL ret) {C : String} {i : Nat} {z : Int32} {num cap : Nat} (w1 : (Cond.classLink own i C).before a0 Z = true) (w2 : (Cond.arrayOver (.object C)).before a0 Z = true) (hd : decode bytes pc = .ok (.anewarray i, 3)) (hz : ¬ z < 0) (hzn : z.toNatClampNeg = num) (hcap : num ≤ cap) (hcb : cap * 8 ≤ 536870912) (hce : k + 1 ≤ R.cells) (hsl : n + cap ≤ R.slots) (hq : pc + 3 = q)
    (r : ∀ h' a kl, a = h.size → Ext h h' → Ary Z h' a kl (.object C) (List.replicate num .null) → Ovr Z kl C → Go p l e R s m args below meth c n0 Q h' (k + 1) (n + cap) (mkF m q ls (.ref a :: st))) : Go p l e R s m args below meth c n0 Q h k n (mkF m pc ls (.int z :: st)) := fun T L S N eT => by
  subst hq hzn
  obtain ⟨T', h', kl, X, e', E, A, O, stp⟩ := newR S K.1 K.2.1 K.2.2.1 w1 w2 eT (g := mkF m pc ls (.int z :: st)) rfl (hb K.2.2.2.1 hd) (n := z) (rest := st) rfl hz hcap hcb hce hsl
  obtain ⟨s₂, o, hs, zz⟩ := r h' _ kl rfl E ⟨_, A, rfl, by simp [newA, defaultValue], by simp; omega⟩ O T' _ X N e'
  exact ⟨s₂, o, stp _ hs, zz⟩
theorem go_aastore (K : Cx p s m meth c Z own nm bytes maxL ret) {a : Addr} {kl : ClassId} {vs : List Value} {j : Int32} {v : Value} {ty : FieldType} (F : Ary Z h a kl ty vs) (hty : ty.isReference = true) (So : Sto Z h a v) (hj0 : ¬ j < 0) (hj : j.toNatClampNeg < vs.length) (ha : n0 ≤ a) (hd : decode bytes pc = .ok (.aastore, 1)) (hq : pc + 1 = q)
    (r : ∀ h', Wr h h' a j.toNatClampNeg v → Ary Z h' a kl ty (vs.set j.toNatClampNeg v) → Go p l e R s m args below meth c n0 Q h' k n (mkF m q ls st)) : Go p l e R s m args below meth c n0 Q h k n (mkF m pc ls (v :: .int j :: .ref a :: st)) := fun T L S N eT => by
  subst hq
  obtain ⟨cl, A, r1, r2, r3⟩ := id F
  obtain ⟨T', h', X, e', W, stp⟩ := stR S K.1 K.2.1 eT A (j := j) (v := v) (ary_in r2 hj0 hj) hty So (g := mkF m pc ls (v :: .int j :: .ref a :: st)) rfl rfl (hb K.2.2.2.1 hd)
  obtain ⟨s₂, o, hs, z⟩ := r h' W (F.set W) T' _ X (Fr.snoc X N ha) e'
  exact ⟨s₂, o, stp _ hs, z⟩
theorem sto_of {a y : Addr} {kl : ClassId} {ty : FieldType} {vs : List Value} {C : String} (F : Ary Z h a kl ty vs) (O : Ovr Z kl C) (Iy : Ins Z h y C true) : Sto Z h a (.ref y) := by
  obtain ⟨cl, A, rfl, -⟩ := F
  exact Sto.of A O Iy
theorem go_checkcast (K : Cx p s m meth c Z own nm bytes maxL ret) {C : String} {i : Nat} {a : Addr} (w1 : (Cond.classLink own i C).before a0 Z = true) (F : Ins Z h a C true) (hd : decode bytes pc = .ok (.checkcast i, 3)) (hq : pc + 3 = q)
    (r : Go p l e R s m args below meth c n0 Q h k n (mkF m q ls (.ref a :: st))) : Go p l e R s m args below meth c n0 Q h k n (mkF m pc ls (.ref a :: st)) := fun T L S N eT => by
  subst hq
  obtain ⟨T', X, e', stp⟩ := castY S K.1 K.2.1 K.2.2.1 w1 eT F (g := mkF m pc ls (.ref a :: st)) rfl rfl (hb K.2.2.2.1 hd)
  obtain ⟨s₂, o, hs, z⟩ := r T' L X N e'
  exact ⟨s₂, o, stp _ hs, z⟩
theorem go_instY (K : Cx p s m meth c Z own nm bytes maxL ret) {C : String} {i : Nat} {a : Addr} (w1 : (Cond.classLink own i C).before a0 Z = true) (F : Ins Z h a C true) (hd : decode bytes pc = .ok (.instanceof i, 3)) (hq : pc + 3 = q)
    (r : Go p l e R s m args below meth c n0 Q h k n (mkF m q ls (.int 1 :: st))) : Go p l e R s m args below meth c n0 Q h k n (mkF m pc ls (.ref a :: st)) := fun T L S N eT => by
  subst hq
  obtain ⟨T', X, e', stp⟩ := instY S K.1 K.2.1 K.2.2.1 w1 eT F (g := mkF m pc ls (.ref a :: st)) rfl rfl (hb K.2.2.2.1 hd)
  obtain ⟨s₂, o, hs, z⟩ := r T' L X N e'
  exact ⟨s₂, o, stp _ hs, z⟩
/-- a virtual call through a subclass's name (the class 'ow' above declares the method) -/
theorem go_callU (K : Cx p s m meth c Z own nm bytes maxL ret) {y yz : MethodName} {C ow : String} {bytes' : ByteArray} {maxL' : Nat} {ret' : Option FieldType} {rm : Room} {W i : Nat} {Q' : Option Value → Heap → Prop} {ps : List FieldType} {a : Addr}
    (w1 : (Cond.methodLink own i y).before a0 Z = true) (w2 : (Cond.declares ⟨ow, y.name, y.desc⟩).before a0 Z = true) (w3 : (Cond.selects C y yz).before a0 Z = true) (w4 : (Cond.instanceMethod yz).before a0 Z = true) (w5 : (Cond.initialized yz.cls).before a0 Z = true) (w6 : (Cond.code yz bytes' maxL' ret').before a0 Z = true) (w7 : (Cond.sameMethod y.cls ow y.name y.desc).before a0 Z = true)
    (E : Exa Z h a C) (argsL rest : List Value) (hM : Met l yz bytes' maxL' ret' [] rm (.ref a :: argsL).toArray Z h n0 Q') (hd : decode bytes pc = .ok (.invokevirtual i, 3)) (hpd : parseMethodDescriptor y.desc = some ⟨ps, ret'⟩) (hlen : argsL.length = ps.length) (hst : st = argsL.reverse ++ .ref a :: rest)
    (hls : ls.size = maxL) (hy : ow ≠ "java/lang/invoke/MethodHandle" ∧ ow ≠ "java/lang/invoke/VarHandle") (hW : (rest.map fun v => v.category).sum = W) (hfr : rm.frames + 1 ≤ R.frames) (hlo : W + (maxL' + 11) + rm.locals ≤ R.locals) (hce : k + rm.cells ≤ R.cells) (hsl : n + rm.slots ≤ R.slots) (hq : pc + 3 = q)
    (r : ∀ v h', Q' v h' → Go p l e R s m args below meth c n0 Q h' (k + rm.cells) (n + rm.slots) (mkF m q ls (v.toList ++ rest))) : Go p l e R s m args below meth c n0 Q h k n (mkF m pc ls st) := fun T L S N eT => by
  subst hq hst
  obtain ⟨cq, kq, qa, qb, qc⟩ := isOf K.2.1 eT E
  obtain ⟨v, _, B, -, X, ⟨Lc, hQ, l1, y1, z1⟩, stp⟩ := S.virtualBackUp K.1 (x := y) (y := yz) K.2.2.1 (mvT K.2.1 w1) (mvT K.2.1 w7) (mvT K.2.1 w2) hy (mvT K.2.1 w3) (mvT K.2.1 w4) (backOf (W := W) (Q := fun v h' L => Q' v h' ∧ Fr n0 L) hM K.2.1 w6 w5 hfr hlo) qa qc (g := mkF m pc ls (argsL.reverse ++ .ref a :: rest)) rfl (hls.trans K.2.2.2.2.1.symm) (Steps.refl _) (argsL := argsL) (rest := rest) (lenOf hpd hlen) rfl (by show 2 * 0 + _ ≤ _; rw [hW]; omega) (hb K.2.2.2.1 hd) (fun _ _ => ⟨rfl, eT, hce, hsl⟩)
  obtain ⟨T', L', k', n'⟩ := B
  dsimp only [Pt.U, Pt.locs, Pt.cells, Pt.slots] at X l1 y1 z1 stp hQ
  subst l1 y1 z1
  obtain ⟨s₂, o, hs, z⟩ := r v _ hQ.1 T' _ X (Fr.app N hQ.2) rfl
  exact ⟨s₂, o, stp.trans hs, z⟩
/-- invokevirtual of a private method -/
theorem go_callP (K : Cx p s m meth c Z own nm bytes maxL ret) {y : MethodName} {C : String} {bytes' : ByteArray} {maxL' : Nat} {ret' : Option FieldType} {rm : Room} {W i : Nat} {Q' : Option Value → Heap → Prop} {ps : List FieldType} {a : Addr} {yf : MethodName} {Cf : String}
    (w1 : (Cond.methodLink own i y).before a0 Z = true) (w2 : (Cond.privateMethod y).before a0 Z = true) (w3 : (Cond.selects Cf yf yf).before a0 Z = true) (hyf : yf.cls = y.cls) (w4 : (Cond.instanceMethod y).before a0 Z = true) (w5 : (Cond.initialized y.cls).before a0 Z = true) (w6 : (Cond.code y bytes' maxL' ret').before a0 Z = true)
    (E : Exa Z h a C) (argsL rest : List Value) (hM : Met l y bytes' maxL' ret' [] rm (.ref a :: argsL).toArray Z h n0 Q') (hd : decode bytes pc = .ok (.invokevirtual i, 3)) (hpd : parseMethodDescriptor y.desc = some ⟨ps, ret'⟩) (hlen : argsL.length = ps.length) (hst : st = argsL.reverse ++ .ref a :: rest)
    (hls : ls.size = maxL) (hy : y.cls ≠ "java/lang/invoke/MethodHandle" ∧ y.cls ≠ "java/lang/invoke/VarHandle") (hW : (rest.map fun v => v.category).sum = W) (hfr : rm.frames + 1 ≤ R.frames) (hlo : W + (maxL' + 11) + rm.locals ≤ R.locals) (hce : k + rm.cells ≤ R.cells) (hsl : n + rm.slots ≤ R.slots) (hq : pc + 3 = q)
    (r : ∀ v h', Q' v h' → Go p l e R s m args below meth c n0 Q h' (k + rm.cells) (n + rm.slots) (mkF m q ls (v.toList ++ rest))) : Go p l e R s m args below meth c n0 Q h k n (mkF m pc ls st) := fun T L S N eT => by
  subst hq hst
  obtain ⟨cell, hcell, hobj⟩ := E.cell
  have hK := backOf (len := 3) (W := W) (R := R) (p := p) (e := e) (below := below) (args := args) (Q := fun v h' L => Q' v h' ∧ Fr n0 L) hM K.2.1 w6 w5 hfr hlo
  obtain ⟨mk, methM, hnamed, hmethM, hstM, habM⟩ := Cond.instanceMethod_spec (mvT (args := args) K.2.1 w4)
  obtain ⟨methM', cM, hmethM', -, -, -, -, -, -, hsigM⟩ := Cond.code_spec hnamed (mvT (args := args) K.2.1 w6)
  cases hmethM.symm.trans hmethM'
  obtain ⟨c2, r2, m2, -, -, q3, -, kP, hkP, hkPi⟩ := Cond.selects_spec (mvT (args := args) K.2.1 w3)
  have hcl : m2.cls = mk.cls := by
    have e1 := findClass_of_methodNamed q3
    have e2 := findClass_of_methodNamed hnamed
    rw [hyf] at e1
    exact Option.some.inj (e1.symm.trans e2)
  rw [hcl] at hkP
  have hpriv : s.PrivateAt y := Cond.privateMethod_at (mvP K.2.1 w2 (args := #[]))
  have hselP : selectMethod e.platform s.vm cell.cls mk = .method mk := selectMethod_private hmethM (hpriv mk methM hnamed hmethM)
  obtain ⟨vm₁, X₁, hstep₁⟩ := S.invokevirtual K.1 K.2.2.1 (mvT K.2.1 w1) hnamed hmethM hstM hkP hkPi hy (a := a) (cell := cell) (by rw [eT]; exact hcell) hobj hselP hmethM habM hkP hkPi (g := mkF m pc ls (argsL.reverse ++ .ref a :: rest)) rfl (argsL := argsL) (rest := rest) (by rw [lenOf hpd hlen _ hsigM]) rfl (hb K.2.2.2.1 hd)
  obtain ⟨v, B, X, ⟨Lc, hQ, l1, y1, z1⟩, hsteps⟩ := hK m meth c ⟨T.setVm vm₁, L, k, n⟩ (mkF m pc ls rest) (.invokevirtual i) mk (.ref a :: argsL).toArray X₁ rfl (hls.trans K.2.2.2.2.1.symm) (hb K.2.2.2.1 hd) (by show 2 * 0 + _ ≤ _; rw [hW]; omega) (X₁.named hnamed) ⟨rfl, eT, hce, hsl⟩
  obtain ⟨T', L', k', n'⟩ := B
  dsimp only [Pt.U, Pt.locs, Pt.cells, Pt.slots] at X l1 y1 z1 hsteps hQ
  subst l1 y1 z1
  obtain ⟨s₂, o, hs, z⟩ := r v _ hQ.1 T' _ X (Fr.app N hQ.2) rfl
  exact ⟨s₂, o, hstep₁ _ fun acts => by rw [doInvoke_state]; exact hsteps.trans hs, z⟩
/-- invokeinterface -/
theorem go_callF (K : Cx p s m meth c Z own nm bytes maxL ret) {y yz : MethodName} {C : String} {bytes' : ByteArray} {maxL' : Nat} {ret' : Option FieldType} {rm : Room} {W i cnt : Nat} {Q' : Option Value → Heap → Prop} {ps : List FieldType} {a : Addr}
    (w1 : (Cond.methodLink own i y).before a0 Z = true) (w2 : (Cond.declares y).before a0 Z = true) (w3 : (Cond.selects C y yz).before a0 Z = true) (w4 : (Cond.instanceMethod yz).before a0 Z = true) (w5 : (Cond.initialized yz.cls).before a0 Z = true) (w6 : (Cond.code yz bytes' maxL' ret').before a0 Z = true) (w7 : (Cond.interfaceMethod y.cls y.cls y.name y.desc).before a0 Z = true) (w8 : (Cond.publicMethod yz).before a0 Z = true) (w9 : (Cond.unhidden C y.name y.desc).before a0 Z = true) (wa : (Cond.castable C y.cls).before a0 Z = true)
    (E : Exa Z h a C) (argsL rest : List Value) (hM : Met l yz bytes' maxL' ret' [] rm (.ref a :: argsL).toArray Z h n0 Q') (hd : decode bytes pc = .ok (.invokeinterface i cnt, 5)) (hpd : parseMethodDescriptor y.desc = some ⟨ps, ret'⟩) (hlen : argsL.length = ps.length) (hst : st = argsL.reverse ++ .ref a :: rest)
    (hls : ls.size = maxL) (hy : y.cls ≠ "java/lang/invoke/MethodHandle" ∧ y.cls ≠ "java/lang/invoke/VarHandle") (hW : (rest.map fun v => v.category).sum = W) (hfr : rm.frames + 1 ≤ R.frames) (hlo : W + (maxL' + 11) + rm.locals ≤ R.locals) (hce : k + rm.cells ≤ R.cells) (hsl : n + rm.slots ≤ R.slots) (hq : pc + 5 = q)
    (r : ∀ v h', Q' v h' → Go p l e R s m args below meth c n0 Q h' (k + rm.cells) (n + rm.slots) (mkF m q ls (v.toList ++ rest))) : Go p l e R s m args below meth c n0 Q h k n (mkF m pc ls st) := fun T L S N eT => by
  subst hq hst
  obtain ⟨cq, kq, qa, qb, qc⟩ := isOf K.2.1 eT E
  obtain ⟨v, _, B, -, X, ⟨Lc, hQ, l1, y1, z1⟩, stp⟩ := S.interfaceBack K.1 (xi := y) (y := yz) K.2.2.1 (mvT K.2.1 w1) (mvT K.2.1 w2) (mvT K.2.1 w7 (by simp [Cond.onTables, Cond.keepsFace, Cond.keeps, Cond.steady, Cond.faceAtom, hy.1, hy.2])) (mvT K.2.1 w3) (mvT K.2.1 w4) (mvT K.2.1 w8) (mvT K.2.1 w9) (mvT K.2.1 wa) hy (backOf (W := W) (Q := fun v h' L => Q' v h' ∧ Fr n0 L) hM K.2.1 w6 w5 hfr hlo) qa qb qc (g := mkF m pc ls (argsL.reverse ++ .ref a :: rest)) rfl (hls.trans K.2.2.2.2.1.symm) (Steps.refl _) (argsL := argsL) (rest := rest) (lenOf hpd hlen) rfl (by show 2 * 0 + _ ≤ _; rw [hW]; omega) (hb K.2.2.2.1 hd) (fun _ _ => ⟨rfl, eT, hce, hsl⟩)
  obtain ⟨T', L', k', n'⟩ := B
  dsimp only [Pt.U, Pt.locs, Pt.cells, Pt.slots] at X l1 y1 z1 stp hQ
  subst l1 y1 z1
  obtain ⟨s₂, o, hs, z⟩ := r v _ hQ.1 T' _ X (Fr.app N hQ.2) rfl
  exact ⟨s₂, o, stp.trans hs, z⟩

end Layer
theorem own_nel {a b n : Nat} (h : a < n) (g : n ≤ b) : a ≠ b := Nat.ne_of_lt (Nat.lt_of_lt_of_le h g)
theorem own_ge {Z : State} {n0 : Nat} {h : Heap} (O : Old Z n0 h) : n0 ≤ h.size := O.1 ▸ O.2.1
theorem keep_ext {h h' : Heap} (E : Ext h h') : Keep h h' [] := (Keep.refl h []).ext E

theorem len_in {Z : State} {args : Array Value} {t : Term} {a : Addr} {c : Cell} {v : Value} (ev : t.eval args Z none [] Z = some (.ref a)) (q : Z.arrayAt? a = some c) (h1 : (Term.length t).eval args Z none [] Z = some v) : c.slots.size < 2 ^ 31 ∧ v = .int c.slots.size.toInt32 := by
  by_cases hb : c.slots.size < 2 ^ 31
  · exact ⟨hb, Option.some.inj (h1.symm.trans (len_f ev q hb))⟩
  · exfalso
    have hb' : ¬ c.slots.size < 2147483648 := hb
    simp [Term.eval, ev, q, hb'] at h1
theorem ary_start {Z : State} {args : Array Value} {t : Term} {a : Addr} {ty : FieldType} (ev : t.eval args Z none [] Z = some (.ref a)) (hx : (Cond.arrayOf t ty).value args Z none Z [] = some true) (hl : (Cond.eq (.length t) (.int 0)).value args Z none Z [] = some true) : ∃ kl, Ary Z Z.heap a kl ty [] := by
  obtain ⟨c, A⟩ := Arr.start ev hx
  obtain ⟨u, y, h1, h2, k1, k2⟩ := cmp_v (Or.inl hl)
  cases h2
  obtain ⟨u', rfl⟩ := k2
  have e : u' = 0 := gotT (Cond.eq_ints h1 (Term.int_eval 0)) hl
  subst e
  obtain ⟨hs1, hs2⟩ := len_in ev (A.fin (Vm.Alike.refl _)) h1
  have hs2 : 0 = c.slots.size.toInt32 := Value.int.inj hs2
  have hz : c.slots.size = 0 := by
    have := len_toInt hs1
    rw [← hs2] at this
    have e0 : (0 : Int32).toInt = 0 := rfl
    omega
  exact ⟨c.cls, c, A, rfl, by simpa using hz, by decide⟩
theorem dmax_0 : decode jdk_29_method_65_code 0 = .ok (.iload_n 0, 1) := by decide +kernel
theorem dmax_1 : decode jdk_29_method_65_code 1 = .ok (.iload_n 1, 1) := by decide +kernel
theorem dmax_2 : decode jdk_29_method_65_code 2 = .ok (.if_icmp .lt 7, 3) := by decide +kernel
theorem dmax_5 : decode jdk_29_method_65_code 5 = .ok (.iload_n 0, 1) := by decide +kernel
theorem dmax_6 : decode jdk_29_method_65_code 6 = .ok (.goto 4, 3) := by decide +kernel
theorem dmax_9 : decode jdk_29_method_65_code 9 = .ok (.iload_n 1, 1) := by decide +kernel
theorem dmax_10 : decode jdk_29_method_65_code 10 = .ok (.ireturn, 1) := by decide +kernel
set_option maxRecDepth 65536 in
set_option maxHeartbeats 40000000 in
theorem max_met (l : Launch) (Z : State) (a0 : Array Value) (hw : ∀ d ∈ tables_1, d.before a0 Z = true) (xa ya : Int32) (h : Heap) (n0 : Nat)  :
    Met l (⟨"java/lang/Math", "max", "(II)I"⟩ : MethodName) jdk_29_method_65_code 2 (some .int) [] ({ frames := 0, cells := 0, slots := 0, locals := 0 } : Room) #[(.int xa), (.int ya)] Z h n0 (fun v h' => v = some (.int (if xa < ya then ya else xa)) ∧ h = h') := by
  refine Met.of (Jvm.Free.JP.mathPlain rfl (by decide +kernel)) ?_
  intro pP eE sS mM bB tT cC K
  refine Go.entry (ls := #[.val (.int xa), .val (.int ya)]) rfl ?_
  refine go_iloadN (q := 1) K dmax_0 rfl rfl ?_
  refine go_iloadN (q := 2) K dmax_1 rfl rfl ?_
  refine go_icmp (q := 9) (q' := 5) K dmax_2 (by decide) rfl rfl (fun hc2 => ?_) (fun hc2 => ?_)
  · have hc2 : xa < ya := hc2
    refine go_iloadN (q := 10) K dmax_9 rfl rfl ?_
    refine go_iret K dmax_10 rfl (Or.inl rfl) rfl (by decide) (by decide) ?_
    exact ⟨by rw [if_pos hc2], rfl⟩
  · have hc2 : ¬ xa < ya := hc2
    refine go_iloadN (q := 6) K dmax_5 rfl rfl ?_
    refine go_goto (q := 10) K dmax_6 (by decide) rfl ?_
    refine go_iret K dmax_10 rfl (Or.inl rfl) rfl (by decide) (by decide) ?_
    exact ⟨by rw [if_neg hc2], rfl⟩
theorem dmin_0 : decode jdk_29_method_69_code 0 = .ok (.iload_n 0, 1) := by decide +kernel
theorem dmin_1 : decode jdk_29_method_69_code 1 = .ok (.iload_n 1, 1) := by decide +kernel
theorem dmin_2 : decode jdk_29_method_69_code 2 = .ok (.if_icmp .gt 7, 3) := by decide +kernel
theorem dmin_5 : decode jdk_29_method_69_code 5 = .ok (.iload_n 0, 1) := by decide +kernel
theorem dmin_6 : decode jdk_29_method_69_code 6 = .ok (.goto 4, 3) := by decide +kernel
theorem dmin_9 : decode jdk_29_method_69_code 9 = .ok (.iload_n 1, 1) := by decide +kernel
theorem dmin_10 : decode jdk_29_method_69_code 10 = .ok (.ireturn, 1) := by decide +kernel
set_option maxRecDepth 65536 in
set_option maxHeartbeats 40000000 in
theorem min_met (l : Launch) (Z : State) (a0 : Array Value) (hw : ∀ d ∈ tables_1, d.before a0 Z = true) (xa ya : Int32) (h : Heap) (n0 : Nat)  :
    Met l (⟨"java/lang/Math", "min", "(II)I"⟩ : MethodName) jdk_29_method_69_code 2 (some .int) [] ({ frames := 0, cells := 0, slots := 0, locals := 0 } : Room) #[(.int xa), (.int ya)] Z h n0 (fun v h' => v = some (.int (if ya < xa then ya else xa)) ∧ h = h') := by
  refine Met.of (Jvm.Free.JP.mathPlain rfl (by decide +kernel)) ?_
  intro pP eE sS mM bB tT cC K
  refine Go.entry (ls := #[.val (.int xa), .val (.int ya)]) rfl ?_
  refine go_iloadN (q := 1) K dmin_0 rfl rfl ?_
  refine go_iloadN (q := 2) K dmin_1 rfl rfl ?_
  refine go_icmp (q := 9) (q' := 5) K dmin_2 (by decide) rfl rfl (fun hc2 => ?_) (fun hc2 => ?_)
  · have hc2 : ya < xa := hc2
    refine go_iloadN (q := 10) K dmin_9 rfl rfl ?_
    refine go_iret K dmin_10 rfl (Or.inl rfl) rfl (by decide) (by decide) ?_
    exact ⟨by rw [if_pos hc2], rfl⟩
  · have hc2 : ¬ ya < xa := hc2
    refine go_iloadN (q := 6) K dmin_5 rfl rfl ?_
    refine go_goto (q := 10) K dmin_6 (by decide) rfl ?_
    refine go_iret K dmin_10 rfl (Or.inl rfl) rfl (by decide) (by decide) ?_
    exact ⟨by rw [if_neg hc2], rfl⟩
theorem dsinit_0 : decode jdk_42_method_151_code 0 = .ok (.aload_n 0, 1) := by decide +kernel
theorem dsinit_1 : decode jdk_42_method_151_code 1 = .ok (.invokespecial 1, 3) := by decide +kernel
theorem dsinit_4 : decode jdk_42_method_151_code 4 = .ok (.aload_n 0, 1) := by decide +kernel
theorem dsinit_5 : decode jdk_42_method_151_code 5 = .ok (.aload_n 1, 1) := by decide +kernel
theorem dsinit_6 : decode jdk_42_method_151_code 6 = .ok (.putfield 9, 3) := by decide +kernel
theorem dsinit_9 : decode jdk_42_method_151_code 9 = .ok (.aload_n 0, 1) := by decide +kernel
theorem dsinit_10 : decode jdk_42_method_151_code 10 = .ok (.iload_n 2, 1) := by decide +kernel
theorem dsinit_11 : decode jdk_42_method_151_code 11 = .ok (.putfield 15, 3) := by decide +kernel
theorem dsinit_14 : decode jdk_42_method_151_code 14 = .ok (.return_, 1) := by decide +kernel
set_option maxRecDepth 65536 in
set_option maxHeartbeats 40000000 in
theorem sinit (l : Launch) (Z : State) (a0 : Array Value) (hw : ∀ d ∈ tables_1, d.before a0 Z = true) (a : Addr) (b : Addr) (h : Heap) (n0 : Nat) (p0_ : Exa Z h a "java/lang/String") (p1_ : Fld Z h a "java/lang/String" "value" "[B" .null) (p2_ : Fld Z h a "java/lang/String" "coder" "B" (.int (0 : Int32))) (p3_ : n0 ≤ a) :
    Met l (⟨"java/lang/String", "<init>", "([BB)V"⟩ : MethodName) jdk_42_method_151_code 3 none [] ({ frames := 1, cells := 0, slots := 0, locals := 12 } : Room) #[(.ref a), (.ref b), (.int (0 : Int32))] Z h n0 (fun v h' => v = none ∧ Keep h h' [a] ∧ Exa Z h' a "java/lang/String" ∧ Fld Z h' a "java/lang/String" "value" "[B" (.ref b) ∧ Fld Z h' a "java/lang/String" "coder" "B" (.int (0 : Int32))) := by
  refine Met.of (plainFor_of_name (by first | (simp [plainName, overriddenIn]; done) | decide +kernel)) ?_
  intro pP eE sS mM bB tT cC K
  refine Go.entry (ls := #[.val (.ref a), .val (.ref b), .val (.int (0 : Int32))]) rfl ?_
  refine go_aloadN (q := 1) K dsinit_0 rfl rfl rfl ?_
  refine go_initO (q := 4) (W := 0) K (wd hw 23 rfl) (wd hw 24 rfl) (wd hw 25 rfl) dsinit_1 rfl rfl (by decide) (by decide) rfl ?_
  refine go_aloadN (q := 5) K dsinit_4 rfl rfl rfl ?_
  refine go_aloadN (q := 6) K dsinit_5 rfl rfl rfl ?_
  refine go_putF (q := 9) K (wd hw 26 rfl) Via.refl p1_ p0_ (Or.inr ⟨(wd hw 27 rfl), rfl, rfl⟩) (wd hw 14 rfl) (ty := (.array .byte)) (by decide +kernel) rfl rfl p3_ dsinit_6 rfl ?_
  intro h1 Wh1
  refine go_aloadN (q := 10) K dsinit_9 rfl rfl rfl ?_
  refine go_iloadN (q := 11) K dsinit_10 rfl rfl ?_
  have f1 := (p2_.other Wh1 (Or.inr (slot_ne (C := "java/lang/String") (Or.inr (wd hw 29 rfl)) (Or.inr (wd hw 27 rfl)) (by decide) (t := .byte) (t' := (.array .byte)) (by decide +kernel) (by decide +kernel))))
  have f2 := (p0_.wr Wh1)
  refine go_putF (q := 14) K (wd hw 28 rfl) Via.refl f1 f2 (Or.inr ⟨(wd hw 29 rfl), rfl, rfl⟩) (wd hw 14 rfl) (ty := .byte) (by decide +kernel) rfl rfl p3_ dsinit_11 rfl ?_
  intro h2 Wh2
  refine go_return K dsinit_14 rfl (by decide) (by decide) ?_
  have f3 := (((Keep.refl h [a]).wr Wh1 (Or.inl (by simp))).wr Wh2 (Or.inl (by simp)))
  have f4 := (f2.wr Wh2)
  have f5 := ((p1_.same Wh1).other Wh2 (Or.inr (slot_ne (C := "java/lang/String") (Or.inr (wd hw 27 rfl)) (Or.inr (wd hw 29 rfl)) (by decide) (t := (.array .byte)) (t' := .byte) (by decide +kernel) (by decide +kernel))))
  exact ⟨rfl, f3, f4, f5, (f1.same Wh2)⟩
theorem dcanEnc_0 : decode jdk_43_method_3_code 0 = .ok (.iload_n 0, 1) := by decide +kernel
theorem dcanEnc_1 : decode jdk_43_method_3_code 1 = .ok (.sipush 255, 3) := by decide +kernel
theorem dcanEnc_4 : decode jdk_43_method_3_code 4 = .ok (.if_icmp .gt 7, 3) := by decide +kernel
theorem dcanEnc_7 : decode jdk_43_method_3_code 7 = .ok (.iconst 1, 1) := by decide +kernel
theorem dcanEnc_8 : decode jdk_43_method_3_code 8 = .ok (.goto 4, 3) := by decide +kernel
theorem dcanEnc_11 : decode jdk_43_method_3_code 11 = .ok (.iconst 0, 1) := by decide +kernel
theorem dcanEnc_12 : decode jdk_43_method_3_code 12 = .ok (.ireturn, 1) := by decide +kernel
set_option maxRecDepth 65536 in
set_option maxHeartbeats 40000000 in
theorem canEnc (l : Launch) (Z : State) (a0 : Array Value) (hw : ∀ d ∈ tables_1, d.before a0 Z = true) (z : Int32) (h : Heap) (n0 : Nat) (hz : ¬ (255 : Int32) < z) :
    Met l (⟨"java/lang/StringLatin1", "canEncode", "(C)Z"⟩ : MethodName) jdk_43_method_3_code 1 (some .boolean) [] ({ frames := 0, cells := 0, slots := 0, locals := 0 } : Room) #[(.int z)] Z h n0 (fun v h' => v = some (.int (1 : Int32)) ∧ h = h') := by
  refine Met.of (plainFor_of_name (by first | (simp [plainName, overriddenIn]; done) | decide +kernel)) ?_
  intro pP eE sS mM bB tT cC K
  refine Go.entry (ls := #[.val (.int z)]) rfl ?_
  refine go_iloadN (q := 1) K dcanEnc_0 rfl rfl ?_
  refine go_sipush (q := 4) K dcanEnc_1 (255 : Int32) rfl rfl ?_
  refine go_icmp (q := 11) (q' := 7) K dcanEnc_4 (by decide) rfl rfl (fun hn => cN_no hn (show ¬ (255 : Int32) < z from hz)) (fun _ => ?_)
  refine go_iconst (q := 8) K dcanEnc_7 (1 : Int32) rfl rfl ?_
  refine go_goto (q := 12) K dcanEnc_8 (by decide) rfl ?_
  refine go_iret K dcanEnc_12 rfl (Or.inr (Or.inl rfl)) rfl (by decide) (by decide) ?_
  exact ⟨rfl, rfl⟩
theorem dtoBytes_0 : decode jdk_43_method_46_code 0 = .ok (.iconst 1, 1) := by decide +kernel
theorem dtoBytes_1 : decode jdk_43_method_46_code 1 = .ok (.newarray .byte, 2) := by decide +kernel
theorem dtoBytes_3 : decode jdk_43_method_46_code 3 = .ok (.dup, 1) := by decide +kernel
theorem dtoBytes_4 : decode jdk_43_method_46_code 4 = .ok (.iconst 0, 1) := by decide +kernel
theorem dtoBytes_5 : decode jdk_43_method_46_code 5 = .ok (.iload_n 0, 1) := by decide +kernel
theorem dtoBytes_6 : decode jdk_43_method_46_code 6 = .ok (.i2b, 1) := by decide +kernel
theorem dtoBytes_7 : decode jdk_43_method_46_code 7 = .ok (.bastore, 1) := by decide +kernel
theorem dtoBytes_8 : decode jdk_43_method_46_code 8 = .ok (.areturn, 1) := by decide +kernel
set_option maxRecDepth 65536 in
set_option maxHeartbeats 40000000 in
theorem toBytes (l : Launch) (Z : State) (a0 : Array Value) (hw : ∀ d ∈ tables_1, d.before a0 Z = true) (z : Int32) (h : Heap) (n0 : Nat) (p0_ : Old Z n0 h) :
    Met l (⟨"java/lang/StringLatin1", "toBytes", "(C)[B"⟩ : MethodName) jdk_43_method_46_code 1 (some (.array .byte)) [] ({ frames := 0, cells := 1, slots := 1, locals := 0 } : Room) #[(.int z)] Z h n0 (fun v h' => ∃ (b : Addr) (kb : ClassId), v = some (.ref b) ∧ Keep h h' [] ∧ h.size ≤ b ∧ Ary Z h' b kb .byte [(.int (nar .byte z.toInt8.toInt32))]) := by
  refine Met.of (plainFor_of_name (by first | (simp [plainName, overriddenIn]; done) | decide +kernel)) ?_
  intro pP eE sS mM bB tT cC K
  refine Go.entry (ls := #[.val (.int z)]) rfl ?_
  refine go_iconst (q := 1) K dtoBytes_0 (1 : Int32) rfl rfl ?_
  refine go_newarray (q := 3) (num := 1) (cap := 1) K (wd hw 18 rfl) dtoBytes_1 (by decide) rfl (by decide) (by decide) (by decide) (by decide) rfl ?_
  intro h1 ah1 kh1 gah1 Eh1 Yh1
  refine go_dup (q := 4) K dtoBytes_3 rfl rfl ?_
  refine go_iconst (q := 5) K dtoBytes_4 (0 : Int32) rfl rfl ?_
  refine go_iloadN (q := 6) K dtoBytes_5 rfl rfl ?_
  refine go_i2b (q := 7) K dtoBytes_6 rfl ?_
  refine go_bastore (q := 8) K Yh1 (by decide) (show 0 < 1 from by decide) (Nat.le_trans (own_ge p0_) (Nat.le_of_eq gah1.symm)) dtoBytes_7 rfl ?_
  intro h2 Wh2 Yh2
  refine go_aret K dtoBytes_8 rfl rfl rfl rfl (by decide) (by decide) ?_
  have f1 := (((Keep.refl h []).ext Eh1).wr Wh2 (Or.inr (Nat.le_trans ((Keep.refl h [])).1 (Nat.le_of_eq gah1.symm))))
  exact ⟨ah1, kh1, rfl, f1, (Nat.le_trans ((Keep.refl h [])).1 (Nat.le_of_eq gah1.symm)), Yh2⟩
theorem dvalueOfC_0 : decode jdk_42_method_139_code 0 = .ok (.getstatic 38, 3) := by decide +kernel
theorem dvalueOfC_3 : decode jdk_42_method_139_code 3 = .ok (.ifCond .eq 23, 3) := by decide +kernel
theorem dvalueOfC_6 : decode jdk_42_method_139_code 6 = .ok (.iload_n 0, 1) := by decide +kernel
theorem dvalueOfC_7 : decode jdk_42_method_139_code 7 = .ok (.invokestatic 1015, 3) := by decide +kernel
theorem dvalueOfC_10 : decode jdk_42_method_139_code 10 = .ok (.ifCond .eq 16, 3) := by decide +kernel
theorem dvalueOfC_13 : decode jdk_42_method_139_code 13 = .ok (.new 10, 3) := by decide +kernel
theorem dvalueOfC_16 : decode jdk_42_method_139_code 16 = .ok (.dup, 1) := by decide +kernel
theorem dvalueOfC_17 : decode jdk_42_method_139_code 17 = .ok (.iload_n 0, 1) := by decide +kernel
theorem dvalueOfC_18 : decode jdk_42_method_139_code 18 = .ok (.invokestatic 1018, 3) := by decide +kernel
theorem dvalueOfC_21 : decode jdk_42_method_139_code 21 = .ok (.iconst 0, 1) := by decide +kernel
theorem dvalueOfC_22 : decode jdk_42_method_139_code 22 = .ok (.invokespecial 209, 3) := by decide +kernel
theorem dvalueOfC_25 : decode jdk_42_method_139_code 25 = .ok (.areturn, 1) := by decide +kernel
theorem dvalueOfC_26 : decode jdk_42_method_139_code 26 = .ok (.new 10, 3) := by decide +kernel
theorem dvalueOfC_29 : decode jdk_42_method_139_code 29 = .ok (.dup, 1) := by decide +kernel
theorem dvalueOfC_30 : decode jdk_42_method_139_code 30 = .ok (.iload_n 0, 1) := by decide +kernel
theorem dvalueOfC_31 : decode jdk_42_method_139_code 31 = .ok (.invokestatic 1021, 3) := by decide +kernel
theorem dvalueOfC_34 : decode jdk_42_method_139_code 34 = .ok (.iconst 1, 1) := by decide +kernel
theorem dvalueOfC_35 : decode jdk_42_method_139_code 35 = .ok (.invokespecial 209, 3) := by decide +kernel
theorem dvalueOfC_38 : decode jdk_42_method_139_code 38 = .ok (.areturn, 1) := by decide +kernel
set_option maxRecDepth 65536 in
set_option maxHeartbeats 40000000 in
theorem valueOfC (l : Launch) (Z : State) (a0 : Array Value) (hw : ∀ d ∈ tables_1, d.before a0 Z = true) (z : Int32) (cs : Int32) (h : Heap) (n0 : Nat) (p0_ : Old Z n0 h) (p1_ : Sta Z Z.heap "java/lang/String" "COMPACT_STRINGS" "Z" (.int cs)) (hcs : ¬ cs = (0 : Int32)) (hz : ¬ (255 : Int32) < z) :
    Met l (⟨"java/lang/String", "valueOf", "(C)Ljava/lang/String;"⟩ : MethodName) jdk_42_method_139_code 1 (some (.object "java/lang/String")) [] ({ frames := 2, cells := 2, slots := 5, locals := 40 } : Room) #[(.int z)] Z h n0 (fun v h' => ∃ (a : Addr) (b : Addr) (kb : ClassId), v = some (.ref a) ∧ Keep h h' [] ∧ h.size ≤ a ∧ h.size ≤ b ∧ Exa Z h' a "java/lang/String" ∧ Fld Z h' a "java/lang/String" "value" "[B" (.ref b) ∧ Fld Z h' a "java/lang/String" "coder" "B" (.int (0 : Int32)) ∧ Ary Z h' b kb .byte [(.int (nar .byte z.toInt8.toInt32))] ∧ a ≠ b) := by
  refine Met.of (plainFor_of_name (by first | (simp [plainName, overriddenIn]; done) | decide +kernel)) ?_
  intro pP eE sS mM bB tT cC K
  refine Go.entry (ls := #[.val (.int z)]) rfl ?_
  refine go_getS (q := 3) K (wd hw 8 rfl) Via.refl (p1_.ext p0_.2) dvalueOfC_0 rfl ?_
  refine go_if0 (q := 26) (q' := 6) K dvalueOfC_3 (by decide) rfl rfl (fun hn => cN_no hn (show ¬ cs = (0 : Int32) from hcs)) (fun _ => ?_)
  refine go_iloadN (q := 7) K dvalueOfC_6 rfl rfl ?_
  refine go_callS (q := 10) (W := 0) K (wd hw 9 rfl) (wd hw 10 rfl) (wd hw 11 rfl) (wd hw 12 rfl) [(.int z)] [] (canEnc l Z a0 hw _ _ n0 (by assumption)) dvalueOfC_7 (ps := [.char]) (by decide +kernel) rfl rfl rfl (by decide) rfl (by decide) (by decide) (by decide) (by decide) rfl ?_
  rintro _ _ ⟨rfl, rfl⟩
  show Go pP l eE _ sS mM _ bB tT cC n0 _ h 0 0 (mkF mM 10 #[.val (.int z)] [(.int (1 : Int32))])
  refine go_if0 (q := 26) (q' := 13) K dvalueOfC_10 (by decide) rfl rfl (fun hn => cN_no hn (show ¬ (1 : Int32) = (0 : Int32) from (by decide))) (fun _ => ?_)
  refine go_new (q := 16) (sz := 4) K (wd hw 13 rfl) (wd hw 14 rfl) (wd hw 6 rfl) dvalueOfC_13 (by decide) (by decide) rfl ?_
  intro h2 ah2 gah2 Eh2 Xah2 Dah2
  refine go_dup (q := 17) K dvalueOfC_16 rfl rfl ?_
  refine go_iloadN (q := 18) K dvalueOfC_17 rfl rfl ?_
  have f1 := (p0_.ext Eh2)
  have f2 := ((Keep.refl h []).ext Eh2)
  refine go_callS (q := 21) (W := 2) K (wd hw 15 rfl) (wd hw 16 rfl) (wd hw 11 rfl) (wd hw 17 rfl) [(.int z)] [(.ref ah2), (.ref ah2)] (toBytes l Z a0 hw _ _ n0 f1) dvalueOfC_18 (ps := [.char]) (by decide +kernel) rfl rfl rfl (by decide) rfl (by decide) (by decide) (by decide) (by decide) rfl ?_
  rintro _ h3 ⟨bh3, kbh3, rfl, Kh3, gbh3, q0h3⟩
  show Go pP l eE _ sS mM _ bB tT cC n0 _ h3 2 5 (mkF mM 21 #[.val (.int z)] [(.ref bh3), (.ref ah2), (.ref ah2)])
  refine go_iconst (q := 22) K dvalueOfC_21 (0 : Int32) rfl rfl ?_
  have f3 := (Xah2.keep Kh3)
  have f4 := ((Dah2 (Or.inr (wd hw 27 rfl)) (ty := (.array .byte)) (by decide +kernel)).keep Kh3 nin0)
  have f5 := ((Dah2 (Or.inr (wd hw 29 rfl)) (ty := .byte) (by decide +kernel)).keep Kh3 nin0)
  refine go_callI (q := 25) (W := 1) K (wd hw 19 rfl) (wd hw 20 rfl) (wd hw 6 rfl) (wd hw 22 rfl) rfl [(.ref bh3), (.int (0 : Int32))] [(.ref ah2)] (sinit l Z a0 hw _ _ _ n0 f3 f4 f5 (Nat.le_trans (own_ge p0_) (Nat.le_of_eq gah2.symm))) dvalueOfC_22 (ps := [(.array .byte), .byte]) (by decide +kernel) rfl rfl rfl (by decide) rfl (by decide) (by decide) (by decide) (by decide) rfl ?_
  rintro _ h4 ⟨rfl, Kh4, q0h4, q1h4, q2h4⟩
  show Go pP l eE _ sS mM _ bB tT cC n0 _ h4 2 5 (mkF mM 25 #[.val (.int z)] [(.ref ah2)])
  refine go_aret K dvalueOfC_25 rfl rfl rfl rfl (by decide) (by decide) ?_
  have f6 := ((f2.trans Kh3 all0).trans Kh4 (allS (Or.inr (Nat.le_trans ((Keep.refl h [])).1 (Nat.le_of_eq gah2.symm))) all0))
  have f7 := (q0h3.keep Kh4 (ninS ((own_nel (Xah2).lt gbh3)).symm nin0))
  exact ⟨ah2, bh3, kbh3, rfl, f6, (Nat.le_trans ((Keep.refl h [])).1 (Nat.le_of_eq gah2.symm)), (Nat.le_trans (f2).1 gbh3), q0h4, q1h4, q2h4, f7, (own_nel (Xah2).lt gbh3)⟩
theorem deqSame_0 : decode jdk_42_method_66_code 0 = .ok (.aload_n 0, 1) := by decide +kernel
theorem deqSame_1 : decode jdk_42_method_66_code 1 = .ok (.aload_n 1, 1) := by decide +kernel
theorem deqSame_2 : decode jdk_42_method_66_code 2 = .ok (.if_acmp .ne 5, 3) := by decide +kernel
theorem deqSame_5 : decode jdk_42_method_66_code 5 = .ok (.iconst 1, 1) := by decide +kernel
theorem deqSame_6 : decode jdk_42_method_66_code 6 = .ok (.ireturn, 1) := by decide +kernel
theorem deqSame_7 : decode jdk_42_method_66_code 7 = .ok (.aload_n 1, 1) := by decide +kernel
theorem deqSame_8 : decode jdk_42_method_66_code 8 = .ok (.instanceof 10, 3) := by decide +kernel
theorem deqSame_11 : decode jdk_42_method_66_code 11 = .ok (.ifCond .eq 43, 3) := by decide +kernel
theorem deqSame_14 : decode jdk_42_method_66_code 14 = .ok (.aload_n 1, 1) := by decide +kernel
theorem deqSame_15 : decode jdk_42_method_66_code 15 = .ok (.checkcast 10, 3) := by decide +kernel
theorem deqSame_18 : decode jdk_42_method_66_code 18 = .ok (.astore_n 2, 1) := by decide +kernel
theorem deqSame_19 : decode jdk_42_method_66_code 19 = .ok (.getstatic 38, 3) := by decide +kernel
theorem deqSame_22 : decode jdk_42_method_66_code 22 = .ok (.ifCond .eq 14, 3) := by decide +kernel
theorem deqSame_25 : decode jdk_42_method_66_code 25 = .ok (.aload_n 0, 1) := by decide +kernel
theorem deqSame_26 : decode jdk_42_method_66_code 26 = .ok (.getfield 15, 3) := by decide +kernel
theorem deqSame_29 : decode jdk_42_method_66_code 29 = .ok (.aload_n 2, 1) := by decide +kernel
theorem deqSame_30 : decode jdk_42_method_66_code 30 = .ok (.getfield 15, 3) := by decide +kernel
theorem deqSame_33 : decode jdk_42_method_66_code 33 = .ok (.if_icmp .ne 21, 3) := by decide +kernel
theorem deqSame_36 : decode jdk_42_method_66_code 36 = .ok (.aload_n 0, 1) := by decide +kernel
theorem deqSame_37 : decode jdk_42_method_66_code 37 = .ok (.getfield 9, 3) := by decide +kernel
theorem deqSame_40 : decode jdk_42_method_66_code 40 = .ok (.aload_n 2, 1) := by decide +kernel
theorem deqSame_41 : decode jdk_42_method_66_code 41 = .ok (.getfield 9, 3) := by decide +kernel
theorem deqSame_44 : decode jdk_42_method_66_code 44 = .ok (.invokestatic 541, 3) := by decide +kernel
theorem deqSame_47 : decode jdk_42_method_66_code 47 = .ok (.ifCond .eq 7, 3) := by decide +kernel
theorem deqSame_50 : decode jdk_42_method_66_code 50 = .ok (.iconst 1, 1) := by decide +kernel
theorem deqSame_51 : decode jdk_42_method_66_code 51 = .ok (.goto 4, 3) := by decide +kernel
theorem deqSame_54 : decode jdk_42_method_66_code 54 = .ok (.iconst 0, 1) := by decide +kernel
theorem deqSame_55 : decode jdk_42_method_66_code 55 = .ok (.ireturn, 1) := by decide +kernel
set_option maxRecDepth 65536 in
set_option maxHeartbeats 40000000 in
theorem eqSame (l : Launch) (Z : State) (a0 : Array Value) (hw : ∀ d ∈ tables_1, d.before a0 Z = true) (a : Addr) (h : Heap) (n0 : Nat)  :
    Met l (⟨"java/lang/String", "equals", "(Ljava/lang/Object;)Z"⟩ : MethodName) jdk_42_method_66_code 3 (some .boolean) [] ({ frames := 0, cells := 0, slots := 0, locals := 0 } : Room) #[(.ref a), (.ref a)] Z h n0 (fun v h' => v = some (.int (1 : Int32)) ∧ h = h') := by
  refine Met.of (plainFor_of_name (by first | (simp [plainName, overriddenIn]; done) | decide +kernel)) ?_
  intro pP eE sS mM bB tT cC K
  refine Go.entry (ls := #[.val (.ref a), .val (.ref a), .unset]) rfl ?_
  refine go_aloadN (q := 1) K deqSame_0 rfl rfl rfl ?_
  refine go_aloadN (q := 2) K deqSame_1 rfl rfl rfl ?_
  refine go_acmp (q := 7) (q' := 5) K deqSame_2 rfl rfl (by decide) rfl rfl (fun hn => cAN_no hn (show ((.ref a) : Value) = (.ref a) from rfl)) (fun _ => ?_)
  refine go_iconst (q := 6) K deqSame_5 (1 : Int32) rfl rfl ?_
  refine go_iret K deqSame_6 rfl (Or.inr (Or.inl rfl)) rfl (by decide) (by decide) ?_
  exact ⟨rfl, rfl⟩
theorem dacInit_0 : decode jdk_22_method_1_code 0 = .ok (.aload_n 0, 1) := by decide +kernel
theorem dacInit_1 : decode jdk_22_method_1_code 1 = .ok (.invokespecial 1, 3) := by decide +kernel
theorem dacInit_4 : decode jdk_22_method_1_code 4 = .ok (.return_, 1) := by decide +kernel
set_option maxRecDepth 65536 in
set_option maxHeartbeats 40000000 in
theorem acInit (l : Launch) (Z : State) (a0 : Array Value) (hw : ∀ d ∈ tables_1, d.before a0 Z = true) (a : Addr) (h : Heap) (n0 : Nat)  :
    Met l (⟨"java/util/AbstractCollection", "<init>", "()V"⟩ : MethodName) jdk_22_method_1_code 1 none [] ({ frames := 1, cells := 0, slots := 0, locals := 12 } : Room) #[(.ref a)] Z h n0 (fun v h' => v = none ∧ h = h') := by
  refine Met.of (plainFor_of_name (by first | (simp [plainName, overriddenIn]; done) | decide +kernel)) ?_
  intro pP eE sS mM bB tT cC K
  refine Go.entry (ls := #[.val (.ref a)]) rfl ?_
  refine go_aloadN (q := 1) K dacInit_0 rfl rfl rfl ?_
  refine go_initO (q := 4) (W := 0) K (wd hw 48 rfl) (wd hw 24 rfl) (wd hw 25 rfl) dacInit_1 rfl rfl (by decide) (by decide) rfl ?_
  refine go_return K dacInit_4 rfl (by decide) (by decide) ?_
  exact ⟨rfl, rfl⟩
theorem dablInit_0 : decode jdk_39_method_1_code 0 = .ok (.aload_n 0, 1) := by decide +kernel
theorem dablInit_1 : decode jdk_39_method_1_code 1 = .ok (.invokespecial 1, 3) := by decide +kernel
theorem dablInit_4 : decode jdk_39_method_1_code 4 = .ok (.aload_n 0, 1) := by decide +kernel
theorem dablInit_5 : decode jdk_39_method_1_code 5 = .ok (.iconst 0, 1) := by decide +kernel
theorem dablInit_6 : decode jdk_39_method_1_code 6 = .ok (.putfield 7, 3) := by decide +kernel
theorem dablInit_9 : decode jdk_39_method_1_code 9 = .ok (.return_, 1) := by decide +kernel
set_option maxRecDepth 65536 in
set_option maxHeartbeats 40000000 in
theorem ablInit (l : Launch) (Z : State) (a0 : Array Value) (hw : ∀ d ∈ tables_1, d.before a0 Z = true) (a : Addr) (h : Heap) (n0 : Nat) (p0_ : Exa Z h a "java/util/ArrayList") (p1_ : Fld Z h a "java/util/AbstractList" "modCount" "I" (.int (0 : Int32))) (p2_ : Fld Z h a "java/util/ArrayList" "elementData" "[Ljava/lang/Object;" .null) (p3_ : Fld Z h a "java/util/ArrayList" "size" "I" (.int (0 : Int32))) (p4_ : n0 ≤ a) :
    Met l (⟨"java/util/AbstractList", "<init>", "()V"⟩ : MethodName) jdk_39_method_1_code 1 none [] ({ frames := 2, cells := 0, slots := 0, locals := 24 } : Room) #[(.ref a)] Z h n0 (fun v h' => v = none ∧ Keep h h' [a] ∧ Exa Z h' a "java/util/ArrayList" ∧ Fld Z h' a "java/util/AbstractList" "modCount" "I" (.int (0 : Int32)) ∧ Fld Z h' a "java/util/ArrayList" "elementData" "[Ljava/lang/Object;" .null ∧ Fld Z h' a "java/util/ArrayList" "size" "I" (.int (0 : Int32))) := by
  refine Met.of (plainFor_of_name (by first | (simp [plainName, overriddenIn]; done) | decide +kernel)) ?_
  intro pP eE sS mM bB tT cC K
  refine Go.entry (ls := #[.val (.ref a)]) rfl ?_
  refine go_aloadN (q := 1) K dablInit_0 rfl rfl rfl ?_
  refine go_callI (q := 4) (W := 0) K (wd hw 42 rfl) (wd hw 43 rfl) (wd hw 46 rfl) (wd hw 47 rfl) rfl [] [] (acInit l Z a0 hw _ _ n0 ) dablInit_1 (ps := []) (by decide +kernel) rfl rfl rfl (by decide) rfl (by decide) (by decide) (by decide) (by decide) rfl ?_
  rintro _ _ ⟨rfl, rfl⟩
  show Go pP l eE _ sS mM _ bB tT cC n0 _ h 0 0 (mkF mM 4 #[.val (.ref a)] [])
  refine go_aloadN (q := 5) K dablInit_4 rfl rfl rfl ?_
  refine go_iconst (q := 6) K dablInit_5 (0 : Int32) rfl rfl ?_
  refine go_putF (q := 9) K (wd hw 49 rfl) Via.refl p1_ p0_ (Or.inl (wd hw 50 rfl)) (wd hw 31 rfl) (ty := .int) (by decide +kernel) rfl rfl p4_ dablInit_6 rfl ?_
  intro h2 Wh2
  refine go_return K dablInit_9 rfl (by decide) (by decide) ?_
  have f1 := ((Keep.refl h [a]).wr Wh2 (Or.inl (by simp)))
  have f2 := (p0_.wr Wh2)
  have f3 := (p2_.other Wh2 (Or.inr (slot_ne (C := "java/util/ArrayList") (Or.inl (wd hw 53 rfl)) (Or.inl (wd hw 50 rfl)) (by decide) (t := (.array (.object "java/lang/Object"))) (t' := .int) (by decide +kernel) (by decide +kernel))))
  have f4 := (p3_.other Wh2 (Or.inr (slot_ne (C := "java/util/ArrayList") (Or.inl (wd hw 115 rfl)) (Or.inl (wd hw 50 rfl)) (by decide) (t := .int) (t' := .int) (by decide +kernel) (by decide +kernel))))
  exact ⟨rfl, f1, f2, (p1_.same Wh2), f3, f4⟩
theorem dalInit_0 : decode jdk_38_method_2_code 0 = .ok (.aload_n 0, 1) := by decide +kernel
theorem dalInit_1 : decode jdk_38_method_2_code 1 = .ok (.invokespecial 1, 3) := by decide +kernel
theorem dalInit_4 : decode jdk_38_method_2_code 4 = .ok (.aload_n 0, 1) := by decide +kernel
theorem dalInit_5 : decode jdk_38_method_2_code 5 = .ok (.getstatic 39, 3) := by decide +kernel
theorem dalInit_8 : decode jdk_38_method_2_code 8 = .ok (.putfield 9, 3) := by decide +kernel
theorem dalInit_11 : decode jdk_38_method_2_code 11 = .ok (.return_, 1) := by decide +kernel
set_option maxRecDepth 65536 in
set_option maxHeartbeats 40000000 in
theorem alInit (l : Launch) (Z : State) (a0 : Array Value) (hw : ∀ d ∈ tables_1, d.before a0 Z = true) (a : Addr) (D : Addr) (h : Heap) (n0 : Nat) (p0_ : Old Z n0 h) (p1_ : Exa Z h a "java/util/ArrayList") (p2_ : Fld Z h a "java/util/AbstractList" "modCount" "I" (.int (0 : Int32))) (p3_ : Fld Z h a "java/util/ArrayList" "elementData" "[Ljava/lang/Object;" .null) (p4_ : Fld Z h a "java/util/ArrayList" "size" "I" (.int (0 : Int32))) (p5_ : n0 ≤ a) (p6_ : Sta Z Z.heap "java/util/ArrayList" "DEFAULTCAPACITY_EMPTY_ELEMENTDATA" "[Ljava/lang/Object;" (.ref D)) :
    Met l (⟨"java/util/ArrayList", "<init>", "()V"⟩ : MethodName) jdk_38_method_2_code 1 none [] ({ frames := 3, cells := 0, slots := 0, locals := 36 } : Room) #[(.ref a)] Z h n0 (fun v h' => v = none ∧ Keep h h' [a] ∧ Exa Z h' a "java/util/ArrayList" ∧ Fld Z h' a "java/util/AbstractList" "modCount" "I" (.int (0 : Int32)) ∧ Fld Z h' a "java/util/ArrayList" "elementData" "[Ljava/lang/Object;" (.ref D) ∧ Fld Z h' a "java/util/ArrayList" "size" "I" (.int (0 : Int32))) := by
  refine Met.of (plainFor_of_name (by first | (simp [plainName, overriddenIn]; done) | decide +kernel)) ?_
  intro pP eE sS mM bB tT cC K
  refine Go.entry (ls := #[.val (.ref a)]) rfl ?_
  refine go_aloadN (q := 1) K dalInit_0 rfl rfl rfl ?_
  refine go_callI (q := 4) (W := 0) K (wd hw 36 rfl) (wd hw 37 rfl) (wd hw 40 rfl) (wd hw 41 rfl) rfl [] [] (ablInit l Z a0 hw _ _ n0 p1_ p2_ p3_ p4_ p5_) dalInit_1 (ps := []) (by decide +kernel) rfl rfl rfl (by decide) rfl (by decide) (by decide) (by decide) (by decide) rfl ?_
  rintro _ h1 ⟨rfl, Kh1, q0h1, q1h1, q2h1, q3h1⟩
  show Go pP l eE _ sS mM _ bB tT cC n0 _ h1 0 0 (mkF mM 4 #[.val (.ref a)] [])
  refine go_aloadN (q := 5) K dalInit_4 rfl rfl rfl ?_
  have f1 := (p0_.keep Kh1 (allS p5_ all0))
  refine go_getS (q := 8) K (wd hw 51 rfl) Via.refl (p6_.ext f1.2) dalInit_5 rfl ?_
  refine go_putF (q := 11) K (wd hw 52 rfl) Via.refl q2h1 q0h1 (Or.inl (wd hw 53 rfl)) (wd hw 31 rfl) (ty := (.array (.object "java/lang/Object"))) (by decide +kernel) rfl rfl p5_ dalInit_8 rfl ?_
  intro h2 Wh2
  refine go_return K dalInit_11 rfl (by decide) (by decide) ?_
  have f2 := (((Keep.refl h [a]).trans Kh1 (allS (Or.inl (by simp)) all0)).wr Wh2 (Or.inl (by simp)))
  have f3 := (q0h1.wr Wh2)
  have f4 := (q1h1.other Wh2 (Or.inr (slot_ne (C := "java/util/ArrayList") (Or.inl (wd hw 50 rfl)) (Or.inl (wd hw 53 rfl)) (by decide) (t := .int) (t' := (.array (.object "java/lang/Object"))) (by decide +kernel) (by decide +kernel))))
  have f5 := (q3h1.other Wh2 (Or.inr (slot_ne (C := "java/util/ArrayList") (Or.inl (wd hw 115 rfl)) (Or.inl (wd hw 53 rfl)) (by decide) (t := .int) (t' := (.array (.object "java/lang/Object"))) (by decide +kernel) (by decide +kernel))))
  exact ⟨rfl, f2, f3, f4, (q2h1.same Wh2), f5⟩
theorem dgrowI_0 : decode jdk_38_method_6_code 0 = .ok (.aload_n 0, 1) := by decide +kernel
theorem dgrowI_1 : decode jdk_38_method_6_code 1 = .ok (.getfield 9, 3) := by decide +kernel
theorem dgrowI_4 : decode jdk_38_method_6_code 4 = .ok (.arraylength, 1) := by decide +kernel
theorem dgrowI_5 : decode jdk_38_method_6_code 5 = .ok (.istore_n 2, 1) := by decide +kernel
theorem dgrowI_6 : decode jdk_38_method_6_code 6 = .ok (.iload_n 2, 1) := by decide +kernel
theorem dgrowI_7 : decode jdk_38_method_6_code 7 = .ok (.ifCond .gt 13, 3) := by decide +kernel
theorem dgrowI_10 : decode jdk_38_method_6_code 10 = .ok (.aload_n 0, 1) := by decide +kernel
theorem dgrowI_11 : decode jdk_38_method_6_code 11 = .ok (.getfield 9, 3) := by decide +kernel
theorem dgrowI_14 : decode jdk_38_method_6_code 14 = .ok (.getstatic 39, 3) := by decide +kernel
theorem dgrowI_17 : decode jdk_38_method_6_code 17 = .ok (.if_acmp .eq 28, 3) := by decide +kernel
theorem dgrowI_20 : decode jdk_38_method_6_code 20 = .ok (.iload_n 2, 1) := by decide +kernel
theorem dgrowI_21 : decode jdk_38_method_6_code 21 = .ok (.iload_n 1, 1) := by decide +kernel
theorem dgrowI_22 : decode jdk_38_method_6_code 22 = .ok (.iload_n 2, 1) := by decide +kernel
theorem dgrowI_23 : decode jdk_38_method_6_code 23 = .ok (.isub, 1) := by decide +kernel
theorem dgrowI_24 : decode jdk_38_method_6_code 24 = .ok (.iload_n 2, 1) := by decide +kernel
theorem dgrowI_25 : decode jdk_38_method_6_code 25 = .ok (.iconst 1, 1) := by decide +kernel
theorem dgrowI_26 : decode jdk_38_method_6_code 26 = .ok (.ishr, 1) := by decide +kernel
theorem dgrowI_27 : decode jdk_38_method_6_code 27 = .ok (.invokestatic 73, 3) := by decide +kernel
theorem dgrowI_30 : decode jdk_38_method_6_code 30 = .ok (.istore_n 3, 1) := by decide +kernel
theorem dgrowI_31 : decode jdk_38_method_6_code 31 = .ok (.aload_n 0, 1) := by decide +kernel
theorem dgrowI_32 : decode jdk_38_method_6_code 32 = .ok (.aload_n 0, 1) := by decide +kernel
theorem dgrowI_33 : decode jdk_38_method_6_code 33 = .ok (.getfield 9, 3) := by decide +kernel
theorem dgrowI_36 : decode jdk_38_method_6_code 36 = .ok (.iload_n 3, 1) := by decide +kernel
theorem dgrowI_37 : decode jdk_38_method_6_code 37 = .ok (.invokestatic 66, 3) := by decide +kernel
theorem dgrowI_40 : decode jdk_38_method_6_code 40 = .ok (.dup_x1, 1) := by decide +kernel
theorem dgrowI_41 : decode jdk_38_method_6_code 41 = .ok (.putfield 9, 3) := by decide +kernel
theorem dgrowI_44 : decode jdk_38_method_6_code 44 = .ok (.areturn, 1) := by decide +kernel
theorem dgrowI_45 : decode jdk_38_method_6_code 45 = .ok (.aload_n 0, 1) := by decide +kernel
theorem dgrowI_46 : decode jdk_38_method_6_code 46 = .ok (.bipush 10, 2) := by decide +kernel
theorem dgrowI_48 : decode jdk_38_method_6_code 48 = .ok (.iload_n 1, 1) := by decide +kernel
theorem dgrowI_49 : decode jdk_38_method_6_code 49 = .ok (.invokestatic 79, 3) := by decide +kernel
theorem dgrowI_52 : decode jdk_38_method_6_code 52 = .ok (.anewarray 7, 3) := by decide +kernel
theorem dgrowI_55 : decode jdk_38_method_6_code 55 = .ok (.dup_x1, 1) := by decide +kernel
theorem dgrowI_56 : decode jdk_38_method_6_code 56 = .ok (.putfield 9, 3) := by decide +kernel
theorem dgrowI_59 : decode jdk_38_method_6_code 59 = .ok (.areturn, 1) := by decide +kernel
set_option maxRecDepth 65536 in
set_option maxHeartbeats 40000000 in
theorem growI (l : Launch) (Z : State) (a0 : Array Value) (hw : ∀ d ∈ tables_1, d.before a0 Z = true) (a : Addr) (D : Addr) (kD : ClassId) (mc : Int32) (h : Heap) (n0 : Nat) (p0_ : Old Z n0 h) (p1_ : Exa Z h a "java/util/ArrayList") (p2_ : Fld Z h a "java/util/AbstractList" "modCount" "I" (.int mc)) (p3_ : Fld Z h a "java/util/ArrayList" "elementData" "[Ljava/lang/Object;" (.ref D)) (p4_ : Fld Z h a "java/util/ArrayList" "size" "I" (.int (0 : Int32))) (p5_ : n0 ≤ a) (p6_ : Sta Z Z.heap "java/util/ArrayList" "DEFAULTCAPACITY_EMPTY_ELEMENTDATA" "[Ljava/lang/Object;" (.ref D)) (p7_ : Ary Z Z.heap D kD (.object "java/lang/Object") []) :
    Met l (⟨"java/util/ArrayList", "grow", "(I)[Ljava/lang/Object;"⟩ : MethodName) jdk_38_method_6_code 4 (some (.array (.object "java/lang/Object"))) [] ({ frames := 1, cells := 1, slots := 10, locals := 20 } : Room) #[(.ref a), (.int (1 : Int32))] Z h n0 (fun v h' => ∃ (ar : Addr) (kl : ClassId), v = some (.ref ar) ∧ Keep h h' [a] ∧ h.size ≤ ar ∧ Exa Z h' a "java/util/ArrayList" ∧ Fld Z h' a "java/util/AbstractList" "modCount" "I" (.int mc) ∧ Fld Z h' a "java/util/ArrayList" "elementData" "[Ljava/lang/Object;" (.ref ar) ∧ Fld Z h' a "java/util/ArrayList" "size" "I" (.int (0 : Int32)) ∧ Ary Z h' ar kl (.object "java/lang/Object") [.null, .null, .null, .null, .null, .null, .null, .null, .null, .null] ∧ Ovr Z kl "java/lang/Object") := by
  refine Met.of (plainFor_of_name (by first | (simp [plainName, overriddenIn]; done) | decide +kernel)) ?_
  intro pP eE sS mM bB tT cC K
  refine Go.entry (ls := #[.val (.ref a), .val (.int (1 : Int32)), .unset, .unset]) rfl ?_
  refine go_aloadN (q := 1) K dgrowI_0 rfl rfl rfl ?_
  refine go_getF (q := 4) K (wd hw 52 rfl) Via.refl p3_ dgrowI_1 rfl ?_
  refine go_arraylength (q := 5) (z := (0 : Int32)) K (p7_.ext p0_.2) rfl dgrowI_4 rfl ?_
  refine go_istoreN (q := 6) K dgrowI_5 #[.val (.ref a), .val (.int (1 : Int32)), .val (.int (0 : Int32)), .unset] rfl rfl ?_
  refine go_iloadN (q := 7) K dgrowI_6 rfl rfl ?_
  refine go_if0 (q := 20) (q' := 10) K dgrowI_7 (by decide) rfl rfl (fun hn => cN_no hn (show ¬ (0 : Int32) < (0 : Int32) from (by decide))) (fun _ => ?_)
  refine go_aloadN (q := 11) K dgrowI_10 rfl rfl rfl ?_
  refine go_getF (q := 14) K (wd hw 52 rfl) Via.refl p3_ dgrowI_11 rfl ?_
  refine go_getS (q := 17) K (wd hw 51 rfl) Via.refl (p6_.ext p0_.2) dgrowI_14 rfl ?_
  refine go_acmp (q := 45) (q' := 20) K dgrowI_17 rfl rfl (by decide) rfl rfl (fun _ => ?_) (fun hn => cAN_no2 hn (show ((.ref D) : Value) = (.ref D) from rfl))
  refine go_aloadN (q := 46) K dgrowI_45 rfl rfl rfl ?_
  refine go_bipush (q := 48) K dgrowI_46 (10 : Int32) rfl rfl ?_
  refine go_iloadN (q := 49) K dgrowI_48 rfl rfl ?_
  refine go_callS (q := 52) (W := 1) K (wd hw 141 rfl) (wd hw 142 rfl) (wd hw 2 rfl) (wd hw 143 rfl) [(.int (10 : Int32)), (.int (1 : Int32))] [(.ref a)] (max_met l Z a0 hw (10 : Int32) (1 : Int32) _ n0) dgrowI_49 (ps := [.int, .int]) (by decide +kernel) rfl rfl rfl (by decide) rfl (by decide) (by decide) (by decide) (by decide) rfl ?_
  rintro _ _ ⟨rfl, rfl⟩
  show Go pP l eE _ sS mM _ bB tT cC n0 _ h 0 0 (mkF mM 52 #[.val (.ref a), .val (.int (1 : Int32)), .val (.int (0 : Int32)), .unset] [(.int (if (10 : Int32) < (1 : Int32) then (1 : Int32) else (10 : Int32))), (.ref a)])
  refine go_eqI (y := (10 : Int32)) (by decide) ?_
  refine go_anewarray (q := 55) (num := 10) (cap := 10) K (wd hw 144 rfl) (wd hw 145 rfl) dgrowI_52 (by decide) rfl (by decide) (by decide) (by decide) (by decide) rfl ?_
  intro h1 ah1 kh1 gah1 Eh1 Yh1 Vh1
  refine go_dup_x1 (q := 56) K dgrowI_55 rfl rfl rfl ?_
  have f1 := (p3_.ext Eh1)
  have f2 := (p1_.ext Eh1)
  refine go_putF (q := 59) K (wd hw 52 rfl) Via.refl f1 f2 (Or.inl (wd hw 53 rfl)) (wd hw 31 rfl) (ty := (.array (.object "java/lang/Object"))) (by decide +kernel) rfl rfl p5_ dgrowI_56 rfl ?_
  intro h2 Wh2
  refine go_aret K dgrowI_59 rfl rfl rfl rfl (by decide) (by decide) ?_
  have f3 := (((Keep.refl h [a]).ext Eh1).wr Wh2 (Or.inl (by simp)))
  have f4 := (f2.wr Wh2)
  have f5 := ((p2_.ext Eh1).other Wh2 (Or.inr (slot_ne (C := "java/util/ArrayList") (Or.inl (wd hw 50 rfl)) (Or.inl (wd hw 53 rfl)) (by decide) (t := .int) (t' := (.array (.object "java/lang/Object"))) (by decide +kernel) (by decide +kernel))))
  have f6 := ((p4_.ext Eh1).other Wh2 (Or.inr (slot_ne (C := "java/util/ArrayList") (Or.inl (wd hw 115 rfl)) (Or.inl (wd hw 53 rfl)) (by decide) (t := .int) (t' := (.array (.object "java/lang/Object"))) (by decide +kernel) (by decide +kernel))))
  have f7 := (Yh1.other Wh2 ((own_nel (p1_).lt (Nat.le_of_eq gah1.symm))).symm)
  exact ⟨ah1, kh1, rfl, f3, (Nat.le_trans ((Keep.refl h [a])).1 (Nat.le_of_eq gah1.symm)), f4, f5, (f1.same Wh2), f6, f7, Vh1⟩
theorem dgrow0_0 : decode jdk_38_method_7_code 0 = .ok (.aload_n 0, 1) := by decide +kernel
theorem dgrow0_1 : decode jdk_38_method_7_code 1 = .ok (.aload_n 0, 1) := by decide +kernel
theorem dgrow0_2 : decode jdk_38_method_7_code 2 = .ok (.getfield 48, 3) := by decide +kernel
theorem dgrow0_5 : decode jdk_38_method_7_code 5 = .ok (.iconst 1, 1) := by decide +kernel
theorem dgrow0_6 : decode jdk_38_method_7_code 6 = .ok (.iadd, 1) := by decide +kernel
theorem dgrow0_7 : decode jdk_38_method_7_code 7 = .ok (.invokevirtual 69, 3) := by decide +kernel
theorem dgrow0_10 : decode jdk_38_method_7_code 10 = .ok (.areturn, 1) := by decide +kernel
set_option maxRecDepth 65536 in
set_option maxHeartbeats 40000000 in
theorem grow0 (l : Launch) (Z : State) (a0 : Array Value) (hw : ∀ d ∈ tables_1, d.before a0 Z = true) (a : Addr) (D : Addr) (kD : ClassId) (mc : Int32) (h : Heap) (n0 : Nat) (p0_ : Old Z n0 h) (p1_ : Exa Z h a "java/util/ArrayList") (p2_ : Fld Z h a "java/util/AbstractList" "modCount" "I" (.int mc)) (p3_ : Fld Z h a "java/util/ArrayList" "elementData" "[Ljava/lang/Object;" (.ref D)) (p4_ : Fld Z h a "java/util/ArrayList" "size" "I" (.int (0 : Int32))) (p5_ : n0 ≤ a) (p6_ : Sta Z Z.heap "java/util/ArrayList" "DEFAULTCAPACITY_EMPTY_ELEMENTDATA" "[Ljava/lang/Object;" (.ref D)) (p7_ : Ary Z Z.heap D kD (.object "java/lang/Object") []) :
    Met l (⟨"java/util/ArrayList", "grow", "()[Ljava/lang/Object;"⟩ : MethodName) jdk_38_method_7_code 1 (some (.array (.object "java/lang/Object"))) [] ({ frames := 2, cells := 1, slots := 10, locals := 40 } : Room) #[(.ref a)] Z h n0 (fun v h' => ∃ (ar : Addr) (kl : ClassId), v = some (.ref ar) ∧ Keep h h' [a] ∧ h.size ≤ ar ∧ Exa Z h' a "java/util/ArrayList" ∧ Fld Z h' a "java/util/AbstractList" "modCount" "I" (.int mc) ∧ Fld Z h' a "java/util/ArrayList" "elementData" "[Ljava/lang/Object;" (.ref ar) ∧ Fld Z h' a "java/util/ArrayList" "size" "I" (.int (0 : Int32)) ∧ Ary Z h' ar kl (.object "java/lang/Object") [.null, .null, .null, .null, .null, .null, .null, .null, .null, .null] ∧ Ovr Z kl "java/lang/Object") := by
  refine Met.of (plainFor_of_name (by first | (simp [plainName, overriddenIn]; done) | decide +kernel)) ?_
  intro pP eE sS mM bB tT cC K
  refine Go.entry (ls := #[.val (.ref a)]) rfl ?_
  refine go_aloadN (q := 1) K dgrow0_0 rfl rfl rfl ?_
  refine go_aloadN (q := 2) K dgrow0_1 rfl rfl rfl ?_
  refine go_getF (q := 5) K (wd hw 114 rfl) Via.refl p4_ dgrow0_2 rfl ?_
  refine go_iconst (q := 6) K dgrow0_5 (1 : Int32) rfl rfl ?_
  refine go_iadd (q := 7) K dgrow0_6 rfl ?_
  refine go_eqI (y := (1 : Int32)) (by decide) ?_
  refine go_callP (q := 10) (W := 0) K (wd hw 136 rfl) (wd hw 138 rfl) (wd hw 129 rfl) rfl (wd hw 137 rfl) (wd hw 32 rfl) (wd hw 140 rfl) p1_ [(.int (1 : Int32))] [] (growI l Z a0 hw _ _ _ _ _ n0 p0_ p1_ p2_ p3_ p4_ p5_ p6_ p7_) dgrow0_7 (ps := [.int]) (by decide +kernel) rfl rfl rfl (by decide) rfl (by decide) (by decide) (by decide) (by decide) rfl ?_
  rintro _ h1 ⟨arh1, klh1, rfl, Kh1, garh1, q0h1, q1h1, q2h1, q3h1, q4h1, q5h1⟩
  show Go pP l eE _ sS mM _ bB tT cC n0 _ h1 1 10 (mkF mM 10 #[.val (.ref a)] [(.ref arh1)])
  refine go_aret K dgrow0_10 rfl rfl rfl rfl (by decide) (by decide) ?_
  have f1 := ((Keep.refl h [a]).trans Kh1 (allS (Or.inl (by simp)) all0))
  exact ⟨arh1, klh1, rfl, f1, (Nat.le_trans ((Keep.refl h [a])).1 garh1), q0h1, q1h1, q2h1, q3h1, q4h1, q5h1⟩
theorem daddH0_0 : decode jdk_38_method_24_code 0 = .ok (.iload_n 3, 1) := by decide +kernel
theorem daddH0_1 : decode jdk_38_method_24_code 1 = .ok (.aload_n 2, 1) := by decide +kernel
theorem daddH0_2 : decode jdk_38_method_24_code 2 = .ok (.arraylength, 1) := by decide +kernel
theorem daddH0_3 : decode jdk_38_method_24_code 3 = .ok (.if_icmp .ne 8, 3) := by decide +kernel
theorem daddH0_6 : decode jdk_38_method_24_code 6 = .ok (.aload_n 0, 1) := by decide +kernel
theorem daddH0_7 : decode jdk_38_method_24_code 7 = .ok (.invokevirtual 129, 3) := by decide +kernel
theorem daddH0_10 : decode jdk_38_method_24_code 10 = .ok (.astore_n 2, 1) := by decide +kernel
theorem daddH0_11 : decode jdk_38_method_24_code 11 = .ok (.aload_n 2, 1) := by decide +kernel
theorem daddH0_12 : decode jdk_38_method_24_code 12 = .ok (.iload_n 3, 1) := by decide +kernel
theorem daddH0_13 : decode jdk_38_method_24_code 13 = .ok (.aload_n 1, 1) := by decide +kernel
theorem daddH0_14 : decode jdk_38_method_24_code 14 = .ok (.aastore, 1) := by decide +kernel
theorem daddH0_15 : decode jdk_38_method_24_code 15 = .ok (.aload_n 0, 1) := by decide +kernel
theorem daddH0_16 : decode jdk_38_method_24_code 16 = .ok (.iload_n 3, 1) := by decide +kernel
theorem daddH0_17 : decode jdk_38_method_24_code 17 = .ok (.iconst 1, 1) := by decide +kernel
theorem daddH0_18 : decode jdk_38_method_24_code 18 = .ok (.iadd, 1) := by decide +kernel
theorem daddH0_19 : decode jdk_38_method_24_code 19 = .ok (.putfield 48, 3) := by decide +kernel
theorem daddH0_22 : decode jdk_38_method_24_code 22 = .ok (.return_, 1) := by decide +kernel
set_option maxRecDepth 65536 in
set_option maxHeartbeats 40000000 in
theorem addH0 (l : Launch) (Z : State) (a0 : Array Value) (hw : ∀ d ∈ tables_1, d.before a0 Z = true) (a : Addr) (D : Addr) (kD : ClassId) (mc : Int32) (e : Addr) (h : Heap) (n0 : Nat) (p0_ : Old Z n0 h) (p1_ : Exa Z h a "java/util/ArrayList") (p2_ : Fld Z h a "java/util/AbstractList" "modCount" "I" (.int mc)) (p3_ : Fld Z h a "java/util/ArrayList" "elementData" "[Ljava/lang/Object;" (.ref D)) (p4_ : Fld Z h a "java/util/ArrayList" "size" "I" (.int (0 : Int32))) (p5_ : n0 ≤ a) (p6_ : Sta Z Z.heap "java/util/ArrayList" "DEFAULTCAPACITY_EMPTY_ELEMENTDATA" "[Ljava/lang/Object;" (.ref D)) (p7_ : Ary Z Z.heap D kD (.object "java/lang/Object") []) (p8_ : Exa Z h e "java/lang/String") (p9_ : a ≠ e) :
    Met l (⟨"java/util/ArrayList", "add", "(Ljava/lang/Object;[Ljava/lang/Object;I)V"⟩ : MethodName) jdk_38_method_24_code 4 none [] ({ frames := 3, cells := 1, slots := 10, locals := 60 } : Room) #[(.ref a), (.ref e), (.ref D), (.int (0 : Int32))] Z h n0 (fun v h' => ∃ (ar : Addr) (kl : ClassId), v = none ∧ Keep h h' [a] ∧ h.size ≤ ar ∧ Exa Z h' a "java/util/ArrayList" ∧ Fld Z h' a "java/util/AbstractList" "modCount" "I" (.int mc) ∧ Fld Z h' a "java/util/ArrayList" "elementData" "[Ljava/lang/Object;" (.ref ar) ∧ Fld Z h' a "java/util/ArrayList" "size" "I" (.int (1 : Int32)) ∧ Ary Z h' ar kl (.object "java/lang/Object") [(.ref e), .null, .null, .null, .null, .null, .null, .null, .null, .null] ∧ Ovr Z kl "java/lang/Object") := by
  refine Met.of (plainFor_of_name (by first | (simp [plainName, overriddenIn]; done) | decide +kernel)) ?_
  intro pP eE sS mM bB tT cC K
  refine Go.entry (ls := #[.val (.ref a), .val (.ref e), .val (.ref D), .val (.int (0 : Int32))]) rfl ?_
  refine go_iloadN (q := 1) K daddH0_0 rfl rfl ?_
  refine go_aloadN (q := 2) K daddH0_1 rfl rfl rfl ?_
  refine go_arraylength (q := 3) (z := (0 : Int32)) K (p7_.ext p0_.2) rfl daddH0_2 rfl ?_
  refine go_icmp (q := 11) (q' := 6) K daddH0_3 (by decide) rfl rfl (fun hn => cN_no hn (show (0 : Int32) = (0 : Int32) from (by decide))) (fun _ => ?_)
  refine go_aloadN (q := 7) K daddH0_6 rfl rfl rfl ?_
  refine go_callP (q := 10) (W := 0) K (wd hw 131 rfl) (wd hw 133 rfl) (wd hw 129 rfl) rfl (wd hw 132 rfl) (wd hw 32 rfl) (wd hw 135 rfl) p1_ [] [] (grow0 l Z a0 hw _ _ _ _ _ n0 p0_ p1_ p2_ p3_ p4_ p5_ p6_ p7_) daddH0_7 (ps := []) (by decide +kernel) rfl rfl rfl (by decide) rfl (by decide) (by decide) (by decide) (by decide) rfl ?_
  rintro _ h1 ⟨arh1, klh1, rfl, Kh1, garh1, q0h1, q1h1, q2h1, q3h1, q4h1, q5h1⟩
  show Go pP l eE _ sS mM _ bB tT cC n0 _ h1 1 10 (mkF mM 10 #[.val (.ref a), .val (.ref e), .val (.ref D), .val (.int (0 : Int32))] [(.ref arh1)])
  refine go_astoreN (q := 11) K daddH0_10 #[.val (.ref a), .val (.ref e), .val (.ref arh1), .val (.int (0 : Int32))] rfl rfl rfl ?_
  refine go_aloadN (q := 12) K daddH0_11 rfl rfl rfl ?_
  refine go_iloadN (q := 13) K daddH0_12 rfl rfl ?_
  refine go_aloadN (q := 14) K daddH0_13 rfl rfl rfl ?_
  have f1 := (p8_.keep Kh1)
  refine go_aastore (q := 15) K q4h1 rfl (sto_of q4h1 q5h1 (Ins.of_exa f1 (wd hw 146 rfl))) (by decide) (show 0 < 10 from by decide) (Nat.le_trans (own_ge p0_) garh1) daddH0_14 rfl ?_
  intro h2 Wh2 Yh2
  refine go_aloadN (q := 16) K daddH0_15 rfl rfl rfl ?_
  refine go_iloadN (q := 17) K daddH0_16 rfl rfl ?_
  refine go_iconst (q := 18) K daddH0_17 (1 : Int32) rfl rfl ?_
  refine go_iadd (q := 19) K daddH0_18 rfl ?_
  refine go_eqI (y := (1 : Int32)) (by decide) ?_
  have f2 := (q3h1.other Wh2 (Or.inl (own_nel (p1_).lt garh1)))
  have f3 := (q0h1.wr Wh2)
  refine go_putF (q := 22) K (wd hw 114 rfl) Via.refl f2 f3 (Or.inl (wd hw 115 rfl)) (wd hw 31 rfl) (ty := .int) (by decide +kernel) rfl rfl p5_ daddH0_19 rfl ?_
  intro h3 Wh3
  refine go_return K daddH0_22 rfl (by decide) (by decide) ?_
  have f4 := ((((Keep.refl h [a]).trans Kh1 (allS (Or.inl (by simp)) all0)).wr Wh2 (Or.inr (Nat.le_trans ((Keep.refl h [a])).1 garh1))).wr Wh3 (Or.inl (by simp)))
  have f5 := (f3.wr Wh3)
  have f6 := ((q1h1.other Wh2 (Or.inl (own_nel (p1_).lt garh1))).other Wh3 (Or.inr (slot_ne (C := "java/util/ArrayList") (Or.inl (wd hw 50 rfl)) (Or.inl (wd hw 115 rfl)) (by decide) (t := .int) (t' := .int) (by decide +kernel) (by decide +kernel))))
  have f7 := ((q2h1.other Wh2 (Or.inl (own_nel (p1_).lt garh1))).other Wh3 (Or.inr (slot_ne (C := "java/util/ArrayList") (Or.inl (wd hw 53 rfl)) (Or.inl (wd hw 115 rfl)) (by decide) (t := (.array (.object "java/lang/Object"))) (t' := .int) (by decide +kernel) (by decide +kernel))))
  have f8 := (Yh2.other Wh3 ((own_nel (p1_).lt garh1)).symm)
  exact ⟨arh1, klh1, rfl, f4, (Nat.le_trans ((Keep.refl h [a])).1 garh1), f5, f6, f7, (f2.same Wh3), f8, q5h1⟩
theorem dadd0_0 : decode jdk_38_method_25_code 0 = .ok (.aload_n 0, 1) := by decide +kernel
theorem dadd0_1 : decode jdk_38_method_25_code 1 = .ok (.dup, 1) := by decide +kernel
theorem dadd0_2 : decode jdk_38_method_25_code 2 = .ok (.getfield 63, 3) := by decide +kernel
theorem dadd0_5 : decode jdk_38_method_25_code 5 = .ok (.iconst 1, 1) := by decide +kernel
theorem dadd0_6 : decode jdk_38_method_25_code 6 = .ok (.iadd, 1) := by decide +kernel
theorem dadd0_7 : decode jdk_38_method_25_code 7 = .ok (.putfield 63, 3) := by decide +kernel
theorem dadd0_10 : decode jdk_38_method_25_code 10 = .ok (.aload_n 0, 1) := by decide +kernel
theorem dadd0_11 : decode jdk_38_method_25_code 11 = .ok (.aload_n 1, 1) := by decide +kernel
theorem dadd0_12 : decode jdk_38_method_25_code 12 = .ok (.aload_n 0, 1) := by decide +kernel
theorem dadd0_13 : decode jdk_38_method_25_code 13 = .ok (.getfield 9, 3) := by decide +kernel
theorem dadd0_16 : decode jdk_38_method_25_code 16 = .ok (.aload_n 0, 1) := by decide +kernel
theorem dadd0_17 : decode jdk_38_method_25_code 17 = .ok (.getfield 48, 3) := by decide +kernel
theorem dadd0_20 : decode jdk_38_method_25_code 20 = .ok (.invokevirtual 131, 3) := by decide +kernel
theorem dadd0_23 : decode jdk_38_method_25_code 23 = .ok (.iconst 1, 1) := by decide +kernel
theorem dadd0_24 : decode jdk_38_method_25_code 24 = .ok (.ireturn, 1) := by decide +kernel
set_option maxRecDepth 65536 in
set_option maxHeartbeats 40000000 in
theorem add0 (l : Launch) (Z : State) (a0 : Array Value) (hw : ∀ d ∈ tables_1, d.before a0 Z = true) (a : Addr) (D : Addr) (kD : ClassId) (mc : Int32) (e : Addr) (h : Heap) (n0 : Nat) (p0_ : Old Z n0 h) (p1_ : Exa Z h a "java/util/ArrayList") (p2_ : Fld Z h a "java/util/AbstractList" "modCount" "I" (.int mc)) (p3_ : Fld Z h a "java/util/ArrayList" "elementData" "[Ljava/lang/Object;" (.ref D)) (p4_ : Fld Z h a "java/util/ArrayList" "size" "I" (.int (0 : Int32))) (p5_ : n0 ≤ a) (p6_ : Sta Z Z.heap "java/util/ArrayList" "DEFAULTCAPACITY_EMPTY_ELEMENTDATA" "[Ljava/lang/Object;" (.ref D)) (p7_ : Ary Z Z.heap D kD (.object "java/lang/Object") []) (p8_ : Exa Z h e "java/lang/String") (p9_ : a ≠ e) :
    Met l (⟨"java/util/ArrayList", "add", "(Ljava/lang/Object;)Z"⟩ : MethodName) jdk_38_method_25_code 2 (some .boolean) [] ({ frames := 4, cells := 1, slots := 10, locals := 80 } : Room) #[(.ref a), (.ref e)] Z h n0 (fun v h' => ∃ (ar : Addr) (kl : ClassId), v = some (.int (1 : Int32)) ∧ Keep h h' [a] ∧ h.size ≤ ar ∧ Exa Z h' a "java/util/ArrayList" ∧ Fld Z h' a "java/util/AbstractList" "modCount" "I" (.int (mc + (1 : Int32))) ∧ Fld Z h' a "java/util/ArrayList" "elementData" "[Ljava/lang/Object;" (.ref ar) ∧ Fld Z h' a "java/util/ArrayList" "size" "I" (.int (1 : Int32)) ∧ Ary Z h' ar kl (.object "java/lang/Object") [(.ref e), .null, .null, .null, .null, .null, .null, .null, .null, .null] ∧ Ovr Z kl "java/lang/Object") := by
  refine Met.of (plainFor_of_name (by first | (simp [plainName, overriddenIn]; done) | decide +kernel)) ?_
  intro pP eE sS mM bB tT cC K
  refine Go.entry (ls := #[.val (.ref a), .val (.ref e)]) rfl ?_
  refine go_aloadN (q := 1) K dadd0_0 rfl rfl rfl ?_
  refine go_dup (q := 2) K dadd0_1 rfl rfl ?_
  refine go_getF (q := 5) K (wd hw 124 rfl) (Via.of (wd hw 125 rfl)) p2_ dadd0_2 rfl ?_
  refine go_iconst (q := 6) K dadd0_5 (1 : Int32) rfl rfl ?_
  refine go_iadd (q := 7) K dadd0_6 rfl ?_
  refine go_putF (q := 10) K (wd hw 124 rfl) (Via.of (wd hw 125 rfl)) p2_ p1_ (Or.inl (wd hw 50 rfl)) (wd hw 31 rfl) (ty := .int) (by decide +kernel) rfl rfl p5_ dadd0_7 rfl ?_
  intro h1 Wh1
  refine go_aloadN (q := 11) K dadd0_10 rfl rfl rfl ?_
  refine go_aloadN (q := 12) K dadd0_11 rfl rfl rfl ?_
  refine go_aloadN (q := 13) K dadd0_12 rfl rfl rfl ?_
  have f1 := (p3_.other Wh1 (Or.inr (slot_ne (C := "java/util/ArrayList") (Or.inl (wd hw 53 rfl)) (Or.inl (wd hw 50 rfl)) (by decide) (t := (.array (.object "java/lang/Object"))) (t' := .int) (by decide +kernel) (by decide +kernel))))
  refine go_getF (q := 16) K (wd hw 52 rfl) Via.refl f1 dadd0_13 rfl ?_
  refine go_aloadN (q := 17) K dadd0_16 rfl rfl rfl ?_
  have f2 := (p4_.other Wh1 (Or.inr (slot_ne (C := "java/util/ArrayList") (Or.inl (wd hw 115 rfl)) (Or.inl (wd hw 50 rfl)) (by decide) (t := .int) (t' := .int) (by decide +kernel) (by decide +kernel))))
  refine go_getF (q := 20) K (wd hw 114 rfl) Via.refl f2 dadd0_17 rfl ?_
  have f3 := (p0_.wr Wh1 p5_)
  have f4 := (p1_.wr Wh1)
  have f5 := (p8_.wr Wh1)
  have f6 := ((Keep.refl h [a]).wr Wh1 (Or.inl (by simp)))
  refine go_callP (q := 23) (W := 0) K (wd hw 126 rfl) (wd hw 128 rfl) (wd hw 129 rfl) rfl (wd hw 127 rfl) (wd hw 32 rfl) (wd hw 130 rfl) f4 [(.ref e), (.ref D), (.int (0 : Int32))] [] (addH0 l Z a0 hw _ _ _ _ _ _ n0 f3 f4 (p2_.same Wh1) f1 f2 p5_ p6_ p7_ f5 p9_) dadd0_20 (ps := [(.object "java/lang/Object"), (.array (.object "java/lang/Object")), .int]) (by decide +kernel) rfl rfl rfl (by decide) rfl (by decide) (by decide) (by decide) (by decide) rfl ?_
  rintro _ h2 ⟨arh2, klh2, rfl, Kh2, garh2, q0h2, q1h2, q2h2, q3h2, q4h2, q5h2⟩
  show Go pP l eE _ sS mM _ bB tT cC n0 _ h2 1 10 (mkF mM 23 #[.val (.ref a), .val (.ref e)] [])
  refine go_iconst (q := 24) K dadd0_23 (1 : Int32) rfl rfl ?_
  refine go_iret K dadd0_24 rfl (Or.inr (Or.inl rfl)) rfl (by decide) (by decide) ?_
  have f7 := (f6.trans Kh2 (allS (Or.inl (by simp)) all0))
  exact ⟨arh2, klh2, rfl, f7, (Nat.le_trans (f6).1 garh2), q0h2, q1h2, q2h2, q3h2, q4h2, q5h2⟩
set_option maxRecDepth 65536 in
set_option maxHeartbeats 40000000 in
theorem addH1 (l : Launch) (Z : State) (a0 : Array Value) (hw : ∀ d ∈ tables_1, d.before a0 Z = true) (a : Addr) (ar : Addr) (kl : ClassId) (mc : Int32) (e : Addr) (e0 : Addr) (h : Heap) (n0 : Nat) (p0_ : Exa Z h a "java/util/ArrayList") (p1_ : Fld Z h a "java/util/AbstractList" "modCount" "I" (.int mc)) (p2_ : Fld Z h a "java/util/ArrayList" "elementData" "[Ljava/lang/Object;" (.ref ar)) (p3_ : Fld Z h a "java/util/ArrayList" "size" "I" (.int (1 : Int32))) (p4_ : n0 ≤ a) (p5_ : n0 ≤ ar) (p6_ : a ≠ ar) (p7_ : Ary Z h ar kl (.object "java/lang/Object") [(.ref e0), .null, .null, .null, .null, .null, .null, .null, .null, .null]) (p8_ : Ovr Z kl "java/lang/Object") (p9_ : Exa Z h e "java/lang/String") :
    Met l (⟨"java/util/ArrayList", "add", "(Ljava/lang/Object;[Ljava/lang/Object;I)V"⟩ : MethodName) jdk_38_method_24_code 4 none [] ({ frames := 0, cells := 0, slots := 0, locals := 0 } : Room) #[(.ref a), (.ref e), (.ref ar), (.int (1 : Int32))] Z h n0 (fun v h' => v = none ∧ Keep h h' [a, ar] ∧ Exa Z h' a "java/util/ArrayList" ∧ Fld Z h' a "java/util/AbstractList" "modCount" "I" (.int mc) ∧ Fld Z h' a "java/util/ArrayList" "elementData" "[Ljava/lang/Object;" (.ref ar) ∧ Fld Z h' a "java/util/ArrayList" "size" "I" (.int (2 : Int32)) ∧ Ary Z h' ar kl (.object "java/lang/Object") [(.ref e0), (.ref e), .null, .null, .null, .null, .null, .null, .null, .null]) := by
  refine Met.of (plainFor_of_name (by first | (simp [plainName, overriddenIn]; done) | decide +kernel)) ?_
  intro pP eE sS mM bB tT cC K
  refine Go.entry (ls := #[.val (.ref a), .val (.ref e), .val (.ref ar), .val (.int (1 : Int32))]) rfl ?_
  refine go_iloadN (q := 1) K daddH0_0 rfl rfl ?_
  refine go_aloadN (q := 2) K daddH0_1 rfl rfl rfl ?_
  refine go_arraylength (q := 3) (z := (10 : Int32)) K p7_ rfl daddH0_2 rfl ?_
  refine go_icmp (q := 11) (q' := 6) K daddH0_3 (by decide) rfl rfl (fun _ => ?_) (fun hn => cN_no2 hn (show ¬ (1 : Int32) = (10 : Int32) from (by decide)))
  refine go_aloadN (q := 12) K daddH0_11 rfl rfl rfl ?_
  refine go_iloadN (q := 13) K daddH0_12 rfl rfl ?_
  refine go_aloadN (q := 14) K daddH0_13 rfl rfl rfl ?_
  refine go_aastore (q := 15) K p7_ rfl (sto_of p7_ p8_ (Ins.of_exa p9_ (wd hw 146 rfl))) (by decide) (show 1 < 10 from by decide) p5_ daddH0_14 rfl ?_
  intro h1 Wh1 Yh1
  refine go_aloadN (q := 16) K daddH0_15 rfl rfl rfl ?_
  refine go_iloadN (q := 17) K daddH0_16 rfl rfl ?_
  refine go_iconst (q := 18) K daddH0_17 (1 : Int32) rfl rfl ?_
  refine go_iadd (q := 19) K daddH0_18 rfl ?_
  refine go_eqI (y := (2 : Int32)) (by decide) ?_
  have f1 := (p3_.other Wh1 (Or.inl p6_))
  have f2 := (p0_.wr Wh1)
  refine go_putF (q := 22) K (wd hw 114 rfl) Via.refl f1 f2 (Or.inl (wd hw 115 rfl)) (wd hw 31 rfl) (ty := .int) (by decide +kernel) rfl rfl p4_ daddH0_19 rfl ?_
  intro h2 Wh2
  refine go_return K daddH0_22 rfl (by decide) (by decide) ?_
  have f3 := (((Keep.refl h [a, ar]).wr Wh1 (Or.inl (by simp))).wr Wh2 (Or.inl (by simp)))
  have f4 := (f2.wr Wh2)
  have f5 := ((p1_.other Wh1 (Or.inl p6_)).other Wh2 (Or.inr (slot_ne (C := "java/util/ArrayList") (Or.inl (wd hw 50 rfl)) (Or.inl (wd hw 115 rfl)) (by decide) (t := .int) (t' := .int) (by decide +kernel) (by decide +kernel))))
  have f6 := ((p2_.other Wh1 (Or.inl p6_)).other Wh2 (Or.inr (slot_ne (C := "java/util/ArrayList") (Or.inl (wd hw 53 rfl)) (Or.inl (wd hw 115 rfl)) (by decide) (t := (.array (.object "java/lang/Object"))) (t' := .int) (by decide +kernel) (by decide +kernel))))
  have f7 := (Yh1.other Wh2 (p6_).symm)
  exact ⟨rfl, f3, f4, f5, f6, (f1.same Wh2), f7⟩
set_option maxRecDepth 65536 in
set_option maxHeartbeats 40000000 in
theorem add1 (l : Launch) (Z : State) (a0 : Array Value) (hw : ∀ d ∈ tables_1, d.before a0 Z = true) (a : Addr) (ar : Addr) (kl : ClassId) (mc : Int32) (e : Addr) (e0 : Addr) (h : Heap) (n0 : Nat) (p0_ : Exa Z h a "java/util/ArrayList") (p1_ : Fld Z h a "java/util/AbstractList" "modCount" "I" (.int mc)) (p2_ : Fld Z h a "java/util/ArrayList" "elementData" "[Ljava/lang/Object;" (.ref ar)) (p3_ : Fld Z h a "java/util/ArrayList" "size" "I" (.int (1 : Int32))) (p4_ : n0 ≤ a) (p5_ : n0 ≤ ar) (p6_ : a ≠ ar) (p7_ : Ary Z h ar kl (.object "java/lang/Object") [(.ref e0), .null, .null, .null, .null, .null, .null, .null, .null, .null]) (p8_ : Ovr Z kl "java/lang/Object") (p9_ : Exa Z h e "java/lang/String") :
    Met l (⟨"java/util/ArrayList", "add", "(Ljava/lang/Object;)Z"⟩ : MethodName) jdk_38_method_25_code 2 (some .boolean) [] ({ frames := 1, cells := 0, slots := 0, locals := 20 } : Room) #[(.ref a), (.ref e)] Z h n0 (fun v h' => v = some (.int (1 : Int32)) ∧ Keep h h' [a, ar] ∧ Exa Z h' a "java/util/ArrayList" ∧ Fld Z h' a "java/util/AbstractList" "modCount" "I" (.int (mc + (1 : Int32))) ∧ Fld Z h' a "java/util/ArrayList" "elementData" "[Ljava/lang/Object;" (.ref ar) ∧ Fld Z h' a "java/util/ArrayList" "size" "I" (.int (2 : Int32)) ∧ Ary Z h' ar kl (.object "java/lang/Object") [(.ref e0), (.ref e), .null, .null, .null, .null, .null, .null, .null, .null]) := by
  refine Met.of (plainFor_of_name (by first | (simp [plainName, overriddenIn]; done) | decide +kernel)) ?_
  intro pP eE sS mM bB tT cC K
  refine Go.entry (ls := #[.val (.ref a), .val (.ref e)]) rfl ?_
  refine go_aloadN (q := 1) K dadd0_0 rfl rfl rfl ?_
  refine go_dup (q := 2) K dadd0_1 rfl rfl ?_
  refine go_getF (q := 5) K (wd hw 124 rfl) (Via.of (wd hw 125 rfl)) p1_ dadd0_2 rfl ?_
  refine go_iconst (q := 6) K dadd0_5 (1 : Int32) rfl rfl ?_
  refine go_iadd (q := 7) K dadd0_6 rfl ?_
  refine go_putF (q := 10) K (wd hw 124 rfl) (Via.of (wd hw 125 rfl)) p1_ p0_ (Or.inl (wd hw 50 rfl)) (wd hw 31 rfl) (ty := .int) (by decide +kernel) rfl rfl p4_ dadd0_7 rfl ?_
  intro h1 Wh1
  refine go_aloadN (q := 11) K dadd0_10 rfl rfl rfl ?_
  refine go_aloadN (q := 12) K dadd0_11 rfl rfl rfl ?_
  refine go_aloadN (q := 13) K dadd0_12 rfl rfl rfl ?_
  have f1 := (p2_.other Wh1 (Or.inr (slot_ne (C := "java/util/ArrayList") (Or.inl (wd hw 53 rfl)) (Or.inl (wd hw 50 rfl)) (by decide) (t := (.array (.object "java/lang/Object"))) (t' := .int) (by decide +kernel) (by decide +kernel))))
  refine go_getF (q := 16) K (wd hw 52 rfl) Via.refl f1 dadd0_13 rfl ?_
  refine go_aloadN (q := 17) K dadd0_16 rfl rfl rfl ?_
  have f2 := (p3_.other Wh1 (Or.inr (slot_ne (C := "java/util/ArrayList") (Or.inl (wd hw 115 rfl)) (Or.inl (wd hw 50 rfl)) (by decide) (t := .int) (t' := .int) (by decide +kernel) (by decide +kernel))))
  refine go_getF (q := 20) K (wd hw 114 rfl) Via.refl f2 dadd0_17 rfl ?_
  have f3 := (p0_.wr Wh1)
  have f4 := (p7_.other Wh1 (p6_).symm)
  have f5 := (p9_.wr Wh1)
  refine go_callP (q := 23) (W := 0) K (wd hw 126 rfl) (wd hw 128 rfl) (wd hw 129 rfl) rfl (wd hw 127 rfl) (wd hw 32 rfl) (wd hw 130 rfl) f3 [(.ref e), (.ref ar), (.int (1 : Int32))] [] (addH1 l Z a0 hw _ _ _ _ _ _ _ n0 f3 (p1_.same Wh1) f1 f2 p4_ p5_ p6_ f4 p8_ f5) dadd0_20 (ps := [(.object "java/lang/Object"), (.array (.object "java/lang/Object")), .int]) (by decide +kernel) rfl rfl rfl (by decide) rfl (by decide) (by decide) (by decide) (by decide) rfl ?_
  rintro _ h2 ⟨rfl, Kh2, q0h2, q1h2, q2h2, q3h2, q4h2⟩
  show Go pP l eE _ sS mM _ bB tT cC n0 _ h2 0 0 (mkF mM 23 #[.val (.ref a), .val (.ref e)] [])
  refine go_iconst (q := 24) K dadd0_23 (1 : Int32) rfl rfl ?_
  refine go_iret K dadd0_24 rfl (Or.inr (Or.inl rfl)) rfl (by decide) (by decide) ?_
  have f6 := (((Keep.refl h [a, ar]).wr Wh1 (Or.inl (by simp))).trans Kh2 (allS (Or.inl (by simp)) (allS (Or.inl (by simp)) all0)))
  exact ⟨rfl, f6, q0h2, q1h2, q2h2, q3h2, q4h2⟩
set_option maxRecDepth 65536 in
set_option maxHeartbeats 40000000 in
theorem addH2 (l : Launch) (Z : State) (a0 : Array Value) (hw : ∀ d ∈ tables_1, d.before a0 Z = true) (a : Addr) (ar : Addr) (kl : ClassId) (mc : Int32) (e : Addr) (e0 : Addr) (e1 : Addr) (h : Heap) (n0 : Nat) (p0_ : Exa Z h a "java/util/ArrayList") (p1_ : Fld Z h a "java/util/AbstractList" "modCount" "I" (.int mc)) (p2_ : Fld Z h a "java/util/ArrayList" "elementData" "[Ljava/lang/Object;" (.ref ar)) (p3_ : Fld Z h a "java/util/ArrayList" "size" "I" (.int (2 : Int32))) (p4_ : n0 ≤ a) (p5_ : n0 ≤ ar) (p6_ : a ≠ ar) (p7_ : Ary Z h ar kl (.object "java/lang/Object") [(.ref e0), (.ref e1), .null, .null, .null, .null, .null, .null, .null, .null]) (p8_ : Ovr Z kl "java/lang/Object") (p9_ : Exa Z h e "java/lang/String") :
    Met l (⟨"java/util/ArrayList", "add", "(Ljava/lang/Object;[Ljava/lang/Object;I)V"⟩ : MethodName) jdk_38_method_24_code 4 none [] ({ frames := 0, cells := 0, slots := 0, locals := 0 } : Room) #[(.ref a), (.ref e), (.ref ar), (.int (2 : Int32))] Z h n0 (fun v h' => v = none ∧ Keep h h' [a, ar] ∧ Exa Z h' a "java/util/ArrayList" ∧ Fld Z h' a "java/util/AbstractList" "modCount" "I" (.int mc) ∧ Fld Z h' a "java/util/ArrayList" "elementData" "[Ljava/lang/Object;" (.ref ar) ∧ Fld Z h' a "java/util/ArrayList" "size" "I" (.int (3 : Int32)) ∧ Ary Z h' ar kl (.object "java/lang/Object") [(.ref e0), (.ref e1), (.ref e), .null, .null, .null, .null, .null, .null, .null]) := by
  refine Met.of (plainFor_of_name (by first | (simp [plainName, overriddenIn]; done) | decide +kernel)) ?_
  intro pP eE sS mM bB tT cC K
  refine Go.entry (ls := #[.val (.ref a), .val (.ref e), .val (.ref ar), .val (.int (2 : Int32))]) rfl ?_
  refine go_iloadN (q := 1) K daddH0_0 rfl rfl ?_
  refine go_aloadN (q := 2) K daddH0_1 rfl rfl rfl ?_
  refine go_arraylength (q := 3) (z := (10 : Int32)) K p7_ rfl daddH0_2 rfl ?_
  refine go_icmp (q := 11) (q' := 6) K daddH0_3 (by decide) rfl rfl (fun _ => ?_) (fun hn => cN_no2 hn (show ¬ (2 : Int32) = (10 : Int32) from (by decide)))
  refine go_aloadN (q := 12) K daddH0_11 rfl rfl rfl ?_
  refine go_iloadN (q := 13) K daddH0_12 rfl rfl ?_
  refine go_aloadN (q := 14) K daddH0_13 rfl rfl rfl ?_
  refine go_aastore (q := 15) K p7_ rfl (sto_of p7_ p8_ (Ins.of_exa p9_ (wd hw 146 rfl))) (by decide) (show 2 < 10 from by decide) p5_ daddH0_14 rfl ?_
  intro h1 Wh1 Yh1
  refine go_aloadN (q := 16) K daddH0_15 rfl rfl rfl ?_
  refine go_iloadN (q := 17) K daddH0_16 rfl rfl ?_
  refine go_iconst (q := 18) K daddH0_17 (1 : Int32) rfl rfl ?_
  refine go_iadd (q := 19) K daddH0_18 rfl ?_
  refine go_eqI (y := (3 : Int32)) (by decide) ?_
  have f1 := (p3_.other Wh1 (Or.inl p6_))
  have f2 := (p0_.wr Wh1)
  refine go_putF (q := 22) K (wd hw 114 rfl) Via.refl f1 f2 (Or.inl (wd hw 115 rfl)) (wd hw 31 rfl) (ty := .int) (by decide +kernel) rfl rfl p4_ daddH0_19 rfl ?_
  intro h2 Wh2
  refine go_return K daddH0_22 rfl (by decide) (by decide) ?_
  have f3 := (((Keep.refl h [a, ar]).wr Wh1 (Or.inl (by simp))).wr Wh2 (Or.inl (by simp)))
  have f4 := (f2.wr Wh2)
  have f5 := ((p1_.other Wh1 (Or.inl p6_)).other Wh2 (Or.inr (slot_ne (C := "java/util/ArrayList") (Or.inl (wd hw 50 rfl)) (Or.inl (wd hw 115 rfl)) (by decide) (t := .int) (t' := .int) (by decide +kernel) (by decide +kernel))))
  have f6 := ((p2_.other Wh1 (Or.inl p6_)).other Wh2 (Or.inr (slot_ne (C := "java/util/ArrayList") (Or.inl (wd hw 53 rfl)) (Or.inl (wd hw 115 rfl)) (by decide) (t := (.array (.object "java/lang/Object"))) (t' := .int) (by decide +kernel) (by decide +kernel))))
  have f7 := (Yh1.other Wh2 (p6_).symm)
  exact ⟨rfl, f3, f4, f5, f6, (f1.same Wh2), f7⟩
set_option maxRecDepth 65536 in
set_option maxHeartbeats 40000000 in
theorem add2 (l : Launch) (Z : State) (a0 : Array Value) (hw : ∀ d ∈ tables_1, d.before a0 Z = true) (a : Addr) (ar : Addr) (kl : ClassId) (mc : Int32) (e : Addr) (e0 : Addr) (e1 : Addr) (h : Heap) (n0 : Nat) (p0_ : Exa Z h a "java/util/ArrayList") (p1_ : Fld Z h a "java/util/AbstractList" "modCount" "I" (.int mc)) (p2_ : Fld Z h a "java/util/ArrayList" "elementData" "[Ljava/lang/Object;" (.ref ar)) (p3_ : Fld Z h a "java/util/ArrayList" "size" "I" (.int (2 : Int32))) (p4_ : n0 ≤ a) (p5_ : n0 ≤ ar) (p6_ : a ≠ ar) (p7_ : Ary Z h ar kl (.object "java/lang/Object") [(.ref e0), (.ref e1), .null, .null, .null, .null, .null, .null, .null, .null]) (p8_ : Ovr Z kl "java/lang/Object") (p9_ : Exa Z h e "java/lang/String") :
    Met l (⟨"java/util/ArrayList", "add", "(Ljava/lang/Object;)Z"⟩ : MethodName) jdk_38_method_25_code 2 (some .boolean) [] ({ frames := 1, cells := 0, slots := 0, locals := 20 } : Room) #[(.ref a), (.ref e)] Z h n0 (fun v h' => v = some (.int (1 : Int32)) ∧ Keep h h' [a, ar] ∧ Exa Z h' a "java/util/ArrayList" ∧ Fld Z h' a "java/util/AbstractList" "modCount" "I" (.int (mc + (1 : Int32))) ∧ Fld Z h' a "java/util/ArrayList" "elementData" "[Ljava/lang/Object;" (.ref ar) ∧ Fld Z h' a "java/util/ArrayList" "size" "I" (.int (3 : Int32)) ∧ Ary Z h' ar kl (.object "java/lang/Object") [(.ref e0), (.ref e1), (.ref e), .null, .null, .null, .null, .null, .null, .null]) := by
  refine Met.of (plainFor_of_name (by first | (simp [plainName, overriddenIn]; done) | decide +kernel)) ?_
  intro pP eE sS mM bB tT cC K
  refine Go.entry (ls := #[.val (.ref a), .val (.ref e)]) rfl ?_
  refine go_aloadN (q := 1) K dadd0_0 rfl rfl rfl ?_
  refine go_dup (q := 2) K dadd0_1 rfl rfl ?_
  refine go_getF (q := 5) K (wd hw 124 rfl) (Via.of (wd hw 125 rfl)) p1_ dadd0_2 rfl ?_
  refine go_iconst (q := 6) K dadd0_5 (1 : Int32) rfl rfl ?_
  refine go_iadd (q := 7) K dadd0_6 rfl ?_
  refine go_putF (q := 10) K (wd hw 124 rfl) (Via.of (wd hw 125 rfl)) p1_ p0_ (Or.inl (wd hw 50 rfl)) (wd hw 31 rfl) (ty := .int) (by decide +kernel) rfl rfl p4_ dadd0_7 rfl ?_
  intro h1 Wh1
  refine go_aloadN (q := 11) K dadd0_10 rfl rfl rfl ?_
  refine go_aloadN (q := 12) K dadd0_11 rfl rfl rfl ?_
  refine go_aloadN (q := 13) K dadd0_12 rfl rfl rfl ?_
  have f1 := (p2_.other Wh1 (Or.inr (slot_ne (C := "java/util/ArrayList") (Or.inl (wd hw 53 rfl)) (Or.inl (wd hw 50 rfl)) (by decide) (t := (.array (.object "java/lang/Object"))) (t' := .int) (by decide +kernel) (by decide +kernel))))
  refine go_getF (q := 16) K (wd hw 52 rfl) Via.refl f1 dadd0_13 rfl ?_
  refine go_aloadN (q := 17) K dadd0_16 rfl rfl rfl ?_
  have f2 := (p3_.other Wh1 (Or.inr (slot_ne (C := "java/util/ArrayList") (Or.inl (wd hw 115 rfl)) (Or.inl (wd hw 50 rfl)) (by decide) (t := .int) (t' := .int) (by decide +kernel) (by decide +kernel))))
  refine go_getF (q := 20) K (wd hw 114 rfl) Via.refl f2 dadd0_17 rfl ?_
  have f3 := (p0_.wr Wh1)
  have f4 := (p7_.other Wh1 (p6_).symm)
  have f5 := (p9_.wr Wh1)
  refine go_callP (q := 23) (W := 0) K (wd hw 126 rfl) (wd hw 128 rfl) (wd hw 129 rfl) rfl (wd hw 127 rfl) (wd hw 32 rfl) (wd hw 130 rfl) f3 [(.ref e), (.ref ar), (.int (2 : Int32))] [] (addH2 l Z a0 hw _ _ _ _ _ _ _ _ n0 f3 (p1_.same Wh1) f1 f2 p4_ p5_ p6_ f4 p8_ f5) dadd0_20 (ps := [(.object "java/lang/Object"), (.array (.object "java/lang/Object")), .int]) (by decide +kernel) rfl rfl rfl (by decide) rfl (by decide) (by decide) (by decide) (by decide) rfl ?_
  rintro _ h2 ⟨rfl, Kh2, q0h2, q1h2, q2h2, q3h2, q4h2⟩
  show Go pP l eE _ sS mM _ bB tT cC n0 _ h2 0 0 (mkF mM 23 #[.val (.ref a), .val (.ref e)] [])
  refine go_iconst (q := 24) K dadd0_23 (1 : Int32) rfl rfl ?_
  refine go_iret K dadd0_24 rfl (Or.inr (Or.inl rfl)) rfl (by decide) (by decide) ?_
  have f6 := (((Keep.refl h [a, ar]).wr Wh1 (Or.inl (by simp))).trans Kh2 (allS (Or.inl (by simp)) (allS (Or.inl (by simp)) all0)))
  exact ⟨rfl, f6, q0h2, q1h2, q2h2, q3h2, q4h2⟩
theorem dalSize_0 : decode jdk_38_method_8_code 0 = .ok (.aload_n 0, 1) := by decide +kernel
theorem dalSize_1 : decode jdk_38_method_8_code 1 = .ok (.getfield 48, 3) := by decide +kernel
theorem dalSize_4 : decode jdk_38_method_8_code 4 = .ok (.ireturn, 1) := by decide +kernel
set_option maxRecDepth 65536 in
set_option maxHeartbeats 40000000 in
theorem alSize (l : Launch) (Z : State) (a0 : Array Value) (hw : ∀ d ∈ tables_1, d.before a0 Z = true) (a : Addr) (n : Int32) (h : Heap) (n0 : Nat) (p0_ : Fld Z h a "java/util/ArrayList" "size" "I" (.int n)) :
    Met l (⟨"java/util/ArrayList", "size", "()I"⟩ : MethodName) jdk_38_method_8_code 1 (some .int) [] ({ frames := 0, cells := 0, slots := 0, locals := 0 } : Room) #[(.ref a)] Z h n0 (fun v h' => v = some (.int n) ∧ h = h') := by
  refine Met.of (plainFor_of_name (by first | (simp [plainName, overriddenIn]; done) | decide +kernel)) ?_
  intro pP eE sS mM bB tT cC K
  refine Go.entry (ls := #[.val (.ref a)]) rfl ?_
  refine go_aloadN (q := 1) K dalSize_0 rfl rfl rfl ?_
  refine go_getF (q := 4) K (wd hw 114 rfl) Via.refl p0_ dalSize_1 rfl ?_
  refine go_iret K dalSize_4 rfl (Or.inl rfl) rfl (by decide) (by decide) ?_
  exact ⟨rfl, rfl⟩
theorem dpreCk_0 : decode jdk_41_method_11_code 0 = .ok (.iload_n 0, 1) := by decide +kernel
theorem dpreCk_1 : decode jdk_41_method_11_code 1 = .ok (.ifCond .lt 8, 3) := by decide +kernel
theorem dpreCk_4 : decode jdk_41_method_11_code 4 = .ok (.iload_n 0, 1) := by decide +kernel
theorem dpreCk_5 : decode jdk_41_method_11_code 5 = .ok (.iload_n 1, 1) := by decide +kernel
theorem dpreCk_6 : decode jdk_41_method_11_code 6 = .ok (.if_icmp .lt 10, 3) := by decide +kernel
theorem dpreCk_9 : decode jdk_41_method_11_code 9 = .ok (.aload_n 2, 1) := by decide +kernel
theorem dpreCk_10 : decode jdk_41_method_11_code 10 = .ok (.iload_n 0, 1) := by decide +kernel
theorem dpreCk_11 : decode jdk_41_method_11_code 11 = .ok (.iload_n 1, 1) := by decide +kernel
theorem dpreCk_12 : decode jdk_41_method_11_code 12 = .ok (.invokestatic 95, 3) := by decide +kernel
theorem dpreCk_15 : decode jdk_41_method_11_code 15 = .ok (.athrow, 1) := by decide +kernel
theorem dpreCk_16 : decode jdk_41_method_11_code 16 = .ok (.iload_n 0, 1) := by decide +kernel
theorem dpreCk_17 : decode jdk_41_method_11_code 17 = .ok (.ireturn, 1) := by decide +kernel
set_option maxRecDepth 65536 in
set_option maxHeartbeats 40000000 in
theorem preCk (l : Launch) (Z : State) (a0 : Array Value) (hw : ∀ d ∈ tables_1, d.before a0 Z = true) (i : Int32) (n : Int32) (h : Heap) (n0 : Nat) (hi0 : ¬ i < (0 : Int32)) (hin : i < n) :
    Met l (⟨"jdk/internal/util/Preconditions", "checkIndex", "(IILjava/util/function/BiFunction;)I"⟩ : MethodName) jdk_41_method_11_code 3 (some .int) [] ({ frames := 0, cells := 0, slots := 0, locals := 0 } : Room) #[(.int i), (.int n), .null] Z h n0 (fun v h' => v = some (.int i) ∧ h = h') := by
  refine Met.of (plainFor_of_name (by first | (simp [plainName, overriddenIn]; done) | decide +kernel)) ?_
  intro pP eE sS mM bB tT cC K
  refine Go.entry (ls := #[.val (.int i), .val (.int n), .val .null]) rfl ?_
  refine go_iloadN (q := 1) K dpreCk_0 rfl rfl ?_
  refine go_if0 (q := 9) (q' := 4) K dpreCk_1 (by decide) rfl rfl (fun hn => cN_no hn (show ¬ i < (0 : Int32) from hi0)) (fun _ => ?_)
  refine go_iloadN (q := 5) K dpreCk_4 rfl rfl ?_
  refine go_iloadN (q := 6) K dpreCk_5 rfl rfl ?_
  refine go_icmp (q := 16) (q' := 9) K dpreCk_6 (by decide) rfl rfl (fun _ => ?_) (fun hn => cN_no2 hn (show i < n from hin))
  refine go_iloadN (q := 17) K dpreCk_16 rfl rfl ?_
  refine go_iret K dpreCk_17 rfl (Or.inl rfl) rfl (by decide) (by decide) ?_
  exact ⟨rfl, rfl⟩
theorem dobjCk_0 : decode jdk_31_method_17_code 0 = .ok (.iload_n 0, 1) := by decide +kernel
theorem dobjCk_1 : decode jdk_31_method_17_code 1 = .ok (.iload_n 1, 1) := by decide +kernel
theorem dobjCk_2 : decode jdk_31_method_17_code 2 = .ok (.aconst_null, 1) := by decide +kernel
theorem dobjCk_3 : decode jdk_31_method_17_code 3 = .ok (.invokestatic 105, 3) := by decide +kernel
theorem dobjCk_6 : decode jdk_31_method_17_code 6 = .ok (.ireturn, 1) := by decide +kernel
set_option maxRecDepth 65536 in
set_option maxHeartbeats 40000000 in
theorem objCk (l : Launch) (Z : State) (a0 : Array Value) (hw : ∀ d ∈ tables_1, d.before a0 Z = true) (i : Int32) (n : Int32) (h : Heap) (n0 : Nat) (hi0 : ¬ i < (0 : Int32)) (hin : i < n) :
    Met l (⟨"java/util/Objects", "checkIndex", "(II)I"⟩ : MethodName) jdk_31_method_17_code 2 (some .int) [] ({ frames := 1, cells := 0, slots := 0, locals := 16 } : Room) #[(.int i), (.int n)] Z h n0 (fun v h' => v = some (.int i) ∧ h = h') := by
  refine Met.of (plainFor_of_name (by first | (simp [plainName, overriddenIn]; done) | decide +kernel)) ?_
  intro pP eE sS mM bB tT cC K
  refine Go.entry (ls := #[.val (.int i), .val (.int n)]) rfl ?_
  refine go_iloadN (q := 1) K dobjCk_0 rfl rfl ?_
  refine go_iloadN (q := 2) K dobjCk_1 rfl rfl ?_
  refine go_aconst_null (q := 3) K dobjCk_2 rfl ?_
  refine go_callS (q := 6) (W := 0) K (wd hw 164 rfl) (wd hw 165 rfl) (wd hw 166 rfl) (wd hw 167 rfl) [(.int i), (.int n), .null] [] (preCk l Z a0 hw _ _ _ n0 (by assumption) (by assumption)) dobjCk_3 (ps := [.int, .int, (.object "java/util/function/BiFunction")]) (by decide +kernel) rfl rfl rfl (by decide) rfl (by decide) (by decide) (by decide) (by decide) rfl ?_
  rintro _ _ ⟨rfl, rfl⟩
  show Go pP l eE _ sS mM _ bB tT cC n0 _ h 0 0 (mkF mM 6 #[.val (.int i), .val (.int n)] [(.int i)])
  refine go_iret K dobjCk_6 rfl (Or.inl rfl) rfl (by decide) (by decide) ?_
  exact ⟨rfl, rfl⟩
theorem delData_0 : decode jdk_38_method_18_code 0 = .ok (.aload_n 0, 1) := by decide +kernel
theorem delData_1 : decode jdk_38_method_18_code 1 = .ok (.getfield 9, 3) := by decide +kernel
theorem delData_4 : decode jdk_38_method_18_code 4 = .ok (.iload_n 1, 1) := by decide +kernel
theorem delData_5 : decode jdk_38_method_18_code 5 = .ok (.aaload, 1) := by decide +kernel
theorem delData_6 : decode jdk_38_method_18_code 6 = .ok (.areturn, 1) := by decide +kernel
set_option maxRecDepth 65536 in
set_option maxHeartbeats 40000000 in
theorem elData (l : Launch) (Z : State) (a0 : Array Value) (hw : ∀ d ∈ tables_1, d.before a0 Z = true) (a : Addr) (ar : Addr) (kl : ClassId) (vs : List Value) (i : Int32) (e : Addr) (h : Heap) (n0 : Nat) (p0_ : Fld Z h a "java/util/ArrayList" "elementData" "[Ljava/lang/Object;" (.ref ar)) (p1_ : Ary Z h ar kl (.object "java/lang/Object") vs) (hi0 : ¬ i < (0 : Int32)) (hvs : vs[i.toNatClampNeg]? = some (.ref e)) :
    Met l (⟨"java/util/ArrayList", "elementData", "(I)Ljava/lang/Object;"⟩ : MethodName) jdk_38_method_18_code 2 (some (.object "java/lang/Object")) [] ({ frames := 0, cells := 0, slots := 0, locals := 0 } : Room) #[(.ref a), (.int i)] Z h n0 (fun v h' => v = some (.ref e) ∧ h = h') := by
  refine Met.of (plainFor_of_name (by first | (simp [plainName, overriddenIn]; done) | decide +kernel)) ?_
  intro pP eE sS mM bB tT cC K
  refine Go.entry (ls := #[.val (.ref a), .val (.int i)]) rfl ?_
  refine go_aloadN (q := 1) K delData_0 rfl rfl rfl ?_
  refine go_getF (q := 4) K (wd hw 52 rfl) Via.refl p0_ delData_1 rfl ?_
  refine go_iloadN (q := 5) K delData_4 rfl rfl ?_
  refine go_aaload (q := 6) K p1_ rfl rfl hi0 hvs delData_5 rfl ?_
  refine go_aret K delData_6 rfl rfl rfl rfl (by decide) (by decide) ?_
  exact ⟨rfl, rfl⟩
theorem dalGet_0 : decode jdk_38_method_20_code 0 = .ok (.iload_n 1, 1) := by decide +kernel
theorem dalGet_1 : decode jdk_38_method_20_code 1 = .ok (.aload_n 0, 1) := by decide +kernel
theorem dalGet_2 : decode jdk_38_method_20_code 2 = .ok (.getfield 48, 3) := by decide +kernel
theorem dalGet_5 : decode jdk_38_method_20_code 5 = .ok (.invokestatic 118, 3) := by decide +kernel
theorem dalGet_8 : decode jdk_38_method_20_code 8 = .ok (.pop, 1) := by decide +kernel
theorem dalGet_9 : decode jdk_38_method_20_code 9 = .ok (.aload_n 0, 1) := by decide +kernel
theorem dalGet_10 : decode jdk_38_method_20_code 10 = .ok (.iload_n 1, 1) := by decide +kernel
theorem dalGet_11 : decode jdk_38_method_20_code 11 = .ok (.invokevirtual 123, 3) := by decide +kernel
theorem dalGet_14 : decode jdk_38_method_20_code 14 = .ok (.areturn, 1) := by decide +kernel
set_option maxRecDepth 65536 in
set_option maxHeartbeats 40000000 in
theorem alGet (l : Launch) (Z : State) (a0 : Array Value) (hw : ∀ d ∈ tables_1, d.before a0 Z = true) (a : Addr) (ar : Addr) (kl : ClassId) (vs : List Value) (i : Int32) (e : Addr) (n : Int32) (h : Heap) (n0 : Nat) (p0_ : Exa Z h a "java/util/ArrayList") (p1_ : Fld Z h a "java/util/ArrayList" "elementData" "[Ljava/lang/Object;" (.ref ar)) (p2_ : Ary Z h ar kl (.object "java/lang/Object") vs) (hi0 : ¬ i < (0 : Int32)) (hvs : vs[i.toNatClampNeg]? = some (.ref e)) (p5_ : Fld Z h a "java/util/ArrayList" "size" "I" (.int n)) (hin : i < n) :
    Met l (⟨"java/util/ArrayList", "get", "(I)Ljava/lang/Object;"⟩ : MethodName) jdk_38_method_20_code 2 (some (.object "java/lang/Object")) [] ({ frames := 2, cells := 0, slots := 0, locals := 40 } : Room) #[(.ref a), (.int i)] Z h n0 (fun v h' => v = some (.ref e) ∧ h = h') := by
  refine Met.of (plainFor_of_name (by first | (simp [plainName, overriddenIn]; done) | decide +kernel)) ?_
  intro pP eE sS mM bB tT cC K
  refine Go.entry (ls := #[.val (.ref a), .val (.int i)]) rfl ?_
  refine go_iloadN (q := 1) K dalGet_0 rfl rfl ?_
  refine go_aloadN (q := 2) K dalGet_1 rfl rfl rfl ?_
  refine go_getF (q := 5) K (wd hw 114 rfl) Via.refl p5_ dalGet_2 rfl ?_
  refine go_callS (q := 8) (W := 0) K (wd hw 160 rfl) (wd hw 161 rfl) (wd hw 162 rfl) (wd hw 163 rfl) [(.int i), (.int n)] [] (objCk l Z a0 hw _ _ _ n0 (by assumption) (by assumption)) dalGet_5 (ps := [.int, .int]) (by decide +kernel) rfl rfl rfl (by decide) rfl (by decide) (by decide) (by decide) (by decide) rfl ?_
  rintro _ _ ⟨rfl, rfl⟩
  show Go pP l eE _ sS mM _ bB tT cC n0 _ h 0 0 (mkF mM 8 #[.val (.ref a), .val (.int i)] [(.int i)])
  refine go_pop (q := 9) K dalGet_8 rfl rfl ?_
  refine go_aloadN (q := 10) K dalGet_9 rfl rfl rfl ?_
  refine go_iloadN (q := 11) K dalGet_10 rfl rfl ?_
  refine go_callV (q := 14) (W := 0) K (wd hw 168 rfl) (wd hw 169 rfl) (wd hw 171 rfl) (wd hw 170 rfl) (wd hw 32 rfl) (wd hw 172 rfl) (wd hw 129 rfl) rfl p0_ [(.int i)] [] (elData l Z a0 hw _ _ _ _ _ _ _ n0 p1_ p2_ (by assumption) (by assumption)) dalGet_11 (ps := [.int]) (by decide +kernel) rfl rfl rfl (by decide) rfl (by decide) (by decide) (by decide) (by decide) rfl ?_
  rintro _ _ ⟨rfl, rfl⟩
  show Go pP l eE _ sS mM _ bB tT cC n0 _ h 0 0 (mkF mM 14 #[.val (.ref a), .val (.int i)] [(.ref e)])
  refine go_aret K dalGet_14 rfl rfl rfl rfl (by decide) (by decide) ?_
  exact ⟨rfl, rfl⟩
theorem damInit_0 : decode jdk_71_method_1_code 0 = .ok (.aload_n 0, 1) := by decide +kernel
theorem damInit_1 : decode jdk_71_method_1_code 1 = .ok (.invokespecial 1, 3) := by decide +kernel
theorem damInit_4 : decode jdk_71_method_1_code 4 = .ok (.return_, 1) := by decide +kernel
set_option maxRecDepth 65536 in
set_option maxHeartbeats 40000000 in
theorem amInit (l : Launch) (Z : State) (a0 : Array Value) (hw : ∀ d ∈ tables_1, d.before a0 Z = true) (a : Addr) (h : Heap) (n0 : Nat)  :
    Met l (⟨"java/util/AbstractMap", "<init>", "()V"⟩ : MethodName) jdk_71_method_1_code 1 none [] ({ frames := 1, cells := 0, slots := 0, locals := 12 } : Room) #[(.ref a)] Z h n0 (fun v h' => v = none ∧ h = h') := by
  refine Met.of (plainFor_of_name (by first | (simp [plainName, overriddenIn]; done) | decide +kernel)) ?_
  intro pP eE sS mM bB tT cC K
  refine Go.entry (ls := #[.val (.ref a)]) rfl ?_
  refine go_aloadN (q := 1) K damInit_0 rfl rfl rfl ?_
  refine go_initO (q := 4) (W := 0) K (wd hw 88 rfl) (wd hw 24 rfl) (wd hw 25 rfl) damInit_1 rfl rfl (by decide) (by decide) rfl ?_
  refine go_return K damInit_4 rfl (by decide) (by decide) ?_
  exact ⟨rfl, rfl⟩
theorem dasInit_0 : decode jdk_91_method_1_code 0 = .ok (.aload_n 0, 1) := by decide +kernel
theorem dasInit_1 : decode jdk_91_method_1_code 1 = .ok (.invokespecial 1, 3) := by decide +kernel
theorem dasInit_4 : decode jdk_91_method_1_code 4 = .ok (.return_, 1) := by decide +kernel
set_option maxRecDepth 65536 in
set_option maxHeartbeats 40000000 in
theorem asInit (l : Launch) (Z : State) (a0 : Array Value) (hw : ∀ d ∈ tables_1, d.before a0 Z = true) (a : Addr) (h : Heap) (n0 : Nat)  :
    Met l (⟨"java/util/AbstractSet", "<init>", "()V"⟩ : MethodName) jdk_91_method_1_code 1 none [] ({ frames := 2, cells := 0, slots := 0, locals := 24 } : Room) #[(.ref a)] Z h n0 (fun v h' => v = none ∧ h = h') := by
  refine Met.of (plainFor_of_name (by first | (simp [plainName, overriddenIn]; done) | decide +kernel)) ?_
  intro pP eE sS mM bB tT cC K
  refine Go.entry (ls := #[.val (.ref a)]) rfl ?_
  refine go_aloadN (q := 1) K dasInit_0 rfl rfl rfl ?_
  refine go_callI (q := 4) (W := 0) K (wd hw 73 rfl) (wd hw 43 rfl) (wd hw 46 rfl) (wd hw 47 rfl) rfl [] [] (acInit l Z a0 hw _ _ n0 ) dasInit_1 (ps := []) (by decide +kernel) rfl rfl rfl (by decide) rfl (by decide) (by decide) (by decide) (by decide) rfl ?_
  rintro _ _ ⟨rfl, rfl⟩
  show Go pP l eE _ sS mM _ bB tT cC n0 _ h 0 0 (mkF mM 4 #[.val (.ref a)] [])
  refine go_return K dasInit_4 rfl (by decide) (by decide) ?_
  exact ⟨rfl, rfl⟩
theorem dhmInit_0 : decode jdk_69_method_7_code 0 = .ok (.aload_n 0, 1) := by decide +kernel
theorem dhmInit_1 : decode jdk_69_method_7_code 1 = .ok (.invokespecial 43, 3) := by decide +kernel
theorem dhmInit_4 : decode jdk_69_method_7_code 4 = .ok (.aload_n 0, 1) := by decide +kernel
theorem dhmInit_5 : decode jdk_69_method_7_code 5 = .ok (.ldc 92, 2) := by decide +kernel
theorem dhmInit_7 : decode jdk_69_method_7_code 7 = .ok (.putfield 81, 3) := by decide +kernel
theorem dhmInit_10 : decode jdk_69_method_7_code 10 = .ok (.return_, 1) := by decide +kernel
set_option maxRecDepth 65536 in
set_option maxHeartbeats 40000000 in
theorem hmInit (l : Launch) (Z : State) (a0 : Array Value) (hw : ∀ d ∈ tables_1, d.before a0 Z = true) (a : Addr) (h : Heap) (n0 : Nat) (p0_ : Exa Z h a "java/util/HashMap") (p1_ : Fld Z h a "java/util/HashMap" "loadFactor" "F" (.float 0)) (p2_ : n0 ≤ a) :
    Met l (⟨"java/util/HashMap", "<init>", "()V"⟩ : MethodName) jdk_69_method_7_code 1 none [] ({ frames := 2, cells := 0, slots := 0, locals := 24 } : Room) #[(.ref a)] Z h n0 (fun v h' => v = none ∧ Keep h h' [a]) := by
  refine Met.of (plainFor_of_name (by first | (simp [plainName, overriddenIn]; done) | decide +kernel)) ?_
  intro pP eE sS mM bB tT cC K
  refine Go.entry (ls := #[.val (.ref a)]) rfl ?_
  refine go_aloadN (q := 1) K dhmInit_0 rfl rfl rfl ?_
  refine go_callI (q := 4) (W := 0) K (wd hw 82 rfl) (wd hw 83 rfl) (wd hw 86 rfl) (wd hw 87 rfl) rfl [] [] (amInit l Z a0 hw _ _ n0 ) dhmInit_1 (ps := []) (by decide +kernel) rfl rfl rfl (by decide) rfl (by decide) (by decide) (by decide) (by decide) rfl ?_
  rintro _ _ ⟨rfl, rfl⟩
  show Go pP l eE _ sS mM _ bB tT cC n0 _ h 0 0 (mkF mM 4 #[.val (.ref a)] [])
  refine go_aloadN (q := 5) K dhmInit_4 rfl rfl rfl ?_
  refine go_ldcF (q := 7) K (wd hw 89 rfl) dhmInit_5 rfl ?_
  refine go_putF (q := 10) K (wd hw 90 rfl) Via.refl p1_ p0_ (Or.inr ⟨(wd hw 91 rfl), rfl, rfl⟩) (wd hw 76 rfl) (ty := .float) (by decide +kernel) rfl rfl p2_ dhmInit_7 rfl ?_
  intro h2 Wh2
  refine go_return K dhmInit_10 rfl (by decide) (by decide) ?_
  have f1 := ((Keep.refl h [a]).wr Wh2 (Or.inl (by simp)))
  exact ⟨rfl, f1⟩
theorem dhsInit_0 : decode jdk_93_method_1_code 0 = .ok (.aload_n 0, 1) := by decide +kernel
theorem dhsInit_1 : decode jdk_93_method_1_code 1 = .ok (.invokespecial 1, 3) := by decide +kernel
theorem dhsInit_4 : decode jdk_93_method_1_code 4 = .ok (.aload_n 0, 1) := by decide +kernel
theorem dhsInit_5 : decode jdk_93_method_1_code 5 = .ok (.new 7, 3) := by decide +kernel
theorem dhsInit_8 : decode jdk_93_method_1_code 8 = .ok (.dup, 1) := by decide +kernel
theorem dhsInit_9 : decode jdk_93_method_1_code 9 = .ok (.invokespecial 9, 3) := by decide +kernel
theorem dhsInit_12 : decode jdk_93_method_1_code 12 = .ok (.putfield 10, 3) := by decide +kernel
theorem dhsInit_15 : decode jdk_93_method_1_code 15 = .ok (.return_, 1) := by decide +kernel
set_option maxRecDepth 65536 in
set_option maxHeartbeats 40000000 in
theorem hsInit (l : Launch) (Z : State) (a0 : Array Value) (hw : ∀ d ∈ tables_1, d.before a0 Z = true) (a : Addr) (h : Heap) (n0 : Nat) (p0_ : Old Z n0 h) (p1_ : Exa Z h a "java/util/HashSet") (p2_ : Fld Z h a "java/util/HashSet" "map" "Ljava/util/HashMap;" .null) (p3_ : n0 ≤ a) :
    Met l (⟨"java/util/HashSet", "<init>", "()V"⟩ : MethodName) jdk_93_method_1_code 1 none [] ({ frames := 3, cells := 1, slots := 8, locals := 40 } : Room) #[(.ref a)] Z h n0 (fun v h' => v = none ∧ Keep h h' [a]) := by
  refine Met.of (plainFor_of_name (by first | (simp [plainName, overriddenIn]; done) | decide +kernel)) ?_
  intro pP eE sS mM bB tT cC K
  refine Go.entry (ls := #[.val (.ref a)]) rfl ?_
  refine go_aloadN (q := 1) K dhsInit_0 rfl rfl rfl ?_
  refine go_callI (q := 4) (W := 0) K (wd hw 67 rfl) (wd hw 68 rfl) (wd hw 71 rfl) (wd hw 72 rfl) rfl [] [] (asInit l Z a0 hw _ _ n0 ) dhsInit_1 (ps := []) (by decide +kernel) rfl rfl rfl (by decide) rfl (by decide) (by decide) (by decide) (by decide) rfl ?_
  rintro _ _ ⟨rfl, rfl⟩
  show Go pP l eE _ sS mM _ bB tT cC n0 _ h 0 0 (mkF mM 4 #[.val (.ref a)] [])
  refine go_aloadN (q := 5) K dhsInit_4 rfl rfl rfl ?_
  refine go_new (q := 8) (sz := 8) K (wd hw 75 rfl) (wd hw 76 rfl) (wd hw 77 rfl) dhsInit_5 (by decide) (by decide) rfl ?_
  intro h2 ah2 gah2 Eh2 Xah2 Dah2
  refine go_dup (q := 9) K dhsInit_8 rfl rfl ?_
  refine go_callI (q := 12) (W := 2) K (wd hw 78 rfl) (wd hw 79 rfl) (wd hw 77 rfl) (wd hw 81 rfl) rfl [] [(.ref ah2), (.ref a)] (hmInit l Z a0 hw _ _ n0 Xah2 (Dah2 (Or.inr (wd hw 91 rfl)) (ty := .float) (by decide +kernel)) (Nat.le_trans (own_ge p0_) (Nat.le_of_eq gah2.symm))) dhsInit_9 (ps := []) (by decide +kernel) rfl rfl rfl (by decide) rfl (by decide) (by decide) (by decide) (by decide) rfl ?_
  rintro _ h3 ⟨rfl, Kh3⟩
  show Go pP l eE _ sS mM _ bB tT cC n0 _ h3 1 8 (mkF mM 12 #[.val (.ref a)] [(.ref ah2), (.ref a)])
  have f1 := ((p2_.ext Eh2).keep Kh3 (ninS (own_nel (p1_).lt (Nat.le_of_eq gah2.symm)) nin0))
  have f2 := ((p1_.ext Eh2).keep Kh3)
  refine go_putF (q := 15) K (wd hw 92 rfl) Via.refl f1 f2 (Or.inl (wd hw 93 rfl)) (wd hw 62 rfl) (ty := (.object "java/util/HashMap")) (by decide +kernel) rfl rfl p3_ dhsInit_12 rfl ?_
  intro h4 Wh4
  refine go_return K dhsInit_15 rfl (by decide) (by decide) ?_
  have f3 := ((((Keep.refl h [a]).ext Eh2).trans Kh3 (allS (Or.inr (Nat.le_trans ((Keep.refl h [a])).1 (Nat.le_of_eq gah2.symm))) all0)).wr Wh4 (Or.inl (by simp)))
  exact ⟨rfl, f3⟩
theorem darInit_0 : decode prog_1_method_1_code 0 = .ok (.aload_n 0, 1) := by decide +kernel
theorem darInit_1 : decode prog_1_method_1_code 1 = .ok (.invokespecial 1, 3) := by decide +kernel
theorem darInit_4 : decode prog_1_method_1_code 4 = .ok (.aload_n 0, 1) := by decide +kernel
theorem darInit_5 : decode prog_1_method_1_code 5 = .ok (.new 7, 3) := by decide +kernel
theorem darInit_8 : decode prog_1_method_1_code 8 = .ok (.dup, 1) := by decide +kernel
theorem darInit_9 : decode prog_1_method_1_code 9 = .ok (.invokespecial 9, 3) := by decide +kernel
theorem darInit_12 : decode prog_1_method_1_code 12 = .ok (.putfield 10, 3) := by decide +kernel
theorem darInit_15 : decode prog_1_method_1_code 15 = .ok (.aload_n 0, 1) := by decide +kernel
theorem darInit_16 : decode prog_1_method_1_code 16 = .ok (.aload_n 1, 1) := by decide +kernel
theorem darInit_17 : decode prog_1_method_1_code 17 = .ok (.putfield 16, 3) := by decide +kernel
theorem darInit_20 : decode prog_1_method_1_code 20 = .ok (.return_, 1) := by decide +kernel
set_option maxRecDepth 65536 in
set_option maxHeartbeats 40000000 in
theorem arInit (l : Launch) (Z : State) (a0 : Array Value) (hw : ∀ d ∈ tables_1, d.before a0 Z = true) (t : Addr) (a : Addr) (h : Heap) (n0 : Nat) (p0_ : Old Z n0 h) (p1_ : Exa Z h t "com/example/lexiflow/lexiflow/cli/Arguments") (p2_ : Fld Z h t "com/example/lexiflow/lexiflow/cli/Arguments" "given" "Ljava/util/Set;" .null) (p3_ : Fld Z h t "com/example/lexiflow/lexiflow/cli/Arguments" "args" "Ljava/util/List;" .null) (p4_ : Fld Z h t "com/example/lexiflow/lexiflow/cli/Arguments" "next" "I" (.int (0 : Int32))) (p5_ : n0 ≤ t) :
    Met l (⟨"com/example/lexiflow/lexiflow/cli/Arguments", "<init>", "(Ljava/util/List;)V"⟩ : MethodName) prog_1_method_1_code 2 none [] ({ frames := 4, cells := 2, slots := 9, locals := 60 } : Room) #[(.ref t), (.ref a)] Z h n0 (fun v h' => v = none ∧ Keep h h' [t] ∧ Exa Z h' t "com/example/lexiflow/lexiflow/cli/Arguments" ∧ Fld Z h' t "com/example/lexiflow/lexiflow/cli/Arguments" "args" "Ljava/util/List;" (.ref a) ∧ Fld Z h' t "com/example/lexiflow/lexiflow/cli/Arguments" "next" "I" (.int (0 : Int32))) := by
  refine Met.of (plainFor_of_name (by first | (simp [plainName, overriddenIn]; done) | decide +kernel)) ?_
  intro pP eE sS mM bB tT cC K
  refine Go.entry (ls := #[.val (.ref t), .val (.ref a)]) rfl ?_
  refine go_aloadN (q := 1) K darInit_0 rfl rfl rfl ?_
  refine go_initO (q := 4) (W := 0) K (wd hw 60 rfl) (wd hw 24 rfl) (wd hw 25 rfl) darInit_1 rfl rfl (by decide) (by decide) rfl ?_
  refine go_aloadN (q := 5) K darInit_4 rfl rfl rfl ?_
  refine go_new (q := 8) (sz := 1) K (wd hw 61 rfl) (wd hw 62 rfl) (wd hw 63 rfl) darInit_5 (by decide) (by decide) rfl ?_
  intro h1 ah1 gah1 Eh1 Xah1 Dah1
  refine go_dup (q := 9) K darInit_8 rfl rfl ?_
  have f1 := (p0_.ext Eh1)
  refine go_callI (q := 12) (W := 2) K (wd hw 64 rfl) (wd hw 65 rfl) (wd hw 63 rfl) (wd hw 66 rfl) rfl [] [(.ref ah1), (.ref t)] (hsInit l Z a0 hw _ _ n0 f1 Xah1 (Dah1 (Or.inl (wd hw 93 rfl)) (ty := (.object "java/util/HashMap")) (by decide +kernel)) (Nat.le_trans (own_ge p0_) (Nat.le_of_eq gah1.symm))) darInit_9 (ps := []) (by decide +kernel) rfl rfl rfl (by decide) rfl (by decide) (by decide) (by decide) (by decide) rfl ?_
  rintro _ h2 ⟨rfl, Kh2⟩
  show Go pP l eE _ sS mM _ bB tT cC n0 _ h2 2 9 (mkF mM 12 #[.val (.ref t), .val (.ref a)] [(.ref ah1), (.ref t)])
  have f2 := ((p2_.ext Eh1).keep Kh2 (ninS (own_nel (p1_).lt (Nat.le_of_eq gah1.symm)) nin0))
  have f3 := ((p1_.ext Eh1).keep Kh2)
  refine go_putF (q := 15) K (wd hw 94 rfl) Via.refl f2 f3 (Or.inr ⟨(wd hw 95 rfl), rfl, rfl⟩) (wd hw 55 rfl) (ty := (.object "java/util/Set")) (by decide +kernel) rfl rfl p5_ darInit_12 rfl ?_
  intro h3 Wh3
  refine go_aloadN (q := 16) K darInit_15 rfl rfl rfl ?_
  refine go_aloadN (q := 17) K darInit_16 rfl rfl rfl ?_
  have f4 := (((p3_.ext Eh1).keep Kh2 (ninS (own_nel (p1_).lt (Nat.le_of_eq gah1.symm)) nin0)).other Wh3 (Or.inr (slot_ne (C := "com/example/lexiflow/lexiflow/cli/Arguments") (Or.inr (wd hw 97 rfl)) (Or.inr (wd hw 95 rfl)) (by decide) (t := (.object "java/util/List")) (t' := (.object "java/util/Set")) (by decide +kernel) (by decide +kernel))))
  have f5 := (f3.wr Wh3)
  refine go_putF (q := 20) K (wd hw 96 rfl) Via.refl f4 f5 (Or.inr ⟨(wd hw 97 rfl), rfl, rfl⟩) (wd hw 55 rfl) (ty := (.object "java/util/List")) (by decide +kernel) rfl rfl p5_ darInit_17 rfl ?_
  intro h4 Wh4
  refine go_return K darInit_20 rfl (by decide) (by decide) ?_
  have f6 := (((((Keep.refl h [t]).ext Eh1).trans Kh2 (allS (Or.inr (Nat.le_trans ((Keep.refl h [t])).1 (Nat.le_of_eq gah1.symm))) all0)).wr Wh3 (Or.inl (by simp))).wr Wh4 (Or.inl (by simp)))
  have f7 := (f5.wr Wh4)
  have f8 := ((((p4_.ext Eh1).keep Kh2 (ninS (own_nel (p1_).lt (Nat.le_of_eq gah1.symm)) nin0)).other Wh3 (Or.inr (slot_ne (C := "com/example/lexiflow/lexiflow/cli/Arguments") (Or.inl (wd hw 104 rfl)) (Or.inr (wd hw 95 rfl)) (by decide) (t := .int) (t' := (.object "java/util/Set")) (by decide +kernel) (by decide +kernel)))).other Wh4 (Or.inr (slot_ne (C := "com/example/lexiflow/lexiflow/cli/Arguments") (Or.inl (wd hw 104 rfl)) (Or.inr (wd hw 97 rfl)) (by decide) (t := .int) (t' := (.object "java/util/List")) (by decide +kernel) (by decide +kernel))))
  exact ⟨rfl, f6, f7, (f4.same Wh4), f8⟩
theorem dhasNext_0 : decode prog_1_method_2_code 0 = .ok (.aload_n 0, 1) := by decide +kernel
theorem dhasNext_1 : decode prog_1_method_2_code 1 = .ok (.getfield 20, 3) := by decide +kernel
theorem dhasNext_4 : decode prog_1_method_2_code 4 = .ok (.aload_n 0, 1) := by decide +kernel
theorem dhasNext_5 : decode prog_1_method_2_code 5 = .ok (.getfield 16, 3) := by decide +kernel
theorem dhasNext_8 : decode prog_1_method_2_code 8 = .ok (.invokeinterface 24 1, 5) := by decide +kernel
theorem dhasNext_13 : decode prog_1_method_2_code 13 = .ok (.if_icmp .ge 7, 3) := by decide +kernel
theorem dhasNext_16 : decode prog_1_method_2_code 16 = .ok (.iconst 1, 1) := by decide +kernel
theorem dhasNext_17 : decode prog_1_method_2_code 17 = .ok (.goto 4, 3) := by decide +kernel
theorem dhasNext_20 : decode prog_1_method_2_code 20 = .ok (.iconst 0, 1) := by decide +kernel
theorem dhasNext_21 : decode prog_1_method_2_code 21 = .ok (.ireturn, 1) := by decide +kernel
set_option maxRecDepth 65536 in
set_option maxHeartbeats 40000000 in
theorem hasNext (l : Launch) (Z : State) (a0 : Array Value) (hw : ∀ d ∈ tables_1, d.before a0 Z = true) (t : Addr) (a : Addr) (i : Int32) (n : Int32) (h : Heap) (n0 : Nat) (p0_ : Fld Z h t "com/example/lexiflow/lexiflow/cli/Arguments" "args" "Ljava/util/List;" (.ref a)) (p1_ : Fld Z h t "com/example/lexiflow/lexiflow/cli/Arguments" "next" "I" (.int i)) (p2_ : Exa Z h a "java/util/ArrayList") (p3_ : Fld Z h a "java/util/ArrayList" "size" "I" (.int n)) :
    Met l (⟨"com/example/lexiflow/lexiflow/cli/Arguments", "hasNext", "()Z"⟩ : MethodName) prog_1_method_2_code 1 (some .boolean) [] ({ frames := 1, cells := 0, slots := 0, locals := 16 } : Room) #[(.ref t)] Z h n0 (fun v h' => v = some (.int (if i < n then (1 : Int32) else (0 : Int32))) ∧ h = h') := by
  refine Met.of (plainFor_of_name (by first | (simp [plainName, overriddenIn]; done) | decide +kernel)) ?_
  intro pP eE sS mM bB tT cC K
  refine Go.entry (ls := #[.val (.ref t)]) rfl ?_
  refine go_aloadN (q := 1) K dhasNext_0 rfl rfl rfl ?_
  refine go_getF (q := 4) K (wd hw 103 rfl) Via.refl p1_ dhasNext_1 rfl ?_
  refine go_aloadN (q := 5) K dhasNext_4 rfl rfl rfl ?_
  refine go_getF (q := 8) K (wd hw 96 rfl) Via.refl p0_ dhasNext_5 rfl ?_
  refine go_callF (q := 13) (W := 1) K (wd hw 105 rfl) (wd hw 106 rfl) (wd hw 108 rfl) (wd hw 109 rfl) (wd hw 32 rfl) (wd hw 113 rfl) (wd hw 107 rfl) (wd hw 110 rfl) (wd hw 111 rfl) (wd hw 112 rfl) p2_ [] [(.int i)] (alSize l Z a0 hw _ _ _ n0 p3_) dhasNext_8 (ps := []) (by decide +kernel) rfl rfl rfl (by decide) rfl (by decide) (by decide) (by decide) (by decide) rfl ?_
  rintro _ _ ⟨rfl, rfl⟩
  show Go pP l eE _ sS mM _ bB tT cC n0 _ h 0 0 (mkF mM 13 #[.val (.ref t)] [(.int n), (.int i)])
  refine go_icmp (q := 20) (q' := 16) K dhasNext_13 (by decide) rfl rfl (fun hc13 => ?_) (fun hc13 => ?_)
  · have hc13 : ¬ i < n := hc13
    refine go_iconst (q := 21) K dhasNext_20 (0 : Int32) rfl rfl ?_
    refine go_iret K dhasNext_21 rfl (Or.inr (Or.inl rfl)) rfl (by decide) (by decide) ?_
    exact ⟨by rw [if_neg hc13], rfl⟩
  · have hc13 : i < n := hc13
    refine go_iconst (q := 17) K dhasNext_16 (1 : Int32) rfl rfl ?_
    refine go_goto (q := 21) K dhasNext_17 (by decide) rfl ?_
    refine go_iret K dhasNext_21 rfl (Or.inr (Or.inl rfl)) rfl (by decide) (by decide) ?_
    exact ⟨by rw [if_pos hc13], rfl⟩
theorem dnext_0 : decode prog_1_method_3_code 0 = .ok (.aload_n 0, 1) := by decide +kernel
theorem dnext_1 : decode prog_1_method_3_code 1 = .ok (.getfield 16, 3) := by decide +kernel
theorem dnext_4 : decode prog_1_method_3_code 4 = .ok (.aload_n 0, 1) := by decide +kernel
theorem dnext_5 : decode prog_1_method_3_code 5 = .ok (.dup, 1) := by decide +kernel
theorem dnext_6 : decode prog_1_method_3_code 6 = .ok (.getfield 20, 3) := by decide +kernel
theorem dnext_9 : decode prog_1_method_3_code 9 = .ok (.dup_x1, 1) := by decide +kernel
theorem dnext_10 : decode prog_1_method_3_code 10 = .ok (.iconst 1, 1) := by decide +kernel
theorem dnext_11 : decode prog_1_method_3_code 11 = .ok (.iadd, 1) := by decide +kernel
theorem dnext_12 : decode prog_1_method_3_code 12 = .ok (.putfield 20, 3) := by decide +kernel
theorem dnext_15 : decode prog_1_method_3_code 15 = .ok (.invokeinterface 30 2, 5) := by decide +kernel
theorem dnext_20 : decode prog_1_method_3_code 20 = .ok (.checkcast 34, 3) := by decide +kernel
theorem dnext_23 : decode prog_1_method_3_code 23 = .ok (.areturn, 1) := by decide +kernel
set_option maxRecDepth 65536 in
set_option maxHeartbeats 40000000 in
theorem next (l : Launch) (Z : State) (a0 : Array Value) (hw : ∀ d ∈ tables_1, d.before a0 Z = true) (t : Addr) (a : Addr) (ar : Addr) (kl : ClassId) (vs : List Value) (i : Int32) (e : Addr) (n : Int32) (h : Heap) (n0 : Nat) (p0_ : Exa Z h t "com/example/lexiflow/lexiflow/cli/Arguments") (p1_ : Fld Z h t "com/example/lexiflow/lexiflow/cli/Arguments" "args" "Ljava/util/List;" (.ref a)) (p2_ : Fld Z h t "com/example/lexiflow/lexiflow/cli/Arguments" "next" "I" (.int i)) (p3_ : n0 ≤ t) (p4_ : Exa Z h a "java/util/ArrayList") (p5_ : Fld Z h a "java/util/ArrayList" "elementData" "[Ljava/lang/Object;" (.ref ar)) (p6_ : Ary Z h ar kl (.object "java/lang/Object") vs) (p7_ : Fld Z h a "java/util/ArrayList" "size" "I" (.int n)) (p8_ : Exa Z h e "java/lang/String") (p9_ : t ≠ a) (p10_ : t ≠ ar) (hi0 : ¬ i < (0 : Int32)) (hin : i < n) (hvs : vs[i.toNatClampNeg]? = some (.ref e)) :
    Met l (⟨"com/example/lexiflow/lexiflow/cli/Arguments", "next", "()Ljava/lang/String;"⟩ : MethodName) prog_1_method_3_code 1 (some (.object "java/lang/String")) [] ({ frames := 3, cells := 0, slots := 0, locals := 60 } : Room) #[(.ref t)] Z h n0 (fun v h' => v = some (.ref e) ∧ Keep h h' [t] ∧ Exa Z h' t "com/example/lexiflow/lexiflow/cli/Arguments" ∧ Fld Z h' t "com/example/lexiflow/lexiflow/cli/Arguments" "args" "Ljava/util/List;" (.ref a) ∧ Fld Z h' t "com/example/lexiflow/lexiflow/cli/Arguments" "next" "I" (.int (i + (1 : Int32)))) := by
  refine Met.of (plainFor_of_name (by first | (simp [plainName, overriddenIn]; done) | decide +kernel)) ?_
  intro pP eE sS mM bB tT cC K
  refine Go.entry (ls := #[.val (.ref t)]) rfl ?_
  refine go_aloadN (q := 1) K dnext_0 rfl rfl rfl ?_
  refine go_getF (q := 4) K (wd hw 96 rfl) Via.refl p1_ dnext_1 rfl ?_
  refine go_aloadN (q := 5) K dnext_4 rfl rfl rfl ?_
  refine go_dup (q := 6) K dnext_5 rfl rfl ?_
  refine go_getF (q := 9) K (wd hw 103 rfl) Via.refl p2_ dnext_6 rfl ?_
  refine go_dup_x1 (q := 10) K dnext_9 rfl rfl rfl ?_
  refine go_iconst (q := 11) K dnext_10 (1 : Int32) rfl rfl ?_
  refine go_iadd (q := 12) K dnext_11 rfl ?_
  refine go_putF (q := 15) K (wd hw 103 rfl) Via.refl p2_ p0_ (Or.inl (wd hw 104 rfl)) (wd hw 55 rfl) (ty := .int) (by decide +kernel) rfl rfl p3_ dnext_12 rfl ?_
  intro h1 Wh1
  have f1 := (p4_.wr Wh1)
  have f2 := (p5_.other Wh1 (Or.inl (p9_).symm))
  have f3 := (p6_.other Wh1 (p10_).symm)
  have f4 := (p7_.other Wh1 (Or.inl (p9_).symm))
  refine go_callF (q := 20) (W := 0) K (wd hw 152 rfl) (wd hw 153 rfl) (wd hw 155 rfl) (wd hw 156 rfl) (wd hw 32 rfl) (wd hw 159 rfl) (wd hw 154 rfl) (wd hw 157 rfl) (wd hw 158 rfl) (wd hw 112 rfl) f1 [(.int i)] [] (alGet l Z a0 hw _ _ _ _ _ _ _ _ n0 f1 f2 f3 (by assumption) (by assumption) f4 (by assumption)) dnext_15 (ps := [.int]) (by decide +kernel) rfl rfl rfl (by decide) rfl (by decide) (by decide) (by decide) (by decide) rfl ?_
  rintro _ _ ⟨rfl, rfl⟩
  show Go pP l eE _ sS mM _ bB tT cC n0 _ h1 0 0 (mkF mM 20 #[.val (.ref t)] [(.ref e)])
  have f5 := (p8_.wr Wh1)
  refine go_checkcast (q := 23) K (wd hw 173 rfl) (Ins.self f5) dnext_20 rfl ?_
  refine go_aret K dnext_23 rfl rfl rfl rfl (by decide) (by decide) ?_
  have f6 := ((Keep.refl h [t]).wr Wh1 (Or.inl (by simp)))
  have f7 := (p0_.wr Wh1)
  have f8 := (p1_.other Wh1 (Or.inr (slot_ne (C := "com/example/lexiflow/lexiflow/cli/Arguments") (Or.inr (wd hw 97 rfl)) (Or.inl (wd hw 104 rfl)) (by decide) (t := (.object "java/util/List")) (t' := .int) (by decide +kernel) (by decide +kernel))))
  exact ⟨rfl, f6, f7, f8, (p2_.same Wh1)⟩
theorem own_and3 (x : Int32) : x &&& 3 = 0 ∨ x &&& 3 = 1 ∨ x &&& 3 = 2 ∨ x &&& 3 = 3 := by
  have h := c_mask x 3 2 (by decide) (by decide)
  have e0 : (0 : Int32).toInt = 0 := rfl
  have e1 : (1 : Int32).toInt = 1 := rfl
  have e2 : (2 : Int32).toInt = 2 := rfl
  have e3 : (3 : Int32).toInt = 3 := rfl
  simp only [← Int32.toInt_inj, e0, e1, e2, e3, h]
  omega
theorem own_nk {n kk sz st : Int32} (hn : n = sz &&& 3) (hk : kk = if n < (st &&& 3) then n else (st &&& 3)) : (n = 0 ∧ kk = 0) ∨ (n = 1 ∧ kk = 0) ∨ (n = 1 ∧ kk = 1) ∨ (n = 2 ∧ kk = 0) ∨ (n = 2 ∧ kk = 1) ∨ (n = 2 ∧ kk = 2) ∨ (n = 3 ∧ kk = 0) ∨ (n = 3 ∧ kk = 1) ∨ (n = 3 ∧ kk = 2) ∨ (n = 3 ∧ kk = 3) := by
  rcases own_and3 sz with q | q | q | q <;> rcases own_and3 st with r | r | r | r <;> rw [q] at hn <;> subst hn <;> rw [r] at hk <;> subst hk <;> decide
theorem own_lo (x : Int32) : ¬ (255 : Int32) < (x &&& 255).toUInt32.toUInt16.toUInt32.toInt32 := by
  rw [i2c_mask, Int32.lt_iff_toInt_lt]
  have h := c_mask x 255 8 (by decide) (by decide)
  have e : (255 : Int32).toInt = 255 := rfl
  omega
set_option maxRecDepth 65536 in
set_option maxHeartbeats 40000000 in
theorem law_met (l : Launch) (Z : State) (a0 : Array Value) (hw : ∀ d ∈ tables_1, d.before a0 Z = true) (sz : Int32) (st : Int32) (cc : Int32) (cs : Int32) (D : Addr) (kD : ClassId) (h : Heap) (n0 : Nat) (p0_ : Old Z n0 h) (p1_ : Sta Z Z.heap "java/lang/String" "COMPACT_STRINGS" "Z" (.int cs)) (hcs : ¬ cs = (0 : Int32)) (p3_ : Sta Z Z.heap "java/util/ArrayList" "DEFAULTCAPACITY_EMPTY_ELEMENTDATA" "[Ljava/lang/Object;" (.ref D)) (p4_ : Ary Z Z.heap D kD (.object "java/lang/Object") []) :
    Met l x code maxLocals ret tables_1 room_1 #[(.int sz), (.int st), (.int cc)] Z h n0 (fun v _ => v = some (.int 1)) := by
  refine Met.of (plainFor_of_name (by first | (simp [plainName, overriddenIn]; done) | decide +kernel)) ?_
  intro pP eE sS mM bB tT cC K
  refine Go.entry (ls := #[.val (.int sz), .val (.int st), .val (.int cc), .unset, .unset, .unset, .unset, .unset, .unset, .unset, .unset, .unset, .unset]) rfl ?_
  refine go_iloadN (q := 1) K at_0 rfl rfl ?_
  refine go_iconst (q := 2) K at_1 (3 : Int32) rfl rfl ?_
  refine go_iand (q := 3) K at_2 rfl ?_
  refine go_nameI (fun n hn => ?_)
  refine go_istoreN (q := 4) K at_3 #[.val (.int sz), .val (.int st), .val (.int cc), .val (.int n), .unset, .unset, .unset, .unset, .unset, .unset, .unset, .unset, .unset] rfl rfl ?_
  refine go_iloadN (q := 5) K at_4 rfl rfl ?_
  refine go_iconst (q := 6) K at_5 (3 : Int32) rfl rfl ?_
  refine go_iand (q := 7) K at_6 rfl ?_
  refine go_iloadN (q := 8) K at_7 rfl rfl ?_
  refine go_callS (q := 11) (W := 0) K (wd hw 0 rfl) (wd hw 1 rfl) (wd hw 2 rfl) (wd hw 3 rfl) [(.int (st &&& (3 : Int32))), (.int n)] [] (min_met l Z a0 hw (st &&& (3 : Int32)) n _ n0) at_8 (ps := [.int, .int]) (by decide +kernel) rfl rfl rfl (by decide) rfl (by decide) (by decide) (by decide) (by decide) rfl ?_
  rintro _ _ ⟨rfl, rfl⟩
  show Go pP l eE _ sS mM _ bB tT cC n0 _ h 0 0 (mkF mM 11 #[.val (.int sz), .val (.int st), .val (.int cc), .val (.int n), .unset, .unset, .unset, .unset, .unset, .unset, .unset, .unset, .unset] [(.int (if n < (st &&& (3 : Int32)) then n else (st &&& (3 : Int32))))])
  refine go_nameI (fun kk hkk => ?_)
  refine go_istore (q := 13) K at_11 #[.val (.int sz), .val (.int st), .val (.int cc), .val (.int n), .val (.int kk), .unset, .unset, .unset, .unset, .unset, .unset, .unset, .unset] rfl rfl ?_
  refine go_iloadN (q := 14) K at_13 rfl rfl ?_
  refine go_sipush (q := 17) K at_14 (255 : Int32) rfl rfl ?_
  refine go_iand (q := 18) K at_17 rfl ?_
  refine go_i2c (q := 19) K at_18 rfl ?_
  refine go_nameI (fun z0 hz0 => ?_)
  have hzz0 : ¬ (255 : Int32) < z0 := by rw [hz0]; exact own_lo _
  refine go_callS (q := 22) (W := 0) K (wd hw 4 rfl) (wd hw 5 rfl) (wd hw 6 rfl) (wd hw 7 rfl) [(.int z0)] [] (valueOfC l Z a0 hw _ _ _ n0 p0_ p1_ hcs hzz0) at_19 (ps := [.char]) (by decide +kernel) rfl rfl rfl (by decide) rfl (by decide) (by decide) (by decide) (by decide) rfl ?_
  rintro _ h1 ⟨ah1, bh1, kbh1, rfl, Kh1, gah1, gbh1, q0h1, q1h1, q2h1, q3h1, q4h1⟩
  show Go pP l eE _ sS mM _ bB tT cC n0 _ h1 2 5 (mkF mM 22 #[.val (.int sz), .val (.int st), .val (.int cc), .val (.int n), .val (.int kk), .unset, .unset, .unset, .unset, .unset, .unset, .unset, .unset] [(.ref ah1)])
  refine go_astore (q := 24) K at_22 #[.val (.int sz), .val (.int st), .val (.int cc), .val (.int n), .val (.int kk), .val (.ref ah1), .unset, .unset, .unset, .unset, .unset, .unset, .unset] rfl rfl rfl ?_
  refine go_iloadN (q := 25) K at_24 rfl rfl ?_
  refine go_bipush (q := 27) K at_25 (8 : Int32) rfl rfl ?_
  refine go_iushr (q := 28) K at_27 rfl ?_
  refine go_sipush (q := 31) K at_28 (255 : Int32) rfl rfl ?_
  refine go_iand (q := 32) K at_31 rfl ?_
  refine go_i2c (q := 33) K at_32 rfl ?_
  refine go_nameI (fun z1 hz1 => ?_)
  have hzz1 : ¬ (255 : Int32) < z1 := by rw [hz1]; exact own_lo _
  have f1 := (p0_.keep Kh1 all0)
  refine go_callS (q := 36) (W := 0) K (wd hw 4 rfl) (wd hw 5 rfl) (wd hw 6 rfl) (wd hw 7 rfl) [(.int z1)] [] (valueOfC l Z a0 hw _ _ _ n0 f1 p1_ hcs hzz1) at_33 (ps := [.char]) (by decide +kernel) rfl rfl rfl (by decide) rfl (by decide) (by decide) (by decide) (by decide) rfl ?_
  rintro _ h2 ⟨ah2, bh2, kbh2, rfl, Kh2, gah2, gbh2, q0h2, q1h2, q2h2, q3h2, q4h2⟩
  show Go pP l eE _ sS mM _ bB tT cC n0 _ h2 4 10 (mkF mM 36 #[.val (.int sz), .val (.int st), .val (.int cc), .val (.int n), .val (.int kk), .val (.ref ah1), .unset, .unset, .unset, .unset, .unset, .unset, .unset] [(.ref ah2)])
  refine go_astore (q := 38) K at_36 #[.val (.int sz), .val (.int st), .val (.int cc), .val (.int n), .val (.int kk), .val (.ref ah1), .val (.ref ah2), .unset, .unset, .unset, .unset, .unset, .unset] rfl rfl rfl ?_
  refine go_iloadN (q := 39) K at_38 rfl rfl ?_
  refine go_bipush (q := 41) K at_39 (16 : Int32) rfl rfl ?_
  refine go_iushr (q := 42) K at_41 rfl ?_
  refine go_sipush (q := 45) K at_42 (255 : Int32) rfl rfl ?_
  refine go_iand (q := 46) K at_45 rfl ?_
  refine go_i2c (q := 47) K at_46 rfl ?_
  refine go_nameI (fun z2 hz2 => ?_)
  have hzz2 : ¬ (255 : Int32) < z2 := by rw [hz2]; exact own_lo _
  have f2 := (f1.keep Kh2 all0)
  have f3 := (q0h1.keep Kh2)
  have f4 := (q3h1.keep Kh2 nin0)
  refine go_callS (q := 50) (W := 0) K (wd hw 4 rfl) (wd hw 5 rfl) (wd hw 6 rfl) (wd hw 7 rfl) [(.int z2)] [] (valueOfC l Z a0 hw _ _ _ n0 f2 p1_ hcs hzz2) at_47 (ps := [.char]) (by decide +kernel) rfl rfl rfl (by decide) rfl (by decide) (by decide) (by decide) (by decide) rfl ?_
  rintro _ h3 ⟨ah3, bh3, kbh3, rfl, Kh3, gah3, gbh3, q0h3, q1h3, q2h3, q3h3, q4h3⟩
  show Go pP l eE _ sS mM _ bB tT cC n0 _ h3 6 15 (mkF mM 50 #[.val (.int sz), .val (.int st), .val (.int cc), .val (.int n), .val (.int kk), .val (.ref ah1), .val (.ref ah2), .unset, .unset, .unset, .unset, .unset, .unset] [(.ref ah3)])
  refine go_astore (q := 52) K at_50 #[.val (.int sz), .val (.int st), .val (.int cc), .val (.int n), .val (.int kk), .val (.ref ah1), .val (.ref ah2), .val (.ref ah3), .unset, .unset, .unset, .unset, .unset] rfl rfl rfl ?_
  have f5 := (f2.keep Kh3 all0)
  have f6 := (f3.keep Kh3)
  have f7 := (f4.keep Kh3 nin0)
  have f8 := (q0h2.keep Kh3)
  have f9 := (q3h2.keep Kh3 nin0)
  refine go_new (q := 55) (sz := 3) K (wd hw 30 rfl) (wd hw 31 rfl) (wd hw 32 rfl) at_52 (by decide) (by decide) rfl ?_
  intro h4 ah4 gah4 Eh4 Xah4 Dah4
  refine go_dup (q := 56) K at_55 rfl rfl ?_
  have f10 := (f5.ext Eh4)
  refine go_callI (q := 59) (W := 1) K (wd hw 33 rfl) (wd hw 34 rfl) (wd hw 32 rfl) (wd hw 35 rfl) rfl [] [(.ref ah4)] (alInit l Z a0 hw _ _ _ n0 f10 Xah4 (Dah4 (Or.inl (wd hw 50 rfl)) (ty := .int) (by decide +kernel)) (Dah4 (Or.inl (wd hw 53 rfl)) (ty := (.array (.object "java/lang/Object"))) (by decide +kernel)) (Dah4 (Or.inl (wd hw 115 rfl)) (ty := .int) (by decide +kernel)) (Nat.le_trans (own_ge f5) (Nat.le_of_eq gah4.symm)) p3_) at_56 (ps := []) (by decide +kernel) rfl rfl rfl (by decide) rfl (by decide) (by decide) (by decide) (by decide) rfl ?_
  rintro _ h5 ⟨rfl, Kh5, q0h5, q1h5, q2h5, q3h5⟩
  show Go pP l eE _ sS mM _ bB tT cC n0 _ h5 7 18 (mkF mM 59 #[.val (.int sz), .val (.int st), .val (.int cc), .val (.int n), .val (.int kk), .val (.ref ah1), .val (.ref ah2), .val (.ref ah3), .unset, .unset, .unset, .unset, .unset] [(.ref ah4)])
  refine go_astore (q := 61) K at_59 #[.val (.int sz), .val (.int st), .val (.int cc), .val (.int n), .val (.int kk), .val (.ref ah1), .val (.ref ah2), .val (.ref ah3), .val (.ref ah4), .unset, .unset, .unset, .unset] rfl rfl rfl ?_
  rcases own_nk hn hkk with ⟨rfl, rfl⟩ | ⟨rfl, rfl⟩ | ⟨rfl, rfl⟩ | ⟨rfl, rfl⟩ | ⟨rfl, rfl⟩ | ⟨rfl, rfl⟩ | ⟨rfl, rfl⟩ | ⟨rfl, rfl⟩ | ⟨rfl, rfl⟩ | ⟨rfl, rfl⟩
  · show Go pP l eE _ sS mM _ bB tT cC n0 _ h5 7 18 (mkF mM 61 #[.val (.int sz), .val (.int st), .val (.int cc), .val (.int (0 : Int32)), .val (.int (0 : Int32)), .val (.ref ah1), .val (.ref ah2), .val (.ref ah3), .val (.ref ah4), .unset, .unset, .unset, .unset] [])
    refine go_iloadN (q := 62) K at_61 rfl rfl ?_
    refine go_iconst (q := 63) K at_62 (1 : Int32) rfl rfl ?_
    refine go_icmp (q := 76) (q' := 66) K at_63 (by decide) rfl rfl (fun _ => ?_) (fun hn => cN_no2 hn (show (0 : Int32) < (1 : Int32) from (by decide)))
    refine go_iloadN (q := 77) K at_76 rfl rfl ?_
    refine go_iconst (q := 78) K at_77 (2 : Int32) rfl rfl ?_
    refine go_icmp (q := 91) (q' := 81) K at_78 (by decide) rfl rfl (fun _ => ?_) (fun hn => cN_no2 hn (show (0 : Int32) < (2 : Int32) from (by decide)))
    refine go_iloadN (q := 92) K at_91 rfl rfl ?_
    refine go_iconst (q := 93) K at_92 (3 : Int32) rfl rfl ?_
    refine go_icmp (q := 106) (q' := 96) K at_93 (by decide) rfl rfl (fun _ => ?_) (fun hn => cN_no2 hn (show (0 : Int32) < (3 : Int32) from (by decide)))
    have f11 := (f10.keep Kh5 (allS (Nat.le_trans (own_ge f5) (Nat.le_of_eq gah4.symm)) all0))
    have f12 := ((f6.ext Eh4).keep Kh5)
    have f13 := ((f7.ext Eh4).keep Kh5 (ninS (own_nel (f7).lt (Nat.le_of_eq gah4.symm)) nin0))
    have f14 := ((f8.ext Eh4).keep Kh5)
    have f15 := ((f9.ext Eh4).keep Kh5 (ninS (own_nel (f9).lt (Nat.le_of_eq gah4.symm)) nin0))
    have f16 := ((q0h3.ext Eh4).keep Kh5)
    have f17 := ((q3h3.ext Eh4).keep Kh5 (ninS (own_nel (q3h3).lt (Nat.le_of_eq gah4.symm)) nin0))
    refine go_new (q := 109) (sz := 3) K (wd hw 54 rfl) (wd hw 55 rfl) (wd hw 56 rfl) at_106 (by decide) (by decide) rfl ?_
    intro h6 ah6 gah6 Eh6 Xah6 Dah6
    refine go_dup (q := 110) K at_109 rfl rfl ?_
    refine go_aload (q := 112) K at_110 rfl rfl rfl ?_
    have f18 := (f11.ext Eh6)
    refine go_callI (q := 115) (W := 1) K (wd hw 57 rfl) (wd hw 58 rfl) (wd hw 56 rfl) (wd hw 59 rfl) rfl [(.ref ah4)] [(.ref ah6)] (arInit l Z a0 hw _ _ _ n0 f18 Xah6 (Dah6 (Or.inr (wd hw 95 rfl)) (ty := (.object "java/util/Set")) (by decide +kernel)) (Dah6 (Or.inr (wd hw 97 rfl)) (ty := (.object "java/util/List")) (by decide +kernel)) (Dah6 (Or.inl (wd hw 104 rfl)) (ty := .int) (by decide +kernel)) (Nat.le_trans (own_ge f11) (Nat.le_of_eq gah6.symm))) at_112 (ps := [(.object "java/util/List")]) (by decide +kernel) rfl rfl rfl (by decide) rfl (by decide) (by decide) (by decide) (by decide) rfl ?_
    rintro _ h7 ⟨rfl, Kh7, q0h7, q1h7, q2h7⟩
    show Go pP l eE _ sS mM _ bB tT cC n0 _ h7 10 30 (mkF mM 115 #[.val (.int sz), .val (.int st), .val (.int cc), .val (.int (0 : Int32)), .val (.int (0 : Int32)), .val (.ref ah1), .val (.ref ah2), .val (.ref ah3), .val (.ref ah4), .unset, .unset, .unset, .unset] [(.ref ah6)])
    refine go_astore (q := 117) K at_115 #[.val (.int sz), .val (.int st), .val (.int cc), .val (.int (0 : Int32)), .val (.int (0 : Int32)), .val (.ref ah1), .val (.ref ah2), .val (.ref ah3), .val (.ref ah4), .val (.ref ah6), .unset, .unset, .unset] rfl rfl rfl ?_
    refine go_aload (q := 119) K at_117 rfl rfl rfl ?_
    have f19 := ((q0h5.ext Eh6).keep Kh7)
    have f20 := ((q3h5.ext Eh6).keep Kh7 (ninS (own_nel (q0h5).lt (Nat.le_of_eq gah6.symm)) nin0))
    refine go_callV (q := 122) (W := 0) K (wd hw 98 rfl) (wd hw 99 rfl) (wd hw 101 rfl) (wd hw 100 rfl) (wd hw 56 rfl) (wd hw 102 rfl) (wd hw 101 rfl) rfl q0h7 [] [] (hasNext l Z a0 hw _ _ _ _ _ n0 q1h7 q2h7 f19 f20) at_119 (ps := []) (by decide +kernel) rfl rfl rfl (by decide) rfl (by decide) (by decide) (by decide) (by decide) rfl ?_
    rintro _ _ ⟨rfl, rfl⟩
    show Go pP l eE _ sS mM _ bB tT cC n0 _ h7 10 30 (mkF mM 122 #[.val (.int sz), .val (.int st), .val (.int cc), .val (.int (0 : Int32)), .val (.int (0 : Int32)), .val (.ref ah1), .val (.ref ah2), .val (.ref ah3), .val (.ref ah4), .val (.ref ah6), .unset, .unset, .unset] [(.int (if (0 : Int32) < (0 : Int32) then (1 : Int32) else (0 : Int32)))])
    refine go_eqI (y := (0 : Int32)) (by decide) ?_
    refine go_iconst (q := 123) K at_122 (0 : Int32) rfl rfl ?_
    refine go_iloadN (q := 124) K at_123 rfl rfl ?_
    refine go_icmp (q := 131) (q' := 127) K at_124 (by decide) rfl rfl (fun _ => ?_) (fun hn => cN_no2 hn (show ¬ (0 : Int32) < (0 : Int32) from (by decide)))
    refine go_iconst (q := 132) K at_131 (0 : Int32) rfl rfl ?_
    refine go_icmp (q := 139) (q' := 135) K at_132 (by decide) rfl rfl (fun hn => cN_no hn (show (0 : Int32) = (0 : Int32) from (by decide))) (fun _ => ?_)
    refine go_iconst (q := 136) K at_135 (1 : Int32) rfl rfl ?_
    refine go_goto (q := 140) K at_136 (by decide) rfl ?_
    refine go_istore (q := 142) K at_140 #[.val (.int sz), .val (.int st), .val (.int cc), .val (.int (0 : Int32)), .val (.int (0 : Int32)), .val (.ref ah1), .val (.ref ah2), .val (.ref ah3), .val (.ref ah4), .val (.ref ah6), .val (.int (1 : Int32)), .unset, .unset] rfl rfl ?_
    refine go_iload (q := 144) K at_142 rfl rfl ?_
    refine go_iconst (q := 145) K at_144 (1 : Int32) rfl rfl ?_
    refine go_icmp (q := 191) (q' := 148) K at_145 (by decide) rfl rfl (fun _ => ?_) (fun hn => cN_no2 hn (show (0 : Int32) < (1 : Int32) from (by decide)))
    refine go_iload (q := 193) K at_191 rfl rfl ?_
    refine go_iconst (q := 194) K at_193 (2 : Int32) rfl rfl ?_
    refine go_icmp (q := 240) (q' := 197) K at_194 (by decide) rfl rfl (fun _ => ?_) (fun hn => cN_no2 hn (show (0 : Int32) < (2 : Int32) from (by decide)))
    refine go_iload (q := 242) K at_240 rfl rfl ?_
    refine go_iconst (q := 243) K at_242 (3 : Int32) rfl rfl ?_
    refine go_icmp (q := 289) (q' := 246) K at_243 (by decide) rfl rfl (fun _ => ?_) (fun hn => cN_no2 hn (show (0 : Int32) < (3 : Int32) from (by decide)))
    refine go_aload (q := 291) K at_289 rfl rfl rfl ?_
    refine go_callV (q := 294) (W := 0) K (wd hw 98 rfl) (wd hw 99 rfl) (wd hw 101 rfl) (wd hw 100 rfl) (wd hw 56 rfl) (wd hw 102 rfl) (wd hw 101 rfl) rfl q0h7 [] [] (hasNext l Z a0 hw _ _ _ _ _ n0 q1h7 q2h7 f19 f20) at_291 (ps := []) (by decide +kernel) rfl rfl rfl (by decide) rfl (by decide) (by decide) (by decide) (by decide) rfl ?_
    rintro _ _ ⟨rfl, rfl⟩
    show Go pP l eE _ sS mM _ bB tT cC n0 _ h7 10 30 (mkF mM 294 #[.val (.int sz), .val (.int st), .val (.int cc), .val (.int (0 : Int32)), .val (.int (0 : Int32)), .val (.ref ah1), .val (.ref ah2), .val (.ref ah3), .val (.ref ah4), .val (.ref ah6), .val (.int (1 : Int32)), .unset, .unset] [(.int (if (0 : Int32) < (0 : Int32) then (1 : Int32) else (0 : Int32)))])
    refine go_eqI (y := (0 : Int32)) (by decide) ?_
    refine go_istore (q := 296) K at_294 #[.val (.int sz), .val (.int st), .val (.int cc), .val (.int (0 : Int32)), .val (.int (0 : Int32)), .val (.ref ah1), .val (.ref ah2), .val (.ref ah3), .val (.ref ah4), .val (.ref ah6), .val (.int (1 : Int32)), .val (.int (0 : Int32)), .unset] rfl rfl ?_
    refine go_aload (q := 298) K at_296 rfl rfl rfl ?_
    refine go_callV (q := 301) (W := 0) K (wd hw 98 rfl) (wd hw 99 rfl) (wd hw 101 rfl) (wd hw 100 rfl) (wd hw 56 rfl) (wd hw 102 rfl) (wd hw 101 rfl) rfl q0h7 [] [] (hasNext l Z a0 hw _ _ _ _ _ n0 q1h7 q2h7 f19 f20) at_298 (ps := []) (by decide +kernel) rfl rfl rfl (by decide) rfl (by decide) (by decide) (by decide) (by decide) rfl ?_
    rintro _ _ ⟨rfl, rfl⟩
    show Go pP l eE _ sS mM _ bB tT cC n0 _ h7 10 30 (mkF mM 301 #[.val (.int sz), .val (.int st), .val (.int cc), .val (.int (0 : Int32)), .val (.int (0 : Int32)), .val (.ref ah1), .val (.ref ah2), .val (.ref ah3), .val (.ref ah4), .val (.ref ah6), .val (.int (1 : Int32)), .val (.int (0 : Int32)), .unset] [(.int (if (0 : Int32) < (0 : Int32) then (1 : Int32) else (0 : Int32)))])
    refine go_eqI (y := (0 : Int32)) (by decide) ?_
    refine go_istore (q := 303) K at_301 #[.val (.int sz), .val (.int st), .val (.int cc), .val (.int (0 : Int32)), .val (.int (0 : Int32)), .val (.ref ah1), .val (.ref ah2), .val (.ref ah3), .val (.ref ah4), .val (.ref ah6), .val (.int (1 : Int32)), .val (.int (0 : Int32)), .val (.int (0 : Int32))] rfl rfl ?_
    refine go_iload (q := 305) K at_303 rfl rfl ?_
    refine go_iload (q := 307) K at_305 rfl rfl ?_
    refine go_iload (q := 309) K at_307 rfl rfl ?_
    refine go_iloadN (q := 310) K at_309 rfl rfl ?_
    refine go_icmp (q := 317) (q' := 313) K at_310 (by decide) rfl rfl (fun _ => ?_) (fun hn => cN_no2 hn (show ¬ (0 : Int32) < (0 : Int32) from (by decide)))
    refine go_iconst (q := 318) K at_317 (0 : Int32) rfl rfl ?_
    refine go_icmp (q := 325) (q' := 321) K at_318 (by decide) rfl rfl (fun hn => cN_no hn (show (0 : Int32) = (0 : Int32) from (by decide))) (fun _ => ?_)
    refine go_iconst (q := 322) K at_321 (1 : Int32) rfl rfl ?_
    refine go_goto (q := 326) K at_322 (by decide) rfl ?_
    refine go_iand (q := 327) K at_326 rfl ?_
    refine go_eqI (y := (1 : Int32)) (by decide) ?_
    refine go_iload (q := 329) K at_327 rfl rfl ?_
    refine go_iload (q := 331) K at_329 rfl rfl ?_
    refine go_icmp (q := 338) (q' := 334) K at_331 (by decide) rfl rfl (fun hn => cN_no hn (show (0 : Int32) = (0 : Int32) from (by decide))) (fun _ => ?_)
    refine go_iconst (q := 335) K at_334 (1 : Int32) rfl rfl ?_
    refine go_goto (q := 339) K at_335 (by decide) rfl ?_
    refine go_iand (q := 340) K at_339 rfl ?_
    refine go_eqI (y := (1 : Int32)) (by decide) ?_
    refine go_istore (q := 342) K at_340 #[.val (.int sz), .val (.int st), .val (.int cc), .val (.int (0 : Int32)), .val (.int (0 : Int32)), .val (.ref ah1), .val (.ref ah2), .val (.ref ah3), .val (.ref ah4), .val (.ref ah6), .val (.int (1 : Int32)), .val (.int (0 : Int32)), .val (.int (0 : Int32))] rfl rfl ?_
    refine go_iload (q := 344) K at_342 rfl rfl ?_
    refine go_iret K at_344 rfl (Or.inr (Or.inl rfl)) rfl (by decide) (by decide) ?_
    exact rfl
  · show Go pP l eE _ sS mM _ bB tT cC n0 _ h5 7 18 (mkF mM 61 #[.val (.int sz), .val (.int st), .val (.int cc), .val (.int (1 : Int32)), .val (.int (0 : Int32)), .val (.ref ah1), .val (.ref ah2), .val (.ref ah3), .val (.ref ah4), .unset, .unset, .unset, .unset] [])
    refine go_iloadN (q := 62) K at_61 rfl rfl ?_
    refine go_iconst (q := 63) K at_62 (1 : Int32) rfl rfl ?_
    refine go_icmp (q := 76) (q' := 66) K at_63 (by decide) rfl rfl (fun hn => cN_no hn (show ¬ (1 : Int32) < (1 : Int32) from (by decide))) (fun _ => ?_)
    refine go_aload (q := 68) K at_66 rfl rfl rfl ?_
    refine go_aload (q := 70) K at_68 rfl rfl rfl ?_
    have f11 := (f10.keep Kh5 (allS (Nat.le_trans (own_ge f5) (Nat.le_of_eq gah4.symm)) all0))
    have f12 := ((f6.ext Eh4).keep Kh5)
    have f13 := ((f7.ext Eh4).keep Kh5 (ninS (own_nel (f7).lt (Nat.le_of_eq gah4.symm)) nin0))
    have f14 := ((f8.ext Eh4).keep Kh5)
    have f15 := ((f9.ext Eh4).keep Kh5 (ninS (own_nel (f9).lt (Nat.le_of_eq gah4.symm)) nin0))
    have f16 := ((q0h3.ext Eh4).keep Kh5)
    have f17 := ((q3h3.ext Eh4).keep Kh5 (ninS (own_nel (q3h3).lt (Nat.le_of_eq gah4.symm)) nin0))
    refine go_callF (q := 75) (W := 0) K (wd hw 116 rfl) (wd hw 117 rfl) (wd hw 119 rfl) (wd hw 120 rfl) (wd hw 32 rfl) (wd hw 123 rfl) (wd hw 118 rfl) (wd hw 121 rfl) (wd hw 122 rfl) (wd hw 112 rfl) q0h5 [(.ref ah1)] [] (add0 l Z a0 hw _ _ _ _ _ _ n0 f11 q0h5 q1h5 q2h5 q3h5 (Nat.le_trans (own_ge f5) (Nat.le_of_eq gah4.symm)) p3_ p4_ f12 ((own_nel (f6).lt (Nat.le_of_eq gah4.symm))).symm) at_70 (ps := [(.object "java/lang/Object")]) (by decide +kernel) rfl rfl rfl (by decide) rfl (by decide) (by decide) (by decide) (by decide) rfl ?_
    rintro _ h6 ⟨arh6, klh6, rfl, Kh6, garh6, q0h6, q1h6, q2h6, q3h6, q4h6, q5h6⟩
    show Go pP l eE _ sS mM _ bB tT cC n0 _ h6 8 28 (mkF mM 75 #[.val (.int sz), .val (.int st), .val (.int cc), .val (.int (1 : Int32)), .val (.int (0 : Int32)), .val (.ref ah1), .val (.ref ah2), .val (.ref ah3), .val (.ref ah4), .unset, .unset, .unset, .unset] [(.int (1 : Int32))])
    refine go_pop (q := 76) K at_75 rfl rfl ?_
    refine go_iloadN (q := 77) K at_76 rfl rfl ?_
    refine go_iconst (q := 78) K at_77 (2 : Int32) rfl rfl ?_
    refine go_icmp (q := 91) (q' := 81) K at_78 (by decide) rfl rfl (fun _ => ?_) (fun hn => cN_no2 hn (show (1 : Int32) < (2 : Int32) from (by decide)))
    refine go_iloadN (q := 92) K at_91 rfl rfl ?_
    refine go_iconst (q := 93) K at_92 (3 : Int32) rfl rfl ?_
    refine go_icmp (q := 106) (q' := 96) K at_93 (by decide) rfl rfl (fun _ => ?_) (fun hn => cN_no2 hn (show (1 : Int32) < (3 : Int32) from (by decide)))
    have f18 := (f11.keep Kh6 (allS (Nat.le_trans (own_ge f5) (Nat.le_of_eq gah4.symm)) all0))
    have f19 := (f12.keep Kh6)
    have f20 := (f13.keep Kh6 (ninS (own_nel (f7).lt (Nat.le_of_eq gah4.symm)) nin0))
    have f21 := (f14.keep Kh6)
    have f22 := (f15.keep Kh6 (ninS (own_nel (f9).lt (Nat.le_of_eq gah4.symm)) nin0))
    have f23 := (f16.keep Kh6)
    have f24 := (f17.keep Kh6 (ninS (own_nel (q3h3).lt (Nat.le_of_eq gah4.symm)) nin0))
    refine go_new (q := 109) (sz := 3) K (wd hw 54 rfl) (wd hw 55 rfl) (wd hw 56 rfl) at_106 (by decide) (by decide) rfl ?_
    intro h7 ah7 gah7 Eh7 Xah7 Dah7
    refine go_dup (q := 110) K at_109 rfl rfl ?_
    refine go_aload (q := 112) K at_110 rfl rfl rfl ?_
    have f25 := (f18.ext Eh7)
    refine go_callI (q := 115) (W := 1) K (wd hw 57 rfl) (wd hw 58 rfl) (wd hw 56 rfl) (wd hw 59 rfl) rfl [(.ref ah4)] [(.ref ah7)] (arInit l Z a0 hw _ _ _ n0 f25 Xah7 (Dah7 (Or.inr (wd hw 95 rfl)) (ty := (.object "java/util/Set")) (by decide +kernel)) (Dah7 (Or.inr (wd hw 97 rfl)) (ty := (.object "java/util/List")) (by decide +kernel)) (Dah7 (Or.inl (wd hw 104 rfl)) (ty := .int) (by decide +kernel)) (Nat.le_trans (own_ge f18) (Nat.le_of_eq gah7.symm))) at_112 (ps := [(.object "java/util/List")]) (by decide +kernel) rfl rfl rfl (by decide) rfl (by decide) (by decide) (by decide) (by decide) rfl ?_
    rintro _ h8 ⟨rfl, Kh8, q0h8, q1h8, q2h8⟩
    show Go pP l eE _ sS mM _ bB tT cC n0 _ h8 11 40 (mkF mM 115 #[.val (.int sz), .val (.int st), .val (.int cc), .val (.int (1 : Int32)), .val (.int (0 : Int32)), .val (.ref ah1), .val (.ref ah2), .val (.ref ah3), .val (.ref ah4), .unset, .unset, .unset, .unset] [(.ref ah7)])
    refine go_astore (q := 117) K at_115 #[.val (.int sz), .val (.int st), .val (.int cc), .val (.int (1 : Int32)), .val (.int (0 : Int32)), .val (.ref ah1), .val (.ref ah2), .val (.ref ah3), .val (.ref ah4), .val (.ref ah7), .unset, .unset, .unset] rfl rfl rfl ?_
    refine go_aload (q := 119) K at_117 rfl rfl rfl ?_
    have f26 := ((q0h6.ext Eh7).keep Kh8)
    have f27 := ((q3h6.ext Eh7).keep Kh8 (ninS (own_nel (q0h6).lt (Nat.le_of_eq gah7.symm)) nin0))
    refine go_callV (q := 122) (W := 0) K (wd hw 98 rfl) (wd hw 99 rfl) (wd hw 101 rfl) (wd hw 100 rfl) (wd hw 56 rfl) (wd hw 102 rfl) (wd hw 101 rfl) rfl q0h8 [] [] (hasNext l Z a0 hw _ _ _ _ _ n0 q1h8 q2h8 f26 f27) at_119 (ps := []) (by decide +kernel) rfl rfl rfl (by decide) rfl (by decide) (by decide) (by decide) (by decide) rfl ?_
    rintro _ _ ⟨rfl, rfl⟩
    show Go pP l eE _ sS mM _ bB tT cC n0 _ h8 11 40 (mkF mM 122 #[.val (.int sz), .val (.int st), .val (.int cc), .val (.int (1 : Int32)), .val (.int (0 : Int32)), .val (.ref ah1), .val (.ref ah2), .val (.ref ah3), .val (.ref ah4), .val (.ref ah7), .unset, .unset, .unset] [(.int (if (0 : Int32) < (1 : Int32) then (1 : Int32) else (0 : Int32)))])
    refine go_eqI (y := (1 : Int32)) (by decide) ?_
    refine go_iconst (q := 123) K at_122 (0 : Int32) rfl rfl ?_
    refine go_iloadN (q := 124) K at_123 rfl rfl ?_
    refine go_icmp (q := 131) (q' := 127) K at_124 (by decide) rfl rfl (fun hn => cN_no hn (show (0 : Int32) < (1 : Int32) from (by decide))) (fun _ => ?_)
    refine go_iconst (q := 128) K at_127 (1 : Int32) rfl rfl ?_
    refine go_goto (q := 132) K at_128 (by decide) rfl ?_
    refine go_icmp (q := 139) (q' := 135) K at_132 (by decide) rfl rfl (fun hn => cN_no hn (show (1 : Int32) = (1 : Int32) from (by decide))) (fun _ => ?_)
    refine go_iconst (q := 136) K at_135 (1 : Int32) rfl rfl ?_
    refine go_goto (q := 140) K at_136 (by decide) rfl ?_
    refine go_istore (q := 142) K at_140 #[.val (.int sz), .val (.int st), .val (.int cc), .val (.int (1 : Int32)), .val (.int (0 : Int32)), .val (.ref ah1), .val (.ref ah2), .val (.ref ah3), .val (.ref ah4), .val (.ref ah7), .val (.int (1 : Int32)), .unset, .unset] rfl rfl ?_
    refine go_iload (q := 144) K at_142 rfl rfl ?_
    refine go_iconst (q := 145) K at_144 (1 : Int32) rfl rfl ?_
    refine go_icmp (q := 191) (q' := 148) K at_145 (by decide) rfl rfl (fun _ => ?_) (fun hn => cN_no2 hn (show (0 : Int32) < (1 : Int32) from (by decide)))
    refine go_iload (q := 193) K at_191 rfl rfl ?_
    refine go_iconst (q := 194) K at_193 (2 : Int32) rfl rfl ?_
    refine go_icmp (q := 240) (q' := 197) K at_194 (by decide) rfl rfl (fun _ => ?_) (fun hn => cN_no2 hn (show (0 : Int32) < (2 : Int32) from (by decide)))
    refine go_iload (q := 242) K at_240 rfl rfl ?_
    refine go_iconst (q := 243) K at_242 (3 : Int32) rfl rfl ?_
    refine go_icmp (q := 289) (q' := 246) K at_243 (by decide) rfl rfl (fun _ => ?_) (fun hn => cN_no2 hn (show (0 : Int32) < (3 : Int32) from (by decide)))
    refine go_aload (q := 291) K at_289 rfl rfl rfl ?_
    refine go_callV (q := 294) (W := 0) K (wd hw 98 rfl) (wd hw 99 rfl) (wd hw 101 rfl) (wd hw 100 rfl) (wd hw 56 rfl) (wd hw 102 rfl) (wd hw 101 rfl) rfl q0h8 [] [] (hasNext l Z a0 hw _ _ _ _ _ n0 q1h8 q2h8 f26 f27) at_291 (ps := []) (by decide +kernel) rfl rfl rfl (by decide) rfl (by decide) (by decide) (by decide) (by decide) rfl ?_
    rintro _ _ ⟨rfl, rfl⟩
    show Go pP l eE _ sS mM _ bB tT cC n0 _ h8 11 40 (mkF mM 294 #[.val (.int sz), .val (.int st), .val (.int cc), .val (.int (1 : Int32)), .val (.int (0 : Int32)), .val (.ref ah1), .val (.ref ah2), .val (.ref ah3), .val (.ref ah4), .val (.ref ah7), .val (.int (1 : Int32)), .unset, .unset] [(.int (if (0 : Int32) < (1 : Int32) then (1 : Int32) else (0 : Int32)))])
    refine go_eqI (y := (1 : Int32)) (by decide) ?_
    refine go_istore (q := 296) K at_294 #[.val (.int sz), .val (.int st), .val (.int cc), .val (.int (1 : Int32)), .val (.int (0 : Int32)), .val (.ref ah1), .val (.ref ah2), .val (.ref ah3), .val (.ref ah4), .val (.ref ah7), .val (.int (1 : Int32)), .val (.int (1 : Int32)), .unset] rfl rfl ?_
    refine go_aload (q := 298) K at_296 rfl rfl rfl ?_
    refine go_callV (q := 301) (W := 0) K (wd hw 98 rfl) (wd hw 99 rfl) (wd hw 101 rfl) (wd hw 100 rfl) (wd hw 56 rfl) (wd hw 102 rfl) (wd hw 101 rfl) rfl q0h8 [] [] (hasNext l Z a0 hw _ _ _ _ _ n0 q1h8 q2h8 f26 f27) at_298 (ps := []) (by decide +kernel) rfl rfl rfl (by decide) rfl (by decide) (by decide) (by decide) (by decide) rfl ?_
    rintro _ _ ⟨rfl, rfl⟩
    show Go pP l eE _ sS mM _ bB tT cC n0 _ h8 11 40 (mkF mM 301 #[.val (.int sz), .val (.int st), .val (.int cc), .val (.int (1 : Int32)), .val (.int (0 : Int32)), .val (.ref ah1), .val (.ref ah2), .val (.ref ah3), .val (.ref ah4), .val (.ref ah7), .val (.int (1 : Int32)), .val (.int (1 : Int32)), .unset] [(.int (if (0 : Int32) < (1 : Int32) then (1 : Int32) else (0 : Int32)))])
    refine go_eqI (y := (1 : Int32)) (by decide) ?_
    refine go_istore (q := 303) K at_301 #[.val (.int sz), .val (.int st), .val (.int cc), .val (.int (1 : Int32)), .val (.int (0 : Int32)), .val (.ref ah1), .val (.ref ah2), .val (.ref ah3), .val (.ref ah4), .val (.ref ah7), .val (.int (1 : Int32)), .val (.int (1 : Int32)), .val (.int (1 : Int32))] rfl rfl ?_
    refine go_iload (q := 305) K at_303 rfl rfl ?_
    refine go_iload (q := 307) K at_305 rfl rfl ?_
    refine go_iload (q := 309) K at_307 rfl rfl ?_
    refine go_iloadN (q := 310) K at_309 rfl rfl ?_
    refine go_icmp (q := 317) (q' := 313) K at_310 (by decide) rfl rfl (fun hn => cN_no hn (show (0 : Int32) < (1 : Int32) from (by decide))) (fun _ => ?_)
    refine go_iconst (q := 314) K at_313 (1 : Int32) rfl rfl ?_
    refine go_goto (q := 318) K at_314 (by decide) rfl ?_
    refine go_icmp (q := 325) (q' := 321) K at_318 (by decide) rfl rfl (fun hn => cN_no hn (show (1 : Int32) = (1 : Int32) from (by decide))) (fun _ => ?_)
    refine go_iconst (q := 322) K at_321 (1 : Int32) rfl rfl ?_
    refine go_goto (q := 326) K at_322 (by decide) rfl ?_
    refine go_iand (q := 327) K at_326 rfl ?_
    refine go_eqI (y := (1 : Int32)) (by decide) ?_
    refine go_iload (q := 329) K at_327 rfl rfl ?_
    refine go_iload (q := 331) K at_329 rfl rfl ?_
    refine go_icmp (q := 338) (q' := 334) K at_331 (by decide) rfl rfl (fun hn => cN_no hn (show (1 : Int32) = (1 : Int32) from (by decide))) (fun _ => ?_)
    refine go_iconst (q := 335) K at_334 (1 : Int32) rfl rfl ?_
    refine go_goto (q := 339) K at_335 (by decide) rfl ?_
    refine go_iand (q := 340) K at_339 rfl ?_
    refine go_eqI (y := (1 : Int32)) (by decide) ?_
    refine go_istore (q := 342) K at_340 #[.val (.int sz), .val (.int st), .val (.int cc), .val (.int (1 : Int32)), .val (.int (0 : Int32)), .val (.ref ah1), .val (.ref ah2), .val (.ref ah3), .val (.ref ah4), .val (.ref ah7), .val (.int (1 : Int32)), .val (.int (1 : Int32)), .val (.int (1 : Int32))] rfl rfl ?_
    refine go_iload (q := 344) K at_342 rfl rfl ?_
    refine go_iret K at_344 rfl (Or.inr (Or.inl rfl)) rfl (by decide) (by decide) ?_
    exact rfl
  · show Go pP l eE _ sS mM _ bB tT cC n0 _ h5 7 18 (mkF mM 61 #[.val (.int sz), .val (.int st), .val (.int cc), .val (.int (1 : Int32)), .val (.int (1 : Int32)), .val (.ref ah1), .val (.ref ah2), .val (.ref ah3), .val (.ref ah4), .unset, .unset, .unset, .unset] [])
    refine go_iloadN (q := 62) K at_61 rfl rfl ?_
    refine go_iconst (q := 63) K at_62 (1 : Int32) rfl rfl ?_
    refine go_icmp (q := 76) (q' := 66) K at_63 (by decide) rfl rfl (fun hn => cN_no hn (show ¬ (1 : Int32) < (1 : Int32) from (by decide))) (fun _ => ?_)
    refine go_aload (q := 68) K at_66 rfl rfl rfl ?_
    refine go_aload (q := 70) K at_68 rfl rfl rfl ?_
    have f11 := (f10.keep Kh5 (allS (Nat.le_trans (own_ge f5) (Nat.le_of_eq gah4.symm)) all0))
    have f12 := ((f6.ext Eh4).keep Kh5)
    have f13 := ((f7.ext Eh4).keep Kh5 (ninS (own_nel (f7).lt (Nat.le_of_eq gah4.symm)) nin0))
    have f14 := ((f8.ext Eh4).keep Kh5)
    have f15 := ((f9.ext Eh4).keep Kh5 (ninS (own_nel (f9).lt (Nat.le_of_eq gah4.symm)) nin0))
    have f16 := ((q0h3.ext Eh4).keep Kh5)
    have f17 := ((q3h3.ext Eh4).keep Kh5 (ninS (own_nel (q3h3).lt (Nat.le_of_eq gah4.symm)) nin0))
    refine go_callF (q := 75) (W := 0) K (wd hw 116 rfl) (wd hw 117 rfl) (wd hw 119 rfl) (wd hw 120 rfl) (wd hw 32 rfl) (wd hw 123 rfl) (wd hw 118 rfl) (wd hw 121 rfl) (wd hw 122 rfl) (wd hw 112 rfl) q0h5 [(.ref ah1)] [] (add0 l Z a0 hw _ _ _ _ _ _ n0 f11 q0h5 q1h5 q2h5 q3h5 (Nat.le_trans (own_ge f5) (Nat.le_of_eq gah4.symm)) p3_ p4_ f12 ((own_nel (f6).lt (Nat.le_of_eq gah4.symm))).symm) at_70 (ps := [(.object "java/lang/Object")]) (by decide +kernel) rfl rfl rfl (by decide) rfl (by decide) (by decide) (by decide) (by decide) rfl ?_
    rintro _ h6 ⟨arh6, klh6, rfl, Kh6, garh6, q0h6, q1h6, q2h6, q3h6, q4h6, q5h6⟩
    show Go pP l eE _ sS mM _ bB tT cC n0 _ h6 8 28 (mkF mM 75 #[.val (.int sz), .val (.int st), .val (.int cc), .val (.int (1 : Int32)), .val (.int (1 : Int32)), .val (.ref ah1), .val (.ref ah2), .val (.ref ah3), .val (.ref ah4), .unset, .unset, .unset, .unset] [(.int (1 : Int32))])
    refine go_pop (q := 76) K at_75 rfl rfl ?_
    refine go_iloadN (q := 77) K at_76 rfl rfl ?_
    refine go_iconst (q := 78) K at_77 (2 : Int32) rfl rfl ?_
    refine go_icmp (q := 91) (q' := 81) K at_78 (by decide) rfl rfl (fun _ => ?_) (fun hn => cN_no2 hn (show (1 : Int32) < (2 : Int32) from (by decide)))
    refine go_iloadN (q := 92) K at_91 rfl rfl ?_
    refine go_iconst (q := 93) K at_92 (3 : Int32) rfl rfl ?_
    refine go_icmp (q := 106) (q' := 96) K at_93 (by decide) rfl rfl (fun _ => ?_) (fun hn => cN_no2 hn (show (1 : Int32) < (3 : Int32) from (by decide)))
    have f18 := (f11.keep Kh6 (allS (Nat.le_trans (own_ge f5) (Nat.le_of_eq gah4.symm)) all0))
    have f19 := (f12.keep Kh6)
    have f20 := (f13.keep Kh6 (ninS (own_nel (f7).lt (Nat.le_of_eq gah4.symm)) nin0))
    have f21 := (f14.keep Kh6)
    have f22 := (f15.keep Kh6 (ninS (own_nel (f9).lt (Nat.le_of_eq gah4.symm)) nin0))
    have f23 := (f16.keep Kh6)
    have f24 := (f17.keep Kh6 (ninS (own_nel (q3h3).lt (Nat.le_of_eq gah4.symm)) nin0))
    refine go_new (q := 109) (sz := 3) K (wd hw 54 rfl) (wd hw 55 rfl) (wd hw 56 rfl) at_106 (by decide) (by decide) rfl ?_
    intro h7 ah7 gah7 Eh7 Xah7 Dah7
    refine go_dup (q := 110) K at_109 rfl rfl ?_
    refine go_aload (q := 112) K at_110 rfl rfl rfl ?_
    have f25 := (f18.ext Eh7)
    refine go_callI (q := 115) (W := 1) K (wd hw 57 rfl) (wd hw 58 rfl) (wd hw 56 rfl) (wd hw 59 rfl) rfl [(.ref ah4)] [(.ref ah7)] (arInit l Z a0 hw _ _ _ n0 f25 Xah7 (Dah7 (Or.inr (wd hw 95 rfl)) (ty := (.object "java/util/Set")) (by decide +kernel)) (Dah7 (Or.inr (wd hw 97 rfl)) (ty := (.object "java/util/List")) (by decide +kernel)) (Dah7 (Or.inl (wd hw 104 rfl)) (ty := .int) (by decide +kernel)) (Nat.le_trans (own_ge f18) (Nat.le_of_eq gah7.symm))) at_112 (ps := [(.object "java/util/List")]) (by decide +kernel) rfl rfl rfl (by decide) rfl (by decide) (by decide) (by decide) (by decide) rfl ?_
    rintro _ h8 ⟨rfl, Kh8, q0h8, q1h8, q2h8⟩
    show Go pP l eE _ sS mM _ bB tT cC n0 _ h8 11 40 (mkF mM 115 #[.val (.int sz), .val (.int st), .val (.int cc), .val (.int (1 : Int32)), .val (.int (1 : Int32)), .val (.ref ah1), .val (.ref ah2), .val (.ref ah3), .val (.ref ah4), .unset, .unset, .unset, .unset] [(.ref ah7)])
    refine go_astore (q := 117) K at_115 #[.val (.int sz), .val (.int st), .val (.int cc), .val (.int (1 : Int32)), .val (.int (1 : Int32)), .val (.ref ah1), .val (.ref ah2), .val (.ref ah3), .val (.ref ah4), .val (.ref ah7), .unset, .unset, .unset] rfl rfl rfl ?_
    refine go_aload (q := 119) K at_117 rfl rfl rfl ?_
    have f26 := ((q0h6.ext Eh7).keep Kh8)
    have f27 := ((q3h6.ext Eh7).keep Kh8 (ninS (own_nel (q0h6).lt (Nat.le_of_eq gah7.symm)) nin0))
    refine go_callV (q := 122) (W := 0) K (wd hw 98 rfl) (wd hw 99 rfl) (wd hw 101 rfl) (wd hw 100 rfl) (wd hw 56 rfl) (wd hw 102 rfl) (wd hw 101 rfl) rfl q0h8 [] [] (hasNext l Z a0 hw _ _ _ _ _ n0 q1h8 q2h8 f26 f27) at_119 (ps := []) (by decide +kernel) rfl rfl rfl (by decide) rfl (by decide) (by decide) (by decide) (by decide) rfl ?_
    rintro _ _ ⟨rfl, rfl⟩
    show Go pP l eE _ sS mM _ bB tT cC n0 _ h8 11 40 (mkF mM 122 #[.val (.int sz), .val (.int st), .val (.int cc), .val (.int (1 : Int32)), .val (.int (1 : Int32)), .val (.ref ah1), .val (.ref ah2), .val (.ref ah3), .val (.ref ah4), .val (.ref ah7), .unset, .unset, .unset] [(.int (if (0 : Int32) < (1 : Int32) then (1 : Int32) else (0 : Int32)))])
    refine go_eqI (y := (1 : Int32)) (by decide) ?_
    refine go_iconst (q := 123) K at_122 (0 : Int32) rfl rfl ?_
    refine go_iloadN (q := 124) K at_123 rfl rfl ?_
    refine go_icmp (q := 131) (q' := 127) K at_124 (by decide) rfl rfl (fun hn => cN_no hn (show (0 : Int32) < (1 : Int32) from (by decide))) (fun _ => ?_)
    refine go_iconst (q := 128) K at_127 (1 : Int32) rfl rfl ?_
    refine go_goto (q := 132) K at_128 (by decide) rfl ?_
    refine go_icmp (q := 139) (q' := 135) K at_132 (by decide) rfl rfl (fun hn => cN_no hn (show (1 : Int32) = (1 : Int32) from (by decide))) (fun _ => ?_)
    refine go_iconst (q := 136) K at_135 (1 : Int32) rfl rfl ?_
    refine go_goto (q := 140) K at_136 (by decide) rfl ?_
    refine go_istore (q := 142) K at_140 #[.val (.int sz), .val (.int st), .val (.int cc), .val (.int (1 : Int32)), .val (.int (1 : Int32)), .val (.ref ah1), .val (.ref ah2), .val (.ref ah3), .val (.ref ah4), .val (.ref ah7), .val (.int (1 : Int32)), .unset, .unset] rfl rfl ?_
    refine go_iload (q := 144) K at_142 rfl rfl ?_
    refine go_iconst (q := 145) K at_144 (1 : Int32) rfl rfl ?_
    refine go_icmp (q := 191) (q' := 148) K at_145 (by decide) rfl rfl (fun hn => cN_no hn (show ¬ (1 : Int32) < (1 : Int32) from (by decide))) (fun _ => ?_)
    refine go_iload (q := 150) K at_148 rfl rfl ?_
    refine go_aload (q := 152) K at_150 rfl rfl rfl ?_
    have f28 := ((q2h6.ext Eh7).keep Kh8 (ninS (own_nel (q0h6).lt (Nat.le_of_eq gah7.symm)) nin0))
    have f29 := ((q4h6.ext Eh7).keep Kh8 (ninS (own_nel (q4h6).lt (Nat.le_of_eq gah7.symm)) nin0))
    have f30 := ((f19.ext Eh7).keep Kh8)
    refine go_callV (q := 155) (W := 1) K (wd hw 147 rfl) (wd hw 148 rfl) (wd hw 150 rfl) (wd hw 149 rfl) (wd hw 56 rfl) (wd hw 151 rfl) (wd hw 101 rfl) rfl q0h8 [] [(.int (1 : Int32))] (next l Z a0 hw _ _ _ _ _ _ _ _ _ n0 q0h8 q1h8 q2h8 (Nat.le_trans (own_ge f18) (Nat.le_of_eq gah7.symm)) f26 f28 f29 f27 f30 ((own_nel (q0h6).lt (Nat.le_of_eq gah7.symm))).symm ((own_nel (q4h6).lt (Nat.le_of_eq gah7.symm))).symm (by decide) (by decide) rfl) at_152 (ps := []) (by decide +kernel) rfl rfl rfl (by decide) rfl (by decide) (by decide) (by decide) (by decide) rfl ?_
    rintro _ h10 ⟨rfl, Kh10, q0h10, q1h10, q2h10⟩
    show Go pP l eE _ sS mM _ bB tT cC n0 _ h10 11 40 (mkF mM 155 #[.val (.int sz), .val (.int st), .val (.int cc), .val (.int (1 : Int32)), .val (.int (1 : Int32)), .val (.ref ah1), .val (.ref ah2), .val (.ref ah3), .val (.ref ah4), .val (.ref ah7), .val (.int (1 : Int32)), .unset, .unset] [(.ref ah1), (.int (1 : Int32))])
    have q2h10c : Fld Z h10 ah7 "com/example/lexiflow/lexiflow/cli/Arguments" "next" "I" (.int (1 : Int32)) := q2h10
    refine go_aload (q := 157) K at_155 rfl rfl rfl ?_
    have f31 := (f30.keep Kh10)
    refine go_callV (q := 160) (W := 1) K (wd hw 174 rfl) (wd hw 175 rfl) (wd hw 177 rfl) (wd hw 176 rfl) (wd hw 6 rfl) (wd hw 178 rfl) (wd hw 177 rfl) rfl f31 [(.ref ah1)] [(.int (1 : Int32))] (eqSame l Z a0 hw _ _ n0 ) at_157 (ps := [(.object "java/lang/Object")]) (by decide +kernel) rfl rfl rfl (by decide) rfl (by decide) (by decide) (by decide) (by decide) rfl ?_
    rintro _ _ ⟨rfl, rfl⟩
    show Go pP l eE _ sS mM _ bB tT cC n0 _ h10 11 40 (mkF mM 160 #[.val (.int sz), .val (.int st), .val (.int cc), .val (.int (1 : Int32)), .val (.int (1 : Int32)), .val (.ref ah1), .val (.ref ah2), .val (.ref ah3), .val (.ref ah4), .val (.ref ah7), .val (.int (1 : Int32)), .unset, .unset] [(.int (1 : Int32)), (.int (1 : Int32))])
    refine go_iand (q := 161) K at_160 rfl ?_
    refine go_eqI (y := (1 : Int32)) (by decide) ?_
    refine go_istore (q := 163) K at_161 #[.val (.int sz), .val (.int st), .val (.int cc), .val (.int (1 : Int32)), .val (.int (1 : Int32)), .val (.ref ah1), .val (.ref ah2), .val (.ref ah3), .val (.ref ah4), .val (.ref ah7), .val (.int (1 : Int32)), .unset, .unset] rfl rfl ?_
    refine go_iload (q := 165) K at_163 rfl rfl ?_
    refine go_aload (q := 167) K at_165 rfl rfl rfl ?_
    have f32 := (f26.keep Kh10)
    have f33 := (f27.keep Kh10 (ninS (own_nel (q0h6).lt (Nat.le_of_eq gah7.symm)) nin0))
    refine go_callV (q := 170) (W := 1) K (wd hw 98 rfl) (wd hw 99 rfl) (wd hw 101 rfl) (wd hw 100 rfl) (wd hw 56 rfl) (wd hw 102 rfl) (wd hw 101 rfl) rfl q0h10 [] [(.int (1 : Int32))] (hasNext l Z a0 hw _ _ _ _ _ n0 q1h10 q2h10c f32 f33) at_167 (ps := []) (by decide +kernel) rfl rfl rfl (by decide) rfl (by decide) (by decide) (by decide) (by decide) rfl ?_
    rintro _ _ ⟨rfl, rfl⟩
    show Go pP l eE _ sS mM _ bB tT cC n0 _ h10 11 40 (mkF mM 170 #[.val (.int sz), .val (.int st), .val (.int cc), .val (.int (1 : Int32)), .val (.int (1 : Int32)), .val (.ref ah1), .val (.ref ah2), .val (.ref ah3), .val (.ref ah4), .val (.ref ah7), .val (.int (1 : Int32)), .unset, .unset] [(.int (if (1 : Int32) < (1 : Int32) then (1 : Int32) else (0 : Int32))), (.int (1 : Int32))])
    refine go_eqI (y := (0 : Int32)) (by decide) ?_
    refine go_iconst (q := 171) K at_170 (1 : Int32) rfl rfl ?_
    refine go_iloadN (q := 172) K at_171 rfl rfl ?_
    refine go_icmp (q := 179) (q' := 175) K at_172 (by decide) rfl rfl (fun _ => ?_) (fun hn => cN_no2 hn (show ¬ (1 : Int32) < (1 : Int32) from (by decide)))
    refine go_iconst (q := 180) K at_179 (0 : Int32) rfl rfl ?_
    refine go_icmp (q := 187) (q' := 183) K at_180 (by decide) rfl rfl (fun hn => cN_no hn (show (0 : Int32) = (0 : Int32) from (by decide))) (fun _ => ?_)
    refine go_iconst (q := 184) K at_183 (1 : Int32) rfl rfl ?_
    refine go_goto (q := 188) K at_184 (by decide) rfl ?_
    refine go_iand (q := 189) K at_188 rfl ?_
    refine go_eqI (y := (1 : Int32)) (by decide) ?_
    refine go_istore (q := 191) K at_189 #[.val (.int sz), .val (.int st), .val (.int cc), .val (.int (1 : Int32)), .val (.int (1 : Int32)), .val (.ref ah1), .val (.ref ah2), .val (.ref ah3), .val (.ref ah4), .val (.ref ah7), .val (.int (1 : Int32)), .unset, .unset] rfl rfl ?_
    refine go_iload (q := 193) K at_191 rfl rfl ?_
    refine go_iconst (q := 194) K at_193 (2 : Int32) rfl rfl ?_
    refine go_icmp (q := 240) (q' := 197) K at_194 (by decide) rfl rfl (fun _ => ?_) (fun hn => cN_no2 hn (show (1 : Int32) < (2 : Int32) from (by decide)))
    refine go_iload (q := 242) K at_240 rfl rfl ?_
    refine go_iconst (q := 243) K at_242 (3 : Int32) rfl rfl ?_
    refine go_icmp (q := 289) (q' := 246) K at_243 (by decide) rfl rfl (fun _ => ?_) (fun hn => cN_no2 hn (show (1 : Int32) < (3 : Int32) from (by decide)))
    refine go_aload (q := 291) K at_289 rfl rfl rfl ?_
    refine go_callV (q := 294) (W := 0) K (wd hw 98 rfl) (wd hw 99 rfl) (wd hw 101 rfl) (wd hw 100 rfl) (wd hw 56 rfl) (wd hw 102 rfl) (wd hw 101 rfl) rfl q0h10 [] [] (hasNext l Z a0 hw _ _ _ _ _ n0 q1h10 q2h10c f32 f33) at_291 (ps := []) (by decide +kernel) rfl rfl rfl (by decide) rfl (by decide) (by decide) (by decide) (by decide) rfl ?_
    rintro _ _ ⟨rfl, rfl⟩
    show Go pP l eE _ sS mM _ bB tT cC n0 _ h10 11 40 (mkF mM 294 #[.val (.int sz), .val (.int st), .val (.int cc), .val (.int (1 : Int32)), .val (.int (1 : Int32)), .val (.ref ah1), .val (.ref ah2), .val (.ref ah3), .val (.ref ah4), .val (.ref ah7), .val (.int (1 : Int32)), .unset, .unset] [(.int (if (1 : Int32) < (1 : Int32) then (1 : Int32) else (0 : Int32)))])
    refine go_eqI (y := (0 : Int32)) (by decide) ?_
    refine go_istore (q := 296) K at_294 #[.val (.int sz), .val (.int st), .val (.int cc), .val (.int (1 : Int32)), .val (.int (1 : Int32)), .val (.ref ah1), .val (.ref ah2), .val (.ref ah3), .val (.ref ah4), .val (.ref ah7), .val (.int (1 : Int32)), .val (.int (0 : Int32)), .unset] rfl rfl ?_
    refine go_aload (q := 298) K at_296 rfl rfl rfl ?_
    refine go_callV (q := 301) (W := 0) K (wd hw 98 rfl) (wd hw 99 rfl) (wd hw 101 rfl) (wd hw 100 rfl) (wd hw 56 rfl) (wd hw 102 rfl) (wd hw 101 rfl) rfl q0h10 [] [] (hasNext l Z a0 hw _ _ _ _ _ n0 q1h10 q2h10c f32 f33) at_298 (ps := []) (by decide +kernel) rfl rfl rfl (by decide) rfl (by decide) (by decide) (by decide) (by decide) rfl ?_
    rintro _ _ ⟨rfl, rfl⟩
    show Go pP l eE _ sS mM _ bB tT cC n0 _ h10 11 40 (mkF mM 301 #[.val (.int sz), .val (.int st), .val (.int cc), .val (.int (1 : Int32)), .val (.int (1 : Int32)), .val (.ref ah1), .val (.ref ah2), .val (.ref ah3), .val (.ref ah4), .val (.ref ah7), .val (.int (1 : Int32)), .val (.int (0 : Int32)), .unset] [(.int (if (1 : Int32) < (1 : Int32) then (1 : Int32) else (0 : Int32)))])
    refine go_eqI (y := (0 : Int32)) (by decide) ?_
    refine go_istore (q := 303) K at_301 #[.val (.int sz), .val (.int st), .val (.int cc), .val (.int (1 : Int32)), .val (.int (1 : Int32)), .val (.ref ah1), .val (.ref ah2), .val (.ref ah3), .val (.ref ah4), .val (.ref ah7), .val (.int (1 : Int32)), .val (.int (0 : Int32)), .val (.int (0 : Int32))] rfl rfl ?_
    refine go_iload (q := 305) K at_303 rfl rfl ?_
    refine go_iload (q := 307) K at_305 rfl rfl ?_
    refine go_iload (q := 309) K at_307 rfl rfl ?_
    refine go_iloadN (q := 310) K at_309 rfl rfl ?_
    refine go_icmp (q := 317) (q' := 313) K at_310 (by decide) rfl rfl (fun _ => ?_) (fun hn => cN_no2 hn (show ¬ (1 : Int32) < (1 : Int32) from (by decide)))
    refine go_iconst (q := 318) K at_317 (0 : Int32) rfl rfl ?_
    refine go_icmp (q := 325) (q' := 321) K at_318 (by decide) rfl rfl (fun hn => cN_no hn (show (0 : Int32) = (0 : Int32) from (by decide))) (fun _ => ?_)
    refine go_iconst (q := 322) K at_321 (1 : Int32) rfl rfl ?_
    refine go_goto (q := 326) K at_322 (by decide) rfl ?_
    refine go_iand (q := 327) K at_326 rfl ?_
    refine go_eqI (y := (1 : Int32)) (by decide) ?_
    refine go_iload (q := 329) K at_327 rfl rfl ?_
    refine go_iload (q := 331) K at_329 rfl rfl ?_
    refine go_icmp (q := 338) (q' := 334) K at_331 (by decide) rfl rfl (fun hn => cN_no hn (show (0 : Int32) = (0 : Int32) from (by decide))) (fun _ => ?_)
    refine go_iconst (q := 335) K at_334 (1 : Int32) rfl rfl ?_
    refine go_goto (q := 339) K at_335 (by decide) rfl ?_
    refine go_iand (q := 340) K at_339 rfl ?_
    refine go_eqI (y := (1 : Int32)) (by decide) ?_
    refine go_istore (q := 342) K at_340 #[.val (.int sz), .val (.int st), .val (.int cc), .val (.int (1 : Int32)), .val (.int (1 : Int32)), .val (.ref ah1), .val (.ref ah2), .val (.ref ah3), .val (.ref ah4), .val (.ref ah7), .val (.int (1 : Int32)), .val (.int (0 : Int32)), .val (.int (0 : Int32))] rfl rfl ?_
    refine go_iload (q := 344) K at_342 rfl rfl ?_
    refine go_iret K at_344 rfl (Or.inr (Or.inl rfl)) rfl (by decide) (by decide) ?_
    exact rfl
  · show Go pP l eE _ sS mM _ bB tT cC n0 _ h5 7 18 (mkF mM 61 #[.val (.int sz), .val (.int st), .val (.int cc), .val (.int (2 : Int32)), .val (.int (0 : Int32)), .val (.ref ah1), .val (.ref ah2), .val (.ref ah3), .val (.ref ah4), .unset, .unset, .unset, .unset] [])
    refine go_iloadN (q := 62) K at_61 rfl rfl ?_
    refine go_iconst (q := 63) K at_62 (1 : Int32) rfl rfl ?_
    refine go_icmp (q := 76) (q' := 66) K at_63 (by decide) rfl rfl (fun hn => cN_no hn (show ¬ (2 : Int32) < (1 : Int32) from (by decide))) (fun _ => ?_)
    refine go_aload (q := 68) K at_66 rfl rfl rfl ?_
    refine go_aload (q := 70) K at_68 rfl rfl rfl ?_
    have f11 := (f10.keep Kh5 (allS (Nat.le_trans (own_ge f5) (Nat.le_of_eq gah4.symm)) all0))
    have f12 := ((f6.ext Eh4).keep Kh5)
    have f13 := ((f7.ext Eh4).keep Kh5 (ninS (own_nel (f7).lt (Nat.le_of_eq gah4.symm)) nin0))
    have f14 := ((f8.ext Eh4).keep Kh5)
    have f15 := ((f9.ext Eh4).keep Kh5 (ninS (own_nel (f9).lt (Nat.le_of_eq gah4.symm)) nin0))
    have f16 := ((q0h3.ext Eh4).keep Kh5)
    have f17 := ((q3h3.ext Eh4).keep Kh5 (ninS (own_nel (q3h3).lt (Nat.le_of_eq gah4.symm)) nin0))
    refine go_callF (q := 75) (W := 0) K (wd hw 116 rfl) (wd hw 117 rfl) (wd hw 119 rfl) (wd hw 120 rfl) (wd hw 32 rfl) (wd hw 123 rfl) (wd hw 118 rfl) (wd hw 121 rfl) (wd hw 122 rfl) (wd hw 112 rfl) q0h5 [(.ref ah1)] [] (add0 l Z a0 hw _ _ _ _ _ _ n0 f11 q0h5 q1h5 q2h5 q3h5 (Nat.le_trans (own_ge f5) (Nat.le_of_eq gah4.symm)) p3_ p4_ f12 ((own_nel (f6).lt (Nat.le_of_eq gah4.symm))).symm) at_70 (ps := [(.object "java/lang/Object")]) (by decide +kernel) rfl rfl rfl (by decide) rfl (by decide) (by decide) (by decide) (by decide) rfl ?_
    rintro _ h6 ⟨arh6, klh6, rfl, Kh6, garh6, q0h6, q1h6, q2h6, q3h6, q4h6, q5h6⟩
    show Go pP l eE _ sS mM _ bB tT cC n0 _ h6 8 28 (mkF mM 75 #[.val (.int sz), .val (.int st), .val (.int cc), .val (.int (2 : Int32)), .val (.int (0 : Int32)), .val (.ref ah1), .val (.ref ah2), .val (.ref ah3), .val (.ref ah4), .unset, .unset, .unset, .unset] [(.int (1 : Int32))])
    refine go_pop (q := 76) K at_75 rfl rfl ?_
    refine go_iloadN (q := 77) K at_76 rfl rfl ?_
    refine go_iconst (q := 78) K at_77 (2 : Int32) rfl rfl ?_
    refine go_icmp (q := 91) (q' := 81) K at_78 (by decide) rfl rfl (fun hn => cN_no hn (show ¬ (2 : Int32) < (2 : Int32) from (by decide))) (fun _ => ?_)
    refine go_aload (q := 83) K at_81 rfl rfl rfl ?_
    refine go_aload (q := 85) K at_83 rfl rfl rfl ?_
    have f18 := (f14.keep Kh6)
    refine go_callF (q := 90) (W := 0) K (wd hw 116 rfl) (wd hw 117 rfl) (wd hw 119 rfl) (wd hw 120 rfl) (wd hw 32 rfl) (wd hw 123 rfl) (wd hw 118 rfl) (wd hw 121 rfl) (wd hw 122 rfl) (wd hw 112 rfl) q0h6 [(.ref ah2)] [] (add1 l Z a0 hw _ _ _ _ _ _ _ n0 q0h6 q1h6 q2h6 q3h6 (Nat.le_trans (own_ge f5) (Nat.le_of_eq gah4.symm)) (Nat.le_trans (own_ge f11) garh6) (own_nel (q0h5).lt garh6) q4h6 q5h6 f18) at_85 (ps := [(.object "java/lang/Object")]) (by decide +kernel) rfl rfl rfl (by decide) rfl (by decide) (by decide) (by decide) (by decide) rfl ?_
    rintro _ h7 ⟨rfl, Kh7, q0h7, q1h7, q2h7, q3h7, q4h7⟩
    show Go pP l eE _ sS mM _ bB tT cC n0 _ h7 8 28 (mkF mM 90 #[.val (.int sz), .val (.int st), .val (.int cc), .val (.int (2 : Int32)), .val (.int (0 : Int32)), .val (.ref ah1), .val (.ref ah2), .val (.ref ah3), .val (.ref ah4), .unset, .unset, .unset, .unset] [(.int (1 : Int32))])
    refine go_pop (q := 91) K at_90 rfl rfl ?_
    refine go_iloadN (q := 92) K at_91 rfl rfl ?_
    refine go_iconst (q := 93) K at_92 (3 : Int32) rfl rfl ?_
    refine go_icmp (q := 106) (q' := 96) K at_93 (by decide) rfl rfl (fun _ => ?_) (fun hn => cN_no2 hn (show (2 : Int32) < (3 : Int32) from (by decide)))
    have f19 := ((f11.keep Kh6 (allS (Nat.le_trans (own_ge f5) (Nat.le_of_eq gah4.symm)) all0)).keep Kh7 (allS (Nat.le_trans (own_ge f5) (Nat.le_of_eq gah4.symm)) (allS (Nat.le_trans (own_ge f11) garh6) all0)))
    have f20 := ((f12.keep Kh6).keep Kh7)
    have f21 := ((f13.keep Kh6 (ninS (own_nel (f7).lt (Nat.le_of_eq gah4.symm)) nin0)).keep Kh7 (ninS (own_nel (f7).lt (Nat.le_of_eq gah4.symm)) (ninS (own_nel (f13).lt garh6) nin0)))
    have f22 := (f18.keep Kh7)
    have f23 := ((f15.keep Kh6 (ninS (own_nel (f9).lt (Nat.le_of_eq gah4.symm)) nin0)).keep Kh7 (ninS (own_nel (f9).lt (Nat.le_of_eq gah4.symm)) (ninS (own_nel (f15).lt garh6) nin0)))
    have f24 := ((f16.keep Kh6).keep Kh7)
    have f25 := ((f17.keep Kh6 (ninS (own_nel (q3h3).lt (Nat.le_of_eq gah4.symm)) nin0)).keep Kh7 (ninS (own_nel (q3h3).lt (Nat.le_of_eq gah4.symm)) (ninS (own_nel (f17).lt garh6) nin0)))
    refine go_new (q := 109) (sz := 3) K (wd hw 54 rfl) (wd hw 55 rfl) (wd hw 56 rfl) at_106 (by decide) (by decide) rfl ?_
    intro h8 ah8 gah8 Eh8 Xah8 Dah8
    refine go_dup (q := 110) K at_109 rfl rfl ?_
    refine go_aload (q := 112) K at_110 rfl rfl rfl ?_
    have f26 := (f19.ext Eh8)
    refine go_callI (q := 115) (W := 1) K (wd hw 57 rfl) (wd hw 58 rfl) (wd hw 56 rfl) (wd hw 59 rfl) rfl [(.ref ah4)] [(.ref ah8)] (arInit l Z a0 hw _ _ _ n0 f26 Xah8 (Dah8 (Or.inr (wd hw 95 rfl)) (ty := (.object "java/util/Set")) (by decide +kernel)) (Dah8 (Or.inr (wd hw 97 rfl)) (ty := (.object "java/util/List")) (by decide +kernel)) (Dah8 (Or.inl (wd hw 104 rfl)) (ty := .int) (by decide +kernel)) (Nat.le_trans (own_ge f19) (Nat.le_of_eq gah8.symm))) at_112 (ps := [(.object "java/util/List")]) (by decide +kernel) rfl rfl rfl (by decide) rfl (by decide) (by decide) (by decide) (by decide) rfl ?_
    rintro _ h9 ⟨rfl, Kh9, q0h9, q1h9, q2h9⟩
    show Go pP l eE _ sS mM _ bB tT cC n0 _ h9 11 40 (mkF mM 115 #[.val (.int sz), .val (.int st), .val (.int cc), .val (.int (2 : Int32)), .val (.int (0 : Int32)), .val (.ref ah1), .val (.ref ah2), .val (.ref ah3), .val (.ref ah4), .unset, .unset, .unset, .unset] [(.ref ah8)])
    refine go_astore (q := 117) K at_115 #[.val (.int sz), .val (.int st), .val (.int cc), .val (.int (2 : Int32)), .val (.int (0 : Int32)), .val (.ref ah1), .val (.ref ah2), .val (.ref ah3), .val (.ref ah4), .val (.ref ah8), .unset, .unset, .unset] rfl rfl rfl ?_
    refine go_aload (q := 119) K at_117 rfl rfl rfl ?_
    have f27 := ((q0h7.ext Eh8).keep Kh9)
    have f28 := ((q3h7.ext Eh8).keep Kh9 (ninS (own_nel (q0h7).lt (Nat.le_of_eq gah8.symm)) nin0))
    refine go_callV (q := 122) (W := 0) K (wd hw 98 rfl) (wd hw 99 rfl) (wd hw 101 rfl) (wd hw 100 rfl) (wd hw 56 rfl) (wd hw 102 rfl) (wd hw 101 rfl) rfl q0h9 [] [] (hasNext l Z a0 hw _ _ _ _ _ n0 q1h9 q2h9 f27 f28) at_119 (ps := []) (by decide +kernel) rfl rfl rfl (by decide) rfl (by decide) (by decide) (by decide) (by decide) rfl ?_
    rintro _ _ ⟨rfl, rfl⟩
    show Go pP l eE _ sS mM _ bB tT cC n0 _ h9 11 40 (mkF mM 122 #[.val (.int sz), .val (.int st), .val (.int cc), .val (.int (2 : Int32)), .val (.int (0 : Int32)), .val (.ref ah1), .val (.ref ah2), .val (.ref ah3), .val (.ref ah4), .val (.ref ah8), .unset, .unset, .unset] [(.int (if (0 : Int32) < (2 : Int32) then (1 : Int32) else (0 : Int32)))])
    refine go_eqI (y := (1 : Int32)) (by decide) ?_
    refine go_iconst (q := 123) K at_122 (0 : Int32) rfl rfl ?_
    refine go_iloadN (q := 124) K at_123 rfl rfl ?_
    refine go_icmp (q := 131) (q' := 127) K at_124 (by decide) rfl rfl (fun hn => cN_no hn (show (0 : Int32) < (2 : Int32) from (by decide))) (fun _ => ?_)
    refine go_iconst (q := 128) K at_127 (1 : Int32) rfl rfl ?_
    refine go_goto (q := 132) K at_128 (by decide) rfl ?_
    refine go_icmp (q := 139) (q' := 135) K at_132 (by decide) rfl rfl (fun hn => cN_no hn (show (1 : Int32) = (1 : Int32) from (by decide))) (fun _ => ?_)
    refine go_iconst (q := 136) K at_135 (1 : Int32) rfl rfl ?_
    refine go_goto (q := 140) K at_136 (by decide) rfl ?_
    refine go_istore (q := 142) K at_140 #[.val (.int sz), .val (.int st), .val (.int cc), .val (.int (2 : Int32)), .val (.int (0 : Int32)), .val (.ref ah1), .val (.ref ah2), .val (.ref ah3), .val (.ref ah4), .val (.ref ah8), .val (.int (1 : Int32)), .unset, .unset] rfl rfl ?_
    refine go_iload (q := 144) K at_142 rfl rfl ?_
    refine go_iconst (q := 145) K at_144 (1 : Int32) rfl rfl ?_
    refine go_icmp (q := 191) (q' := 148) K at_145 (by decide) rfl rfl (fun _ => ?_) (fun hn => cN_no2 hn (show (0 : Int32) < (1 : Int32) from (by decide)))
    refine go_iload (q := 193) K at_191 rfl rfl ?_
    refine go_iconst (q := 194) K at_193 (2 : Int32) rfl rfl ?_
    refine go_icmp (q := 240) (q' := 197) K at_194 (by decide) rfl rfl (fun _ => ?_) (fun hn => cN_no2 hn (show (0 : Int32) < (2 : Int32) from (by decide)))
    refine go_iload (q := 242) K at_240 rfl rfl ?_
    refine go_iconst (q := 243) K at_242 (3 : Int32) rfl rfl ?_
    refine go_icmp (q := 289) (q' := 246) K at_243 (by decide) rfl rfl (fun _ => ?_) (fun hn => cN_no2 hn (show (0 : Int32) < (3 : Int32) from (by decide)))
    refine go_aload (q := 291) K at_289 rfl rfl rfl ?_
    refine go_callV (q := 294) (W := 0) K (wd hw 98 rfl) (wd hw 99 rfl) (wd hw 101 rfl) (wd hw 100 rfl) (wd hw 56 rfl) (wd hw 102 rfl) (wd hw 101 rfl) rfl q0h9 [] [] (hasNext l Z a0 hw _ _ _ _ _ n0 q1h9 q2h9 f27 f28) at_291 (ps := []) (by decide +kernel) rfl rfl rfl (by decide) rfl (by decide) (by decide) (by decide) (by decide) rfl ?_
    rintro _ _ ⟨rfl, rfl⟩
    show Go pP l eE _ sS mM _ bB tT cC n0 _ h9 11 40 (mkF mM 294 #[.val (.int sz), .val (.int st), .val (.int cc), .val (.int (2 : Int32)), .val (.int (0 : Int32)), .val (.ref ah1), .val (.ref ah2), .val (.ref ah3), .val (.ref ah4), .val (.ref ah8), .val (.int (1 : Int32)), .unset, .unset] [(.int (if (0 : Int32) < (2 : Int32) then (1 : Int32) else (0 : Int32)))])
    refine go_eqI (y := (1 : Int32)) (by decide) ?_
    refine go_istore (q := 296) K at_294 #[.val (.int sz), .val (.int st), .val (.int cc), .val (.int (2 : Int32)), .val (.int (0 : Int32)), .val (.ref ah1), .val (.ref ah2), .val (.ref ah3), .val (.ref ah4), .val (.ref ah8), .val (.int (1 : Int32)), .val (.int (1 : Int32)), .unset] rfl rfl ?_
    refine go_aload (q := 298) K at_296 rfl rfl rfl ?_
    refine go_callV (q := 301) (W := 0) K (wd hw 98 rfl) (wd hw 99 rfl) (wd hw 101 rfl) (wd hw 100 rfl) (wd hw 56 rfl) (wd hw 102 rfl) (wd hw 101 rfl) rfl q0h9 [] [] (hasNext l Z a0 hw _ _ _ _ _ n0 q1h9 q2h9 f27 f28) at_298 (ps := []) (by decide +kernel) rfl rfl rfl (by decide) rfl (by decide) (by decide) (by decide) (by decide) rfl ?_
    rintro _ _ ⟨rfl, rfl⟩
    show Go pP l eE _ sS mM _ bB tT cC n0 _ h9 11 40 (mkF mM 301 #[.val (.int sz), .val (.int st), .val (.int cc), .val (.int (2 : Int32)), .val (.int (0 : Int32)), .val (.ref ah1), .val (.ref ah2), .val (.ref ah3), .val (.ref ah4), .val (.ref ah8), .val (.int (1 : Int32)), .val (.int (1 : Int32)), .unset] [(.int (if (0 : Int32) < (2 : Int32) then (1 : Int32) else (0 : Int32)))])
    refine go_eqI (y := (1 : Int32)) (by decide) ?_
    refine go_istore (q := 303) K at_301 #[.val (.int sz), .val (.int st), .val (.int cc), .val (.int (2 : Int32)), .val (.int (0 : Int32)), .val (.ref ah1), .val (.ref ah2), .val (.ref ah3), .val (.ref ah4), .val (.ref ah8), .val (.int (1 : Int32)), .val (.int (1 : Int32)), .val (.int (1 : Int32))] rfl rfl ?_
    refine go_iload (q := 305) K at_303 rfl rfl ?_
    refine go_iload (q := 307) K at_305 rfl rfl ?_
    refine go_iload (q := 309) K at_307 rfl rfl ?_
    refine go_iloadN (q := 310) K at_309 rfl rfl ?_
    refine go_icmp (q := 317) (q' := 313) K at_310 (by decide) rfl rfl (fun hn => cN_no hn (show (0 : Int32) < (2 : Int32) from (by decide))) (fun _ => ?_)
    refine go_iconst (q := 314) K at_313 (1 : Int32) rfl rfl ?_
    refine go_goto (q := 318) K at_314 (by decide) rfl ?_
    refine go_icmp (q := 325) (q' := 321) K at_318 (by decide) rfl rfl (fun hn => cN_no hn (show (1 : Int32) = (1 : Int32) from (by decide))) (fun _ => ?_)
    refine go_iconst (q := 322) K at_321 (1 : Int32) rfl rfl ?_
    refine go_goto (q := 326) K at_322 (by decide) rfl ?_
    refine go_iand (q := 327) K at_326 rfl ?_
    refine go_eqI (y := (1 : Int32)) (by decide) ?_
    refine go_iload (q := 329) K at_327 rfl rfl ?_
    refine go_iload (q := 331) K at_329 rfl rfl ?_
    refine go_icmp (q := 338) (q' := 334) K at_331 (by decide) rfl rfl (fun hn => cN_no hn (show (1 : Int32) = (1 : Int32) from (by decide))) (fun _ => ?_)
    refine go_iconst (q := 335) K at_334 (1 : Int32) rfl rfl ?_
    refine go_goto (q := 339) K at_335 (by decide) rfl ?_
    refine go_iand (q := 340) K at_339 rfl ?_
    refine go_eqI (y := (1 : Int32)) (by decide) ?_
    refine go_istore (q := 342) K at_340 #[.val (.int sz), .val (.int st), .val (.int cc), .val (.int (2 : Int32)), .val (.int (0 : Int32)), .val (.ref ah1), .val (.ref ah2), .val (.ref ah3), .val (.ref ah4), .val (.ref ah8), .val (.int (1 : Int32)), .val (.int (1 : Int32)), .val (.int (1 : Int32))] rfl rfl ?_
    refine go_iload (q := 344) K at_342 rfl rfl ?_
    refine go_iret K at_344 rfl (Or.inr (Or.inl rfl)) rfl (by decide) (by decide) ?_
    exact rfl
  · show Go pP l eE _ sS mM _ bB tT cC n0 _ h5 7 18 (mkF mM 61 #[.val (.int sz), .val (.int st), .val (.int cc), .val (.int (2 : Int32)), .val (.int (1 : Int32)), .val (.ref ah1), .val (.ref ah2), .val (.ref ah3), .val (.ref ah4), .unset, .unset, .unset, .unset] [])
    refine go_iloadN (q := 62) K at_61 rfl rfl ?_
    refine go_iconst (q := 63) K at_62 (1 : Int32) rfl rfl ?_
    refine go_icmp (q := 76) (q' := 66) K at_63 (by decide) rfl rfl (fun hn => cN_no hn (show ¬ (2 : Int32) < (1 : Int32) from (by decide))) (fun _ => ?_)
    refine go_aload (q := 68) K at_66 rfl rfl rfl ?_
    refine go_aload (q := 70) K at_68 rfl rfl rfl ?_
    have f11 := (f10.keep Kh5 (allS (Nat.le_trans (own_ge f5) (Nat.le_of_eq gah4.symm)) all0))
    have f12 := ((f6.ext Eh4).keep Kh5)
    have f13 := ((f7.ext Eh4).keep Kh5 (ninS (own_nel (f7).lt (Nat.le_of_eq gah4.symm)) nin0))
    have f14 := ((f8.ext Eh4).keep Kh5)
    have f15 := ((f9.ext Eh4).keep Kh5 (ninS (own_nel (f9).lt (Nat.le_of_eq gah4.symm)) nin0))
    have f16 := ((q0h3.ext Eh4).keep Kh5)
    have f17 := ((q3h3.ext Eh4).keep Kh5 (ninS (own_nel (q3h3).lt (Nat.le_of_eq gah4.symm)) nin0))
    refine go_callF (q := 75) (W := 0) K (wd hw 116 rfl) (wd hw 117 rfl) (wd hw 119 rfl) (wd hw 120 rfl) (wd hw 32 rfl) (wd hw 123 rfl) (wd hw 118 rfl) (wd hw 121 rfl) (wd hw 122 rfl) (wd hw 112 rfl) q0h5 [(.ref ah1)] [] (add0 l Z a0 hw _ _ _ _ _ _ n0 f11 q0h5 q1h5 q2h5 q3h5 (Nat.le_trans (own_ge f5) (Nat.le_of_eq gah4.symm)) p3_ p4_ f12 ((own_nel (f6).lt (Nat.le_of_eq gah4.symm))).symm) at_70 (ps := [(.object "java/lang/Object")]) (by decide +kernel) rfl rfl rfl (by decide) rfl (by decide) (by decide) (by decide) (by decide) rfl ?_
    rintro _ h6 ⟨arh6, klh6, rfl, Kh6, garh6, q0h6, q1h6, q2h6, q3h6, q4h6, q5h6⟩
    show Go pP l eE _ sS mM _ bB tT cC n0 _ h6 8 28 (mkF mM 75 #[.val (.int sz), .val (.int st), .val (.int cc), .val (.int (2 : Int32)), .val (.int (1 : Int32)), .val (.ref ah1), .val (.ref ah2), .val (.ref ah3), .val (.ref ah4), .unset, .unset, .unset, .unset] [(.int (1 : Int32))])
    refine go_pop (q := 76) K at_75 rfl rfl ?_
    refine go_iloadN (q := 77) K at_76 rfl rfl ?_
    refine go_iconst (q := 78) K at_77 (2 : Int32) rfl rfl ?_
    refine go_icmp (q := 91) (q' := 81) K at_78 (by decide) rfl rfl (fun hn => cN_no hn (show ¬ (2 : Int32) < (2 : Int32) from (by decide))) (fun _ => ?_)
    refine go_aload (q := 83) K at_81 rfl rfl rfl ?_
    refine go_aload (q := 85) K at_83 rfl rfl rfl ?_
    have f18 := (f14.keep Kh6)
    refine go_callF (q := 90) (W := 0) K (wd hw 116 rfl) (wd hw 117 rfl) (wd hw 119 rfl) (wd hw 120 rfl) (wd hw 32 rfl) (wd hw 123 rfl) (wd hw 118 rfl) (wd hw 121 rfl) (wd hw 122 rfl) (wd hw 112 rfl) q0h6 [(.ref ah2)] [] (add1 l Z a0 hw _ _ _ _ _ _ _ n0 q0h6 q1h6 q2h6 q3h6 (Nat.le_trans (own_ge f5) (Nat.le_of_eq gah4.symm)) (Nat.le_trans (own_ge f11) garh6) (own_nel (q0h5).lt garh6) q4h6 q5h6 f18) at_85 (ps := [(.object "java/lang/Object")]) (by decide +kernel) rfl rfl rfl (by decide) rfl (by decide) (by decide) (by decide) (by decide) rfl ?_
    rintro _ h7 ⟨rfl, Kh7, q0h7, q1h7, q2h7, q3h7, q4h7⟩
    show Go pP l eE _ sS mM _ bB tT cC n0 _ h7 8 28 (mkF mM 90 #[.val (.int sz), .val (.int st), .val (.int cc), .val (.int (2 : Int32)), .val (.int (1 : Int32)), .val (.ref ah1), .val (.ref ah2), .val (.ref ah3), .val (.ref ah4), .unset, .unset, .unset, .unset] [(.int (1 : Int32))])
    refine go_pop (q := 91) K at_90 rfl rfl ?_
    refine go_iloadN (q := 92) K at_91 rfl rfl ?_
    refine go_iconst (q := 93) K at_92 (3 : Int32) rfl rfl ?_
    refine go_icmp (q := 106) (q' := 96) K at_93 (by decide) rfl rfl (fun _ => ?_) (fun hn => cN_no2 hn (show (2 : Int32) < (3 : Int32) from (by decide)))
    have f19 := ((f11.keep Kh6 (allS (Nat.le_trans (own_ge f5) (Nat.le_of_eq gah4.symm)) all0)).keep Kh7 (allS (Nat.le_trans (own_ge f5) (Nat.le_of_eq gah4.symm)) (allS (Nat.le_trans (own_ge f11) garh6) all0)))
    have f20 := ((f12.keep Kh6).keep Kh7)
    have f21 := ((f13.keep Kh6 (ninS (own_nel (f7).lt (Nat.le_of_eq gah4.symm)) nin0)).keep Kh7 (ninS (own_nel (f7).lt (Nat.le_of_eq gah4.symm)) (ninS (own_nel (f13).lt garh6) nin0)))
    have f22 := (f18.keep Kh7)
    have f23 := ((f15.keep Kh6 (ninS (own_nel (f9).lt (Nat.le_of_eq gah4.symm)) nin0)).keep Kh7 (ninS (own_nel (f9).lt (Nat.le_of_eq gah4.symm)) (ninS (own_nel (f15).lt garh6) nin0)))
    have f24 := ((f16.keep Kh6).keep Kh7)
    have f25 := ((f17.keep Kh6 (ninS (own_nel (q3h3).lt (Nat.le_of_eq gah4.symm)) nin0)).keep Kh7 (ninS (own_nel (q3h3).lt (Nat.le_of_eq gah4.symm)) (ninS (own_nel (f17).lt garh6) nin0)))
    refine go_new (q := 109) (sz := 3) K (wd hw 54 rfl) (wd hw 55 rfl) (wd hw 56 rfl) at_106 (by decide) (by decide) rfl ?_
    intro h8 ah8 gah8 Eh8 Xah8 Dah8
    refine go_dup (q := 110) K at_109 rfl rfl ?_
    refine go_aload (q := 112) K at_110 rfl rfl rfl ?_
    have f26 := (f19.ext Eh8)
    refine go_callI (q := 115) (W := 1) K (wd hw 57 rfl) (wd hw 58 rfl) (wd hw 56 rfl) (wd hw 59 rfl) rfl [(.ref ah4)] [(.ref ah8)] (arInit l Z a0 hw _ _ _ n0 f26 Xah8 (Dah8 (Or.inr (wd hw 95 rfl)) (ty := (.object "java/util/Set")) (by decide +kernel)) (Dah8 (Or.inr (wd hw 97 rfl)) (ty := (.object "java/util/List")) (by decide +kernel)) (Dah8 (Or.inl (wd hw 104 rfl)) (ty := .int) (by decide +kernel)) (Nat.le_trans (own_ge f19) (Nat.le_of_eq gah8.symm))) at_112 (ps := [(.object "java/util/List")]) (by decide +kernel) rfl rfl rfl (by decide) rfl (by decide) (by decide) (by decide) (by decide) rfl ?_
    rintro _ h9 ⟨rfl, Kh9, q0h9, q1h9, q2h9⟩
    show Go pP l eE _ sS mM _ bB tT cC n0 _ h9 11 40 (mkF mM 115 #[.val (.int sz), .val (.int st), .val (.int cc), .val (.int (2 : Int32)), .val (.int (1 : Int32)), .val (.ref ah1), .val (.ref ah2), .val (.ref ah3), .val (.ref ah4), .unset, .unset, .unset, .unset] [(.ref ah8)])
    refine go_astore (q := 117) K at_115 #[.val (.int sz), .val (.int st), .val (.int cc), .val (.int (2 : Int32)), .val (.int (1 : Int32)), .val (.ref ah1), .val (.ref ah2), .val (.ref ah3), .val (.ref ah4), .val (.ref ah8), .unset, .unset, .unset] rfl rfl rfl ?_
    refine go_aload (q := 119) K at_117 rfl rfl rfl ?_
    have f27 := ((q0h7.ext Eh8).keep Kh9)
    have f28 := ((q3h7.ext Eh8).keep Kh9 (ninS (own_nel (q0h7).lt (Nat.le_of_eq gah8.symm)) nin0))
    refine go_callV (q := 122) (W := 0) K (wd hw 98 rfl) (wd hw 99 rfl) (wd hw 101 rfl) (wd hw 100 rfl) (wd hw 56 rfl) (wd hw 102 rfl) (wd hw 101 rfl) rfl q0h9 [] [] (hasNext l Z a0 hw _ _ _ _ _ n0 q1h9 q2h9 f27 f28) at_119 (ps := []) (by decide +kernel) rfl rfl rfl (by decide) rfl (by decide) (by decide) (by decide) (by decide) rfl ?_
    rintro _ _ ⟨rfl, rfl⟩
    show Go pP l eE _ sS mM _ bB tT cC n0 _ h9 11 40 (mkF mM 122 #[.val (.int sz), .val (.int st), .val (.int cc), .val (.int (2 : Int32)), .val (.int (1 : Int32)), .val (.ref ah1), .val (.ref ah2), .val (.ref ah3), .val (.ref ah4), .val (.ref ah8), .unset, .unset, .unset] [(.int (if (0 : Int32) < (2 : Int32) then (1 : Int32) else (0 : Int32)))])
    refine go_eqI (y := (1 : Int32)) (by decide) ?_
    refine go_iconst (q := 123) K at_122 (0 : Int32) rfl rfl ?_
    refine go_iloadN (q := 124) K at_123 rfl rfl ?_
    refine go_icmp (q := 131) (q' := 127) K at_124 (by decide) rfl rfl (fun hn => cN_no hn (show (0 : Int32) < (2 : Int32) from (by decide))) (fun _ => ?_)
    refine go_iconst (q := 128) K at_127 (1 : Int32) rfl rfl ?_
    refine go_goto (q := 132) K at_128 (by decide) rfl ?_
    refine go_icmp (q := 139) (q' := 135) K at_132 (by decide) rfl rfl (fun hn => cN_no hn (show (1 : Int32) = (1 : Int32) from (by decide))) (fun _ => ?_)
    refine go_iconst (q := 136) K at_135 (1 : Int32) rfl rfl ?_
    refine go_goto (q := 140) K at_136 (by decide) rfl ?_
    refine go_istore (q := 142) K at_140 #[.val (.int sz), .val (.int st), .val (.int cc), .val (.int (2 : Int32)), .val (.int (1 : Int32)), .val (.ref ah1), .val (.ref ah2), .val (.ref ah3), .val (.ref ah4), .val (.ref ah8), .val (.int (1 : Int32)), .unset, .unset] rfl rfl ?_
    refine go_iload (q := 144) K at_142 rfl rfl ?_
    refine go_iconst (q := 145) K at_144 (1 : Int32) rfl rfl ?_
    refine go_icmp (q := 191) (q' := 148) K at_145 (by decide) rfl rfl (fun hn => cN_no hn (show ¬ (1 : Int32) < (1 : Int32) from (by decide))) (fun _ => ?_)
    refine go_iload (q := 150) K at_148 rfl rfl ?_
    refine go_aload (q := 152) K at_150 rfl rfl rfl ?_
    have f29 := ((q2h7.ext Eh8).keep Kh9 (ninS (own_nel (q0h7).lt (Nat.le_of_eq gah8.symm)) nin0))
    have f30 := ((q4h7.ext Eh8).keep Kh9 (ninS (own_nel (q4h7).lt (Nat.le_of_eq gah8.symm)) nin0))
    have f31 := ((f20.ext Eh8).keep Kh9)
    refine go_callV (q := 155) (W := 1) K (wd hw 147 rfl) (wd hw 148 rfl) (wd hw 150 rfl) (wd hw 149 rfl) (wd hw 56 rfl) (wd hw 151 rfl) (wd hw 101 rfl) rfl q0h9 [] [(.int (1 : Int32))] (next l Z a0 hw _ _ _ _ _ _ _ _ _ n0 q0h9 q1h9 q2h9 (Nat.le_trans (own_ge f19) (Nat.le_of_eq gah8.symm)) f27 f29 f30 f28 f31 ((own_nel (q0h7).lt (Nat.le_of_eq gah8.symm))).symm ((own_nel (q4h7).lt (Nat.le_of_eq gah8.symm))).symm (by decide) (by decide) rfl) at_152 (ps := []) (by decide +kernel) rfl rfl rfl (by decide) rfl (by decide) (by decide) (by decide) (by decide) rfl ?_
    rintro _ h11 ⟨rfl, Kh11, q0h11, q1h11, q2h11⟩
    show Go pP l eE _ sS mM _ bB tT cC n0 _ h11 11 40 (mkF mM 155 #[.val (.int sz), .val (.int st), .val (.int cc), .val (.int (2 : Int32)), .val (.int (1 : Int32)), .val (.ref ah1), .val (.ref ah2), .val (.ref ah3), .val (.ref ah4), .val (.ref ah8), .val (.int (1 : Int32)), .unset, .unset] [(.ref ah1), (.int (1 : Int32))])
    have q2h11c : Fld Z h11 ah8 "com/example/lexiflow/lexiflow/cli/Arguments" "next" "I" (.int (1 : Int32)) := q2h11
    refine go_aload (q := 157) K at_155 rfl rfl rfl ?_
    have f32 := (f31.keep Kh11)
    refine go_callV (q := 160) (W := 1) K (wd hw 174 rfl) (wd hw 175 rfl) (wd hw 177 rfl) (wd hw 176 rfl) (wd hw 6 rfl) (wd hw 178 rfl) (wd hw 177 rfl) rfl f32 [(.ref ah1)] [(.int (1 : Int32))] (eqSame l Z a0 hw _ _ n0 ) at_157 (ps := [(.object "java/lang/Object")]) (by decide +kernel) rfl rfl rfl (by decide) rfl (by decide) (by decide) (by decide) (by decide) rfl ?_
    rintro _ _ ⟨rfl, rfl⟩
    show Go pP l eE _ sS mM _ bB tT cC n0 _ h11 11 40 (mkF mM 160 #[.val (.int sz), .val (.int st), .val (.int cc), .val (.int (2 : Int32)), .val (.int (1 : Int32)), .val (.ref ah1), .val (.ref ah2), .val (.ref ah3), .val (.ref ah4), .val (.ref ah8), .val (.int (1 : Int32)), .unset, .unset] [(.int (1 : Int32)), (.int (1 : Int32))])
    refine go_iand (q := 161) K at_160 rfl ?_
    refine go_eqI (y := (1 : Int32)) (by decide) ?_
    refine go_istore (q := 163) K at_161 #[.val (.int sz), .val (.int st), .val (.int cc), .val (.int (2 : Int32)), .val (.int (1 : Int32)), .val (.ref ah1), .val (.ref ah2), .val (.ref ah3), .val (.ref ah4), .val (.ref ah8), .val (.int (1 : Int32)), .unset, .unset] rfl rfl ?_
    refine go_iload (q := 165) K at_163 rfl rfl ?_
    refine go_aload (q := 167) K at_165 rfl rfl rfl ?_
    have f33 := (f27.keep Kh11)
    have f34 := (f28.keep Kh11 (ninS (own_nel (q0h7).lt (Nat.le_of_eq gah8.symm)) nin0))
    refine go_callV (q := 170) (W := 1) K (wd hw 98 rfl) (wd hw 99 rfl) (wd hw 101 rfl) (wd hw 100 rfl) (wd hw 56 rfl) (wd hw 102 rfl) (wd hw 101 rfl) rfl q0h11 [] [(.int (1 : Int32))] (hasNext l Z a0 hw _ _ _ _ _ n0 q1h11 q2h11c f33 f34) at_167 (ps := []) (by decide +kernel) rfl rfl rfl (by decide) rfl (by decide) (by decide) (by decide) (by decide) rfl ?_
    rintro _ _ ⟨rfl, rfl⟩
    show Go pP l eE _ sS mM _ bB tT cC n0 _ h11 11 40 (mkF mM 170 #[.val (.int sz), .val (.int st), .val (.int cc), .val (.int (2 : Int32)), .val (.int (1 : Int32)), .val (.ref ah1), .val (.ref ah2), .val (.ref ah3), .val (.ref ah4), .val (.ref ah8), .val (.int (1 : Int32)), .unset, .unset] [(.int (if (1 : Int32) < (2 : Int32) then (1 : Int32) else (0 : Int32))), (.int (1 : Int32))])
    refine go_eqI (y := (1 : Int32)) (by decide) ?_
    refine go_iconst (q := 171) K at_170 (1 : Int32) rfl rfl ?_
    refine go_iloadN (q := 172) K at_171 rfl rfl ?_
    refine go_icmp (q := 179) (q' := 175) K at_172 (by decide) rfl rfl (fun hn => cN_no hn (show (1 : Int32) < (2 : Int32) from (by decide))) (fun _ => ?_)
    refine go_iconst (q := 176) K at_175 (1 : Int32) rfl rfl ?_
    refine go_goto (q := 180) K at_176 (by decide) rfl ?_
    refine go_icmp (q := 187) (q' := 183) K at_180 (by decide) rfl rfl (fun hn => cN_no hn (show (1 : Int32) = (1 : Int32) from (by decide))) (fun _ => ?_)
    refine go_iconst (q := 184) K at_183 (1 : Int32) rfl rfl ?_
    refine go_goto (q := 188) K at_184 (by decide) rfl ?_
    refine go_iand (q := 189) K at_188 rfl ?_
    refine go_eqI (y := (1 : Int32)) (by decide) ?_
    refine go_istore (q := 191) K at_189 #[.val (.int sz), .val (.int st), .val (.int cc), .val (.int (2 : Int32)), .val (.int (1 : Int32)), .val (.ref ah1), .val (.ref ah2), .val (.ref ah3), .val (.ref ah4), .val (.ref ah8), .val (.int (1 : Int32)), .unset, .unset] rfl rfl ?_
    refine go_iload (q := 193) K at_191 rfl rfl ?_
    refine go_iconst (q := 194) K at_193 (2 : Int32) rfl rfl ?_
    refine go_icmp (q := 240) (q' := 197) K at_194 (by decide) rfl rfl (fun _ => ?_) (fun hn => cN_no2 hn (show (1 : Int32) < (2 : Int32) from (by decide)))
    refine go_iload (q := 242) K at_240 rfl rfl ?_
    refine go_iconst (q := 243) K at_242 (3 : Int32) rfl rfl ?_
    refine go_icmp (q := 289) (q' := 246) K at_243 (by decide) rfl rfl (fun _ => ?_) (fun hn => cN_no2 hn (show (1 : Int32) < (3 : Int32) from (by decide)))
    refine go_aload (q := 291) K at_289 rfl rfl rfl ?_
    refine go_callV (q := 294) (W := 0) K (wd hw 98 rfl) (wd hw 99 rfl) (wd hw 101 rfl) (wd hw 100 rfl) (wd hw 56 rfl) (wd hw 102 rfl) (wd hw 101 rfl) rfl q0h11 [] [] (hasNext l Z a0 hw _ _ _ _ _ n0 q1h11 q2h11c f33 f34) at_291 (ps := []) (by decide +kernel) rfl rfl rfl (by decide) rfl (by decide) (by decide) (by decide) (by decide) rfl ?_
    rintro _ _ ⟨rfl, rfl⟩
    show Go pP l eE _ sS mM _ bB tT cC n0 _ h11 11 40 (mkF mM 294 #[.val (.int sz), .val (.int st), .val (.int cc), .val (.int (2 : Int32)), .val (.int (1 : Int32)), .val (.ref ah1), .val (.ref ah2), .val (.ref ah3), .val (.ref ah4), .val (.ref ah8), .val (.int (1 : Int32)), .unset, .unset] [(.int (if (1 : Int32) < (2 : Int32) then (1 : Int32) else (0 : Int32)))])
    refine go_eqI (y := (1 : Int32)) (by decide) ?_
    refine go_istore (q := 296) K at_294 #[.val (.int sz), .val (.int st), .val (.int cc), .val (.int (2 : Int32)), .val (.int (1 : Int32)), .val (.ref ah1), .val (.ref ah2), .val (.ref ah3), .val (.ref ah4), .val (.ref ah8), .val (.int (1 : Int32)), .val (.int (1 : Int32)), .unset] rfl rfl ?_
    refine go_aload (q := 298) K at_296 rfl rfl rfl ?_
    refine go_callV (q := 301) (W := 0) K (wd hw 98 rfl) (wd hw 99 rfl) (wd hw 101 rfl) (wd hw 100 rfl) (wd hw 56 rfl) (wd hw 102 rfl) (wd hw 101 rfl) rfl q0h11 [] [] (hasNext l Z a0 hw _ _ _ _ _ n0 q1h11 q2h11c f33 f34) at_298 (ps := []) (by decide +kernel) rfl rfl rfl (by decide) rfl (by decide) (by decide) (by decide) (by decide) rfl ?_
    rintro _ _ ⟨rfl, rfl⟩
    show Go pP l eE _ sS mM _ bB tT cC n0 _ h11 11 40 (mkF mM 301 #[.val (.int sz), .val (.int st), .val (.int cc), .val (.int (2 : Int32)), .val (.int (1 : Int32)), .val (.ref ah1), .val (.ref ah2), .val (.ref ah3), .val (.ref ah4), .val (.ref ah8), .val (.int (1 : Int32)), .val (.int (1 : Int32)), .unset] [(.int (if (1 : Int32) < (2 : Int32) then (1 : Int32) else (0 : Int32)))])
    refine go_eqI (y := (1 : Int32)) (by decide) ?_
    refine go_istore (q := 303) K at_301 #[.val (.int sz), .val (.int st), .val (.int cc), .val (.int (2 : Int32)), .val (.int (1 : Int32)), .val (.ref ah1), .val (.ref ah2), .val (.ref ah3), .val (.ref ah4), .val (.ref ah8), .val (.int (1 : Int32)), .val (.int (1 : Int32)), .val (.int (1 : Int32))] rfl rfl ?_
    refine go_iload (q := 305) K at_303 rfl rfl ?_
    refine go_iload (q := 307) K at_305 rfl rfl ?_
    refine go_iload (q := 309) K at_307 rfl rfl ?_
    refine go_iloadN (q := 310) K at_309 rfl rfl ?_
    refine go_icmp (q := 317) (q' := 313) K at_310 (by decide) rfl rfl (fun hn => cN_no hn (show (1 : Int32) < (2 : Int32) from (by decide))) (fun _ => ?_)
    refine go_iconst (q := 314) K at_313 (1 : Int32) rfl rfl ?_
    refine go_goto (q := 318) K at_314 (by decide) rfl ?_
    refine go_icmp (q := 325) (q' := 321) K at_318 (by decide) rfl rfl (fun hn => cN_no hn (show (1 : Int32) = (1 : Int32) from (by decide))) (fun _ => ?_)
    refine go_iconst (q := 322) K at_321 (1 : Int32) rfl rfl ?_
    refine go_goto (q := 326) K at_322 (by decide) rfl ?_
    refine go_iand (q := 327) K at_326 rfl ?_
    refine go_eqI (y := (1 : Int32)) (by decide) ?_
    refine go_iload (q := 329) K at_327 rfl rfl ?_
    refine go_iload (q := 331) K at_329 rfl rfl ?_
    refine go_icmp (q := 338) (q' := 334) K at_331 (by decide) rfl rfl (fun hn => cN_no hn (show (1 : Int32) = (1 : Int32) from (by decide))) (fun _ => ?_)
    refine go_iconst (q := 335) K at_334 (1 : Int32) rfl rfl ?_
    refine go_goto (q := 339) K at_335 (by decide) rfl ?_
    refine go_iand (q := 340) K at_339 rfl ?_
    refine go_eqI (y := (1 : Int32)) (by decide) ?_
    refine go_istore (q := 342) K at_340 #[.val (.int sz), .val (.int st), .val (.int cc), .val (.int (2 : Int32)), .val (.int (1 : Int32)), .val (.ref ah1), .val (.ref ah2), .val (.ref ah3), .val (.ref ah4), .val (.ref ah8), .val (.int (1 : Int32)), .val (.int (1 : Int32)), .val (.int (1 : Int32))] rfl rfl ?_
    refine go_iload (q := 344) K at_342 rfl rfl ?_
    refine go_iret K at_344 rfl (Or.inr (Or.inl rfl)) rfl (by decide) (by decide) ?_
    exact rfl
  · show Go pP l eE _ sS mM _ bB tT cC n0 _ h5 7 18 (mkF mM 61 #[.val (.int sz), .val (.int st), .val (.int cc), .val (.int (2 : Int32)), .val (.int (2 : Int32)), .val (.ref ah1), .val (.ref ah2), .val (.ref ah3), .val (.ref ah4), .unset, .unset, .unset, .unset] [])
    refine go_iloadN (q := 62) K at_61 rfl rfl ?_
    refine go_iconst (q := 63) K at_62 (1 : Int32) rfl rfl ?_
    refine go_icmp (q := 76) (q' := 66) K at_63 (by decide) rfl rfl (fun hn => cN_no hn (show ¬ (2 : Int32) < (1 : Int32) from (by decide))) (fun _ => ?_)
    refine go_aload (q := 68) K at_66 rfl rfl rfl ?_
    refine go_aload (q := 70) K at_68 rfl rfl rfl ?_
    have f11 := (f10.keep Kh5 (allS (Nat.le_trans (own_ge f5) (Nat.le_of_eq gah4.symm)) all0))
    have f12 := ((f6.ext Eh4).keep Kh5)
    have f13 := ((f7.ext Eh4).keep Kh5 (ninS (own_nel (f7).lt (Nat.le_of_eq gah4.symm)) nin0))
    have f14 := ((f8.ext Eh4).keep Kh5)
    have f15 := ((f9.ext Eh4).keep Kh5 (ninS (own_nel (f9).lt (Nat.le_of_eq gah4.symm)) nin0))
    have f16 := ((q0h3.ext Eh4).keep Kh5)
    have f17 := ((q3h3.ext Eh4).keep Kh5 (ninS (own_nel (q3h3).lt (Nat.le_of_eq gah4.symm)) nin0))
    refine go_callF (q := 75) (W := 0) K (wd hw 116 rfl) (wd hw 117 rfl) (wd hw 119 rfl) (wd hw 120 rfl) (wd hw 32 rfl) (wd hw 123 rfl) (wd hw 118 rfl) (wd hw 121 rfl) (wd hw 122 rfl) (wd hw 112 rfl) q0h5 [(.ref ah1)] [] (add0 l Z a0 hw _ _ _ _ _ _ n0 f11 q0h5 q1h5 q2h5 q3h5 (Nat.le_trans (own_ge f5) (Nat.le_of_eq gah4.symm)) p3_ p4_ f12 ((own_nel (f6).lt (Nat.le_of_eq gah4.symm))).symm) at_70 (ps := [(.object "java/lang/Object")]) (by decide +kernel) rfl rfl rfl (by decide) rfl (by decide) (by decide) (by decide) (by decide) rfl ?_
    rintro _ h6 ⟨arh6, klh6, rfl, Kh6, garh6, q0h6, q1h6, q2h6, q3h6, q4h6, q5h6⟩
    show Go pP l eE _ sS mM _ bB tT cC n0 _ h6 8 28 (mkF mM 75 #[.val (.int sz), .val (.int st), .val (.int cc), .val (.int (2 : Int32)), .val (.int (2 : Int32)), .val (.ref ah1), .val (.ref ah2), .val (.ref ah3), .val (.ref ah4), .unset, .unset, .unset, .unset] [(.int (1 : Int32))])
    refine go_pop (q := 76) K at_75 rfl rfl ?_
    refine go_iloadN (q := 77) K at_76 rfl rfl ?_
    refine go_iconst (q := 78) K at_77 (2 : Int32) rfl rfl ?_
    refine go_icmp (q := 91) (q' := 81) K at_78 (by decide) rfl rfl (fun hn => cN_no hn (show ¬ (2 : Int32) < (2 : Int32) from (by decide))) (fun _ => ?_)
    refine go_aload (q := 83) K at_81 rfl rfl rfl ?_
    refine go_aload (q := 85) K at_83 rfl rfl rfl ?_
    have f18 := (f14.keep Kh6)
    refine go_callF (q := 90) (W := 0) K (wd hw 116 rfl) (wd hw 117 rfl) (wd hw 119 rfl) (wd hw 120 rfl) (wd hw 32 rfl) (wd hw 123 rfl) (wd hw 118 rfl) (wd hw 121 rfl) (wd hw 122 rfl) (wd hw 112 rfl) q0h6 [(.ref ah2)] [] (add1 l Z a0 hw _ _ _ _ _ _ _ n0 q0h6 q1h6 q2h6 q3h6 (Nat.le_trans (own_ge f5) (Nat.le_of_eq gah4.symm)) (Nat.le_trans (own_ge f11) garh6) (own_nel (q0h5).lt garh6) q4h6 q5h6 f18) at_85 (ps := [(.object "java/lang/Object")]) (by decide +kernel) rfl rfl rfl (by decide) rfl (by decide) (by decide) (by decide) (by decide) rfl ?_
    rintro _ h7 ⟨rfl, Kh7, q0h7, q1h7, q2h7, q3h7, q4h7⟩
    show Go pP l eE _ sS mM _ bB tT cC n0 _ h7 8 28 (mkF mM 90 #[.val (.int sz), .val (.int st), .val (.int cc), .val (.int (2 : Int32)), .val (.int (2 : Int32)), .val (.ref ah1), .val (.ref ah2), .val (.ref ah3), .val (.ref ah4), .unset, .unset, .unset, .unset] [(.int (1 : Int32))])
    refine go_pop (q := 91) K at_90 rfl rfl ?_
    refine go_iloadN (q := 92) K at_91 rfl rfl ?_
    refine go_iconst (q := 93) K at_92 (3 : Int32) rfl rfl ?_
    refine go_icmp (q := 106) (q' := 96) K at_93 (by decide) rfl rfl (fun _ => ?_) (fun hn => cN_no2 hn (show (2 : Int32) < (3 : Int32) from (by decide)))
    have f19 := ((f11.keep Kh6 (allS (Nat.le_trans (own_ge f5) (Nat.le_of_eq gah4.symm)) all0)).keep Kh7 (allS (Nat.le_trans (own_ge f5) (Nat.le_of_eq gah4.symm)) (allS (Nat.le_trans (own_ge f11) garh6) all0)))
    have f20 := ((f12.keep Kh6).keep Kh7)
    have f21 := ((f13.keep Kh6 (ninS (own_nel (f7).lt (Nat.le_of_eq gah4.symm)) nin0)).keep Kh7 (ninS (own_nel (f7).lt (Nat.le_of_eq gah4.symm)) (ninS (own_nel (f13).lt garh6) nin0)))
    have f22 := (f18.keep Kh7)
    have f23 := ((f15.keep Kh6 (ninS (own_nel (f9).lt (Nat.le_of_eq gah4.symm)) nin0)).keep Kh7 (ninS (own_nel (f9).lt (Nat.le_of_eq gah4.symm)) (ninS (own_nel (f15).lt garh6) nin0)))
    have f24 := ((f16.keep Kh6).keep Kh7)
    have f25 := ((f17.keep Kh6 (ninS (own_nel (q3h3).lt (Nat.le_of_eq gah4.symm)) nin0)).keep Kh7 (ninS (own_nel (q3h3).lt (Nat.le_of_eq gah4.symm)) (ninS (own_nel (f17).lt garh6) nin0)))
    refine go_new (q := 109) (sz := 3) K (wd hw 54 rfl) (wd hw 55 rfl) (wd hw 56 rfl) at_106 (by decide) (by decide) rfl ?_
    intro h8 ah8 gah8 Eh8 Xah8 Dah8
    refine go_dup (q := 110) K at_109 rfl rfl ?_
    refine go_aload (q := 112) K at_110 rfl rfl rfl ?_
    have f26 := (f19.ext Eh8)
    refine go_callI (q := 115) (W := 1) K (wd hw 57 rfl) (wd hw 58 rfl) (wd hw 56 rfl) (wd hw 59 rfl) rfl [(.ref ah4)] [(.ref ah8)] (arInit l Z a0 hw _ _ _ n0 f26 Xah8 (Dah8 (Or.inr (wd hw 95 rfl)) (ty := (.object "java/util/Set")) (by decide +kernel)) (Dah8 (Or.inr (wd hw 97 rfl)) (ty := (.object "java/util/List")) (by decide +kernel)) (Dah8 (Or.inl (wd hw 104 rfl)) (ty := .int) (by decide +kernel)) (Nat.le_trans (own_ge f19) (Nat.le_of_eq gah8.symm))) at_112 (ps := [(.object "java/util/List")]) (by decide +kernel) rfl rfl rfl (by decide) rfl (by decide) (by decide) (by decide) (by decide) rfl ?_
    rintro _ h9 ⟨rfl, Kh9, q0h9, q1h9, q2h9⟩
    show Go pP l eE _ sS mM _ bB tT cC n0 _ h9 11 40 (mkF mM 115 #[.val (.int sz), .val (.int st), .val (.int cc), .val (.int (2 : Int32)), .val (.int (2 : Int32)), .val (.ref ah1), .val (.ref ah2), .val (.ref ah3), .val (.ref ah4), .unset, .unset, .unset, .unset] [(.ref ah8)])
    refine go_astore (q := 117) K at_115 #[.val (.int sz), .val (.int st), .val (.int cc), .val (.int (2 : Int32)), .val (.int (2 : Int32)), .val (.ref ah1), .val (.ref ah2), .val (.ref ah3), .val (.ref ah4), .val (.ref ah8), .unset, .unset, .unset] rfl rfl rfl ?_
    refine go_aload (q := 119) K at_117 rfl rfl rfl ?_
    have f27 := ((q0h7.ext Eh8).keep Kh9)
    have f28 := ((q3h7.ext Eh8).keep Kh9 (ninS (own_nel (q0h7).lt (Nat.le_of_eq gah8.symm)) nin0))
    refine go_callV (q := 122) (W := 0) K (wd hw 98 rfl) (wd hw 99 rfl) (wd hw 101 rfl) (wd hw 100 rfl) (wd hw 56 rfl) (wd hw 102 rfl) (wd hw 101 rfl) rfl q0h9 [] [] (hasNext l Z a0 hw _ _ _ _ _ n0 q1h9 q2h9 f27 f28) at_119 (ps := []) (by decide +kernel) rfl rfl rfl (by decide) rfl (by decide) (by decide) (by decide) (by decide) rfl ?_
    rintro _ _ ⟨rfl, rfl⟩
    show Go pP l eE _ sS mM _ bB tT cC n0 _ h9 11 40 (mkF mM 122 #[.val (.int sz), .val (.int st), .val (.int cc), .val (.int (2 : Int32)), .val (.int (2 : Int32)), .val (.ref ah1), .val (.ref ah2), .val (.ref ah3), .val (.ref ah4), .val (.ref ah8), .unset, .unset, .unset] [(.int (if (0 : Int32) < (2 : Int32) then (1 : Int32) else (0 : Int32)))])
    refine go_eqI (y := (1 : Int32)) (by decide) ?_
    refine go_iconst (q := 123) K at_122 (0 : Int32) rfl rfl ?_
    refine go_iloadN (q := 124) K at_123 rfl rfl ?_
    refine go_icmp (q := 131) (q' := 127) K at_124 (by decide) rfl rfl (fun hn => cN_no hn (show (0 : Int32) < (2 : Int32) from (by decide))) (fun _ => ?_)
    refine go_iconst (q := 128) K at_127 (1 : Int32) rfl rfl ?_
    refine go_goto (q := 132) K at_128 (by decide) rfl ?_
    refine go_icmp (q := 139) (q' := 135) K at_132 (by decide) rfl rfl (fun hn => cN_no hn (show (1 : Int32) = (1 : Int32) from (by decide))) (fun _ => ?_)
    refine go_iconst (q := 136) K at_135 (1 : Int32) rfl rfl ?_
    refine go_goto (q := 140) K at_136 (by decide) rfl ?_
    refine go_istore (q := 142) K at_140 #[.val (.int sz), .val (.int st), .val (.int cc), .val (.int (2 : Int32)), .val (.int (2 : Int32)), .val (.ref ah1), .val (.ref ah2), .val (.ref ah3), .val (.ref ah4), .val (.ref ah8), .val (.int (1 : Int32)), .unset, .unset] rfl rfl ?_
    refine go_iload (q := 144) K at_142 rfl rfl ?_
    refine go_iconst (q := 145) K at_144 (1 : Int32) rfl rfl ?_
    refine go_icmp (q := 191) (q' := 148) K at_145 (by decide) rfl rfl (fun hn => cN_no hn (show ¬ (2 : Int32) < (1 : Int32) from (by decide))) (fun _ => ?_)
    refine go_iload (q := 150) K at_148 rfl rfl ?_
    refine go_aload (q := 152) K at_150 rfl rfl rfl ?_
    have f29 := ((q2h7.ext Eh8).keep Kh9 (ninS (own_nel (q0h7).lt (Nat.le_of_eq gah8.symm)) nin0))
    have f30 := ((q4h7.ext Eh8).keep Kh9 (ninS (own_nel (q4h7).lt (Nat.le_of_eq gah8.symm)) nin0))
    have f31 := ((f20.ext Eh8).keep Kh9)
    refine go_callV (q := 155) (W := 1) K (wd hw 147 rfl) (wd hw 148 rfl) (wd hw 150 rfl) (wd hw 149 rfl) (wd hw 56 rfl) (wd hw 151 rfl) (wd hw 101 rfl) rfl q0h9 [] [(.int (1 : Int32))] (next l Z a0 hw _ _ _ _ _ _ _ _ _ n0 q0h9 q1h9 q2h9 (Nat.le_trans (own_ge f19) (Nat.le_of_eq gah8.symm)) f27 f29 f30 f28 f31 ((own_nel (q0h7).lt (Nat.le_of_eq gah8.symm))).symm ((own_nel (q4h7).lt (Nat.le_of_eq gah8.symm))).symm (by decide) (by decide) rfl) at_152 (ps := []) (by decide +kernel) rfl rfl rfl (by decide) rfl (by decide) (by decide) (by decide) (by decide) rfl ?_
    rintro _ h11 ⟨rfl, Kh11, q0h11, q1h11, q2h11⟩
    show Go pP l eE _ sS mM _ bB tT cC n0 _ h11 11 40 (mkF mM 155 #[.val (.int sz), .val (.int st), .val (.int cc), .val (.int (2 : Int32)), .val (.int (2 : Int32)), .val (.ref ah1), .val (.ref ah2), .val (.ref ah3), .val (.ref ah4), .val (.ref ah8), .val (.int (1 : Int32)), .unset, .unset] [(.ref ah1), (.int (1 : Int32))])
    have q2h11c : Fld Z h11 ah8 "com/example/lexiflow/lexiflow/cli/Arguments" "next" "I" (.int (1 : Int32)) := q2h11
    refine go_aload (q := 157) K at_155 rfl rfl rfl ?_
    have f32 := (f31.keep Kh11)
    refine go_callV (q := 160) (W := 1) K (wd hw 174 rfl) (wd hw 175 rfl) (wd hw 177 rfl) (wd hw 176 rfl) (wd hw 6 rfl) (wd hw 178 rfl) (wd hw 177 rfl) rfl f32 [(.ref ah1)] [(.int (1 : Int32))] (eqSame l Z a0 hw _ _ n0 ) at_157 (ps := [(.object "java/lang/Object")]) (by decide +kernel) rfl rfl rfl (by decide) rfl (by decide) (by decide) (by decide) (by decide) rfl ?_
    rintro _ _ ⟨rfl, rfl⟩
    show Go pP l eE _ sS mM _ bB tT cC n0 _ h11 11 40 (mkF mM 160 #[.val (.int sz), .val (.int st), .val (.int cc), .val (.int (2 : Int32)), .val (.int (2 : Int32)), .val (.ref ah1), .val (.ref ah2), .val (.ref ah3), .val (.ref ah4), .val (.ref ah8), .val (.int (1 : Int32)), .unset, .unset] [(.int (1 : Int32)), (.int (1 : Int32))])
    refine go_iand (q := 161) K at_160 rfl ?_
    refine go_eqI (y := (1 : Int32)) (by decide) ?_
    refine go_istore (q := 163) K at_161 #[.val (.int sz), .val (.int st), .val (.int cc), .val (.int (2 : Int32)), .val (.int (2 : Int32)), .val (.ref ah1), .val (.ref ah2), .val (.ref ah3), .val (.ref ah4), .val (.ref ah8), .val (.int (1 : Int32)), .unset, .unset] rfl rfl ?_
    refine go_iload (q := 165) K at_163 rfl rfl ?_
    refine go_aload (q := 167) K at_165 rfl rfl rfl ?_
    have f33 := (f27.keep Kh11)
    have f34 := (f28.keep Kh11 (ninS (own_nel (q0h7).lt (Nat.le_of_eq gah8.symm)) nin0))
    refine go_callV (q := 170) (W := 1) K (wd hw 98 rfl) (wd hw 99 rfl) (wd hw 101 rfl) (wd hw 100 rfl) (wd hw 56 rfl) (wd hw 102 rfl) (wd hw 101 rfl) rfl q0h11 [] [(.int (1 : Int32))] (hasNext l Z a0 hw _ _ _ _ _ n0 q1h11 q2h11c f33 f34) at_167 (ps := []) (by decide +kernel) rfl rfl rfl (by decide) rfl (by decide) (by decide) (by decide) (by decide) rfl ?_
    rintro _ _ ⟨rfl, rfl⟩
    show Go pP l eE _ sS mM _ bB tT cC n0 _ h11 11 40 (mkF mM 170 #[.val (.int sz), .val (.int st), .val (.int cc), .val (.int (2 : Int32)), .val (.int (2 : Int32)), .val (.ref ah1), .val (.ref ah2), .val (.ref ah3), .val (.ref ah4), .val (.ref ah8), .val (.int (1 : Int32)), .unset, .unset] [(.int (if (1 : Int32) < (2 : Int32) then (1 : Int32) else (0 : Int32))), (.int (1 : Int32))])
    refine go_eqI (y := (1 : Int32)) (by decide) ?_
    refine go_iconst (q := 171) K at_170 (1 : Int32) rfl rfl ?_
    refine go_iloadN (q := 172) K at_171 rfl rfl ?_
    refine go_icmp (q := 179) (q' := 175) K at_172 (by decide) rfl rfl (fun hn => cN_no hn (show (1 : Int32) < (2 : Int32) from (by decide))) (fun _ => ?_)
    refine go_iconst (q := 176) K at_175 (1 : Int32) rfl rfl ?_
    refine go_goto (q := 180) K at_176 (by decide) rfl ?_
    refine go_icmp (q := 187) (q' := 183) K at_180 (by decide) rfl rfl (fun hn => cN_no hn (show (1 : Int32) = (1 : Int32) from (by decide))) (fun _ => ?_)
    refine go_iconst (q := 184) K at_183 (1 : Int32) rfl rfl ?_
    refine go_goto (q := 188) K at_184 (by decide) rfl ?_
    refine go_iand (q := 189) K at_188 rfl ?_
    refine go_eqI (y := (1 : Int32)) (by decide) ?_
    refine go_istore (q := 191) K at_189 #[.val (.int sz), .val (.int st), .val (.int cc), .val (.int (2 : Int32)), .val (.int (2 : Int32)), .val (.ref ah1), .val (.ref ah2), .val (.ref ah3), .val (.ref ah4), .val (.ref ah8), .val (.int (1 : Int32)), .unset, .unset] rfl rfl ?_
    refine go_iload (q := 193) K at_191 rfl rfl ?_
    refine go_iconst (q := 194) K at_193 (2 : Int32) rfl rfl ?_
    refine go_icmp (q := 240) (q' := 197) K at_194 (by decide) rfl rfl (fun hn => cN_no hn (show ¬ (2 : Int32) < (2 : Int32) from (by decide))) (fun _ => ?_)
    refine go_iload (q := 199) K at_197 rfl rfl ?_
    refine go_aload (q := 201) K at_199 rfl rfl rfl ?_
    have f35 := (f29.keep Kh11 (ninS (own_nel (q0h7).lt (Nat.le_of_eq gah8.symm)) nin0))
    have f36 := (f30.keep Kh11 (ninS (own_nel (q4h7).lt (Nat.le_of_eq gah8.symm)) nin0))
    have f37 := (((f22.ext Eh8).keep Kh9).keep Kh11)
    refine go_callV (q := 204) (W := 1) K (wd hw 147 rfl) (wd hw 148 rfl) (wd hw 150 rfl) (wd hw 149 rfl) (wd hw 56 rfl) (wd hw 151 rfl) (wd hw 101 rfl) rfl q0h11 [] [(.int (1 : Int32))] (next l Z a0 hw _ _ _ _ _ _ _ _ _ n0 q0h11 q1h11 q2h11c (Nat.le_trans (own_ge f19) (Nat.le_of_eq gah8.symm)) f33 f35 f36 f34 f37 ((own_nel (q0h7).lt (Nat.le_of_eq gah8.symm))).symm ((own_nel (q4h7).lt (Nat.le_of_eq gah8.symm))).symm (by decide) (by decide) rfl) at_201 (ps := []) (by decide +kernel) rfl rfl rfl (by decide) rfl (by decide) (by decide) (by decide) (by decide) rfl ?_
    rintro _ h14 ⟨rfl, Kh14, q0h14, q1h14, q2h14⟩
    show Go pP l eE _ sS mM _ bB tT cC n0 _ h14 11 40 (mkF mM 204 #[.val (.int sz), .val (.int st), .val (.int cc), .val (.int (2 : Int32)), .val (.int (2 : Int32)), .val (.ref ah1), .val (.ref ah2), .val (.ref ah3), .val (.ref ah4), .val (.ref ah8), .val (.int (1 : Int32)), .unset, .unset] [(.ref ah2), (.int (1 : Int32))])
    have q2h14c : Fld Z h14 ah8 "com/example/lexiflow/lexiflow/cli/Arguments" "next" "I" (.int (2 : Int32)) := q2h14
    refine go_aload (q := 206) K at_204 rfl rfl rfl ?_
    have f38 := (f37.keep Kh14)
    refine go_callV (q := 209) (W := 1) K (wd hw 174 rfl) (wd hw 175 rfl) (wd hw 177 rfl) (wd hw 176 rfl) (wd hw 6 rfl) (wd hw 178 rfl) (wd hw 177 rfl) rfl f38 [(.ref ah2)] [(.int (1 : Int32))] (eqSame l Z a0 hw _ _ n0 ) at_206 (ps := [(.object "java/lang/Object")]) (by decide +kernel) rfl rfl rfl (by decide) rfl (by decide) (by decide) (by decide) (by decide) rfl ?_
    rintro _ _ ⟨rfl, rfl⟩
    show Go pP l eE _ sS mM _ bB tT cC n0 _ h14 11 40 (mkF mM 209 #[.val (.int sz), .val (.int st), .val (.int cc), .val (.int (2 : Int32)), .val (.int (2 : Int32)), .val (.ref ah1), .val (.ref ah2), .val (.ref ah3), .val (.ref ah4), .val (.ref ah8), .val (.int (1 : Int32)), .unset, .unset] [(.int (1 : Int32)), (.int (1 : Int32))])
    refine go_iand (q := 210) K at_209 rfl ?_
    refine go_eqI (y := (1 : Int32)) (by decide) ?_
    refine go_istore (q := 212) K at_210 #[.val (.int sz), .val (.int st), .val (.int cc), .val (.int (2 : Int32)), .val (.int (2 : Int32)), .val (.ref ah1), .val (.ref ah2), .val (.ref ah3), .val (.ref ah4), .val (.ref ah8), .val (.int (1 : Int32)), .unset, .unset] rfl rfl ?_
    refine go_iload (q := 214) K at_212 rfl rfl ?_
    refine go_aload (q := 216) K at_214 rfl rfl rfl ?_
    have f39 := (f33.keep Kh14)
    have f40 := (f34.keep Kh14 (ninS (own_nel (q0h7).lt (Nat.le_of_eq gah8.symm)) nin0))
    refine go_callV (q := 219) (W := 1) K (wd hw 98 rfl) (wd hw 99 rfl) (wd hw 101 rfl) (wd hw 100 rfl) (wd hw 56 rfl) (wd hw 102 rfl) (wd hw 101 rfl) rfl q0h14 [] [(.int (1 : Int32))] (hasNext l Z a0 hw _ _ _ _ _ n0 q1h14 q2h14c f39 f40) at_216 (ps := []) (by decide +kernel) rfl rfl rfl (by decide) rfl (by decide) (by decide) (by decide) (by decide) rfl ?_
    rintro _ _ ⟨rfl, rfl⟩
    show Go pP l eE _ sS mM _ bB tT cC n0 _ h14 11 40 (mkF mM 219 #[.val (.int sz), .val (.int st), .val (.int cc), .val (.int (2 : Int32)), .val (.int (2 : Int32)), .val (.ref ah1), .val (.ref ah2), .val (.ref ah3), .val (.ref ah4), .val (.ref ah8), .val (.int (1 : Int32)), .unset, .unset] [(.int (if (2 : Int32) < (2 : Int32) then (1 : Int32) else (0 : Int32))), (.int (1 : Int32))])
    refine go_eqI (y := (0 : Int32)) (by decide) ?_
    refine go_iconst (q := 220) K at_219 (2 : Int32) rfl rfl ?_
    refine go_iloadN (q := 221) K at_220 rfl rfl ?_
    refine go_icmp (q := 228) (q' := 224) K at_221 (by decide) rfl rfl (fun _ => ?_) (fun hn => cN_no2 hn (show ¬ (2 : Int32) < (2 : Int32) from (by decide)))
    refine go_iconst (q := 229) K at_228 (0 : Int32) rfl rfl ?_
    refine go_icmp (q := 236) (q' := 232) K at_229 (by decide) rfl rfl (fun hn => cN_no hn (show (0 : Int32) = (0 : Int32) from (by decide))) (fun _ => ?_)
    refine go_iconst (q := 233) K at_232 (1 : Int32) rfl rfl ?_
    refine go_goto (q := 237) K at_233 (by decide) rfl ?_
    refine go_iand (q := 238) K at_237 rfl ?_
    refine go_eqI (y := (1 : Int32)) (by decide) ?_
    refine go_istore (q := 240) K at_238 #[.val (.int sz), .val (.int st), .val (.int cc), .val (.int (2 : Int32)), .val (.int (2 : Int32)), .val (.ref ah1), .val (.ref ah2), .val (.ref ah3), .val (.ref ah4), .val (.ref ah8), .val (.int (1 : Int32)), .unset, .unset] rfl rfl ?_
    refine go_iload (q := 242) K at_240 rfl rfl ?_
    refine go_iconst (q := 243) K at_242 (3 : Int32) rfl rfl ?_
    refine go_icmp (q := 289) (q' := 246) K at_243 (by decide) rfl rfl (fun _ => ?_) (fun hn => cN_no2 hn (show (2 : Int32) < (3 : Int32) from (by decide)))
    refine go_aload (q := 291) K at_289 rfl rfl rfl ?_
    refine go_callV (q := 294) (W := 0) K (wd hw 98 rfl) (wd hw 99 rfl) (wd hw 101 rfl) (wd hw 100 rfl) (wd hw 56 rfl) (wd hw 102 rfl) (wd hw 101 rfl) rfl q0h14 [] [] (hasNext l Z a0 hw _ _ _ _ _ n0 q1h14 q2h14c f39 f40) at_291 (ps := []) (by decide +kernel) rfl rfl rfl (by decide) rfl (by decide) (by decide) (by decide) (by decide) rfl ?_
    rintro _ _ ⟨rfl, rfl⟩
    show Go pP l eE _ sS mM _ bB tT cC n0 _ h14 11 40 (mkF mM 294 #[.val (.int sz), .val (.int st), .val (.int cc), .val (.int (2 : Int32)), .val (.int (2 : Int32)), .val (.ref ah1), .val (.ref ah2), .val (.ref ah3), .val (.ref ah4), .val (.ref ah8), .val (.int (1 : Int32)), .unset, .unset] [(.int (if (2 : Int32) < (2 : Int32) then (1 : Int32) else (0 : Int32)))])
    refine go_eqI (y := (0 : Int32)) (by decide) ?_
    refine go_istore (q := 296) K at_294 #[.val (.int sz), .val (.int st), .val (.int cc), .val (.int (2 : Int32)), .val (.int (2 : Int32)), .val (.ref ah1), .val (.ref ah2), .val (.ref ah3), .val (.ref ah4), .val (.ref ah8), .val (.int (1 : Int32)), .val (.int (0 : Int32)), .unset] rfl rfl ?_
    refine go_aload (q := 298) K at_296 rfl rfl rfl ?_
    refine go_callV (q := 301) (W := 0) K (wd hw 98 rfl) (wd hw 99 rfl) (wd hw 101 rfl) (wd hw 100 rfl) (wd hw 56 rfl) (wd hw 102 rfl) (wd hw 101 rfl) rfl q0h14 [] [] (hasNext l Z a0 hw _ _ _ _ _ n0 q1h14 q2h14c f39 f40) at_298 (ps := []) (by decide +kernel) rfl rfl rfl (by decide) rfl (by decide) (by decide) (by decide) (by decide) rfl ?_
    rintro _ _ ⟨rfl, rfl⟩
    show Go pP l eE _ sS mM _ bB tT cC n0 _ h14 11 40 (mkF mM 301 #[.val (.int sz), .val (.int st), .val (.int cc), .val (.int (2 : Int32)), .val (.int (2 : Int32)), .val (.ref ah1), .val (.ref ah2), .val (.ref ah3), .val (.ref ah4), .val (.ref ah8), .val (.int (1 : Int32)), .val (.int (0 : Int32)), .unset] [(.int (if (2 : Int32) < (2 : Int32) then (1 : Int32) else (0 : Int32)))])
    refine go_eqI (y := (0 : Int32)) (by decide) ?_
    refine go_istore (q := 303) K at_301 #[.val (.int sz), .val (.int st), .val (.int cc), .val (.int (2 : Int32)), .val (.int (2 : Int32)), .val (.ref ah1), .val (.ref ah2), .val (.ref ah3), .val (.ref ah4), .val (.ref ah8), .val (.int (1 : Int32)), .val (.int (0 : Int32)), .val (.int (0 : Int32))] rfl rfl ?_
    refine go_iload (q := 305) K at_303 rfl rfl ?_
    refine go_iload (q := 307) K at_305 rfl rfl ?_
    refine go_iload (q := 309) K at_307 rfl rfl ?_
    refine go_iloadN (q := 310) K at_309 rfl rfl ?_
    refine go_icmp (q := 317) (q' := 313) K at_310 (by decide) rfl rfl (fun _ => ?_) (fun hn => cN_no2 hn (show ¬ (2 : Int32) < (2 : Int32) from (by decide)))
    refine go_iconst (q := 318) K at_317 (0 : Int32) rfl rfl ?_
    refine go_icmp (q := 325) (q' := 321) K at_318 (by decide) rfl rfl (fun hn => cN_no hn (show (0 : Int32) = (0 : Int32) from (by decide))) (fun _ => ?_)
    refine go_iconst (q := 322) K at_321 (1 : Int32) rfl rfl ?_
    refine go_goto (q := 326) K at_322 (by decide) rfl ?_
    refine go_iand (q := 327) K at_326 rfl ?_
    refine go_eqI (y := (1 : Int32)) (by decide) ?_
    refine go_iload (q := 329) K at_327 rfl rfl ?_
    refine go_iload (q := 331) K at_329 rfl rfl ?_
    refine go_icmp (q := 338) (q' := 334) K at_331 (by decide) rfl rfl (fun hn => cN_no hn (show (0 : Int32) = (0 : Int32) from (by decide))) (fun _ => ?_)
    refine go_iconst (q := 335) K at_334 (1 : Int32) rfl rfl ?_
    refine go_goto (q := 339) K at_335 (by decide) rfl ?_
    refine go_iand (q := 340) K at_339 rfl ?_
    refine go_eqI (y := (1 : Int32)) (by decide) ?_
    refine go_istore (q := 342) K at_340 #[.val (.int sz), .val (.int st), .val (.int cc), .val (.int (2 : Int32)), .val (.int (2 : Int32)), .val (.ref ah1), .val (.ref ah2), .val (.ref ah3), .val (.ref ah4), .val (.ref ah8), .val (.int (1 : Int32)), .val (.int (0 : Int32)), .val (.int (0 : Int32))] rfl rfl ?_
    refine go_iload (q := 344) K at_342 rfl rfl ?_
    refine go_iret K at_344 rfl (Or.inr (Or.inl rfl)) rfl (by decide) (by decide) ?_
    exact rfl
  · show Go pP l eE _ sS mM _ bB tT cC n0 _ h5 7 18 (mkF mM 61 #[.val (.int sz), .val (.int st), .val (.int cc), .val (.int (3 : Int32)), .val (.int (0 : Int32)), .val (.ref ah1), .val (.ref ah2), .val (.ref ah3), .val (.ref ah4), .unset, .unset, .unset, .unset] [])
    refine go_iloadN (q := 62) K at_61 rfl rfl ?_
    refine go_iconst (q := 63) K at_62 (1 : Int32) rfl rfl ?_
    refine go_icmp (q := 76) (q' := 66) K at_63 (by decide) rfl rfl (fun hn => cN_no hn (show ¬ (3 : Int32) < (1 : Int32) from (by decide))) (fun _ => ?_)
    refine go_aload (q := 68) K at_66 rfl rfl rfl ?_
    refine go_aload (q := 70) K at_68 rfl rfl rfl ?_
    have f11 := (f10.keep Kh5 (allS (Nat.le_trans (own_ge f5) (Nat.le_of_eq gah4.symm)) all0))
    have f12 := ((f6.ext Eh4).keep Kh5)
    have f13 := ((f7.ext Eh4).keep Kh5 (ninS (own_nel (f7).lt (Nat.le_of_eq gah4.symm)) nin0))
    have f14 := ((f8.ext Eh4).keep Kh5)
    have f15 := ((f9.ext Eh4).keep Kh5 (ninS (own_nel (f9).lt (Nat.le_of_eq gah4.symm)) nin0))
    have f16 := ((q0h3.ext Eh4).keep Kh5)
    have f17 := ((q3h3.ext Eh4).keep Kh5 (ninS (own_nel (q3h3).lt (Nat.le_of_eq gah4.symm)) nin0))
    refine go_callF (q := 75) (W := 0) K (wd hw 116 rfl) (wd hw 117 rfl) (wd hw 119 rfl) (wd hw 120 rfl) (wd hw 32 rfl) (wd hw 123 rfl) (wd hw 118 rfl) (wd hw 121 rfl) (wd hw 122 rfl) (wd hw 112 rfl) q0h5 [(.ref ah1)] [] (add0 l Z a0 hw _ _ _ _ _ _ n0 f11 q0h5 q1h5 q2h5 q3h5 (Nat.le_trans (own_ge f5) (Nat.le_of_eq gah4.symm)) p3_ p4_ f12 ((own_nel (f6).lt (Nat.le_of_eq gah4.symm))).symm) at_70 (ps := [(.object "java/lang/Object")]) (by decide +kernel) rfl rfl rfl (by decide) rfl (by decide) (by decide) (by decide) (by decide) rfl ?_
    rintro _ h6 ⟨arh6, klh6, rfl, Kh6, garh6, q0h6, q1h6, q2h6, q3h6, q4h6, q5h6⟩
    show Go pP l eE _ sS mM _ bB tT cC n0 _ h6 8 28 (mkF mM 75 #[.val (.int sz), .val (.int st), .val (.int cc), .val (.int (3 : Int32)), .val (.int (0 : Int32)), .val (.ref ah1), .val (.ref ah2), .val (.ref ah3), .val (.ref ah4), .unset, .unset, .unset, .unset] [(.int (1 : Int32))])
    refine go_pop (q := 76) K at_75 rfl rfl ?_
    refine go_iloadN (q := 77) K at_76 rfl rfl ?_
    refine go_iconst (q := 78) K at_77 (2 : Int32) rfl rfl ?_
    refine go_icmp (q := 91) (q' := 81) K at_78 (by decide) rfl rfl (fun hn => cN_no hn (show ¬ (3 : Int32) < (2 : Int32) from (by decide))) (fun _ => ?_)
    refine go_aload (q := 83) K at_81 rfl rfl rfl ?_
    refine go_aload (q := 85) K at_83 rfl rfl rfl ?_
    have f18 := (f14.keep Kh6)
    refine go_callF (q := 90) (W := 0) K (wd hw 116 rfl) (wd hw 117 rfl) (wd hw 119 rfl) (wd hw 120 rfl) (wd hw 32 rfl) (wd hw 123 rfl) (wd hw 118 rfl) (wd hw 121 rfl) (wd hw 122 rfl) (wd hw 112 rfl) q0h6 [(.ref ah2)] [] (add1 l Z a0 hw _ _ _ _ _ _ _ n0 q0h6 q1h6 q2h6 q3h6 (Nat.le_trans (own_ge f5) (Nat.le_of_eq gah4.symm)) (Nat.le_trans (own_ge f11) garh6) (own_nel (q0h5).lt garh6) q4h6 q5h6 f18) at_85 (ps := [(.object "java/lang/Object")]) (by decide +kernel) rfl rfl rfl (by decide) rfl (by decide) (by decide) (by decide) (by decide) rfl ?_
    rintro _ h7 ⟨rfl, Kh7, q0h7, q1h7, q2h7, q3h7, q4h7⟩
    show Go pP l eE _ sS mM _ bB tT cC n0 _ h7 8 28 (mkF mM 90 #[.val (.int sz), .val (.int st), .val (.int cc), .val (.int (3 : Int32)), .val (.int (0 : Int32)), .val (.ref ah1), .val (.ref ah2), .val (.ref ah3), .val (.ref ah4), .unset, .unset, .unset, .unset] [(.int (1 : Int32))])
    refine go_pop (q := 91) K at_90 rfl rfl ?_
    refine go_iloadN (q := 92) K at_91 rfl rfl ?_
    refine go_iconst (q := 93) K at_92 (3 : Int32) rfl rfl ?_
    refine go_icmp (q := 106) (q' := 96) K at_93 (by decide) rfl rfl (fun hn => cN_no hn (show ¬ (3 : Int32) < (3 : Int32) from (by decide))) (fun _ => ?_)
    refine go_aload (q := 98) K at_96 rfl rfl rfl ?_
    refine go_aload (q := 100) K at_98 rfl rfl rfl ?_
    have f19 := ((f16.keep Kh6).keep Kh7)
    refine go_callF (q := 105) (W := 0) K (wd hw 116 rfl) (wd hw 117 rfl) (wd hw 119 rfl) (wd hw 120 rfl) (wd hw 32 rfl) (wd hw 123 rfl) (wd hw 118 rfl) (wd hw 121 rfl) (wd hw 122 rfl) (wd hw 112 rfl) q0h7 [(.ref ah3)] [] (add2 l Z a0 hw _ _ _ _ _ _ _ _ n0 q0h7 q1h7 q2h7 q3h7 (Nat.le_trans (own_ge f5) (Nat.le_of_eq gah4.symm)) (Nat.le_trans (own_ge f11) garh6) (own_nel (q0h5).lt garh6) q4h7 q5h6 f19) at_100 (ps := [(.object "java/lang/Object")]) (by decide +kernel) rfl rfl rfl (by decide) rfl (by decide) (by decide) (by decide) (by decide) rfl ?_
    rintro _ h8 ⟨rfl, Kh8, q0h8, q1h8, q2h8, q3h8, q4h8⟩
    show Go pP l eE _ sS mM _ bB tT cC n0 _ h8 8 28 (mkF mM 105 #[.val (.int sz), .val (.int st), .val (.int cc), .val (.int (3 : Int32)), .val (.int (0 : Int32)), .val (.ref ah1), .val (.ref ah2), .val (.ref ah3), .val (.ref ah4), .unset, .unset, .unset, .unset] [(.int (1 : Int32))])
    refine go_pop (q := 106) K at_105 rfl rfl ?_
    have f20 := (((f11.keep Kh6 (allS (Nat.le_trans (own_ge f5) (Nat.le_of_eq gah4.symm)) all0)).keep Kh7 (allS (Nat.le_trans (own_ge f5) (Nat.le_of_eq gah4.symm)) (allS (Nat.le_trans (own_ge f11) garh6) all0))).keep Kh8 (allS (Nat.le_trans (own_ge f5) (Nat.le_of_eq gah4.symm)) (allS (Nat.le_trans (own_ge f11) garh6) all0)))
    have f21 := (((f12.keep Kh6).keep Kh7).keep Kh8)
    have f22 := (((f13.keep Kh6 (ninS (own_nel (f7).lt (Nat.le_of_eq gah4.symm)) nin0)).keep Kh7 (ninS (own_nel (f7).lt (Nat.le_of_eq gah4.symm)) (ninS (own_nel (f13).lt garh6) nin0))).keep Kh8 (ninS (own_nel (f7).lt (Nat.le_of_eq gah4.symm)) (ninS (own_nel (f13).lt garh6) nin0)))
    have f23 := ((f18.keep Kh7).keep Kh8)
    have f24 := (((f15.keep Kh6 (ninS (own_nel (f9).lt (Nat.le_of_eq gah4.symm)) nin0)).keep Kh7 (ninS (own_nel (f9).lt (Nat.le_of_eq gah4.symm)) (ninS (own_nel (f15).lt garh6) nin0))).keep Kh8 (ninS (own_nel (f9).lt (Nat.le_of_eq gah4.symm)) (ninS (own_nel (f15).lt garh6) nin0)))
    have f25 := (f19.keep Kh8)
    have f26 := (((f17.keep Kh6 (ninS (own_nel (q3h3).lt (Nat.le_of_eq gah4.symm)) nin0)).keep Kh7 (ninS (own_nel (q3h3).lt (Nat.le_of_eq gah4.symm)) (ninS (own_nel (f17).lt garh6) nin0))).keep Kh8 (ninS (own_nel (q3h3).lt (Nat.le_of_eq gah4.symm)) (ninS (own_nel (f17).lt garh6) nin0)))
    refine go_new (q := 109) (sz := 3) K (wd hw 54 rfl) (wd hw 55 rfl) (wd hw 56 rfl) at_106 (by decide) (by decide) rfl ?_
    intro h9 ah9 gah9 Eh9 Xah9 Dah9
    refine go_dup (q := 110) K at_109 rfl rfl ?_
    refine go_aload (q := 112) K at_110 rfl rfl rfl ?_
    have f27 := (f20.ext Eh9)
    refine go_callI (q := 115) (W := 1) K (wd hw 57 rfl) (wd hw 58 rfl) (wd hw 56 rfl) (wd hw 59 rfl) rfl [(.ref ah4)] [(.ref ah9)] (arInit l Z a0 hw _ _ _ n0 f27 Xah9 (Dah9 (Or.inr (wd hw 95 rfl)) (ty := (.object "java/util/Set")) (by decide +kernel)) (Dah9 (Or.inr (wd hw 97 rfl)) (ty := (.object "java/util/List")) (by decide +kernel)) (Dah9 (Or.inl (wd hw 104 rfl)) (ty := .int) (by decide +kernel)) (Nat.le_trans (own_ge f20) (Nat.le_of_eq gah9.symm))) at_112 (ps := [(.object "java/util/List")]) (by decide +kernel) rfl rfl rfl (by decide) rfl (by decide) (by decide) (by decide) (by decide) rfl ?_
    rintro _ h10 ⟨rfl, Kh10, q0h10, q1h10, q2h10⟩
    show Go pP l eE _ sS mM _ bB tT cC n0 _ h10 11 40 (mkF mM 115 #[.val (.int sz), .val (.int st), .val (.int cc), .val (.int (3 : Int32)), .val (.int (0 : Int32)), .val (.ref ah1), .val (.ref ah2), .val (.ref ah3), .val (.ref ah4), .unset, .unset, .unset, .unset] [(.ref ah9)])
    refine go_astore (q := 117) K at_115 #[.val (.int sz), .val (.int st), .val (.int cc), .val (.int (3 : Int32)), .val (.int (0 : Int32)), .val (.ref ah1), .val (.ref ah2), .val (.ref ah3), .val (.ref ah4), .val (.ref ah9), .unset, .unset, .unset] rfl rfl rfl ?_
    refine go_aload (q := 119) K at_117 rfl rfl rfl ?_
    have f28 := ((q0h8.ext Eh9).keep Kh10)
    have f29 := ((q3h8.ext Eh9).keep Kh10 (ninS (own_nel (q0h8).lt (Nat.le_of_eq gah9.symm)) nin0))
    refine go_callV (q := 122) (W := 0) K (wd hw 98 rfl) (wd hw 99 rfl) (wd hw 101 rfl) (wd hw 100 rfl) (wd hw 56 rfl) (wd hw 102 rfl) (wd hw 101 rfl) rfl q0h10 [] [] (hasNext l Z a0 hw _ _ _ _ _ n0 q1h10 q2h10 f28 f29) at_119 (ps := []) (by decide +kernel) rfl rfl rfl (by decide) rfl (by decide) (by decide) (by decide) (by decide) rfl ?_
    rintro _ _ ⟨rfl, rfl⟩
    show Go pP l eE _ sS mM _ bB tT cC n0 _ h10 11 40 (mkF mM 122 #[.val (.int sz), .val (.int st), .val (.int cc), .val (.int (3 : Int32)), .val (.int (0 : Int32)), .val (.ref ah1), .val (.ref ah2), .val (.ref ah3), .val (.ref ah4), .val (.ref ah9), .unset, .unset, .unset] [(.int (if (0 : Int32) < (3 : Int32) then (1 : Int32) else (0 : Int32)))])
    refine go_eqI (y := (1 : Int32)) (by decide) ?_
    refine go_iconst (q := 123) K at_122 (0 : Int32) rfl rfl ?_
    refine go_iloadN (q := 124) K at_123 rfl rfl ?_
    refine go_icmp (q := 131) (q' := 127) K at_124 (by decide) rfl rfl (fun hn => cN_no hn (show (0 : Int32) < (3 : Int32) from (by decide))) (fun _ => ?_)
    refine go_iconst (q := 128) K at_127 (1 : Int32) rfl rfl ?_
    refine go_goto (q := 132) K at_128 (by decide) rfl ?_
    refine go_icmp (q := 139) (q' := 135) K at_132 (by decide) rfl rfl (fun hn => cN_no hn (show (1 : Int32) = (1 : Int32) from (by decide))) (fun _ => ?_)
    refine go_iconst (q := 136) K at_135 (1 : Int32) rfl rfl ?_
    refine go_goto (q := 140) K at_136 (by decide) rfl ?_
    refine go_istore (q := 142) K at_140 #[.val (.int sz), .val (.int st), .val (.int cc), .val (.int (3 : Int32)), .val (.int (0 : Int32)), .val (.ref ah1), .val (.ref ah2), .val (.ref ah3), .val (.ref ah4), .val (.ref ah9), .val (.int (1 : Int32)), .unset, .unset] rfl rfl ?_
    refine go_iload (q := 144) K at_142 rfl rfl ?_
    refine go_iconst (q := 145) K at_144 (1 : Int32) rfl rfl ?_
    refine go_icmp (q := 191) (q' := 148) K at_145 (by decide) rfl rfl (fun _ => ?_) (fun hn => cN_no2 hn (show (0 : Int32) < (1 : Int32) from (by decide)))
    refine go_iload (q := 193) K at_191 rfl rfl ?_
    refine go_iconst (q := 194) K at_193 (2 : Int32) rfl rfl ?_
    refine go_icmp (q := 240) (q' := 197) K at_194 (by decide) rfl rfl (fun _ => ?_) (fun hn => cN_no2 hn (show (0 : Int32) < (2 : Int32) from (by decide)))
    refine go_iload (q := 242) K at_240 rfl rfl ?_
    refine go_iconst (q := 243) K at_242 (3 : Int32) rfl rfl ?_
    refine go_icmp (q := 289) (q' := 246) K at_243 (by decide) rfl rfl (fun _ => ?_) (fun hn => cN_no2 hn (show (0 : Int32) < (3 : Int32) from (by decide)))
    refine go_aload (q := 291) K at_289 rfl rfl rfl ?_
    refine go_callV (q := 294) (W := 0) K (wd hw 98 rfl) (wd hw 99 rfl) (wd hw 101 rfl) (wd hw 100 rfl) (wd hw 56 rfl) (wd hw 102 rfl) (wd hw 101 rfl) rfl q0h10 [] [] (hasNext l Z a0 hw _ _ _ _ _ n0 q1h10 q2h10 f28 f29) at_291 (ps := []) (by decide +kernel) rfl rfl rfl (by decide) rfl (by decide) (by decide) (by decide) (by decide) rfl ?_
    rintro _ _ ⟨rfl, rfl⟩
    show Go pP l eE _ sS mM _ bB tT cC n0 _ h10 11 40 (mkF mM 294 #[.val (.int sz), .val (.int st), .val (.int cc), .val (.int (3 : Int32)), .val (.int (0 : Int32)), .val (.ref ah1), .val (.ref ah2), .val (.ref ah3), .val (.ref ah4), .val (.ref ah9), .val (.int (1 : Int32)), .unset, .unset] [(.int (if (0 : Int32) < (3 : Int32) then (1 : Int32) else (0 : Int32)))])
    refine go_eqI (y := (1 : Int32)) (by decide) ?_
    refine go_istore (q := 296) K at_294 #[.val (.int sz), .val (.int st), .val (.int cc), .val (.int (3 : Int32)), .val (.int (0 : Int32)), .val (.ref ah1), .val (.ref ah2), .val (.ref ah3), .val (.ref ah4), .val (.ref ah9), .val (.int (1 : Int32)), .val (.int (1 : Int32)), .unset] rfl rfl ?_
    refine go_aload (q := 298) K at_296 rfl rfl rfl ?_
    refine go_callV (q := 301) (W := 0) K (wd hw 98 rfl) (wd hw 99 rfl) (wd hw 101 rfl) (wd hw 100 rfl) (wd hw 56 rfl) (wd hw 102 rfl) (wd hw 101 rfl) rfl q0h10 [] [] (hasNext l Z a0 hw _ _ _ _ _ n0 q1h10 q2h10 f28 f29) at_298 (ps := []) (by decide +kernel) rfl rfl rfl (by decide) rfl (by decide) (by decide) (by decide) (by decide) rfl ?_
    rintro _ _ ⟨rfl, rfl⟩
    show Go pP l eE _ sS mM _ bB tT cC n0 _ h10 11 40 (mkF mM 301 #[.val (.int sz), .val (.int st), .val (.int cc), .val (.int (3 : Int32)), .val (.int (0 : Int32)), .val (.ref ah1), .val (.ref ah2), .val (.ref ah3), .val (.ref ah4), .val (.ref ah9), .val (.int (1 : Int32)), .val (.int (1 : Int32)), .unset] [(.int (if (0 : Int32) < (3 : Int32) then (1 : Int32) else (0 : Int32)))])
    refine go_eqI (y := (1 : Int32)) (by decide) ?_
    refine go_istore (q := 303) K at_301 #[.val (.int sz), .val (.int st), .val (.int cc), .val (.int (3 : Int32)), .val (.int (0 : Int32)), .val (.ref ah1), .val (.ref ah2), .val (.ref ah3), .val (.ref ah4), .val (.ref ah9), .val (.int (1 : Int32)), .val (.int (1 : Int32)), .val (.int (1 : Int32))] rfl rfl ?_
    refine go_iload (q := 305) K at_303 rfl rfl ?_
    refine go_iload (q := 307) K at_305 rfl rfl ?_
    refine go_iload (q := 309) K at_307 rfl rfl ?_
    refine go_iloadN (q := 310) K at_309 rfl rfl ?_
    refine go_icmp (q := 317) (q' := 313) K at_310 (by decide) rfl rfl (fun hn => cN_no hn (show (0 : Int32) < (3 : Int32) from (by decide))) (fun _ => ?_)
    refine go_iconst (q := 314) K at_313 (1 : Int32) rfl rfl ?_
    refine go_goto (q := 318) K at_314 (by decide) rfl ?_
    refine go_icmp (q := 325) (q' := 321) K at_318 (by decide) rfl rfl (fun hn => cN_no hn (show (1 : Int32) = (1 : Int32) from (by decide))) (fun _ => ?_)
    refine go_iconst (q := 322) K at_321 (1 : Int32) rfl rfl ?_
    refine go_goto (q := 326) K at_322 (by decide) rfl ?_
    refine go_iand (q := 327) K at_326 rfl ?_
    refine go_eqI (y := (1 : Int32)) (by decide) ?_
    refine go_iload (q := 329) K at_327 rfl rfl ?_
    refine go_iload (q := 331) K at_329 rfl rfl ?_
    refine go_icmp (q := 338) (q' := 334) K at_331 (by decide) rfl rfl (fun hn => cN_no hn (show (1 : Int32) = (1 : Int32) from (by decide))) (fun _ => ?_)
    refine go_iconst (q := 335) K at_334 (1 : Int32) rfl rfl ?_
    refine go_goto (q := 339) K at_335 (by decide) rfl ?_
    refine go_iand (q := 340) K at_339 rfl ?_
    refine go_eqI (y := (1 : Int32)) (by decide) ?_
    refine go_istore (q := 342) K at_340 #[.val (.int sz), .val (.int st), .val (.int cc), .val (.int (3 : Int32)), .val (.int (0 : Int32)), .val (.ref ah1), .val (.ref ah2), .val (.ref ah3), .val (.ref ah4), .val (.ref ah9), .val (.int (1 : Int32)), .val (.int (1 : Int32)), .val (.int (1 : Int32))] rfl rfl ?_
    refine go_iload (q := 344) K at_342 rfl rfl ?_
    refine go_iret K at_344 rfl (Or.inr (Or.inl rfl)) rfl (by decide) (by decide) ?_
    exact rfl
  · show Go pP l eE _ sS mM _ bB tT cC n0 _ h5 7 18 (mkF mM 61 #[.val (.int sz), .val (.int st), .val (.int cc), .val (.int (3 : Int32)), .val (.int (1 : Int32)), .val (.ref ah1), .val (.ref ah2), .val (.ref ah3), .val (.ref ah4), .unset, .unset, .unset, .unset] [])
    refine go_iloadN (q := 62) K at_61 rfl rfl ?_
    refine go_iconst (q := 63) K at_62 (1 : Int32) rfl rfl ?_
    refine go_icmp (q := 76) (q' := 66) K at_63 (by decide) rfl rfl (fun hn => cN_no hn (show ¬ (3 : Int32) < (1 : Int32) from (by decide))) (fun _ => ?_)
    refine go_aload (q := 68) K at_66 rfl rfl rfl ?_
    refine go_aload (q := 70) K at_68 rfl rfl rfl ?_
    have f11 := (f10.keep Kh5 (allS (Nat.le_trans (own_ge f5) (Nat.le_of_eq gah4.symm)) all0))
    have f12 := ((f6.ext Eh4).keep Kh5)
    have f13 := ((f7.ext Eh4).keep Kh5 (ninS (own_nel (f7).lt (Nat.le_of_eq gah4.symm)) nin0))
    have f14 := ((f8.ext Eh4).keep Kh5)
    have f15 := ((f9.ext Eh4).keep Kh5 (ninS (own_nel (f9).lt (Nat.le_of_eq gah4.symm)) nin0))
    have f16 := ((q0h3.ext Eh4).keep Kh5)
    have f17 := ((q3h3.ext Eh4).keep Kh5 (ninS (own_nel (q3h3).lt (Nat.le_of_eq gah4.symm)) nin0))
    refine go_callF (q := 75) (W := 0) K (wd hw 116 rfl) (wd hw 117 rfl) (wd hw 119 rfl) (wd hw 120 rfl) (wd hw 32 rfl) (wd hw 123 rfl) (wd hw 118 rfl) (wd hw 121 rfl) (wd hw 122 rfl) (wd hw 112 rfl) q0h5 [(.ref ah1)] [] (add0 l Z a0 hw _ _ _ _ _ _ n0 f11 q0h5 q1h5 q2h5 q3h5 (Nat.le_trans (own_ge f5) (Nat.le_of_eq gah4.symm)) p3_ p4_ f12 ((own_nel (f6).lt (Nat.le_of_eq gah4.symm))).symm) at_70 (ps := [(.object "java/lang/Object")]) (by decide +kernel) rfl rfl rfl (by decide) rfl (by decide) (by decide) (by decide) (by decide) rfl ?_
    rintro _ h6 ⟨arh6, klh6, rfl, Kh6, garh6, q0h6, q1h6, q2h6, q3h6, q4h6, q5h6⟩
    show Go pP l eE _ sS mM _ bB tT cC n0 _ h6 8 28 (mkF mM 75 #[.val (.int sz), .val (.int st), .val (.int cc), .val (.int (3 : Int32)), .val (.int (1 : Int32)), .val (.ref ah1), .val (.ref ah2), .val (.ref ah3), .val (.ref ah4), .unset, .unset, .unset, .unset] [(.int (1 : Int32))])
    refine go_pop (q := 76) K at_75 rfl rfl ?_
    refine go_iloadN (q := 77) K at_76 rfl rfl ?_
    refine go_iconst (q := 78) K at_77 (2 : Int32) rfl rfl ?_
    refine go_icmp (q := 91) (q' := 81) K at_78 (by decide) rfl rfl (fun hn => cN_no hn (show ¬ (3 : Int32) < (2 : Int32) from (by decide))) (fun _ => ?_)
    refine go_aload (q := 83) K at_81 rfl rfl rfl ?_
    refine go_aload (q := 85) K at_83 rfl rfl rfl ?_
    have f18 := (f14.keep Kh6)
    refine go_callF (q := 90) (W := 0) K (wd hw 116 rfl) (wd hw 117 rfl) (wd hw 119 rfl) (wd hw 120 rfl) (wd hw 32 rfl) (wd hw 123 rfl) (wd hw 118 rfl) (wd hw 121 rfl) (wd hw 122 rfl) (wd hw 112 rfl) q0h6 [(.ref ah2)] [] (add1 l Z a0 hw _ _ _ _ _ _ _ n0 q0h6 q1h6 q2h6 q3h6 (Nat.le_trans (own_ge f5) (Nat.le_of_eq gah4.symm)) (Nat.le_trans (own_ge f11) garh6) (own_nel (q0h5).lt garh6) q4h6 q5h6 f18) at_85 (ps := [(.object "java/lang/Object")]) (by decide +kernel) rfl rfl rfl (by decide) rfl (by decide) (by decide) (by decide) (by decide) rfl ?_
    rintro _ h7 ⟨rfl, Kh7, q0h7, q1h7, q2h7, q3h7, q4h7⟩
    show Go pP l eE _ sS mM _ bB tT cC n0 _ h7 8 28 (mkF mM 90 #[.val (.int sz), .val (.int st), .val (.int cc), .val (.int (3 : Int32)), .val (.int (1 : Int32)), .val (.ref ah1), .val (.ref ah2), .val (.ref ah3), .val (.ref ah4), .unset, .unset, .unset, .unset] [(.int (1 : Int32))])
    refine go_pop (q := 91) K at_90 rfl rfl ?_
    refine go_iloadN (q := 92) K at_91 rfl rfl ?_
    refine go_iconst (q := 93) K at_92 (3 : Int32) rfl rfl ?_
    refine go_icmp (q := 106) (q' := 96) K at_93 (by decide) rfl rfl (fun hn => cN_no hn (show ¬ (3 : Int32) < (3 : Int32) from (by decide))) (fun _ => ?_)
    refine go_aload (q := 98) K at_96 rfl rfl rfl ?_
    refine go_aload (q := 100) K at_98 rfl rfl rfl ?_
    have f19 := ((f16.keep Kh6).keep Kh7)
    refine go_callF (q := 105) (W := 0) K (wd hw 116 rfl) (wd hw 117 rfl) (wd hw 119 rfl) (wd hw 120 rfl) (wd hw 32 rfl) (wd hw 123 rfl) (wd hw 118 rfl) (wd hw 121 rfl) (wd hw 122 rfl) (wd hw 112 rfl) q0h7 [(.ref ah3)] [] (add2 l Z a0 hw _ _ _ _ _ _ _ _ n0 q0h7 q1h7 q2h7 q3h7 (Nat.le_trans (own_ge f5) (Nat.le_of_eq gah4.symm)) (Nat.le_trans (own_ge f11) garh6) (own_nel (q0h5).lt garh6) q4h7 q5h6 f19) at_100 (ps := [(.object "java/lang/Object")]) (by decide +kernel) rfl rfl rfl (by decide) rfl (by decide) (by decide) (by decide) (by decide) rfl ?_
    rintro _ h8 ⟨rfl, Kh8, q0h8, q1h8, q2h8, q3h8, q4h8⟩
    show Go pP l eE _ sS mM _ bB tT cC n0 _ h8 8 28 (mkF mM 105 #[.val (.int sz), .val (.int st), .val (.int cc), .val (.int (3 : Int32)), .val (.int (1 : Int32)), .val (.ref ah1), .val (.ref ah2), .val (.ref ah3), .val (.ref ah4), .unset, .unset, .unset, .unset] [(.int (1 : Int32))])
    refine go_pop (q := 106) K at_105 rfl rfl ?_
    have f20 := (((f11.keep Kh6 (allS (Nat.le_trans (own_ge f5) (Nat.le_of_eq gah4.symm)) all0)).keep Kh7 (allS (Nat.le_trans (own_ge f5) (Nat.le_of_eq gah4.symm)) (allS (Nat.le_trans (own_ge f11) garh6) all0))).keep Kh8 (allS (Nat.le_trans (own_ge f5) (Nat.le_of_eq gah4.symm)) (allS (Nat.le_trans (own_ge f11) garh6) all0)))
    have f21 := (((f12.keep Kh6).keep Kh7).keep Kh8)
    have f22 := (((f13.keep Kh6 (ninS (own_nel (f7).lt (Nat.le_of_eq gah4.symm)) nin0)).keep Kh7 (ninS (own_nel (f7).lt (Nat.le_of_eq gah4.symm)) (ninS (own_nel (f13).lt garh6) nin0))).keep Kh8 (ninS (own_nel (f7).lt (Nat.le_of_eq gah4.symm)) (ninS (own_nel (f13).lt garh6) nin0)))
    have f23 := ((f18.keep Kh7).keep Kh8)
    have f24 := (((f15.keep Kh6 (ninS (own_nel (f9).lt (Nat.le_of_eq gah4.symm)) nin0)).keep Kh7 (ninS (own_nel (f9).lt (Nat.le_of_eq gah4.symm)) (ninS (own_nel (f15).lt garh6) nin0))).keep Kh8 (ninS (own_nel (f9).lt (Nat.le_of_eq gah4.symm)) (ninS (own_nel (f15).lt garh6) nin0)))
    have f25 := (f19.keep Kh8)
    have f26 := (((f17.keep Kh6 (ninS (own_nel (q3h3).lt (Nat.le_of_eq gah4.symm)) nin0)).keep Kh7 (ninS (own_nel (q3h3).lt (Nat.le_of_eq gah4.symm)) (ninS (own_nel (f17).lt garh6) nin0))).keep Kh8 (ninS (own_nel (q3h3).lt (Nat.le_of_eq gah4.symm)) (ninS (own_nel (f17).lt garh6) nin0)))
    refine go_new (q := 109) (sz := 3) K (wd hw 54 rfl) (wd hw 55 rfl) (wd hw 56 rfl) at_106 (by decide) (by decide) rfl ?_
    intro h9 ah9 gah9 Eh9 Xah9 Dah9
    refine go_dup (q := 110) K at_109 rfl rfl ?_
    refine go_aload (q := 112) K at_110 rfl rfl rfl ?_
    have f27 := (f20.ext Eh9)
    refine go_callI (q := 115) (W := 1) K (wd hw 57 rfl) (wd hw 58 rfl) (wd hw 56 rfl) (wd hw 59 rfl) rfl [(.ref ah4)] [(.ref ah9)] (arInit l Z a0 hw _ _ _ n0 f27 Xah9 (Dah9 (Or.inr (wd hw 95 rfl)) (ty := (.object "java/util/Set")) (by decide +kernel)) (Dah9 (Or.inr (wd hw 97 rfl)) (ty := (.object "java/util/List")) (by decide +kernel)) (Dah9 (Or.inl (wd hw 104 rfl)) (ty := .int) (by decide +kernel)) (Nat.le_trans (own_ge f20) (Nat.le_of_eq gah9.symm))) at_112 (ps := [(.object "java/util/List")]) (by decide +kernel) rfl rfl rfl (by decide) rfl (by decide) (by decide) (by decide) (by decide) rfl ?_
    rintro _ h10 ⟨rfl, Kh10, q0h10, q1h10, q2h10⟩
    show Go pP l eE _ sS mM _ bB tT cC n0 _ h10 11 40 (mkF mM 115 #[.val (.int sz), .val (.int st), .val (.int cc), .val (.int (3 : Int32)), .val (.int (1 : Int32)), .val (.ref ah1), .val (.ref ah2), .val (.ref ah3), .val (.ref ah4), .unset, .unset, .unset, .unset] [(.ref ah9)])
    refine go_astore (q := 117) K at_115 #[.val (.int sz), .val (.int st), .val (.int cc), .val (.int (3 : Int32)), .val (.int (1 : Int32)), .val (.ref ah1), .val (.ref ah2), .val (.ref ah3), .val (.ref ah4), .val (.ref ah9), .unset, .unset, .unset] rfl rfl rfl ?_
    refine go_aload (q := 119) K at_117 rfl rfl rfl ?_
    have f28 := ((q0h8.ext Eh9).keep Kh10)
    have f29 := ((q3h8.ext Eh9).keep Kh10 (ninS (own_nel (q0h8).lt (Nat.le_of_eq gah9.symm)) nin0))
    refine go_callV (q := 122) (W := 0) K (wd hw 98 rfl) (wd hw 99 rfl) (wd hw 101 rfl) (wd hw 100 rfl) (wd hw 56 rfl) (wd hw 102 rfl) (wd hw 101 rfl) rfl q0h10 [] [] (hasNext l Z a0 hw _ _ _ _ _ n0 q1h10 q2h10 f28 f29) at_119 (ps := []) (by decide +kernel) rfl rfl rfl (by decide) rfl (by decide) (by decide) (by decide) (by decide) rfl ?_
    rintro _ _ ⟨rfl, rfl⟩
    show Go pP l eE _ sS mM _ bB tT cC n0 _ h10 11 40 (mkF mM 122 #[.val (.int sz), .val (.int st), .val (.int cc), .val (.int (3 : Int32)), .val (.int (1 : Int32)), .val (.ref ah1), .val (.ref ah2), .val (.ref ah3), .val (.ref ah4), .val (.ref ah9), .unset, .unset, .unset] [(.int (if (0 : Int32) < (3 : Int32) then (1 : Int32) else (0 : Int32)))])
    refine go_eqI (y := (1 : Int32)) (by decide) ?_
    refine go_iconst (q := 123) K at_122 (0 : Int32) rfl rfl ?_
    refine go_iloadN (q := 124) K at_123 rfl rfl ?_
    refine go_icmp (q := 131) (q' := 127) K at_124 (by decide) rfl rfl (fun hn => cN_no hn (show (0 : Int32) < (3 : Int32) from (by decide))) (fun _ => ?_)
    refine go_iconst (q := 128) K at_127 (1 : Int32) rfl rfl ?_
    refine go_goto (q := 132) K at_128 (by decide) rfl ?_
    refine go_icmp (q := 139) (q' := 135) K at_132 (by decide) rfl rfl (fun hn => cN_no hn (show (1 : Int32) = (1 : Int32) from (by decide))) (fun _ => ?_)
    refine go_iconst (q := 136) K at_135 (1 : Int32) rfl rfl ?_
    refine go_goto (q := 140) K at_136 (by decide) rfl ?_
    refine go_istore (q := 142) K at_140 #[.val (.int sz), .val (.int st), .val (.int cc), .val (.int (3 : Int32)), .val (.int (1 : Int32)), .val (.ref ah1), .val (.ref ah2), .val (.ref ah3), .val (.ref ah4), .val (.ref ah9), .val (.int (1 : Int32)), .unset, .unset] rfl rfl ?_
    refine go_iload (q := 144) K at_142 rfl rfl ?_
    refine go_iconst (q := 145) K at_144 (1 : Int32) rfl rfl ?_
    refine go_icmp (q := 191) (q' := 148) K at_145 (by decide) rfl rfl (fun hn => cN_no hn (show ¬ (1 : Int32) < (1 : Int32) from (by decide))) (fun _ => ?_)
    refine go_iload (q := 150) K at_148 rfl rfl ?_
    refine go_aload (q := 152) K at_150 rfl rfl rfl ?_
    have f30 := ((q2h8.ext Eh9).keep Kh10 (ninS (own_nel (q0h8).lt (Nat.le_of_eq gah9.symm)) nin0))
    have f31 := ((q4h8.ext Eh9).keep Kh10 (ninS (own_nel (q4h8).lt (Nat.le_of_eq gah9.symm)) nin0))
    have f32 := ((f21.ext Eh9).keep Kh10)
    refine go_callV (q := 155) (W := 1) K (wd hw 147 rfl) (wd hw 148 rfl) (wd hw 150 rfl) (wd hw 149 rfl) (wd hw 56 rfl) (wd hw 151 rfl) (wd hw 101 rfl) rfl q0h10 [] [(.int (1 : Int32))] (next l Z a0 hw _ _ _ _ _ _ _ _ _ n0 q0h10 q1h10 q2h10 (Nat.le_trans (own_ge f20) (Nat.le_of_eq gah9.symm)) f28 f30 f31 f29 f32 ((own_nel (q0h8).lt (Nat.le_of_eq gah9.symm))).symm ((own_nel (q4h8).lt (Nat.le_of_eq gah9.symm))).symm (by decide) (by decide) rfl) at_152 (ps := []) (by decide +kernel) rfl rfl rfl (by decide) rfl (by decide) (by decide) (by decide) (by decide) rfl ?_
    rintro _ h12 ⟨rfl, Kh12, q0h12, q1h12, q2h12⟩
    show Go pP l eE _ sS mM _ bB tT cC n0 _ h12 11 40 (mkF mM 155 #[.val (.int sz), .val (.int st), .val (.int cc), .val (.int (3 : Int32)), .val (.int (1 : Int32)), .val (.ref ah1), .val (.ref ah2), .val (.ref ah3), .val (.ref ah4), .val (.ref ah9), .val (.int (1 : Int32)), .unset, .unset] [(.ref ah1), (.int (1 : Int32))])
    have q2h12c : Fld Z h12 ah9 "com/example/lexiflow/lexiflow/cli/Arguments" "next" "I" (.int (1 : Int32)) := q2h12
    refine go_aload (q := 157) K at_155 rfl rfl rfl ?_
    have f33 := (f32.keep Kh12)
    refine go_callV (q := 160) (W := 1) K (wd hw 174 rfl) (wd hw 175 rfl) (wd hw 177 rfl) (wd hw 176 rfl) (wd hw 6 rfl) (wd hw 178 rfl) (wd hw 177 rfl) rfl f33 [(.ref ah1)] [(.int (1 : Int32))] (eqSame l Z a0 hw _ _ n0 ) at_157 (ps := [(.object "java/lang/Object")]) (by decide +kernel) rfl rfl rfl (by decide) rfl (by decide) (by decide) (by decide) (by decide) rfl ?_
    rintro _ _ ⟨rfl, rfl⟩
    show Go pP l eE _ sS mM _ bB tT cC n0 _ h12 11 40 (mkF mM 160 #[.val (.int sz), .val (.int st), .val (.int cc), .val (.int (3 : Int32)), .val (.int (1 : Int32)), .val (.ref ah1), .val (.ref ah2), .val (.ref ah3), .val (.ref ah4), .val (.ref ah9), .val (.int (1 : Int32)), .unset, .unset] [(.int (1 : Int32)), (.int (1 : Int32))])
    refine go_iand (q := 161) K at_160 rfl ?_
    refine go_eqI (y := (1 : Int32)) (by decide) ?_
    refine go_istore (q := 163) K at_161 #[.val (.int sz), .val (.int st), .val (.int cc), .val (.int (3 : Int32)), .val (.int (1 : Int32)), .val (.ref ah1), .val (.ref ah2), .val (.ref ah3), .val (.ref ah4), .val (.ref ah9), .val (.int (1 : Int32)), .unset, .unset] rfl rfl ?_
    refine go_iload (q := 165) K at_163 rfl rfl ?_
    refine go_aload (q := 167) K at_165 rfl rfl rfl ?_
    have f34 := (f28.keep Kh12)
    have f35 := (f29.keep Kh12 (ninS (own_nel (q0h8).lt (Nat.le_of_eq gah9.symm)) nin0))
    refine go_callV (q := 170) (W := 1) K (wd hw 98 rfl) (wd hw 99 rfl) (wd hw 101 rfl) (wd hw 100 rfl) (wd hw 56 rfl) (wd hw 102 rfl) (wd hw 101 rfl) rfl q0h12 [] [(.int (1 : Int32))] (hasNext l Z a0 hw _ _ _ _ _ n0 q1h12 q2h12c f34 f35) at_167 (ps := []) (by decide +kernel) rfl rfl rfl (by decide) rfl (by decide) (by decide) (by decide) (by decide) rfl ?_
    rintro _ _ ⟨rfl, rfl⟩
    show Go pP l eE _ sS mM _ bB tT cC n0 _ h12 11 40 (mkF mM 170 #[.val (.int sz), .val (.int st), .val (.int cc), .val (.int (3 : Int32)), .val (.int (1 : Int32)), .val (.ref ah1), .val (.ref ah2), .val (.ref ah3), .val (.ref ah4), .val (.ref ah9), .val (.int (1 : Int32)), .unset, .unset] [(.int (if (1 : Int32) < (3 : Int32) then (1 : Int32) else (0 : Int32))), (.int (1 : Int32))])
    refine go_eqI (y := (1 : Int32)) (by decide) ?_
    refine go_iconst (q := 171) K at_170 (1 : Int32) rfl rfl ?_
    refine go_iloadN (q := 172) K at_171 rfl rfl ?_
    refine go_icmp (q := 179) (q' := 175) K at_172 (by decide) rfl rfl (fun hn => cN_no hn (show (1 : Int32) < (3 : Int32) from (by decide))) (fun _ => ?_)
    refine go_iconst (q := 176) K at_175 (1 : Int32) rfl rfl ?_
    refine go_goto (q := 180) K at_176 (by decide) rfl ?_
    refine go_icmp (q := 187) (q' := 183) K at_180 (by decide) rfl rfl (fun hn => cN_no hn (show (1 : Int32) = (1 : Int32) from (by decide))) (fun _ => ?_)
    refine go_iconst (q := 184) K at_183 (1 : Int32) rfl rfl ?_
    refine go_goto (q := 188) K at_184 (by decide) rfl ?_
    refine go_iand (q := 189) K at_188 rfl ?_
    refine go_eqI (y := (1 : Int32)) (by decide) ?_
    refine go_istore (q := 191) K at_189 #[.val (.int sz), .val (.int st), .val (.int cc), .val (.int (3 : Int32)), .val (.int (1 : Int32)), .val (.ref ah1), .val (.ref ah2), .val (.ref ah3), .val (.ref ah4), .val (.ref ah9), .val (.int (1 : Int32)), .unset, .unset] rfl rfl ?_
    refine go_iload (q := 193) K at_191 rfl rfl ?_
    refine go_iconst (q := 194) K at_193 (2 : Int32) rfl rfl ?_
    refine go_icmp (q := 240) (q' := 197) K at_194 (by decide) rfl rfl (fun _ => ?_) (fun hn => cN_no2 hn (show (1 : Int32) < (2 : Int32) from (by decide)))
    refine go_iload (q := 242) K at_240 rfl rfl ?_
    refine go_iconst (q := 243) K at_242 (3 : Int32) rfl rfl ?_
    refine go_icmp (q := 289) (q' := 246) K at_243 (by decide) rfl rfl (fun _ => ?_) (fun hn => cN_no2 hn (show (1 : Int32) < (3 : Int32) from (by decide)))
    refine go_aload (q := 291) K at_289 rfl rfl rfl ?_
    refine go_callV (q := 294) (W := 0) K (wd hw 98 rfl) (wd hw 99 rfl) (wd hw 101 rfl) (wd hw 100 rfl) (wd hw 56 rfl) (wd hw 102 rfl) (wd hw 101 rfl) rfl q0h12 [] [] (hasNext l Z a0 hw _ _ _ _ _ n0 q1h12 q2h12c f34 f35) at_291 (ps := []) (by decide +kernel) rfl rfl rfl (by decide) rfl (by decide) (by decide) (by decide) (by decide) rfl ?_
    rintro _ _ ⟨rfl, rfl⟩
    show Go pP l eE _ sS mM _ bB tT cC n0 _ h12 11 40 (mkF mM 294 #[.val (.int sz), .val (.int st), .val (.int cc), .val (.int (3 : Int32)), .val (.int (1 : Int32)), .val (.ref ah1), .val (.ref ah2), .val (.ref ah3), .val (.ref ah4), .val (.ref ah9), .val (.int (1 : Int32)), .unset, .unset] [(.int (if (1 : Int32) < (3 : Int32) then (1 : Int32) else (0 : Int32)))])
    refine go_eqI (y := (1 : Int32)) (by decide) ?_
    refine go_istore (q := 296) K at_294 #[.val (.int sz), .val (.int st), .val (.int cc), .val (.int (3 : Int32)), .val (.int (1 : Int32)), .val (.ref ah1), .val (.ref ah2), .val (.ref ah3), .val (.ref ah4), .val (.ref ah9), .val (.int (1 : Int32)), .val (.int (1 : Int32)), .unset] rfl rfl ?_
    refine go_aload (q := 298) K at_296 rfl rfl rfl ?_
    refine go_callV (q := 301) (W := 0) K (wd hw 98 rfl) (wd hw 99 rfl) (wd hw 101 rfl) (wd hw 100 rfl) (wd hw 56 rfl) (wd hw 102 rfl) (wd hw 101 rfl) rfl q0h12 [] [] (hasNext l Z a0 hw _ _ _ _ _ n0 q1h12 q2h12c f34 f35) at_298 (ps := []) (by decide +kernel) rfl rfl rfl (by decide) rfl (by decide) (by decide) (by decide) (by decide) rfl ?_
    rintro _ _ ⟨rfl, rfl⟩
    show Go pP l eE _ sS mM _ bB tT cC n0 _ h12 11 40 (mkF mM 301 #[.val (.int sz), .val (.int st), .val (.int cc), .val (.int (3 : Int32)), .val (.int (1 : Int32)), .val (.ref ah1), .val (.ref ah2), .val (.ref ah3), .val (.ref ah4), .val (.ref ah9), .val (.int (1 : Int32)), .val (.int (1 : Int32)), .unset] [(.int (if (1 : Int32) < (3 : Int32) then (1 : Int32) else (0 : Int32)))])
    refine go_eqI (y := (1 : Int32)) (by decide) ?_
    refine go_istore (q := 303) K at_301 #[.val (.int sz), .val (.int st), .val (.int cc), .val (.int (3 : Int32)), .val (.int (1 : Int32)), .val (.ref ah1), .val (.ref ah2), .val (.ref ah3), .val (.ref ah4), .val (.ref ah9), .val (.int (1 : Int32)), .val (.int (1 : Int32)), .val (.int (1 : Int32))] rfl rfl ?_
    refine go_iload (q := 305) K at_303 rfl rfl ?_
    refine go_iload (q := 307) K at_305 rfl rfl ?_
    refine go_iload (q := 309) K at_307 rfl rfl ?_
    refine go_iloadN (q := 310) K at_309 rfl rfl ?_
    refine go_icmp (q := 317) (q' := 313) K at_310 (by decide) rfl rfl (fun hn => cN_no hn (show (1 : Int32) < (3 : Int32) from (by decide))) (fun _ => ?_)
    refine go_iconst (q := 314) K at_313 (1 : Int32) rfl rfl ?_
    refine go_goto (q := 318) K at_314 (by decide) rfl ?_
    refine go_icmp (q := 325) (q' := 321) K at_318 (by decide) rfl rfl (fun hn => cN_no hn (show (1 : Int32) = (1 : Int32) from (by decide))) (fun _ => ?_)
    refine go_iconst (q := 322) K at_321 (1 : Int32) rfl rfl ?_
    refine go_goto (q := 326) K at_322 (by decide) rfl ?_
    refine go_iand (q := 327) K at_326 rfl ?_
    refine go_eqI (y := (1 : Int32)) (by decide) ?_
    refine go_iload (q := 329) K at_327 rfl rfl ?_
    refine go_iload (q := 331) K at_329 rfl rfl ?_
    refine go_icmp (q := 338) (q' := 334) K at_331 (by decide) rfl rfl (fun hn => cN_no hn (show (1 : Int32) = (1 : Int32) from (by decide))) (fun _ => ?_)
    refine go_iconst (q := 335) K at_334 (1 : Int32) rfl rfl ?_
    refine go_goto (q := 339) K at_335 (by decide) rfl ?_
    refine go_iand (q := 340) K at_339 rfl ?_
    refine go_eqI (y := (1 : Int32)) (by decide) ?_
    refine go_istore (q := 342) K at_340 #[.val (.int sz), .val (.int st), .val (.int cc), .val (.int (3 : Int32)), .val (.int (1 : Int32)), .val (.ref ah1), .val (.ref ah2), .val (.ref ah3), .val (.ref ah4), .val (.ref ah9), .val (.int (1 : Int32)), .val (.int (1 : Int32)), .val (.int (1 : Int32))] rfl rfl ?_
    refine go_iload (q := 344) K at_342 rfl rfl ?_
    refine go_iret K at_344 rfl (Or.inr (Or.inl rfl)) rfl (by decide) (by decide) ?_
    exact rfl
  · show Go pP l eE _ sS mM _ bB tT cC n0 _ h5 7 18 (mkF mM 61 #[.val (.int sz), .val (.int st), .val (.int cc), .val (.int (3 : Int32)), .val (.int (2 : Int32)), .val (.ref ah1), .val (.ref ah2), .val (.ref ah3), .val (.ref ah4), .unset, .unset, .unset, .unset] [])
    refine go_iloadN (q := 62) K at_61 rfl rfl ?_
    refine go_iconst (q := 63) K at_62 (1 : Int32) rfl rfl ?_
    refine go_icmp (q := 76) (q' := 66) K at_63 (by decide) rfl rfl (fun hn => cN_no hn (show ¬ (3 : Int32) < (1 : Int32) from (by decide))) (fun _ => ?_)
    refine go_aload (q := 68) K at_66 rfl rfl rfl ?_
    refine go_aload (q := 70) K at_68 rfl rfl rfl ?_
    have f11 := (f10.keep Kh5 (allS (Nat.le_trans (own_ge f5) (Nat.le_of_eq gah4.symm)) all0))
    have f12 := ((f6.ext Eh4).keep Kh5)
    have f13 := ((f7.ext Eh4).keep Kh5 (ninS (own_nel (f7).lt (Nat.le_of_eq gah4.symm)) nin0))
    have f14 := ((f8.ext Eh4).keep Kh5)
    have f15 := ((f9.ext Eh4).keep Kh5 (ninS (own_nel (f9).lt (Nat.le_of_eq gah4.symm)) nin0))
    have f16 := ((q0h3.ext Eh4).keep Kh5)
    have f17 := ((q3h3.ext Eh4).keep Kh5 (ninS (own_nel (q3h3).lt (Nat.le_of_eq gah4.symm)) nin0))
    refine go_callF (q := 75) (W := 0) K (wd hw 116 rfl) (wd hw 117 rfl) (wd hw 119 rfl) (wd hw 120 rfl) (wd hw 32 rfl) (wd hw 123 rfl) (wd hw 118 rfl) (wd hw 121 rfl) (wd hw 122 rfl) (wd hw 112 rfl) q0h5 [(.ref ah1)] [] (add0 l Z a0 hw _ _ _ _ _ _ n0 f11 q0h5 q1h5 q2h5 q3h5 (Nat.le_trans (own_ge f5) (Nat.le_of_eq gah4.symm)) p3_ p4_ f12 ((own_nel (f6).lt (Nat.le_of_eq gah4.symm))).symm) at_70 (ps := [(.object "java/lang/Object")]) (by decide +kernel) rfl rfl rfl (by decide) rfl (by decide) (by decide) (by decide) (by decide) rfl ?_
    rintro _ h6 ⟨arh6, klh6, rfl, Kh6, garh6, q0h6, q1h6, q2h6, q3h6, q4h6, q5h6⟩
    show Go pP l eE _ sS mM _ bB tT cC n0 _ h6 8 28 (mkF mM 75 #[.val (.int sz), .val (.int st), .val (.int cc), .val (.int (3 : Int32)), .val (.int (2 : Int32)), .val (.ref ah1), .val (.ref ah2), .val (.ref ah3), .val (.ref ah4), .unset, .unset, .unset, .unset] [(.int (1 : Int32))])
    refine go_pop (q := 76) K at_75 rfl rfl ?_
    refine go_iloadN (q := 77) K at_76 rfl rfl ?_
    refine go_iconst (q := 78) K at_77 (2 : Int32) rfl rfl ?_
    refine go_icmp (q := 91) (q' := 81) K at_78 (by decide) rfl rfl (fun hn => cN_no hn (show ¬ (3 : Int32) < (2 : Int32) from (by decide))) (fun _ => ?_)
    refine go_aload (q := 83) K at_81 rfl rfl rfl ?_
    refine go_aload (q := 85) K at_83 rfl rfl rfl ?_
    have f18 := (f14.keep Kh6)
    refine go_callF (q := 90) (W := 0) K (wd hw 116 rfl) (wd hw 117 rfl) (wd hw 119 rfl) (wd hw 120 rfl) (wd hw 32 rfl) (wd hw 123 rfl) (wd hw 118 rfl) (wd hw 121 rfl) (wd hw 122 rfl) (wd hw 112 rfl) q0h6 [(.ref ah2)] [] (add1 l Z a0 hw _ _ _ _ _ _ _ n0 q0h6 q1h6 q2h6 q3h6 (Nat.le_trans (own_ge f5) (Nat.le_of_eq gah4.symm)) (Nat.le_trans (own_ge f11) garh6) (own_nel (q0h5).lt garh6) q4h6 q5h6 f18) at_85 (ps := [(.object "java/lang/Object")]) (by decide +kernel) rfl rfl rfl (by decide) rfl (by decide) (by decide) (by decide) (by decide) rfl ?_
    rintro _ h7 ⟨rfl, Kh7, q0h7, q1h7, q2h7, q3h7, q4h7⟩
    show Go pP l eE _ sS mM _ bB tT cC n0 _ h7 8 28 (mkF mM 90 #[.val (.int sz), .val (.int st), .val (.int cc), .val (.int (3 : Int32)), .val (.int (2 : Int32)), .val (.ref ah1), .val (.ref ah2), .val (.ref ah3), .val (.ref ah4), .unset, .unset, .unset, .unset] [(.int (1 : Int32))])
    refine go_pop (q := 91) K at_90 rfl rfl ?_
    refine go_iloadN (q := 92) K at_91 rfl rfl ?_
    refine go_iconst (q := 93) K at_92 (3 : Int32) rfl rfl ?_
    refine go_icmp (q := 106) (q' := 96) K at_93 (by decide) rfl rfl (fun hn => cN_no hn (show ¬ (3 : Int32) < (3 : Int32) from (by decide))) (fun _ => ?_)
    refine go_aload (q := 98) K at_96 rfl rfl rfl ?_
    refine go_aload (q := 100) K at_98 rfl rfl rfl ?_
    have f19 := ((f16.keep Kh6).keep Kh7)
    refine go_callF (q := 105) (W := 0) K (wd hw 116 rfl) (wd hw 117 rfl) (wd hw 119 rfl) (wd hw 120 rfl) (wd hw 32 rfl) (wd hw 123 rfl) (wd hw 118 rfl) (wd hw 121 rfl) (wd hw 122 rfl) (wd hw 112 rfl) q0h7 [(.ref ah3)] [] (add2 l Z a0 hw _ _ _ _ _ _ _ _ n0 q0h7 q1h7 q2h7 q3h7 (Nat.le_trans (own_ge f5) (Nat.le_of_eq gah4.symm)) (Nat.le_trans (own_ge f11) garh6) (own_nel (q0h5).lt garh6) q4h7 q5h6 f19) at_100 (ps := [(.object "java/lang/Object")]) (by decide +kernel) rfl rfl rfl (by decide) rfl (by decide) (by decide) (by decide) (by decide) rfl ?_
    rintro _ h8 ⟨rfl, Kh8, q0h8, q1h8, q2h8, q3h8, q4h8⟩
    show Go pP l eE _ sS mM _ bB tT cC n0 _ h8 8 28 (mkF mM 105 #[.val (.int sz), .val (.int st), .val (.int cc), .val (.int (3 : Int32)), .val (.int (2 : Int32)), .val (.ref ah1), .val (.ref ah2), .val (.ref ah3), .val (.ref ah4), .unset, .unset, .unset, .unset] [(.int (1 : Int32))])
    refine go_pop (q := 106) K at_105 rfl rfl ?_
    have f20 := (((f11.keep Kh6 (allS (Nat.le_trans (own_ge f5) (Nat.le_of_eq gah4.symm)) all0)).keep Kh7 (allS (Nat.le_trans (own_ge f5) (Nat.le_of_eq gah4.symm)) (allS (Nat.le_trans (own_ge f11) garh6) all0))).keep Kh8 (allS (Nat.le_trans (own_ge f5) (Nat.le_of_eq gah4.symm)) (allS (Nat.le_trans (own_ge f11) garh6) all0)))
    have f21 := (((f12.keep Kh6).keep Kh7).keep Kh8)
    have f22 := (((f13.keep Kh6 (ninS (own_nel (f7).lt (Nat.le_of_eq gah4.symm)) nin0)).keep Kh7 (ninS (own_nel (f7).lt (Nat.le_of_eq gah4.symm)) (ninS (own_nel (f13).lt garh6) nin0))).keep Kh8 (ninS (own_nel (f7).lt (Nat.le_of_eq gah4.symm)) (ninS (own_nel (f13).lt garh6) nin0)))
    have f23 := ((f18.keep Kh7).keep Kh8)
    have f24 := (((f15.keep Kh6 (ninS (own_nel (f9).lt (Nat.le_of_eq gah4.symm)) nin0)).keep Kh7 (ninS (own_nel (f9).lt (Nat.le_of_eq gah4.symm)) (ninS (own_nel (f15).lt garh6) nin0))).keep Kh8 (ninS (own_nel (f9).lt (Nat.le_of_eq gah4.symm)) (ninS (own_nel (f15).lt garh6) nin0)))
    have f25 := (f19.keep Kh8)
    have f26 := (((f17.keep Kh6 (ninS (own_nel (q3h3).lt (Nat.le_of_eq gah4.symm)) nin0)).keep Kh7 (ninS (own_nel (q3h3).lt (Nat.le_of_eq gah4.symm)) (ninS (own_nel (f17).lt garh6) nin0))).keep Kh8 (ninS (own_nel (q3h3).lt (Nat.le_of_eq gah4.symm)) (ninS (own_nel (f17).lt garh6) nin0)))
    refine go_new (q := 109) (sz := 3) K (wd hw 54 rfl) (wd hw 55 rfl) (wd hw 56 rfl) at_106 (by decide) (by decide) rfl ?_
    intro h9 ah9 gah9 Eh9 Xah9 Dah9
    refine go_dup (q := 110) K at_109 rfl rfl ?_
    refine go_aload (q := 112) K at_110 rfl rfl rfl ?_
    have f27 := (f20.ext Eh9)
    refine go_callI (q := 115) (W := 1) K (wd hw 57 rfl) (wd hw 58 rfl) (wd hw 56 rfl) (wd hw 59 rfl) rfl [(.ref ah4)] [(.ref ah9)] (arInit l Z a0 hw _ _ _ n0 f27 Xah9 (Dah9 (Or.inr (wd hw 95 rfl)) (ty := (.object "java/util/Set")) (by decide +kernel)) (Dah9 (Or.inr (wd hw 97 rfl)) (ty := (.object "java/util/List")) (by decide +kernel)) (Dah9 (Or.inl (wd hw 104 rfl)) (ty := .int) (by decide +kernel)) (Nat.le_trans (own_ge f20) (Nat.le_of_eq gah9.symm))) at_112 (ps := [(.object "java/util/List")]) (by decide +kernel) rfl rfl rfl (by decide) rfl (by decide) (by decide) (by decide) (by decide) rfl ?_
    rintro _ h10 ⟨rfl, Kh10, q0h10, q1h10, q2h10⟩
    show Go pP l eE _ sS mM _ bB tT cC n0 _ h10 11 40 (mkF mM 115 #[.val (.int sz), .val (.int st), .val (.int cc), .val (.int (3 : Int32)), .val (.int (2 : Int32)), .val (.ref ah1), .val (.ref ah2), .val (.ref ah3), .val (.ref ah4), .unset, .unset, .unset, .unset] [(.ref ah9)])
    refine go_astore (q := 117) K at_115 #[.val (.int sz), .val (.int st), .val (.int cc), .val (.int (3 : Int32)), .val (.int (2 : Int32)), .val (.ref ah1), .val (.ref ah2), .val (.ref ah3), .val (.ref ah4), .val (.ref ah9), .unset, .unset, .unset] rfl rfl rfl ?_
    refine go_aload (q := 119) K at_117 rfl rfl rfl ?_
    have f28 := ((q0h8.ext Eh9).keep Kh10)
    have f29 := ((q3h8.ext Eh9).keep Kh10 (ninS (own_nel (q0h8).lt (Nat.le_of_eq gah9.symm)) nin0))
    refine go_callV (q := 122) (W := 0) K (wd hw 98 rfl) (wd hw 99 rfl) (wd hw 101 rfl) (wd hw 100 rfl) (wd hw 56 rfl) (wd hw 102 rfl) (wd hw 101 rfl) rfl q0h10 [] [] (hasNext l Z a0 hw _ _ _ _ _ n0 q1h10 q2h10 f28 f29) at_119 (ps := []) (by decide +kernel) rfl rfl rfl (by decide) rfl (by decide) (by decide) (by decide) (by decide) rfl ?_
    rintro _ _ ⟨rfl, rfl⟩
    show Go pP l eE _ sS mM _ bB tT cC n0 _ h10 11 40 (mkF mM 122 #[.val (.int sz), .val (.int st), .val (.int cc), .val (.int (3 : Int32)), .val (.int (2 : Int32)), .val (.ref ah1), .val (.ref ah2), .val (.ref ah3), .val (.ref ah4), .val (.ref ah9), .unset, .unset, .unset] [(.int (if (0 : Int32) < (3 : Int32) then (1 : Int32) else (0 : Int32)))])
    refine go_eqI (y := (1 : Int32)) (by decide) ?_
    refine go_iconst (q := 123) K at_122 (0 : Int32) rfl rfl ?_
    refine go_iloadN (q := 124) K at_123 rfl rfl ?_
    refine go_icmp (q := 131) (q' := 127) K at_124 (by decide) rfl rfl (fun hn => cN_no hn (show (0 : Int32) < (3 : Int32) from (by decide))) (fun _ => ?_)
    refine go_iconst (q := 128) K at_127 (1 : Int32) rfl rfl ?_
    refine go_goto (q := 132) K at_128 (by decide) rfl ?_
    refine go_icmp (q := 139) (q' := 135) K at_132 (by decide) rfl rfl (fun hn => cN_no hn (show (1 : Int32) = (1 : Int32) from (by decide))) (fun _ => ?_)
    refine go_iconst (q := 136) K at_135 (1 : Int32) rfl rfl ?_
    refine go_goto (q := 140) K at_136 (by decide) rfl ?_
    refine go_istore (q := 142) K at_140 #[.val (.int sz), .val (.int st), .val (.int cc), .val (.int (3 : Int32)), .val (.int (2 : Int32)), .val (.ref ah1), .val (.ref ah2), .val (.ref ah3), .val (.ref ah4), .val (.ref ah9), .val (.int (1 : Int32)), .unset, .unset] rfl rfl ?_
    refine go_iload (q := 144) K at_142 rfl rfl ?_
    refine go_iconst (q := 145) K at_144 (1 : Int32) rfl rfl ?_
    refine go_icmp (q := 191) (q' := 148) K at_145 (by decide) rfl rfl (fun hn => cN_no hn (show ¬ (2 : Int32) < (1 : Int32) from (by decide))) (fun _ => ?_)
    refine go_iload (q := 150) K at_148 rfl rfl ?_
    refine go_aload (q := 152) K at_150 rfl rfl rfl ?_
    have f30 := ((q2h8.ext Eh9).keep Kh10 (ninS (own_nel (q0h8).lt (Nat.le_of_eq gah9.symm)) nin0))
    have f31 := ((q4h8.ext Eh9).keep Kh10 (ninS (own_nel (q4h8).lt (Nat.le_of_eq gah9.symm)) nin0))
    have f32 := ((f21.ext Eh9).keep Kh10)
    refine go_callV (q := 155) (W := 1) K (wd hw 147 rfl) (wd hw 148 rfl) (wd hw 150 rfl) (wd hw 149 rfl) (wd hw 56 rfl) (wd hw 151 rfl) (wd hw 101 rfl) rfl q0h10 [] [(.int (1 : Int32))] (next l Z a0 hw _ _ _ _ _ _ _ _ _ n0 q0h10 q1h10 q2h10 (Nat.le_trans (own_ge f20) (Nat.le_of_eq gah9.symm)) f28 f30 f31 f29 f32 ((own_nel (q0h8).lt (Nat.le_of_eq gah9.symm))).symm ((own_nel (q4h8).lt (Nat.le_of_eq gah9.symm))).symm (by decide) (by decide) rfl) at_152 (ps := []) (by decide +kernel) rfl rfl rfl (by decide) rfl (by decide) (by decide) (by decide) (by decide) rfl ?_
    rintro _ h12 ⟨rfl, Kh12, q0h12, q1h12, q2h12⟩
    show Go pP l eE _ sS mM _ bB tT cC n0 _ h12 11 40 (mkF mM 155 #[.val (.int sz), .val (.int st), .val (.int cc), .val (.int (3 : Int32)), .val (.int (2 : Int32)), .val (.ref ah1), .val (.ref ah2), .val (.ref ah3), .val (.ref ah4), .val (.ref ah9), .val (.int (1 : Int32)), .unset, .unset] [(.ref ah1), (.int (1 : Int32))])
    have q2h12c : Fld Z h12 ah9 "com/example/lexiflow/lexiflow/cli/Arguments" "next" "I" (.int (1 : Int32)) := q2h12
    refine go_aload (q := 157) K at_155 rfl rfl rfl ?_
    have f33 := (f32.keep Kh12)
    refine go_callV (q := 160) (W := 1) K (wd hw 174 rfl) (wd hw 175 rfl) (wd hw 177 rfl) (wd hw 176 rfl) (wd hw 6 rfl) (wd hw 178 rfl) (wd hw 177 rfl) rfl f33 [(.ref ah1)] [(.int (1 : Int32))] (eqSame l Z a0 hw _ _ n0 ) at_157 (ps := [(.object "java/lang/Object")]) (by decide +kernel) rfl rfl rfl (by decide) rfl (by decide) (by decide) (by decide) (by decide) rfl ?_
    rintro _ _ ⟨rfl, rfl⟩
    show Go pP l eE _ sS mM _ bB tT cC n0 _ h12 11 40 (mkF mM 160 #[.val (.int sz), .val (.int st), .val (.int cc), .val (.int (3 : Int32)), .val (.int (2 : Int32)), .val (.ref ah1), .val (.ref ah2), .val (.ref ah3), .val (.ref ah4), .val (.ref ah9), .val (.int (1 : Int32)), .unset, .unset] [(.int (1 : Int32)), (.int (1 : Int32))])
    refine go_iand (q := 161) K at_160 rfl ?_
    refine go_eqI (y := (1 : Int32)) (by decide) ?_
    refine go_istore (q := 163) K at_161 #[.val (.int sz), .val (.int st), .val (.int cc), .val (.int (3 : Int32)), .val (.int (2 : Int32)), .val (.ref ah1), .val (.ref ah2), .val (.ref ah3), .val (.ref ah4), .val (.ref ah9), .val (.int (1 : Int32)), .unset, .unset] rfl rfl ?_
    refine go_iload (q := 165) K at_163 rfl rfl ?_
    refine go_aload (q := 167) K at_165 rfl rfl rfl ?_
    have f34 := (f28.keep Kh12)
    have f35 := (f29.keep Kh12 (ninS (own_nel (q0h8).lt (Nat.le_of_eq gah9.symm)) nin0))
    refine go_callV (q := 170) (W := 1) K (wd hw 98 rfl) (wd hw 99 rfl) (wd hw 101 rfl) (wd hw 100 rfl) (wd hw 56 rfl) (wd hw 102 rfl) (wd hw 101 rfl) rfl q0h12 [] [(.int (1 : Int32))] (hasNext l Z a0 hw _ _ _ _ _ n0 q1h12 q2h12c f34 f35) at_167 (ps := []) (by decide +kernel) rfl rfl rfl (by decide) rfl (by decide) (by decide) (by decide) (by decide) rfl ?_
    rintro _ _ ⟨rfl, rfl⟩
    show Go pP l eE _ sS mM _ bB tT cC n0 _ h12 11 40 (mkF mM 170 #[.val (.int sz), .val (.int st), .val (.int cc), .val (.int (3 : Int32)), .val (.int (2 : Int32)), .val (.ref ah1), .val (.ref ah2), .val (.ref ah3), .val (.ref ah4), .val (.ref ah9), .val (.int (1 : Int32)), .unset, .unset] [(.int (if (1 : Int32) < (3 : Int32) then (1 : Int32) else (0 : Int32))), (.int (1 : Int32))])
    refine go_eqI (y := (1 : Int32)) (by decide) ?_
    refine go_iconst (q := 171) K at_170 (1 : Int32) rfl rfl ?_
    refine go_iloadN (q := 172) K at_171 rfl rfl ?_
    refine go_icmp (q := 179) (q' := 175) K at_172 (by decide) rfl rfl (fun hn => cN_no hn (show (1 : Int32) < (3 : Int32) from (by decide))) (fun _ => ?_)
    refine go_iconst (q := 176) K at_175 (1 : Int32) rfl rfl ?_
    refine go_goto (q := 180) K at_176 (by decide) rfl ?_
    refine go_icmp (q := 187) (q' := 183) K at_180 (by decide) rfl rfl (fun hn => cN_no hn (show (1 : Int32) = (1 : Int32) from (by decide))) (fun _ => ?_)
    refine go_iconst (q := 184) K at_183 (1 : Int32) rfl rfl ?_
    refine go_goto (q := 188) K at_184 (by decide) rfl ?_
    refine go_iand (q := 189) K at_188 rfl ?_
    refine go_eqI (y := (1 : Int32)) (by decide) ?_
    refine go_istore (q := 191) K at_189 #[.val (.int sz), .val (.int st), .val (.int cc), .val (.int (3 : Int32)), .val (.int (2 : Int32)), .val (.ref ah1), .val (.ref ah2), .val (.ref ah3), .val (.ref ah4), .val (.ref ah9), .val (.int (1 : Int32)), .unset, .unset] rfl rfl ?_
    refine go_iload (q := 193) K at_191 rfl rfl ?_
    refine go_iconst (q := 194) K at_193 (2 : Int32) rfl rfl ?_
    refine go_icmp (q := 240) (q' := 197) K at_194 (by decide) rfl rfl (fun hn => cN_no hn (show ¬ (2 : Int32) < (2 : Int32) from (by decide))) (fun _ => ?_)
    refine go_iload (q := 199) K at_197 rfl rfl ?_
    refine go_aload (q := 201) K at_199 rfl rfl rfl ?_
    have f36 := (f30.keep Kh12 (ninS (own_nel (q0h8).lt (Nat.le_of_eq gah9.symm)) nin0))
    have f37 := (f31.keep Kh12 (ninS (own_nel (q4h8).lt (Nat.le_of_eq gah9.symm)) nin0))
    have f38 := (((f23.ext Eh9).keep Kh10).keep Kh12)
    refine go_callV (q := 204) (W := 1) K (wd hw 147 rfl) (wd hw 148 rfl) (wd hw 150 rfl) (wd hw 149 rfl) (wd hw 56 rfl) (wd hw 151 rfl) (wd hw 101 rfl) rfl q0h12 [] [(.int (1 : Int32))] (next l Z a0 hw _ _ _ _ _ _ _ _ _ n0 q0h12 q1h12 q2h12c (Nat.le_trans (own_ge f20) (Nat.le_of_eq gah9.symm)) f34 f36 f37 f35 f38 ((own_nel (q0h8).lt (Nat.le_of_eq gah9.symm))).symm ((own_nel (q4h8).lt (Nat.le_of_eq gah9.symm))).symm (by decide) (by decide) rfl) at_201 (ps := []) (by decide +kernel) rfl rfl rfl (by decide) rfl (by decide) (by decide) (by decide) (by decide) rfl ?_
    rintro _ h15 ⟨rfl, Kh15, q0h15, q1h15, q2h15⟩
    show Go pP l eE _ sS mM _ bB tT cC n0 _ h15 11 40 (mkF mM 204 #[.val (.int sz), .val (.int st), .val (.int cc), .val (.int (3 : Int32)), .val (.int (2 : Int32)), .val (.ref ah1), .val (.ref ah2), .val (.ref ah3), .val (.ref ah4), .val (.ref ah9), .val (.int (1 : Int32)), .unset, .unset] [(.ref ah2), (.int (1 : Int32))])
    have q2h15c : Fld Z h15 ah9 "com/example/lexiflow/lexiflow/cli/Arguments" "next" "I" (.int (2 : Int32)) := q2h15
    refine go_aload (q := 206) K at_204 rfl rfl rfl ?_
    have f39 := (f38.keep Kh15)
    refine go_callV (q := 209) (W := 1) K (wd hw 174 rfl) (wd hw 175 rfl) (wd hw 177 rfl) (wd hw 176 rfl) (wd hw 6 rfl) (wd hw 178 rfl) (wd hw 177 rfl) rfl f39 [(.ref ah2)] [(.int (1 : Int32))] (eqSame l Z a0 hw _ _ n0 ) at_206 (ps := [(.object "java/lang/Object")]) (by decide +kernel) rfl rfl rfl (by decide) rfl (by decide) (by decide) (by decide) (by decide) rfl ?_
    rintro _ _ ⟨rfl, rfl⟩
    show Go pP l eE _ sS mM _ bB tT cC n0 _ h15 11 40 (mkF mM 209 #[.val (.int sz), .val (.int st), .val (.int cc), .val (.int (3 : Int32)), .val (.int (2 : Int32)), .val (.ref ah1), .val (.ref ah2), .val (.ref ah3), .val (.ref ah4), .val (.ref ah9), .val (.int (1 : Int32)), .unset, .unset] [(.int (1 : Int32)), (.int (1 : Int32))])
    refine go_iand (q := 210) K at_209 rfl ?_
    refine go_eqI (y := (1 : Int32)) (by decide) ?_
    refine go_istore (q := 212) K at_210 #[.val (.int sz), .val (.int st), .val (.int cc), .val (.int (3 : Int32)), .val (.int (2 : Int32)), .val (.ref ah1), .val (.ref ah2), .val (.ref ah3), .val (.ref ah4), .val (.ref ah9), .val (.int (1 : Int32)), .unset, .unset] rfl rfl ?_
    refine go_iload (q := 214) K at_212 rfl rfl ?_
    refine go_aload (q := 216) K at_214 rfl rfl rfl ?_
    have f40 := (f34.keep Kh15)
    have f41 := (f35.keep Kh15 (ninS (own_nel (q0h8).lt (Nat.le_of_eq gah9.symm)) nin0))
    refine go_callV (q := 219) (W := 1) K (wd hw 98 rfl) (wd hw 99 rfl) (wd hw 101 rfl) (wd hw 100 rfl) (wd hw 56 rfl) (wd hw 102 rfl) (wd hw 101 rfl) rfl q0h15 [] [(.int (1 : Int32))] (hasNext l Z a0 hw _ _ _ _ _ n0 q1h15 q2h15c f40 f41) at_216 (ps := []) (by decide +kernel) rfl rfl rfl (by decide) rfl (by decide) (by decide) (by decide) (by decide) rfl ?_
    rintro _ _ ⟨rfl, rfl⟩
    show Go pP l eE _ sS mM _ bB tT cC n0 _ h15 11 40 (mkF mM 219 #[.val (.int sz), .val (.int st), .val (.int cc), .val (.int (3 : Int32)), .val (.int (2 : Int32)), .val (.ref ah1), .val (.ref ah2), .val (.ref ah3), .val (.ref ah4), .val (.ref ah9), .val (.int (1 : Int32)), .unset, .unset] [(.int (if (2 : Int32) < (3 : Int32) then (1 : Int32) else (0 : Int32))), (.int (1 : Int32))])
    refine go_eqI (y := (1 : Int32)) (by decide) ?_
    refine go_iconst (q := 220) K at_219 (2 : Int32) rfl rfl ?_
    refine go_iloadN (q := 221) K at_220 rfl rfl ?_
    refine go_icmp (q := 228) (q' := 224) K at_221 (by decide) rfl rfl (fun hn => cN_no hn (show (2 : Int32) < (3 : Int32) from (by decide))) (fun _ => ?_)
    refine go_iconst (q := 225) K at_224 (1 : Int32) rfl rfl ?_
    refine go_goto (q := 229) K at_225 (by decide) rfl ?_
    refine go_icmp (q := 236) (q' := 232) K at_229 (by decide) rfl rfl (fun hn => cN_no hn (show (1 : Int32) = (1 : Int32) from (by decide))) (fun _ => ?_)
    refine go_iconst (q := 233) K at_232 (1 : Int32) rfl rfl ?_
    refine go_goto (q := 237) K at_233 (by decide) rfl ?_
    refine go_iand (q := 238) K at_237 rfl ?_
    refine go_eqI (y := (1 : Int32)) (by decide) ?_
    refine go_istore (q := 240) K at_238 #[.val (.int sz), .val (.int st), .val (.int cc), .val (.int (3 : Int32)), .val (.int (2 : Int32)), .val (.ref ah1), .val (.ref ah2), .val (.ref ah3), .val (.ref ah4), .val (.ref ah9), .val (.int (1 : Int32)), .unset, .unset] rfl rfl ?_
    refine go_iload (q := 242) K at_240 rfl rfl ?_
    refine go_iconst (q := 243) K at_242 (3 : Int32) rfl rfl ?_
    refine go_icmp (q := 289) (q' := 246) K at_243 (by decide) rfl rfl (fun _ => ?_) (fun hn => cN_no2 hn (show (2 : Int32) < (3 : Int32) from (by decide)))
    refine go_aload (q := 291) K at_289 rfl rfl rfl ?_
    refine go_callV (q := 294) (W := 0) K (wd hw 98 rfl) (wd hw 99 rfl) (wd hw 101 rfl) (wd hw 100 rfl) (wd hw 56 rfl) (wd hw 102 rfl) (wd hw 101 rfl) rfl q0h15 [] [] (hasNext l Z a0 hw _ _ _ _ _ n0 q1h15 q2h15c f40 f41) at_291 (ps := []) (by decide +kernel) rfl rfl rfl (by decide) rfl (by decide) (by decide) (by decide) (by decide) rfl ?_
    rintro _ _ ⟨rfl, rfl⟩
    show Go pP l eE _ sS mM _ bB tT cC n0 _ h15 11 40 (mkF mM 294 #[.val (.int sz), .val (.int st), .val (.int cc), .val (.int (3 : Int32)), .val (.int (2 : Int32)), .val (.ref ah1), .val (.ref ah2), .val (.ref ah3), .val (.ref ah4), .val (.ref ah9), .val (.int (1 : Int32)), .unset, .unset] [(.int (if (2 : Int32) < (3 : Int32) then (1 : Int32) else (0 : Int32)))])
    refine go_eqI (y := (1 : Int32)) (by decide) ?_
    refine go_istore (q := 296) K at_294 #[.val (.int sz), .val (.int st), .val (.int cc), .val (.int (3 : Int32)), .val (.int (2 : Int32)), .val (.ref ah1), .val (.ref ah2), .val (.ref ah3), .val (.ref ah4), .val (.ref ah9), .val (.int (1 : Int32)), .val (.int (1 : Int32)), .unset] rfl rfl ?_
    refine go_aload (q := 298) K at_296 rfl rfl rfl ?_
    refine go_callV (q := 301) (W := 0) K (wd hw 98 rfl) (wd hw 99 rfl) (wd hw 101 rfl) (wd hw 100 rfl) (wd hw 56 rfl) (wd hw 102 rfl) (wd hw 101 rfl) rfl q0h15 [] [] (hasNext l Z a0 hw _ _ _ _ _ n0 q1h15 q2h15c f40 f41) at_298 (ps := []) (by decide +kernel) rfl rfl rfl (by decide) rfl (by decide) (by decide) (by decide) (by decide) rfl ?_
    rintro _ _ ⟨rfl, rfl⟩
    show Go pP l eE _ sS mM _ bB tT cC n0 _ h15 11 40 (mkF mM 301 #[.val (.int sz), .val (.int st), .val (.int cc), .val (.int (3 : Int32)), .val (.int (2 : Int32)), .val (.ref ah1), .val (.ref ah2), .val (.ref ah3), .val (.ref ah4), .val (.ref ah9), .val (.int (1 : Int32)), .val (.int (1 : Int32)), .unset] [(.int (if (2 : Int32) < (3 : Int32) then (1 : Int32) else (0 : Int32)))])
    refine go_eqI (y := (1 : Int32)) (by decide) ?_
    refine go_istore (q := 303) K at_301 #[.val (.int sz), .val (.int st), .val (.int cc), .val (.int (3 : Int32)), .val (.int (2 : Int32)), .val (.ref ah1), .val (.ref ah2), .val (.ref ah3), .val (.ref ah4), .val (.ref ah9), .val (.int (1 : Int32)), .val (.int (1 : Int32)), .val (.int (1 : Int32))] rfl rfl ?_
    refine go_iload (q := 305) K at_303 rfl rfl ?_
    refine go_iload (q := 307) K at_305 rfl rfl ?_
    refine go_iload (q := 309) K at_307 rfl rfl ?_
    refine go_iloadN (q := 310) K at_309 rfl rfl ?_
    refine go_icmp (q := 317) (q' := 313) K at_310 (by decide) rfl rfl (fun hn => cN_no hn (show (2 : Int32) < (3 : Int32) from (by decide))) (fun _ => ?_)
    refine go_iconst (q := 314) K at_313 (1 : Int32) rfl rfl ?_
    refine go_goto (q := 318) K at_314 (by decide) rfl ?_
    refine go_icmp (q := 325) (q' := 321) K at_318 (by decide) rfl rfl (fun hn => cN_no hn (show (1 : Int32) = (1 : Int32) from (by decide))) (fun _ => ?_)
    refine go_iconst (q := 322) K at_321 (1 : Int32) rfl rfl ?_
    refine go_goto (q := 326) K at_322 (by decide) rfl ?_
    refine go_iand (q := 327) K at_326 rfl ?_
    refine go_eqI (y := (1 : Int32)) (by decide) ?_
    refine go_iload (q := 329) K at_327 rfl rfl ?_
    refine go_iload (q := 331) K at_329 rfl rfl ?_
    refine go_icmp (q := 338) (q' := 334) K at_331 (by decide) rfl rfl (fun hn => cN_no hn (show (1 : Int32) = (1 : Int32) from (by decide))) (fun _ => ?_)
    refine go_iconst (q := 335) K at_334 (1 : Int32) rfl rfl ?_
    refine go_goto (q := 339) K at_335 (by decide) rfl ?_
    refine go_iand (q := 340) K at_339 rfl ?_
    refine go_eqI (y := (1 : Int32)) (by decide) ?_
    refine go_istore (q := 342) K at_340 #[.val (.int sz), .val (.int st), .val (.int cc), .val (.int (3 : Int32)), .val (.int (2 : Int32)), .val (.ref ah1), .val (.ref ah2), .val (.ref ah3), .val (.ref ah4), .val (.ref ah9), .val (.int (1 : Int32)), .val (.int (1 : Int32)), .val (.int (1 : Int32))] rfl rfl ?_
    refine go_iload (q := 344) K at_342 rfl rfl ?_
    refine go_iret K at_344 rfl (Or.inr (Or.inl rfl)) rfl (by decide) (by decide) ?_
    exact rfl
  · show Go pP l eE _ sS mM _ bB tT cC n0 _ h5 7 18 (mkF mM 61 #[.val (.int sz), .val (.int st), .val (.int cc), .val (.int (3 : Int32)), .val (.int (3 : Int32)), .val (.ref ah1), .val (.ref ah2), .val (.ref ah3), .val (.ref ah4), .unset, .unset, .unset, .unset] [])
    refine go_iloadN (q := 62) K at_61 rfl rfl ?_
    refine go_iconst (q := 63) K at_62 (1 : Int32) rfl rfl ?_
    refine go_icmp (q := 76) (q' := 66) K at_63 (by decide) rfl rfl (fun hn => cN_no hn (show ¬ (3 : Int32) < (1 : Int32) from (by decide))) (fun _ => ?_)
    refine go_aload (q := 68) K at_66 rfl rfl rfl ?_
    refine go_aload (q := 70) K at_68 rfl rfl rfl ?_
    have f11 := (f10.keep Kh5 (allS (Nat.le_trans (own_ge f5) (Nat.le_of_eq gah4.symm)) all0))
    have f12 := ((f6.ext Eh4).keep Kh5)
    have f13 := ((f7.ext Eh4).keep Kh5 (ninS (own_nel (f7).lt (Nat.le_of_eq gah4.symm)) nin0))
    have f14 := ((f8.ext Eh4).keep Kh5)
    have f15 := ((f9.ext Eh4).keep Kh5 (ninS (own_nel (f9).lt (Nat.le_of_eq gah4.symm)) nin0))
    have f16 := ((q0h3.ext Eh4).keep Kh5)
    have f17 := ((q3h3.ext Eh4).keep Kh5 (ninS (own_nel (q3h3).lt (Nat.le_of_eq gah4.symm)) nin0))
    refine go_callF (q := 75) (W := 0) K (wd hw 116 rfl) (wd hw 117 rfl) (wd hw 119 rfl) (wd hw 120 rfl) (wd hw 32 rfl) (wd hw 123 rfl) (wd hw 118 rfl) (wd hw 121 rfl) (wd hw 122 rfl) (wd hw 112 rfl) q0h5 [(.ref ah1)] [] (add0 l Z a0 hw _ _ _ _ _ _ n0 f11 q0h5 q1h5 q2h5 q3h5 (Nat.le_trans (own_ge f5) (Nat.le_of_eq gah4.symm)) p3_ p4_ f12 ((own_nel (f6).lt (Nat.le_of_eq gah4.symm))).symm) at_70 (ps := [(.object "java/lang/Object")]) (by decide +kernel) rfl rfl rfl (by decide) rfl (by decide) (by decide) (by decide) (by decide) rfl ?_
    rintro _ h6 ⟨arh6, klh6, rfl, Kh6, garh6, q0h6, q1h6, q2h6, q3h6, q4h6, q5h6⟩
    show Go pP l eE _ sS mM _ bB tT cC n0 _ h6 8 28 (mkF mM 75 #[.val (.int sz), .val (.int st), .val (.int cc), .val (.int (3 : Int32)), .val (.int (3 : Int32)), .val (.ref ah1), .val (.ref ah2), .val (.ref ah3), .val (.ref ah4), .unset, .unset, .unset, .unset] [(.int (1 : Int32))])
    refine go_pop (q := 76) K at_75 rfl rfl ?_
    refine go_iloadN (q := 77) K at_76 rfl rfl ?_
    refine go_iconst (q := 78) K at_77 (2 : Int32) rfl rfl ?_
    refine go_icmp (q := 91) (q' := 81) K at_78 (by decide) rfl rfl (fun hn => cN_no hn (show ¬ (3 : Int32) < (2 : Int32) from (by decide))) (fun _ => ?_)
    refine go_aload (q := 83) K at_81 rfl rfl rfl ?_
    refine go_aload (q := 85) K at_83 rfl rfl rfl ?_
    have f18 := (f14.keep Kh6)
    refine go_callF (q := 90) (W := 0) K (wd hw 116 rfl) (wd hw 117 rfl) (wd hw 119 rfl) (wd hw 120 rfl) (wd hw 32 rfl) (wd hw 123 rfl) (wd hw 118 rfl) (wd hw 121 rfl) (wd hw 122 rfl) (wd hw 112 rfl) q0h6 [(.ref ah2)] [] (add1 l Z a0 hw _ _ _ _ _ _ _ n0 q0h6 q1h6 q2h6 q3h6 (Nat.le_trans (own_ge f5) (Nat.le_of_eq gah4.symm)) (Nat.le_trans (own_ge f11) garh6) (own_nel (q0h5).lt garh6) q4h6 q5h6 f18) at_85 (ps := [(.object "java/lang/Object")]) (by decide +kernel) rfl rfl rfl (by decide) rfl (by decide) (by decide) (by decide) (by decide) rfl ?_
    rintro _ h7 ⟨rfl, Kh7, q0h7, q1h7, q2h7, q3h7, q4h7⟩
    show Go pP l eE _ sS mM _ bB tT cC n0 _ h7 8 28 (mkF mM 90 #[.val (.int sz), .val (.int st), .val (.int cc), .val (.int (3 : Int32)), .val (.int (3 : Int32)), .val (.ref ah1), .val (.ref ah2), .val (.ref ah3), .val (.ref ah4), .unset, .unset, .unset, .unset] [(.int (1 : Int32))])
    refine go_pop (q := 91) K at_90 rfl rfl ?_
    refine go_iloadN (q := 92) K at_91 rfl rfl ?_
    refine go_iconst (q := 93) K at_92 (3 : Int32) rfl rfl ?_
    refine go_icmp (q := 106) (q' := 96) K at_93 (by decide) rfl rfl (fun hn => cN_no hn (show ¬ (3 : Int32) < (3 : Int32) from (by decide))) (fun _ => ?_)
    refine go_aload (q := 98) K at_96 rfl rfl rfl ?_
    refine go_aload (q := 100) K at_98 rfl rfl rfl ?_
    have f19 := ((f16.keep Kh6).keep Kh7)
    refine go_callF (q := 105) (W := 0) K (wd hw 116 rfl) (wd hw 117 rfl) (wd hw 119 rfl) (wd hw 120 rfl) (wd hw 32 rfl) (wd hw 123 rfl) (wd hw 118 rfl) (wd hw 121 rfl) (wd hw 122 rfl) (wd hw 112 rfl) q0h7 [(.ref ah3)] [] (add2 l Z a0 hw _ _ _ _ _ _ _ _ n0 q0h7 q1h7 q2h7 q3h7 (Nat.le_trans (own_ge f5) (Nat.le_of_eq gah4.symm)) (Nat.le_trans (own_ge f11) garh6) (own_nel (q0h5).lt garh6) q4h7 q5h6 f19) at_100 (ps := [(.object "java/lang/Object")]) (by decide +kernel) rfl rfl rfl (by decide) rfl (by decide) (by decide) (by decide) (by decide) rfl ?_
    rintro _ h8 ⟨rfl, Kh8, q0h8, q1h8, q2h8, q3h8, q4h8⟩
    show Go pP l eE _ sS mM _ bB tT cC n0 _ h8 8 28 (mkF mM 105 #[.val (.int sz), .val (.int st), .val (.int cc), .val (.int (3 : Int32)), .val (.int (3 : Int32)), .val (.ref ah1), .val (.ref ah2), .val (.ref ah3), .val (.ref ah4), .unset, .unset, .unset, .unset] [(.int (1 : Int32))])
    refine go_pop (q := 106) K at_105 rfl rfl ?_
    have f20 := (((f11.keep Kh6 (allS (Nat.le_trans (own_ge f5) (Nat.le_of_eq gah4.symm)) all0)).keep Kh7 (allS (Nat.le_trans (own_ge f5) (Nat.le_of_eq gah4.symm)) (allS (Nat.le_trans (own_ge f11) garh6) all0))).keep Kh8 (allS (Nat.le_trans (own_ge f5) (Nat.le_of_eq gah4.symm)) (allS (Nat.le_trans (own_ge f11) garh6) all0)))
    have f21 := (((f12.keep Kh6).keep Kh7).keep Kh8)
    have f22 := (((f13.keep Kh6 (ninS (own_nel (f7).lt (Nat.le_of_eq gah4.symm)) nin0)).keep Kh7 (ninS (own_nel (f7).lt (Nat.le_of_eq gah4.symm)) (ninS (own_nel (f13).lt garh6) nin0))).keep Kh8 (ninS (own_nel (f7).lt (Nat.le_of_eq gah4.symm)) (ninS (own_nel (f13).lt garh6) nin0)))
    have f23 := ((f18.keep Kh7).keep Kh8)
    have f24 := (((f15.keep Kh6 (ninS (own_nel (f9).lt (Nat.le_of_eq gah4.symm)) nin0)).keep Kh7 (ninS (own_nel (f9).lt (Nat.le_of_eq gah4.symm)) (ninS (own_nel (f15).lt garh6) nin0))).keep Kh8 (ninS (own_nel (f9).lt (Nat.le_of_eq gah4.symm)) (ninS (own_nel (f15).lt garh6) nin0)))
    have f25 := (f19.keep Kh8)
    have f26 := (((f17.keep Kh6 (ninS (own_nel (q3h3).lt (Nat.le_of_eq gah4.symm)) nin0)).keep Kh7 (ninS (own_nel (q3h3).lt (Nat.le_of_eq gah4.symm)) (ninS (own_nel (f17).lt garh6) nin0))).keep Kh8 (ninS (own_nel (q3h3).lt (Nat.le_of_eq gah4.symm)) (ninS (own_nel (f17).lt garh6) nin0)))
    refine go_new (q := 109) (sz := 3) K (wd hw 54 rfl) (wd hw 55 rfl) (wd hw 56 rfl) at_106 (by decide) (by decide) rfl ?_
    intro h9 ah9 gah9 Eh9 Xah9 Dah9
    refine go_dup (q := 110) K at_109 rfl rfl ?_
    refine go_aload (q := 112) K at_110 rfl rfl rfl ?_
    have f27 := (f20.ext Eh9)
    refine go_callI (q := 115) (W := 1) K (wd hw 57 rfl) (wd hw 58 rfl) (wd hw 56 rfl) (wd hw 59 rfl) rfl [(.ref ah4)] [(.ref ah9)] (arInit l Z a0 hw _ _ _ n0 f27 Xah9 (Dah9 (Or.inr (wd hw 95 rfl)) (ty := (.object "java/util/Set")) (by decide +kernel)) (Dah9 (Or.inr (wd hw 97 rfl)) (ty := (.object "java/util/List")) (by decide +kernel)) (Dah9 (Or.inl (wd hw 104 rfl)) (ty := .int) (by decide +kernel)) (Nat.le_trans (own_ge f20) (Nat.le_of_eq gah9.symm))) at_112 (ps := [(.object "java/util/List")]) (by decide +kernel) rfl rfl rfl (by decide) rfl (by decide) (by decide) (by decide) (by decide) rfl ?_
    rintro _ h10 ⟨rfl, Kh10, q0h10, q1h10, q2h10⟩
    show Go pP l eE _ sS mM _ bB tT cC n0 _ h10 11 40 (mkF mM 115 #[.val (.int sz), .val (.int st), .val (.int cc), .val (.int (3 : Int32)), .val (.int (3 : Int32)), .val (.ref ah1), .val (.ref ah2), .val (.ref ah3), .val (.ref ah4), .unset, .unset, .unset, .unset] [(.ref ah9)])
    refine go_astore (q := 117) K at_115 #[.val (.int sz), .val (.int st), .val (.int cc), .val (.int (3 : Int32)), .val (.int (3 : Int32)), .val (.ref ah1), .val (.ref ah2), .val (.ref ah3), .val (.ref ah4), .val (.ref ah9), .unset, .unset, .unset] rfl rfl rfl ?_
    refine go_aload (q := 119) K at_117 rfl rfl rfl ?_
    have f28 := ((q0h8.ext Eh9).keep Kh10)
    have f29 := ((q3h8.ext Eh9).keep Kh10 (ninS (own_nel (q0h8).lt (Nat.le_of_eq gah9.symm)) nin0))
    refine go_callV (q := 122) (W := 0) K (wd hw 98 rfl) (wd hw 99 rfl) (wd hw 101 rfl) (wd hw 100 rfl) (wd hw 56 rfl) (wd hw 102 rfl) (wd hw 101 rfl) rfl q0h10 [] [] (hasNext l Z a0 hw _ _ _ _ _ n0 q1h10 q2h10 f28 f29) at_119 (ps := []) (by decide +kernel) rfl rfl rfl (by decide) rfl (by decide) (by decide) (by decide) (by decide) rfl ?_
    rintro _ _ ⟨rfl, rfl⟩
    show Go pP l eE _ sS mM _ bB tT cC n0 _ h10 11 40 (mkF mM 122 #[.val (.int sz), .val (.int st), .val (.int cc), .val (.int (3 : Int32)), .val (.int (3 : Int32)), .val (.ref ah1), .val (.ref ah2), .val (.ref ah3), .val (.ref ah4), .val (.ref ah9), .unset, .unset, .unset] [(.int (if (0 : Int32) < (3 : Int32) then (1 : Int32) else (0 : Int32)))])
    refine go_eqI (y := (1 : Int32)) (by decide) ?_
    refine go_iconst (q := 123) K at_122 (0 : Int32) rfl rfl ?_
    refine go_iloadN (q := 124) K at_123 rfl rfl ?_
    refine go_icmp (q := 131) (q' := 127) K at_124 (by decide) rfl rfl (fun hn => cN_no hn (show (0 : Int32) < (3 : Int32) from (by decide))) (fun _ => ?_)
    refine go_iconst (q := 128) K at_127 (1 : Int32) rfl rfl ?_
    refine go_goto (q := 132) K at_128 (by decide) rfl ?_
    refine go_icmp (q := 139) (q' := 135) K at_132 (by decide) rfl rfl (fun hn => cN_no hn (show (1 : Int32) = (1 : Int32) from (by decide))) (fun _ => ?_)
    refine go_iconst (q := 136) K at_135 (1 : Int32) rfl rfl ?_
    refine go_goto (q := 140) K at_136 (by decide) rfl ?_
    refine go_istore (q := 142) K at_140 #[.val (.int sz), .val (.int st), .val (.int cc), .val (.int (3 : Int32)), .val (.int (3 : Int32)), .val (.ref ah1), .val (.ref ah2), .val (.ref ah3), .val (.ref ah4), .val (.ref ah9), .val (.int (1 : Int32)), .unset, .unset] rfl rfl ?_
    refine go_iload (q := 144) K at_142 rfl rfl ?_
    refine go_iconst (q := 145) K at_144 (1 : Int32) rfl rfl ?_
    refine go_icmp (q := 191) (q' := 148) K at_145 (by decide) rfl rfl (fun hn => cN_no hn (show ¬ (3 : Int32) < (1 : Int32) from (by decide))) (fun _ => ?_)
    refine go_iload (q := 150) K at_148 rfl rfl ?_
    refine go_aload (q := 152) K at_150 rfl rfl rfl ?_
    have f30 := ((q2h8.ext Eh9).keep Kh10 (ninS (own_nel (q0h8).lt (Nat.le_of_eq gah9.symm)) nin0))
    have f31 := ((q4h8.ext Eh9).keep Kh10 (ninS (own_nel (q4h8).lt (Nat.le_of_eq gah9.symm)) nin0))
    have f32 := ((f21.ext Eh9).keep Kh10)
    refine go_callV (q := 155) (W := 1) K (wd hw 147 rfl) (wd hw 148 rfl) (wd hw 150 rfl) (wd hw 149 rfl) (wd hw 56 rfl) (wd hw 151 rfl) (wd hw 101 rfl) rfl q0h10 [] [(.int (1 : Int32))] (next l Z a0 hw _ _ _ _ _ _ _ _ _ n0 q0h10 q1h10 q2h10 (Nat.le_trans (own_ge f20) (Nat.le_of_eq gah9.symm)) f28 f30 f31 f29 f32 ((own_nel (q0h8).lt (Nat.le_of_eq gah9.symm))).symm ((own_nel (q4h8).lt (Nat.le_of_eq gah9.symm))).symm (by decide) (by decide) rfl) at_152 (ps := []) (by decide +kernel) rfl rfl rfl (by decide) rfl (by decide) (by decide) (by decide) (by decide) rfl ?_
    rintro _ h12 ⟨rfl, Kh12, q0h12, q1h12, q2h12⟩
    show Go pP l eE _ sS mM _ bB tT cC n0 _ h12 11 40 (mkF mM 155 #[.val (.int sz), .val (.int st), .val (.int cc), .val (.int (3 : Int32)), .val (.int (3 : Int32)), .val (.ref ah1), .val (.ref ah2), .val (.ref ah3), .val (.ref ah4), .val (.ref ah9), .val (.int (1 : Int32)), .unset, .unset] [(.ref ah1), (.int (1 : Int32))])
    have q2h12c : Fld Z h12 ah9 "com/example/lexiflow/lexiflow/cli/Arguments" "next" "I" (.int (1 : Int32)) := q2h12
    refine go_aload (q := 157) K at_155 rfl rfl rfl ?_
    have f33 := (f32.keep Kh12)
    refine go_callV (q := 160) (W := 1) K (wd hw 174 rfl) (wd hw 175 rfl) (wd hw 177 rfl) (wd hw 176 rfl) (wd hw 6 rfl) (wd hw 178 rfl) (wd hw 177 rfl) rfl f33 [(.ref ah1)] [(.int (1 : Int32))] (eqSame l Z a0 hw _ _ n0 ) at_157 (ps := [(.object "java/lang/Object")]) (by decide +kernel) rfl rfl rfl (by decide) rfl (by decide) (by decide) (by decide) (by decide) rfl ?_
    rintro _ _ ⟨rfl, rfl⟩
    show Go pP l eE _ sS mM _ bB tT cC n0 _ h12 11 40 (mkF mM 160 #[.val (.int sz), .val (.int st), .val (.int cc), .val (.int (3 : Int32)), .val (.int (3 : Int32)), .val (.ref ah1), .val (.ref ah2), .val (.ref ah3), .val (.ref ah4), .val (.ref ah9), .val (.int (1 : Int32)), .unset, .unset] [(.int (1 : Int32)), (.int (1 : Int32))])
    refine go_iand (q := 161) K at_160 rfl ?_
    refine go_eqI (y := (1 : Int32)) (by decide) ?_
    refine go_istore (q := 163) K at_161 #[.val (.int sz), .val (.int st), .val (.int cc), .val (.int (3 : Int32)), .val (.int (3 : Int32)), .val (.ref ah1), .val (.ref ah2), .val (.ref ah3), .val (.ref ah4), .val (.ref ah9), .val (.int (1 : Int32)), .unset, .unset] rfl rfl ?_
    refine go_iload (q := 165) K at_163 rfl rfl ?_
    refine go_aload (q := 167) K at_165 rfl rfl rfl ?_
    have f34 := (f28.keep Kh12)
    have f35 := (f29.keep Kh12 (ninS (own_nel (q0h8).lt (Nat.le_of_eq gah9.symm)) nin0))
    refine go_callV (q := 170) (W := 1) K (wd hw 98 rfl) (wd hw 99 rfl) (wd hw 101 rfl) (wd hw 100 rfl) (wd hw 56 rfl) (wd hw 102 rfl) (wd hw 101 rfl) rfl q0h12 [] [(.int (1 : Int32))] (hasNext l Z a0 hw _ _ _ _ _ n0 q1h12 q2h12c f34 f35) at_167 (ps := []) (by decide +kernel) rfl rfl rfl (by decide) rfl (by decide) (by decide) (by decide) (by decide) rfl ?_
    rintro _ _ ⟨rfl, rfl⟩
    show Go pP l eE _ sS mM _ bB tT cC n0 _ h12 11 40 (mkF mM 170 #[.val (.int sz), .val (.int st), .val (.int cc), .val (.int (3 : Int32)), .val (.int (3 : Int32)), .val (.ref ah1), .val (.ref ah2), .val (.ref ah3), .val (.ref ah4), .val (.ref ah9), .val (.int (1 : Int32)), .unset, .unset] [(.int (if (1 : Int32) < (3 : Int32) then (1 : Int32) else (0 : Int32))), (.int (1 : Int32))])
    refine go_eqI (y := (1 : Int32)) (by decide) ?_
    refine go_iconst (q := 171) K at_170 (1 : Int32) rfl rfl ?_
    refine go_iloadN (q := 172) K at_171 rfl rfl ?_
    refine go_icmp (q := 179) (q' := 175) K at_172 (by decide) rfl rfl (fun hn => cN_no hn (show (1 : Int32) < (3 : Int32) from (by decide))) (fun _ => ?_)
    refine go_iconst (q := 176) K at_175 (1 : Int32) rfl rfl ?_
    refine go_goto (q := 180) K at_176 (by decide) rfl ?_
    refine go_icmp (q := 187) (q' := 183) K at_180 (by decide) rfl rfl (fun hn => cN_no hn (show (1 : Int32) = (1 : Int32) from (by decide))) (fun _ => ?_)
    refine go_iconst (q := 184) K at_183 (1 : Int32) rfl rfl ?_
    refine go_goto (q := 188) K at_184 (by decide) rfl ?_
    refine go_iand (q := 189) K at_188 rfl ?_
    refine go_eqI (y := (1 : Int32)) (by decide) ?_
    refine go_istore (q := 191) K at_189 #[.val (.int sz), .val (.int st), .val (.int cc), .val (.int (3 : Int32)), .val (.int (3 : Int32)), .val (.ref ah1), .val (.ref ah2), .val (.ref ah3), .val (.ref ah4), .val (.ref ah9), .val (.int (1 : Int32)), .unset, .unset] rfl rfl ?_
    refine go_iload (q := 193) K at_191 rfl rfl ?_
    refine go_iconst (q := 194) K at_193 (2 : Int32) rfl rfl ?_
    refine go_icmp (q := 240) (q' := 197) K at_194 (by decide) rfl rfl (fun hn => cN_no hn (show ¬ (3 : Int32) < (2 : Int32) from (by decide))) (fun _ => ?_)
    refine go_iload (q := 199) K at_197 rfl rfl ?_
    refine go_aload (q := 201) K at_199 rfl rfl rfl ?_
    have f36 := (f30.keep Kh12 (ninS (own_nel (q0h8).lt (Nat.le_of_eq gah9.symm)) nin0))
    have f37 := (f31.keep Kh12 (ninS (own_nel (q4h8).lt (Nat.le_of_eq gah9.symm)) nin0))
    have f38 := (((f23.ext Eh9).keep Kh10).keep Kh12)
    refine go_callV (q := 204) (W := 1) K (wd hw 147 rfl) (wd hw 148 rfl) (wd hw 150 rfl) (wd hw 149 rfl) (wd hw 56 rfl) (wd hw 151 rfl) (wd hw 101 rfl) rfl q0h12 [] [(.int (1 : Int32))] (next l Z a0 hw _ _ _ _ _ _ _ _ _ n0 q0h12 q1h12 q2h12c (Nat.le_trans (own_ge f20) (Nat.le_of_eq gah9.symm)) f34 f36 f37 f35 f38 ((own_nel (q0h8).lt (Nat.le_of_eq gah9.symm))).symm ((own_nel (q4h8).lt (Nat.le_of_eq gah9.symm))).symm (by decide) (by decide) rfl) at_201 (ps := []) (by decide +kernel) rfl rfl rfl (by decide) rfl (by decide) (by decide) (by decide) (by decide) rfl ?_
    rintro _ h15 ⟨rfl, Kh15, q0h15, q1h15, q2h15⟩
    show Go pP l eE _ sS mM _ bB tT cC n0 _ h15 11 40 (mkF mM 204 #[.val (.int sz), .val (.int st), .val (.int cc), .val (.int (3 : Int32)), .val (.int (3 : Int32)), .val (.ref ah1), .val (.ref ah2), .val (.ref ah3), .val (.ref ah4), .val (.ref ah9), .val (.int (1 : Int32)), .unset, .unset] [(.ref ah2), (.int (1 : Int32))])
    have q2h15c : Fld Z h15 ah9 "com/example/lexiflow/lexiflow/cli/Arguments" "next" "I" (.int (2 : Int32)) := q2h15
    refine go_aload (q := 206) K at_204 rfl rfl rfl ?_
    have f39 := (f38.keep Kh15)
    refine go_callV (q := 209) (W := 1) K (wd hw 174 rfl) (wd hw 175 rfl) (wd hw 177 rfl) (wd hw 176 rfl) (wd hw 6 rfl) (wd hw 178 rfl) (wd hw 177 rfl) rfl f39 [(.ref ah2)] [(.int (1 : Int32))] (eqSame l Z a0 hw _ _ n0 ) at_206 (ps := [(.object "java/lang/Object")]) (by decide +kernel) rfl rfl rfl (by decide) rfl (by decide) (by decide) (by decide) (by decide) rfl ?_
    rintro _ _ ⟨rfl, rfl⟩
    show Go pP l eE _ sS mM _ bB tT cC n0 _ h15 11 40 (mkF mM 209 #[.val (.int sz), .val (.int st), .val (.int cc), .val (.int (3 : Int32)), .val (.int (3 : Int32)), .val (.ref ah1), .val (.ref ah2), .val (.ref ah3), .val (.ref ah4), .val (.ref ah9), .val (.int (1 : Int32)), .unset, .unset] [(.int (1 : Int32)), (.int (1 : Int32))])
    refine go_iand (q := 210) K at_209 rfl ?_
    refine go_eqI (y := (1 : Int32)) (by decide) ?_
    refine go_istore (q := 212) K at_210 #[.val (.int sz), .val (.int st), .val (.int cc), .val (.int (3 : Int32)), .val (.int (3 : Int32)), .val (.ref ah1), .val (.ref ah2), .val (.ref ah3), .val (.ref ah4), .val (.ref ah9), .val (.int (1 : Int32)), .unset, .unset] rfl rfl ?_
    refine go_iload (q := 214) K at_212 rfl rfl ?_
    refine go_aload (q := 216) K at_214 rfl rfl rfl ?_
    have f40 := (f34.keep Kh15)
    have f41 := (f35.keep Kh15 (ninS (own_nel (q0h8).lt (Nat.le_of_eq gah9.symm)) nin0))
    refine go_callV (q := 219) (W := 1) K (wd hw 98 rfl) (wd hw 99 rfl) (wd hw 101 rfl) (wd hw 100 rfl) (wd hw 56 rfl) (wd hw 102 rfl) (wd hw 101 rfl) rfl q0h15 [] [(.int (1 : Int32))] (hasNext l Z a0 hw _ _ _ _ _ n0 q1h15 q2h15c f40 f41) at_216 (ps := []) (by decide +kernel) rfl rfl rfl (by decide) rfl (by decide) (by decide) (by decide) (by decide) rfl ?_
    rintro _ _ ⟨rfl, rfl⟩
    show Go pP l eE _ sS mM _ bB tT cC n0 _ h15 11 40 (mkF mM 219 #[.val (.int sz), .val (.int st), .val (.int cc), .val (.int (3 : Int32)), .val (.int (3 : Int32)), .val (.ref ah1), .val (.ref ah2), .val (.ref ah3), .val (.ref ah4), .val (.ref ah9), .val (.int (1 : Int32)), .unset, .unset] [(.int (if (2 : Int32) < (3 : Int32) then (1 : Int32) else (0 : Int32))), (.int (1 : Int32))])
    refine go_eqI (y := (1 : Int32)) (by decide) ?_
    refine go_iconst (q := 220) K at_219 (2 : Int32) rfl rfl ?_
    refine go_iloadN (q := 221) K at_220 rfl rfl ?_
    refine go_icmp (q := 228) (q' := 224) K at_221 (by decide) rfl rfl (fun hn => cN_no hn (show (2 : Int32) < (3 : Int32) from (by decide))) (fun _ => ?_)
    refine go_iconst (q := 225) K at_224 (1 : Int32) rfl rfl ?_
    refine go_goto (q := 229) K at_225 (by decide) rfl ?_
    refine go_icmp (q := 236) (q' := 232) K at_229 (by decide) rfl rfl (fun hn => cN_no hn (show (1 : Int32) = (1 : Int32) from (by decide))) (fun _ => ?_)
    refine go_iconst (q := 233) K at_232 (1 : Int32) rfl rfl ?_
    refine go_goto (q := 237) K at_233 (by decide) rfl ?_
    refine go_iand (q := 238) K at_237 rfl ?_
    refine go_eqI (y := (1 : Int32)) (by decide) ?_
    refine go_istore (q := 240) K at_238 #[.val (.int sz), .val (.int st), .val (.int cc), .val (.int (3 : Int32)), .val (.int (3 : Int32)), .val (.ref ah1), .val (.ref ah2), .val (.ref ah3), .val (.ref ah4), .val (.ref ah9), .val (.int (1 : Int32)), .unset, .unset] rfl rfl ?_
    refine go_iload (q := 242) K at_240 rfl rfl ?_
    refine go_iconst (q := 243) K at_242 (3 : Int32) rfl rfl ?_
    refine go_icmp (q := 289) (q' := 246) K at_243 (by decide) rfl rfl (fun hn => cN_no hn (show ¬ (3 : Int32) < (3 : Int32) from (by decide))) (fun _ => ?_)
    refine go_iload (q := 248) K at_246 rfl rfl ?_
    refine go_aload (q := 250) K at_248 rfl rfl rfl ?_
    have f42 := (f36.keep Kh15 (ninS (own_nel (q0h8).lt (Nat.le_of_eq gah9.symm)) nin0))
    have f43 := (f37.keep Kh15 (ninS (own_nel (q4h8).lt (Nat.le_of_eq gah9.symm)) nin0))
    have f44 := ((((f25.ext Eh9).keep Kh10).keep Kh12).keep Kh15)
    refine go_callV (q := 253) (W := 1) K (wd hw 147 rfl) (wd hw 148 rfl) (wd hw 150 rfl) (wd hw 149 rfl) (wd hw 56 rfl) (wd hw 151 rfl) (wd hw 101 rfl) rfl q0h15 [] [(.int (1 : Int32))] (next l Z a0 hw _ _ _ _ _ _ _ _ _ n0 q0h15 q1h15 q2h15c (Nat.le_trans (own_ge f20) (Nat.le_of_eq gah9.symm)) f40 f42 f43 f41 f44 ((own_nel (q0h8).lt (Nat.le_of_eq gah9.symm))).symm ((own_nel (q4h8).lt (Nat.le_of_eq gah9.symm))).symm (by decide) (by decide) rfl) at_250 (ps := []) (by decide +kernel) rfl rfl rfl (by decide) rfl (by decide) (by decide) (by decide) (by decide) rfl ?_
    rintro _ h18 ⟨rfl, Kh18, q0h18, q1h18, q2h18⟩
    show Go pP l eE _ sS mM _ bB tT cC n0 _ h18 11 40 (mkF mM 253 #[.val (.int sz), .val (.int st), .val (.int cc), .val (.int (3 : Int32)), .val (.int (3 : Int32)), .val (.ref ah1), .val (.ref ah2), .val (.ref ah3), .val (.ref ah4), .val (.ref ah9), .val (.int (1 : Int32)), .unset, .unset] [(.ref ah3), (.int (1 : Int32))])
    have q2h18c : Fld Z h18 ah9 "com/example/lexiflow/lexiflow/cli/Arguments" "next" "I" (.int (3 : Int32)) := q2h18
    refine go_aload (q := 255) K at_253 rfl rfl rfl ?_
    have f45 := (f44.keep Kh18)
    refine go_callV (q := 258) (W := 1) K (wd hw 174 rfl) (wd hw 175 rfl) (wd hw 177 rfl) (wd hw 176 rfl) (wd hw 6 rfl) (wd hw 178 rfl) (wd hw 177 rfl) rfl f45 [(.ref ah3)] [(.int (1 : Int32))] (eqSame l Z a0 hw _ _ n0 ) at_255 (ps := [(.object "java/lang/Object")]) (by decide +kernel) rfl rfl rfl (by decide) rfl (by decide) (by decide) (by decide) (by decide) rfl ?_
    rintro _ _ ⟨rfl, rfl⟩
    show Go pP l eE _ sS mM _ bB tT cC n0 _ h18 11 40 (mkF mM 258 #[.val (.int sz), .val (.int st), .val (.int cc), .val (.int (3 : Int32)), .val (.int (3 : Int32)), .val (.ref ah1), .val (.ref ah2), .val (.ref ah3), .val (.ref ah4), .val (.ref ah9), .val (.int (1 : Int32)), .unset, .unset] [(.int (1 : Int32)), (.int (1 : Int32))])
    refine go_iand (q := 259) K at_258 rfl ?_
    refine go_eqI (y := (1 : Int32)) (by decide) ?_
    refine go_istore (q := 261) K at_259 #[.val (.int sz), .val (.int st), .val (.int cc), .val (.int (3 : Int32)), .val (.int (3 : Int32)), .val (.ref ah1), .val (.ref ah2), .val (.ref ah3), .val (.ref ah4), .val (.ref ah9), .val (.int (1 : Int32)), .unset, .unset] rfl rfl ?_
    refine go_iload (q := 263) K at_261 rfl rfl ?_
    refine go_aload (q := 265) K at_263 rfl rfl rfl ?_
    have f46 := (f40.keep Kh18)
    have f47 := (f41.keep Kh18 (ninS (own_nel (q0h8).lt (Nat.le_of_eq gah9.symm)) nin0))
    refine go_callV (q := 268) (W := 1) K (wd hw 98 rfl) (wd hw 99 rfl) (wd hw 101 rfl) (wd hw 100 rfl) (wd hw 56 rfl) (wd hw 102 rfl) (wd hw 101 rfl) rfl q0h18 [] [(.int (1 : Int32))] (hasNext l Z a0 hw _ _ _ _ _ n0 q1h18 q2h18c f46 f47) at_265 (ps := []) (by decide +kernel) rfl rfl rfl (by decide) rfl (by decide) (by decide) (by decide) (by decide) rfl ?_
    rintro _ _ ⟨rfl, rfl⟩
    show Go pP l eE _ sS mM _ bB tT cC n0 _ h18 11 40 (mkF mM 268 #[.val (.int sz), .val (.int st), .val (.int cc), .val (.int (3 : Int32)), .val (.int (3 : Int32)), .val (.ref ah1), .val (.ref ah2), .val (.ref ah3), .val (.ref ah4), .val (.ref ah9), .val (.int (1 : Int32)), .unset, .unset] [(.int (if (3 : Int32) < (3 : Int32) then (1 : Int32) else (0 : Int32))), (.int (1 : Int32))])
    refine go_eqI (y := (0 : Int32)) (by decide) ?_
    refine go_iconst (q := 269) K at_268 (3 : Int32) rfl rfl ?_
    refine go_iloadN (q := 270) K at_269 rfl rfl ?_
    refine go_icmp (q := 277) (q' := 273) K at_270 (by decide) rfl rfl (fun _ => ?_) (fun hn => cN_no2 hn (show ¬ (3 : Int32) < (3 : Int32) from (by decide)))
    refine go_iconst (q := 278) K at_277 (0 : Int32) rfl rfl ?_
    refine go_icmp (q := 285) (q' := 281) K at_278 (by decide) rfl rfl (fun hn => cN_no hn (show (0 : Int32) = (0 : Int32) from (by decide))) (fun _ => ?_)
    refine go_iconst (q := 282) K at_281 (1 : Int32) rfl rfl ?_
    refine go_goto (q := 286) K at_282 (by decide) rfl ?_
    refine go_iand (q := 287) K at_286 rfl ?_
    refine go_eqI (y := (1 : Int32)) (by decide) ?_
    refine go_istore (q := 289) K at_287 #[.val (.int sz), .val (.int st), .val (.int cc), .val (.int (3 : Int32)), .val (.int (3 : Int32)), .val (.ref ah1), .val (.ref ah2), .val (.ref ah3), .val (.ref ah4), .val (.ref ah9), .val (.int (1 : Int32)), .unset, .unset] rfl rfl ?_
    refine go_aload (q := 291) K at_289 rfl rfl rfl ?_
    refine go_callV (q := 294) (W := 0) K (wd hw 98 rfl) (wd hw 99 rfl) (wd hw 101 rfl) (wd hw 100 rfl) (wd hw 56 rfl) (wd hw 102 rfl) (wd hw 101 rfl) rfl q0h18 [] [] (hasNext l Z a0 hw _ _ _ _ _ n0 q1h18 q2h18c f46 f47) at_291 (ps := []) (by decide +kernel) rfl rfl rfl (by decide) rfl (by decide) (by decide) (by decide) (by decide) rfl ?_
    rintro _ _ ⟨rfl, rfl⟩
    show Go pP l eE _ sS mM _ bB tT cC n0 _ h18 11 40 (mkF mM 294 #[.val (.int sz), .val (.int st), .val (.int cc), .val (.int (3 : Int32)), .val (.int (3 : Int32)), .val (.ref ah1), .val (.ref ah2), .val (.ref ah3), .val (.ref ah4), .val (.ref ah9), .val (.int (1 : Int32)), .unset, .unset] [(.int (if (3 : Int32) < (3 : Int32) then (1 : Int32) else (0 : Int32)))])
    refine go_eqI (y := (0 : Int32)) (by decide) ?_
    refine go_istore (q := 296) K at_294 #[.val (.int sz), .val (.int st), .val (.int cc), .val (.int (3 : Int32)), .val (.int (3 : Int32)), .val (.ref ah1), .val (.ref ah2), .val (.ref ah3), .val (.ref ah4), .val (.ref ah9), .val (.int (1 : Int32)), .val (.int (0 : Int32)), .unset] rfl rfl ?_
    refine go_aload (q := 298) K at_296 rfl rfl rfl ?_
    refine go_callV (q := 301) (W := 0) K (wd hw 98 rfl) (wd hw 99 rfl) (wd hw 101 rfl) (wd hw 100 rfl) (wd hw 56 rfl) (wd hw 102 rfl) (wd hw 101 rfl) rfl q0h18 [] [] (hasNext l Z a0 hw _ _ _ _ _ n0 q1h18 q2h18c f46 f47) at_298 (ps := []) (by decide +kernel) rfl rfl rfl (by decide) rfl (by decide) (by decide) (by decide) (by decide) rfl ?_
    rintro _ _ ⟨rfl, rfl⟩
    show Go pP l eE _ sS mM _ bB tT cC n0 _ h18 11 40 (mkF mM 301 #[.val (.int sz), .val (.int st), .val (.int cc), .val (.int (3 : Int32)), .val (.int (3 : Int32)), .val (.ref ah1), .val (.ref ah2), .val (.ref ah3), .val (.ref ah4), .val (.ref ah9), .val (.int (1 : Int32)), .val (.int (0 : Int32)), .unset] [(.int (if (3 : Int32) < (3 : Int32) then (1 : Int32) else (0 : Int32)))])
    refine go_eqI (y := (0 : Int32)) (by decide) ?_
    refine go_istore (q := 303) K at_301 #[.val (.int sz), .val (.int st), .val (.int cc), .val (.int (3 : Int32)), .val (.int (3 : Int32)), .val (.ref ah1), .val (.ref ah2), .val (.ref ah3), .val (.ref ah4), .val (.ref ah9), .val (.int (1 : Int32)), .val (.int (0 : Int32)), .val (.int (0 : Int32))] rfl rfl ?_
    refine go_iload (q := 305) K at_303 rfl rfl ?_
    refine go_iload (q := 307) K at_305 rfl rfl ?_
    refine go_iload (q := 309) K at_307 rfl rfl ?_
    refine go_iloadN (q := 310) K at_309 rfl rfl ?_
    refine go_icmp (q := 317) (q' := 313) K at_310 (by decide) rfl rfl (fun _ => ?_) (fun hn => cN_no2 hn (show ¬ (3 : Int32) < (3 : Int32) from (by decide)))
    refine go_iconst (q := 318) K at_317 (0 : Int32) rfl rfl ?_
    refine go_icmp (q := 325) (q' := 321) K at_318 (by decide) rfl rfl (fun hn => cN_no hn (show (0 : Int32) = (0 : Int32) from (by decide))) (fun _ => ?_)
    refine go_iconst (q := 322) K at_321 (1 : Int32) rfl rfl ?_
    refine go_goto (q := 326) K at_322 (by decide) rfl ?_
    refine go_iand (q := 327) K at_326 rfl ?_
    refine go_eqI (y := (1 : Int32)) (by decide) ?_
    refine go_iload (q := 329) K at_327 rfl rfl ?_
    refine go_iload (q := 331) K at_329 rfl rfl ?_
    refine go_icmp (q := 338) (q' := 334) K at_331 (by decide) rfl rfl (fun hn => cN_no hn (show (0 : Int32) = (0 : Int32) from (by decide))) (fun _ => ?_)
    refine go_iconst (q := 335) K at_334 (1 : Int32) rfl rfl ?_
    refine go_goto (q := 339) K at_335 (by decide) rfl ?_
    refine go_iand (q := 340) K at_339 rfl ?_
    refine go_eqI (y := (1 : Int32)) (by decide) ?_
    refine go_istore (q := 342) K at_340 #[.val (.int sz), .val (.int st), .val (.int cc), .val (.int (3 : Int32)), .val (.int (3 : Int32)), .val (.ref ah1), .val (.ref ah2), .val (.ref ah3), .val (.ref ah4), .val (.ref ah9), .val (.int (1 : Int32)), .val (.int (0 : Int32)), .val (.int (0 : Int32))] rfl rfl ?_
    refine go_iload (q := 344) K at_342 rfl rfl ?_
    refine go_iret K at_344 rfl (Or.inr (Or.inl rfl)) rfl (by decide) (by decide) ?_
    exact rfl
set_option maxRecDepth 65536 in
set_option maxHeartbeats 40000000 in
theorem comes_1 {Post : Tables → Env → Array Value → State → Outcome → State → Prop} (hpost : ∀ tb e args s v u, (limb_1_1.after args s (.returned v) u = true ∧ limb_1_2.after args s (.returned v) u = true ∧ True) → FrameEnd s (.returned v) u (Jvm.fieldLocs frame_1_writes args s ++ Jvm.arrayLocs frame_1_arrays args s ++ Jvm.staticLocs frame_1_statics s) 32 192 → Post tb e args s (.returned v) u) :
    ArmFor flags0 classFile x code maxLocals ret World_1 tables_1 room_1 Calls_1 rest_1 Pre_1 Post := by
  intro l hfl _ _ p e ha hc hk s m args below hf hA hF happ hP
  obtain ⟨hcalls, hrest, hpre⟩ := hP
  obtain ⟨-, -, -, hnamed, -, -, -, hat⟩ := (Spec.applies_iff hf).mp happ
  obtain ⟨hg, hn⟩ := and_e (Cond.before_iff.mp (show (Jvm.Cond.and given_1 narrow_1).before args s = true from hpre))
  obtain ⟨hcnt, hg0⟩ := and_e hg
  obtain ⟨ha0, hg1⟩ := and_e hg0
  obtain ⟨ha1, hg2⟩ := and_e hg1
  have ha2 := hg2
  obtain ⟨w0, w1, w2, rfl⟩ : ∃ w0 w1 w2 : Value, args = #[w0, w1, w2] := by
    have hs : args.size = 3 := by simpa [Cond.value, given_1] using hcnt
    obtain ⟨L⟩ := args
    match L, hs with
    | [w0, w1, w2], _ => exact ⟨w0, w1, w2, rfl⟩
  have hw := fun d (hd : d ∈ tables_1) => atoms_spec (ws := Jvm.Cond.code x code maxLocals ret :: tables_1) hat d (List.mem_cons_of_mem _ hd)
  have hfit : Fit s := fun {y c} hc i hi => by
    obtain ⟨ha, rfl⟩ := Array.getElem?_eq_some_iff.mp hc
    have q := List.all_eq_true.mp ((Array.all_eq_true_iff_forall_mem.mp hF) _ (Array.getElem_mem ha)) i (List.mem_range.mpr hi)
    simpa [Array.getElem?_eq_getElem hi] using q
  obtain ⟨i0, ea0⟩ := is_v ha0
  obtain rfl : w0 = (.int i0) := Option.some.inj ea0
  obtain ⟨i1, ea1⟩ := is_v ha1
  obtain rfl : w1 = (.int i1) := Option.some.inj ea1
  obtain ⟨i2, ea2⟩ := is_v ha2
  obtain rfl : w2 = (.int i2) := Option.some.inj ea2
  obtain ⟨hsets, hown0⟩ := atoms_of _ (rest_1_c_eq ▸ (show rest_1_c.before _ s = true from hrest))
  obtain ⟨cs, ecs⟩ := is_v (Cond.before_iff.mp (hsets _ (List.mem_of_getElem? (i := 1) rfl)))
  have Scs : Sta s s.heap "java/lang/String" "COMPACT_STRINGS" "Z" (.int cs) := Sta.start ecs (Or.inl (hsets _ (List.mem_of_getElem? (i := 0) rfl)))
  have hcs : ¬ (cs = (0 : Int32)) := gotF (Cond.eq_ints ecs (Term.int_eval (0))) (not_v (Cond.before_iff.mp (hsets _ (List.mem_of_getElem? (i := 2) rfl))))
  obtain ⟨D, eD⟩ := exa_v (Cond.before_iff.mp (hsets _ (List.mem_of_getElem? (i := 16) rfl)))
  have SD : Sta s s.heap "java/util/ArrayList" "DEFAULTCAPACITY_EMPTY_ELEMENTDATA" "[Ljava/lang/Object;" (.ref D) := Sta.start eD (Or.inr ⟨(wd hw 32 rfl), (hsets _ (List.mem_of_getElem? (i := 11) rfl))⟩)
  obtain ⟨kD, YD⟩ := ary_start eD (Cond.before_iff.mp (hsets _ (List.mem_of_getElem? (i := 15) rfl))) (Cond.before_iff.mp (hsets _ (List.mem_of_getElem? (i := 17) rfl)))
  obtain ⟨n, o, h1, h2, h3, _, L, rfl, ⟨rfl, N⟩, hq⟩ := law_met l s _ hw i0 i1 i2 cs D kD s.heap s.heap.size (Old.start s) Scs hcs SD YD p e ha hc hk s m _ below hf ((Spec.applies_iff_loose hf).mp happ).1 ⟨rfl, State.Warmed39.refl s, rfl⟩ trivial
  refine ⟨n, _, h1, h2, h3, hpost _ _ _ _ _ _ ⟨Cond.after_iff.mpr rfl, Cond.after_iff.mpr (eq_i res_at (Term.int_eval (1)) rfl), trivial⟩ ⟨hq.1, hq.2.1, (hq.2.2.sift fun y hy => Or.inr (N y hy)).mono (by decide) (by decide)⟩⟩
theorem main_1_1 : Claimed_1_1 := comes_1 fun _ _ _ _ _ _ h hF => ⟨h.1, hF⟩
theorem main_1_2 : Claimed_1_2 := comes_1 fun _ _ _ _ _ _ h hF => ⟨h.2.1, hF⟩
end Jvm.Pilot.@@N@@
namespace Jvm.Pilot.@@N@@
open Jvm Jvm.ClassFile Sem Op Lib Jvm.Free Jvm.Stand Jvm.Pilot.@@N@@.Jvm.D
/-! MADE BY PROGRAM (witnessworld.py) out of the Statement's table words and the real class files: 34 classes; the members and pool entries that the words name. The judged class is class 1, her method 1. -/
namespace start1
open Jvm.ClassFile
def u (s : String) : CpInfo := .utf8 (stringToUtf16 s)
/-- a pool by its gaps: so many unusable entries, then the entry; so many at the end -/
def gap : Nat → List CpInfo → List CpInfo
  | 0, r => r
  | n + 1, r => .unusable :: gap n r
def poolList (es : List (Nat × CpInfo)) (last : Nat) : List CpInfo := es.foldr (fun e r => gap e.1 (e.2 :: r)) (gap last [])
def pool (es : List (Nat × CpInfo)) (last : Nat) : Array CpInfo := ⟨poolList es last⟩
def fileOf (pool : Array CpInfo) (this : Nat) (attrs : Array Attribute := #[]) (ms : Array MethodInfo := #[]) (fl : Nat := 33) (sup : Nat := 0) (ifs : Array Nat := #[]) (fds : Array FieldInfo := #[]) : ClassFile where
  minorVersion := 0
  majorVersion := 65
  constantPool := pool
  accessFlags := fl
  thisClass := this
  superClass := sup
  interfaces := ifs
  fields := fds
  methods := ms
  attributes := attrs
def plain (name : String) (sup : Option ClassId) : Class where
  name := name
  kind := .ordinary
  loader := none
  accessFlags := 33
  super := sup
  interfaces := #[]
  cf := none
  fields := #[]
  methods := #[]
  instanceTypes := #[]
  staticTypes := #[]
  resolved := #[]
  callSites := []
  init := .initialized
  statics := none
  mirror := none

def pool0 : Array CpInfo := pool [(5, u "<init>"), (0, u "()V"), (1, .class_ 10), (1, u "java/lang/Object")] 113

def k0c0 : Code := { maxStack := 0, maxLocals := 1, code := object_method_1_code, exceptionTable := #[], attributes := #[] }
def k0m0 : Method := { name := "<init>", desc := "()V", sig := { parameters := [], returnType := none }, accessFlags := 1, code := some k0c0 }
/-- java/lang/Object -/
def k0 : Class := { plain "java/lang/Object" none with
  accessFlags := 33
  interfaces := #[]
  cf := some (fileOf pool0 8 #[] #[{ accessFlags := 1, nameIndex := 5, descriptorIndex := 6, attributes := #[] }] 33 0 #[] #[])
  fields := #[]
  methods := #[k0m0]
  instanceTypes := #[]
  staticTypes := #[]
  resolved := Array.replicate 124 none
  statics := none }

def pool1 : Array CpInfo := pool [(2, .class_ 4), (0, .nameAndType 5 6), (0, u "java/lang/Object"), (0, u "<init>"), (0, u "()V"), (0, .methodref 8 9), (0, .class_ 10), (0, .nameAndType 11 12), (0, u "java/lang/Math"), (0, u "min"), (0, u "(II)I"), (0, .methodref 14 15), (0, .class_ 16), (0, .nameAndType 17 18), (0, u "java/lang/String"), (0, u "valueOf"), (0, u "(C)Ljava/lang/String;"), (0, .class_ 20), (0, u "java/util/ArrayList"), (0, .methodref 19 3), (0, .interfaceMethodref 23 24), (0, .class_ 25), (0, .nameAndType 26 27), (0, u "java/util/List"), (0, u "add"), (0, u "(Ljava/lang/Object;)Z"), (0, .class_ 29), (0, u "com/example/lexiflow/lexiflow/cli/Arguments"), (0, .methodref 28 31), (0, .nameAndType 5 32), (0, u "(Ljava/util/List;)V"), (0, .methodref 28 34), (0, .nameAndType 35 36), (0, u "hasNext"), (0, u "()Z"), (0, .methodref 28 38), (0, .nameAndType 39 40), (0, u "next"), (0, u "()Ljava/lang/String;"), (0, .methodref 14 42), (0, .nameAndType 43 27), (0, u "equals"), (0, .class_ 45), (0, u "com/example/lexiflow/lexiflow/cli/ArgumentsHasNextPinLaw"), (2, u "law"), (0, u "(III)Z")] 3

def k1m0 : Method := { name := "<init>", desc := "()V", sig := { parameters := [], returnType := none }, accessFlags := 1, code := none }
def k1c1 : Code := { maxStack := 4, maxLocals := 13, code := code, exceptionTable := #[], attributes := #[] }
def k1m1 : Method := { name := "law", desc := "(III)Z", sig := { parameters := [.int, .int, .int], returnType := some .boolean }, accessFlags := 9, code := some k1c1 }
/-- com/example/lexiflow/lexiflow/cli/ArgumentsHasNextPinLaw -/
def k1 : Class := { plain "com/example/lexiflow/lexiflow/cli/ArgumentsHasNextPinLaw" (some 0) with
  accessFlags := 49
  interfaces := #[]
  cf := some (fileOf pool1 44 #[] #[{ accessFlags := 1, nameIndex := 5, descriptorIndex := 6, attributes := #[] }, { accessFlags := 9, nameIndex := 48, descriptorIndex := 49, attributes := #[] }] 49 2 #[] #[])
  fields := #[]
  methods := #[k1m0, k1m1]
  instanceTypes := #[]
  staticTypes := #[]
  resolved := Array.replicate 53 none
  statics := none }

def pool2 : Array CpInfo := pool [(1, .class_ 2), (0, u "java/lang/Math"), (1, .class_ 6), (1, u "java/lang/Object"), (0, u "<init>"), (0, u "()V"), (89, .class_ 100), (1, u "java/lang/Math$RandomNumberGeneratorHolder"), (71, u "negativeZeroFloatBits"), (0, u "J"), (2, u "negativeZeroDoubleBits"), (21, u "max"), (2, u "min"), (43, u "$assertionsDisabled"), (0, u "Z"), (88, u "(II)I"), (2, u "twoToTheDoubleScaleDown"), (0, u "D"), (4, u "twoToTheDoubleScaleUp"), (9, u "E"), (3, u "PI"), (2, u "TAU"), (2, u "DEGREES_TO_RADIANS"), (0, u "RADIANS_TO_DEGREES")] 94

def k2m0 : Method := { name := "<init>", desc := "()V", sig := { parameters := [], returnType := none }, accessFlags := 2, code := none }
def k2c1 : Code := { maxStack := 2, maxLocals := 2, code := jdk_29_method_65_code, exceptionTable := #[], attributes := #[] }
def k2m1 : Method := { name := "max", desc := "(II)I", sig := { parameters := [.int, .int], returnType := some .int }, accessFlags := 9, code := some k2c1 }
def k2c2 : Code := { maxStack := 2, maxLocals := 2, code := jdk_29_method_69_code, exceptionTable := #[], attributes := #[] }
def k2m2 : Method := { name := "min", desc := "(II)I", sig := { parameters := [.int, .int], returnType := some .int }, accessFlags := 9, code := some k2c2 }
/-- java/lang/Math -/
def k2 : Class := { plain "java/lang/Math" (some 0) with
  accessFlags := 49
  interfaces := #[]
  cf := some (fileOf pool2 1 #[.nestMembers #[98]] #[{ accessFlags := 2, nameIndex := 7, descriptorIndex := 8, attributes := #[] }, { accessFlags := 9, nameIndex := 198, descriptorIndex := 335, attributes := #[] }, { accessFlags := 9, nameIndex := 201, descriptorIndex := 335, attributes := #[] }] 49 4 #[] #[{ accessFlags := 25, nameIndex := 354, descriptorIndex := 339, attributes := #[] }, { accessFlags := 25, nameIndex := 358, descriptorIndex := 339, attributes := #[] }, { accessFlags := 25, nameIndex := 361, descriptorIndex := 339, attributes := #[] }, { accessFlags := 26, nameIndex := 364, descriptorIndex := 339, attributes := #[] }, { accessFlags := 26, nameIndex := 365, descriptorIndex := 339, attributes := #[] }, { accessFlags := 26, nameIndex := 172, descriptorIndex := 173, attributes := #[] }, { accessFlags := 26, nameIndex := 176, descriptorIndex := 173, attributes := #[] }, { accessFlags := 8, nameIndex := 344, descriptorIndex := 339, attributes := #[] }, { accessFlags := 8, nameIndex := 338, descriptorIndex := 339, attributes := #[] }, { accessFlags := 4120, nameIndex := 245, descriptorIndex := 246, attributes := #[] }])
  fields := #[{ name := "E", type := .double, accessFlags := 25, slot := 0, constantValue := 0 }, { name := "PI", type := .double, accessFlags := 25, slot := 1, constantValue := 0 }, { name := "TAU", type := .double, accessFlags := 25, slot := 2, constantValue := 0 }, { name := "DEGREES_TO_RADIANS", type := .double, accessFlags := 26, slot := 3, constantValue := 0 }, { name := "RADIANS_TO_DEGREES", type := .double, accessFlags := 26, slot := 4, constantValue := 0 }, { name := "negativeZeroFloatBits", type := .long, accessFlags := 26, slot := 5, constantValue := 0 }, { name := "negativeZeroDoubleBits", type := .long, accessFlags := 26, slot := 6, constantValue := 0 }, { name := "twoToTheDoubleScaleUp", type := .double, accessFlags := 8, slot := 7, constantValue := 0 }, { name := "twoToTheDoubleScaleDown", type := .double, accessFlags := 8, slot := 8, constantValue := 0 }, { name := "$assertionsDisabled", type := .boolean, accessFlags := 4120, slot := 9, constantValue := 0 }]
  methods := #[k2m0, k2m1, k2m2]
  instanceTypes := #[]
  staticTypes := #[.double, .double, .double, .double, .double, .long, .long, .double, .double, .boolean]
  resolved := Array.replicate 460 none
  statics := none }

def pool3 : Array CpInfo := pool [(1, .class_ 2), (0, u "java/io/Serializable"), (0, .class_ 4), (0, u "java/lang/Object")] 2

/-- java/io/Serializable -/
def k3 : Class := { plain "java/io/Serializable" (some 0) with
  accessFlags := 1537
  interfaces := #[]
  cf := some (fileOf pool3 1 #[] #[] 1537 3 #[] #[])
  fields := #[]
  methods := #[]
  instanceTypes := #[]
  staticTypes := #[]
  resolved := Array.replicate 7 none
  statics := none }

def pool4 : Array CpInfo := pool [(1, .class_ 2), (0, u "java/lang/Comparable"), (0, .class_ 4), (0, u "java/lang/Object")] 7

/-- java/lang/Comparable -/
def k4 : Class := { plain "java/lang/Comparable" (some 0) with
  accessFlags := 1537
  interfaces := #[]
  cf := some (fileOf pool4 1 #[] #[] 1537 3 #[] #[])
  fields := #[]
  methods := #[]
  instanceTypes := #[]
  staticTypes := #[]
  resolved := Array.replicate 12 none
  statics := none }

def pool5 : Array CpInfo := pool [(2, .class_ 4), (1, u "java/lang/CharSequence"), (42, .class_ 48), (0, u "java/lang/CharSequence$1CodePointIterator"), (10, .class_ 60), (0, u "java/lang/CharSequence$1CharIterator"), (5, .class_ 67), (0, u "java/lang/Object")] 63

/-- java/lang/CharSequence -/
def k5 : Class := { plain "java/lang/CharSequence" (some 0) with
  accessFlags := 1537
  interfaces := #[]
  cf := some (fileOf pool5 2 #[.nestMembers #[47, 59]] #[] 1537 66 #[] #[])
  fields := #[]
  methods := #[]
  instanceTypes := #[]
  staticTypes := #[]
  resolved := Array.replicate 131 none
  statics := none }

def pool6 : Array CpInfo := pool [(1, .class_ 2), (0, u "java/lang/constant/Constable"), (0, .class_ 4), (0, u "java/lang/Object")] 6

/-- java/lang/constant/Constable -/
def k6 : Class := { plain "java/lang/constant/Constable" (some 0) with
  accessFlags := 1537
  interfaces := #[]
  cf := some (fileOf pool6 1 #[] #[] 1537 3 #[] #[])
  fields := #[]
  methods := #[]
  instanceTypes := #[]
  staticTypes := #[]
  resolved := Array.replicate 11 none
  statics := none }

def pool7 : Array CpInfo := pool [(1, .class_ 2), (0, u "java/lang/constant/ConstantDesc"), (0, .class_ 4), (0, u "java/lang/Object")] 32

/-- java/lang/constant/ConstantDesc -/
def k7 : Class := { plain "java/lang/constant/ConstantDesc" (some 0) with
  accessFlags := 1537
  interfaces := #[]
  cf := some (fileOf pool7 1 #[] #[] 1537 3 #[] #[])
  fields := #[]
  methods := #[]
  instanceTypes := #[]
  staticTypes := #[]
  resolved := Array.replicate 37 none
  statics := none }

def pool8 : Array CpInfo := pool [(1, .methodref 2 3), (0, .class_ 4), (0, .nameAndType 5 6), (0, u "java/lang/Object"), (0, u "<init>"), (0, u "()V"), (2, .fieldref 10 11), (0, .class_ 12), (0, .nameAndType 13 14), (0, u "java/lang/String"), (0, u "value"), (0, u "[B"), (0, .fieldref 10 16), (0, .nameAndType 17 18), (0, u "coder"), (0, u "B"), (2, u "hash"), (0, u "I"), (2, u "hashIsZero"), (0, u "Z"), (11, .fieldref 10 39), (0, .nameAndType 40 26), (0, u "COMPACT_STRINGS"), (12, u "toBytes"), (53, .class_ 109), (1, u "java/lang/StringLatin1"), (99, .methodref 10 210), (0, .nameAndType 5 211), (0, u "([BB)V"), (157, u "(C)Z"), (173, u "equals"), (29, u "(Ljava/lang/Object;)Z"), (1, .class_ 576), (0, u "java/lang/CharSequence"), (22, u "CASE_INSENSITIVE_ORDER"), (0, u "Ljava/util/Comparator;"), (181, u "valueOf"), (0, u "(C)Ljava/lang/String;"), (231, .methodref 107 1016), (0, .nameAndType 1017 369), (0, u "canEncode"), (0, .methodref 107 1019), (0, .nameAndType 53 1020), (0, u "(C)[B"), (80, u "serialPersistentFields"), (0, u "[Ljava/io/ObjectStreamField;"), (0, .class_ 1104), (0, u "java/lang/String$CaseInsensitiveComparator"), (1, .class_ 1107), (0, u "java/io/Serializable"), (0, .class_ 1109), (0, u "java/lang/Comparable"), (0, .class_ 1111), (0, u "java/lang/constant/Constable"), (0, .class_ 1113), (0, u "java/lang/constant/ConstantDesc"), (2, u "serialVersionUID"), (0, u "J"), (3, u "REPL"), (0, u "C"), (2, u "LATIN1"), (1, u "UTF16")] 323

def k8m0 : Method := { name := "<init>", desc := "()V", sig := { parameters := [], returnType := none }, accessFlags := 1, code := none }
def k8c1 : Code := { maxStack := 2, maxLocals := 3, code := jdk_42_method_66_code, exceptionTable := #[], attributes := #[] }
def k8m1 : Method := { name := "equals", desc := "(Ljava/lang/Object;)Z", sig := { parameters := [(.object "java/lang/Object")], returnType := some .boolean }, accessFlags := 1, code := some k8c1 }
def k8c2 : Code := { maxStack := 4, maxLocals := 1, code := jdk_42_method_139_code, exceptionTable := #[], attributes := #[] }
def k8m2 : Method := { name := "valueOf", desc := "(C)Ljava/lang/String;", sig := { parameters := [.char], returnType := some (.object "java/lang/String") }, accessFlags := 9, code := some k8c2 }
def k8c3 : Code := { maxStack := 2, maxLocals := 3, code := jdk_42_method_151_code, exceptionTable := #[], attributes := #[] }
def k8m3 : Method := { name := "<init>", desc := "([BB)V", sig := { parameters := [(.array .byte), .byte], returnType := none }, accessFlags := 0, code := some k8c3 }
/-- java/lang/String -/
def k8 : Class := { plain "java/lang/String" (some 0) with
  accessFlags := 49
  interfaces := #[3, 4, 5, 6, 7]
  cf := some (fileOf pool8 10 #[.nestMembers #[1103]] #[{ accessFlags := 1, nameIndex := 5, descriptorIndex := 6, attributes := #[] }, { accessFlags := 1, nameIndex := 543, descriptorIndex := 573, attributes := #[] }, { accessFlags := 9, nameIndex := 782, descriptorIndex := 783, attributes := #[] }, { accessFlags := 0, nameIndex := 5, descriptorIndex := 211, attributes := #[] }] 49 2 #[1106, 1108, 575, 1110, 1112] #[{ accessFlags := 18, nameIndex := 13, descriptorIndex := 14, attributes := #[] }, { accessFlags := 18, nameIndex := 17, descriptorIndex := 18, attributes := #[] }, { accessFlags := 2, nameIndex := 21, descriptorIndex := 22, attributes := #[] }, { accessFlags := 2, nameIndex := 25, descriptorIndex := 26, attributes := #[] }, { accessFlags := 26, nameIndex := 1116, descriptorIndex := 1117, attributes := #[] }, { accessFlags := 24, nameIndex := 40, descriptorIndex := 26, attributes := #[] }, { accessFlags := 26, nameIndex := 1101, descriptorIndex := 1102, attributes := #[] }, { accessFlags := 26, nameIndex := 1121, descriptorIndex := 1122, attributes := #[] }, { accessFlags := 25, nameIndex := 599, descriptorIndex := 600, attributes := #[] }, { accessFlags := 24, nameIndex := 1125, descriptorIndex := 18, attributes := #[] }, { accessFlags := 24, nameIndex := 1127, descriptorIndex := 18, attributes := #[] }])
  fields := #[{ name := "value", type := (.array .byte), accessFlags := 18, slot := 0, constantValue := 0 }, { name := "coder", type := .byte, accessFlags := 18, slot := 1, constantValue := 0 }, { name := "hash", type := .int, accessFlags := 2, slot := 2, constantValue := 0 }, { name := "hashIsZero", type := .boolean, accessFlags := 2, slot := 3, constantValue := 0 }, { name := "serialVersionUID", type := .long, accessFlags := 26, slot := 0, constantValue := 0 }, { name := "COMPACT_STRINGS", type := .boolean, accessFlags := 24, slot := 1, constantValue := 0 }, { name := "serialPersistentFields", type := (.array (.object "java/io/ObjectStreamField")), accessFlags := 26, slot := 2, constantValue := 0 }, { name := "REPL", type := .char, accessFlags := 26, slot := 3, constantValue := 0 }, { name := "CASE_INSENSITIVE_ORDER", type := (.object "java/util/Comparator"), accessFlags := 25, slot := 4, constantValue := 0 }, { name := "LATIN1", type := .byte, accessFlags := 24, slot := 5, constantValue := 0 }, { name := "UTF16", type := .byte, accessFlags := 24, slot := 6, constantValue := 0 }]
  methods := #[k8m0, k8m1, k8m2, k8m3]
  instanceTypes := #[(.array .byte), .byte, .int, .boolean]
  staticTypes := #[.long, .boolean, (.array (.object "java/io/ObjectStreamField")), .char, (.object "java/util/Comparator"), .byte, .byte]
  resolved := Array.replicate 1451 none
  statics := some 0 }

def pool9 : Array CpInfo := pool [(4, .class_ 6), (1, u "java/lang/Object"), (0, u "<init>"), (0, u "()V"), (5, .class_ 16), (1, u "java/lang/StringLatin1"), (73, u "canEncode"), (14, u "(C)Z"), (15, u "$assertionsDisabled"), (0, u "Z"), (98, .class_ 223), (1, u "java/lang/StringLatin1$LinesSpliterator"), (156, u "toBytes"), (1, u "(C)[B"), (7, .class_ 391), (0, u "java/lang/StringLatin1$CharsSpliterator")] 3

def k9m0 : Method := { name := "<init>", desc := "()V", sig := { parameters := [], returnType := none }, accessFlags := 0, code := none }
def k9c1 : Code := { maxStack := 2, maxLocals := 1, code := jdk_43_method_3_code, exceptionTable := #[], attributes := #[] }
def k9m1 : Method := { name := "canEncode", desc := "(C)Z", sig := { parameters := [.char], returnType := some .boolean }, accessFlags := 9, code := some k9c1 }
def k9c2 : Code := { maxStack := 4, maxLocals := 1, code := jdk_43_method_46_code, exceptionTable := #[], attributes := #[] }
def k9m2 : Method := { name := "toBytes", desc := "(C)[B", sig := { parameters := [.char], returnType := some (.array .byte) }, accessFlags := 9, code := some k9c2 }
/-- java/lang/StringLatin1 -/
def k9 : Class := { plain "java/lang/StringLatin1" (some 0) with
  accessFlags := 48
  interfaces := #[]
  cf := some (fileOf pool9 14 #[.nestMembers #[390, 221]] #[{ accessFlags := 0, nameIndex := 7, descriptorIndex := 8, attributes := #[] }, { accessFlags := 9, nameIndex := 90, descriptorIndex := 105, attributes := #[] }, { accessFlags := 9, nameIndex := 380, descriptorIndex := 382, attributes := #[] }] 48 4 #[] #[{ accessFlags := 4120, nameIndex := 121, descriptorIndex := 122, attributes := #[] }])
  fields := #[{ name := "$assertionsDisabled", type := .boolean, accessFlags := 4120, slot := 0, constantValue := 0 }]
  methods := #[k9m0, k9m1, k9m2]
  instanceTypes := #[]
  staticTypes := #[.boolean]
  resolved := Array.replicate 395 none
  statics := none }

def pool10 : Array CpInfo := pool [(8, .class_ 10), (1, u "java/lang/Iterable"), (24, .class_ 36), (0, u "java/lang/Object")] 25

/-- java/lang/Iterable -/
def k10 : Class := { plain "java/lang/Iterable" (some 0) with
  accessFlags := 1537
  interfaces := #[]
  cf := some (fileOf pool10 8 #[] #[] 1537 35 #[] #[])
  fields := #[]
  methods := #[]
  instanceTypes := #[]
  staticTypes := #[]
  resolved := Array.replicate 62 none
  statics := none }

def pool11 : Array CpInfo := pool [(10, .class_ 12), (1, u "java/util/Collection"), (47, .class_ 61), (0, u "java/lang/Object"), (0, .class_ 63), (0, u "java/lang/Iterable")] 51

/-- java/util/Collection -/
def k11 : Class := { plain "java/util/Collection" (some 0) with
  accessFlags := 1537
  interfaces := #[10]
  cf := some (fileOf pool11 10 #[] #[] 1537 60 #[62] #[])
  fields := #[]
  methods := #[]
  instanceTypes := #[]
  staticTypes := #[]
  resolved := Array.replicate 115 none
  statics := none }

def pool12 : Array CpInfo := pool [(1, .methodref 2 3), (0, .class_ 4), (0, .nameAndType 5 6), (0, u "java/lang/Object"), (0, u "<init>"), (0, u "()V"), (1, .class_ 10), (1, u "java/util/AbstractCollection"), (66, .class_ 78), (0, u "java/util/Collection")] 81

def k12c0 : Code := { maxStack := 1, maxLocals := 1, code := jdk_22_method_1_code, exceptionTable := #[], attributes := #[] }
def k12m0 : Method := { name := "<init>", desc := "()V", sig := { parameters := [], returnType := none }, accessFlags := 4, code := some k12c0 }
/-- java/util/AbstractCollection -/
def k12 : Class := { plain "java/util/AbstractCollection" (some 0) with
  accessFlags := 1057
  interfaces := #[11]
  cf := some (fileOf pool12 8 #[] #[{ accessFlags := 4, nameIndex := 5, descriptorIndex := 6, attributes := #[] }] 1057 2 #[77] #[])
  fields := #[]
  methods := #[k12m0]
  instanceTypes := #[]
  staticTypes := #[]
  resolved := Array.replicate 160 none
  statics := none }

def pool13 : Array CpInfo := pool [(8, .class_ 10), (1, u "java/util/SequencedCollection"), (15, .class_ 27), (0, u "java/lang/Object"), (0, .class_ 29), (0, u "java/util/Collection")] 27

/-- java/util/SequencedCollection -/
def k13 : Class := { plain "java/util/SequencedCollection" (some 0) with
  accessFlags := 1537
  interfaces := #[11]
  cf := some (fileOf pool13 8 #[] #[] 1537 26 #[28] #[])
  fields := #[]
  methods := #[]
  instanceTypes := #[]
  staticTypes := #[]
  resolved := Array.replicate 57 none
  statics := none }

def pool14 : Array CpInfo := pool [(8, .class_ 10), (1, u "java/util/List"), (49, u "add"), (3, u "(Ljava/lang/Object;)Z"), (10, u "get"), (0, u "(I)Ljava/lang/Object;"), (2, u "size"), (0, u "()I"), (22, .class_ 104), (0, u "java/lang/Object"), (15, .class_ 121), (0, u "java/util/SequencedCollection")] 129

def k14m0 : Method := { name := "size", desc := "()I", sig := { parameters := [], returnType := some .int }, accessFlags := 1025, code := none }
def k14m1 : Method := { name := "add", desc := "(Ljava/lang/Object;)Z", sig := { parameters := [(.object "java/lang/Object")], returnType := some .boolean }, accessFlags := 1025, code := none }
def k14m2 : Method := { name := "get", desc := "(I)Ljava/lang/Object;", sig := { parameters := [.int], returnType := some (.object "java/lang/Object") }, accessFlags := 1025, code := none }
/-- java/util/List -/
def k14 : Class := { plain "java/util/List" (some 0) with
  accessFlags := 1537
  interfaces := #[13]
  cf := some (fileOf pool14 8 #[] #[{ accessFlags := 1025, nameIndex := 79, descriptorIndex := 80, attributes := #[] }, { accessFlags := 1025, nameIndex := 60, descriptorIndex := 64, attributes := #[] }, { accessFlags := 1025, nameIndex := 75, descriptorIndex := 76, attributes := #[] }] 1537 103 #[120] #[])
  fields := #[]
  methods := #[k14m0, k14m1, k14m2]
  instanceTypes := #[]
  staticTypes := #[]
  resolved := Array.replicate 251 none
  statics := none }

def pool15 : Array CpInfo := pool [(1, .methodref 2 3), (0, .class_ 4), (0, .nameAndType 5 6), (0, u "java/util/AbstractCollection"), (0, u "<init>"), (0, u "()V"), (0, .fieldref 8 9), (0, .class_ 10), (0, .nameAndType 11 12), (0, u "java/util/AbstractList"), (0, u "modCount"), (0, u "I"), (64, .class_ 78), (0, u "java/util/AbstractList$Itr"), (3, .class_ 83), (0, u "java/util/AbstractList$ListItr"), (9, .class_ 94), (0, u "java/util/AbstractList$RandomAccessSubList"), (3, .class_ 99), (0, u "java/util/AbstractList$SubList"), (33, .class_ 134), (0, u "java/util/List"), (73, .class_ 209), (0, u "java/util/AbstractList$SubList$1"), (0, .class_ 211), (0, u "java/util/AbstractList$RandomAccessSpliterator")] 6

def k15c0 : Code := { maxStack := 2, maxLocals := 1, code := jdk_39_method_1_code, exceptionTable := #[], attributes := #[] }
def k15m0 : Method := { name := "<init>", desc := "()V", sig := { parameters := [], returnType := none }, accessFlags := 4, code := some k15c0 }
/-- java/util/AbstractList -/
def k15 : Class := { plain "java/util/AbstractList" (some 12) with
  accessFlags := 1057
  interfaces := #[14]
  cf := some (fileOf pool15 8 #[.nestMembers #[93, 98, 208, 210, 82, 77]] #[{ accessFlags := 4, nameIndex := 5, descriptorIndex := 6, attributes := #[] }] 1057 2 #[133] #[{ accessFlags := 132, nameIndex := 11, descriptorIndex := 12, attributes := #[] }])
  fields := #[{ name := "modCount", type := .int, accessFlags := 132, slot := 0, constantValue := 0 }]
  methods := #[k15m0]
  instanceTypes := #[.int]
  staticTypes := #[]
  resolved := Array.replicate 218 none
  statics := none }

def pool16 : Array CpInfo := pool [(1, .class_ 2), (0, u "java/util/RandomAccess"), (0, .class_ 4), (0, u "java/lang/Object")] 2

/-- java/util/RandomAccess -/
def k16 : Class := { plain "java/util/RandomAccess" (some 0) with
  accessFlags := 1537
  interfaces := #[]
  cf := some (fileOf pool16 1 #[] #[] 1537 3 #[] #[])
  fields := #[]
  methods := #[]
  instanceTypes := #[]
  staticTypes := #[]
  resolved := Array.replicate 7 none
  statics := none }

def pool17 : Array CpInfo := pool [(1, .class_ 2), (0, u "java/lang/Cloneable"), (0, .class_ 4), (0, u "java/lang/Object")] 2

/-- java/lang/Cloneable -/
def k17 : Class := { plain "java/lang/Cloneable" (some 0) with
  accessFlags := 1537
  interfaces := #[]
  cf := some (fileOf pool17 1 #[] #[] 1537 3 #[] #[])
  fields := #[]
  methods := #[]
  instanceTypes := #[]
  staticTypes := #[]
  resolved := Array.replicate 7 none
  statics := none }

def pool18 : Array CpInfo := pool [(1, .methodref 2 3), (0, .class_ 4), (0, .nameAndType 5 6), (0, u "java/util/AbstractList"), (0, u "<init>"), (0, u "()V"), (0, .class_ 8), (0, u "java/lang/Object"), (0, .fieldref 10 11), (0, .class_ 12), (0, .nameAndType 13 14), (0, u "java/util/ArrayList"), (0, u "elementData"), (0, u "[Ljava/lang/Object;"), (2, u "EMPTY_ELEMENTDATA"), (21, .fieldref 10 40), (0, .nameAndType 41 14), (0, u "DEFAULTCAPACITY_EMPTY_ELEMENTDATA"), (5, u "()[Ljava/lang/Object;"), (0, .fieldref 10 49), (0, .nameAndType 50 51), (0, u "size"), (0, u "I"), (11, .fieldref 10 64), (0, .nameAndType 65 51), (0, u "modCount"), (3, .methodref 10 70), (0, .nameAndType 71 72), (0, u "grow"), (0, u "(I)[Ljava/lang/Object;"), (6, .methodref 80 81), (0, .class_ 82), (0, .nameAndType 83 84), (0, u "java/lang/Math"), (0, u "max"), (0, u "(II)I"), (11, u "(Ljava/lang/Object;)Z"), (21, .methodref 119 120), (0, .class_ 121), (0, .nameAndType 122 84), (0, u "java/util/Objects"), (0, u "checkIndex"), (0, .methodref 10 124), (0, .nameAndType 13 125), (0, u "(I)Ljava/lang/Object;"), (3, .methodref 10 130), (0, .nameAndType 71 47), (0, .methodref 10 132), (0, .nameAndType 133 134), (0, u "add"), (0, u "(Ljava/lang/Object;[Ljava/lang/Object;I)V"), (13, .class_ 149), (0, u "java/util/List"), (36, u "()I"), (75, .class_ 263), (0, u "java/util/ArrayList$ListItr"), (3, .class_ 268), (0, u "java/util/ArrayList$Itr"), (7, .class_ 277), (0, u "java/util/ArrayList$SubList"), (12, .class_ 291), (0, u "java/util/ArrayList$ArrayListSpliterator"), (37, .class_ 330), (0, u "java/util/RandomAccess"), (0, .class_ 332), (0, u "java/lang/Cloneable"), (0, .class_ 334), (0, u "java/io/Serializable"), (0, u "serialVersionUID"), (0, u "J"), (3, u "DEFAULT_CAPACITY"), (40, u "get"), (118, .class_ 501), (0, u "java/util/ArrayList$SubList$2"), (0, .class_ 503), (0, u "java/util/ArrayList$SubList$1")] 5

def k18c0 : Code := { maxStack := 2, maxLocals := 1, code := jdk_38_method_2_code, exceptionTable := #[], attributes := #[] }
def k18m0 : Method := { name := "<init>", desc := "()V", sig := { parameters := [], returnType := none }, accessFlags := 1, code := some k18c0 }
def k18c1 : Code := { maxStack := 4, maxLocals := 4, code := jdk_38_method_6_code, exceptionTable := #[], attributes := #[] }
def k18m1 : Method := { name := "grow", desc := "(I)[Ljava/lang/Object;", sig := { parameters := [.int], returnType := some (.array (.object "java/lang/Object")) }, accessFlags := 2, code := some k18c1 }
def k18c2 : Code := { maxStack := 3, maxLocals := 1, code := jdk_38_method_7_code, exceptionTable := #[], attributes := #[] }
def k18m2 : Method := { name := "grow", desc := "()[Ljava/lang/Object;", sig := { parameters := [], returnType := some (.array (.object "java/lang/Object")) }, accessFlags := 2, code := some k18c2 }
def k18c3 : Code := { maxStack := 1, maxLocals := 1, code := jdk_38_method_8_code, exceptionTable := #[], attributes := #[] }
def k18m3 : Method := { name := "size", desc := "()I", sig := { parameters := [], returnType := some .int }, accessFlags := 1, code := some k18c3 }
def k18c4 : Code := { maxStack := 2, maxLocals := 2, code := jdk_38_method_18_code, exceptionTable := #[], attributes := #[] }
def k18m4 : Method := { name := "elementData", desc := "(I)Ljava/lang/Object;", sig := { parameters := [.int], returnType := some (.object "java/lang/Object") }, accessFlags := 0, code := some k18c4 }
def k18c5 : Code := { maxStack := 2, maxLocals := 2, code := jdk_38_method_20_code, exceptionTable := #[], attributes := #[] }
def k18m5 : Method := { name := "get", desc := "(I)Ljava/lang/Object;", sig := { parameters := [.int], returnType := some (.object "java/lang/Object") }, accessFlags := 1, code := some k18c5 }
def k18c6 : Code := { maxStack := 3, maxLocals := 4, code := jdk_38_method_24_code, exceptionTable := #[], attributes := #[] }
def k18m6 : Method := { name := "add", desc := "(Ljava/lang/Object;[Ljava/lang/Object;I)V", sig := { parameters := [(.object "java/lang/Object"), (.array (.object "java/lang/Object")), .int], returnType := none }, accessFlags := 2, code := some k18c6 }
def k18c7 : Code := { maxStack := 4, maxLocals := 2, code := jdk_38_method_25_code, exceptionTable := #[], attributes := #[] }
def k18m7 : Method := { name := "add", desc := "(Ljava/lang/Object;)Z", sig := { parameters := [(.object "java/lang/Object")], returnType := some .boolean }, accessFlags := 1, code := some k18c7 }
/-- java/util/ArrayList -/
def k18 : Class := { plain "java/util/ArrayList" (some 15) with
  accessFlags := 33
  interfaces := #[14, 16, 17, 3]
  cf := some (fileOf pool18 10 #[.nestMembers #[290, 276, 500, 502, 262, 267]] #[{ accessFlags := 1, nameIndex := 5, descriptorIndex := 6, attributes := #[] }, { accessFlags := 2, nameIndex := 71, descriptorIndex := 72, attributes := #[] }, { accessFlags := 2, nameIndex := 71, descriptorIndex := 47, attributes := #[] }, { accessFlags := 1, nameIndex := 50, descriptorIndex := 186, attributes := #[] }, { accessFlags := 0, nameIndex := 13, descriptorIndex := 125, attributes := #[] }, { accessFlags := 1, nameIndex := 381, descriptorIndex := 125, attributes := #[] }, { accessFlags := 2, nameIndex := 133, descriptorIndex := 134, attributes := #[] }, { accessFlags := 1, nameIndex := 133, descriptorIndex := 96, attributes := #[] }] 33 2 #[148, 329, 331, 333] #[{ accessFlags := 26, nameIndex := 335, descriptorIndex := 336, attributes := #[] }, { accessFlags := 26, nameIndex := 340, descriptorIndex := 51, attributes := #[] }, { accessFlags := 26, nameIndex := 17, descriptorIndex := 14, attributes := #[] }, { accessFlags := 26, nameIndex := 41, descriptorIndex := 14, attributes := #[] }, { accessFlags := 128, nameIndex := 13, descriptorIndex := 14, attributes := #[] }, { accessFlags := 2, nameIndex := 50, descriptorIndex := 51, attributes := #[] }])
  fields := #[{ name := "serialVersionUID", type := .long, accessFlags := 26, slot := 0, constantValue := 0 }, { name := "DEFAULT_CAPACITY", type := .int, accessFlags := 26, slot := 1, constantValue := 0 }, { name := "EMPTY_ELEMENTDATA", type := (.array (.object "java/lang/Object")), accessFlags := 26, slot := 2, constantValue := 0 }, { name := "DEFAULTCAPACITY_EMPTY_ELEMENTDATA", type := (.array (.object "java/lang/Object")), accessFlags := 26, slot := 3, constantValue := 0 }, { name := "elementData", type := (.array (.object "java/lang/Object")), accessFlags := 128, slot := 1, constantValue := 0 }, { name := "size", type := .int, accessFlags := 2, slot := 2, constantValue := 0 }]
  methods := #[k18m0, k18m1, k18m2, k18m3, k18m4, k18m5, k18m6, k18m7]
  instanceTypes := #[.int, (.array (.object "java/lang/Object")), .int]
  staticTypes := #[.long, .int, (.array (.object "java/lang/Object")), (.array (.object "java/lang/Object"))]
  resolved := Array.replicate 509 none
  statics := some 1 }

def pool19 : Array CpInfo := pool [(1, .methodref 2 3), (0, .class_ 4), (0, .nameAndType 5 6), (0, u "java/lang/Object"), (0, u "<init>"), (0, u "()V"), (0, .class_ 8), (0, u "java/util/HashSet"), (0, .methodref 7 3), (0, .fieldref 11 12), (0, .class_ 13), (0, .nameAndType 14 15), (0, u "com/example/lexiflow/lexiflow/cli/Arguments"), (0, u "given"), (0, u "Ljava/util/Set;"), (0, .fieldref 11 17), (0, .nameAndType 18 19), (0, u "args"), (0, u "Ljava/util/List;"), (0, .fieldref 11 21), (0, .nameAndType 22 23), (0, u "next"), (0, u "I"), (0, .interfaceMethodref 25 26), (0, .class_ 27), (0, .nameAndType 28 29), (0, u "java/util/List"), (0, u "size"), (0, u "()I"), (0, .interfaceMethodref 25 31), (0, .nameAndType 32 33), (0, u "get"), (0, u "(I)Ljava/lang/Object;"), (0, .class_ 35), (0, u "java/lang/String"), (6, u "hasNext"), (0, u "()Z"), (10, u "()Ljava/lang/String;"), (80, u "POSITIVE"), (0, u "Ljava/util/regex/Pattern;"), (42, u "(Ljava/util/List;)V")] 53

def k19c0 : Code := { maxStack := 3, maxLocals := 2, code := prog_1_method_1_code, exceptionTable := #[], attributes := #[] }
def k19m0 : Method := { name := "<init>", desc := "(Ljava/util/List;)V", sig := { parameters := [(.object "java/util/List")], returnType := none }, accessFlags := 0, code := some k19c0 }
def k19c1 : Code := { maxStack := 2, maxLocals := 1, code := prog_1_method_2_code, exceptionTable := #[], attributes := #[] }
def k19m1 : Method := { name := "hasNext", desc := "()Z", sig := { parameters := [], returnType := some .boolean }, accessFlags := 0, code := some k19c1 }
def k19c2 : Code := { maxStack := 5, maxLocals := 1, code := prog_1_method_3_code, exceptionTable := #[], attributes := #[] }
def k19m2 : Method := { name := "next", desc := "()Ljava/lang/String;", sig := { parameters := [], returnType := some (.object "java/lang/String") }, accessFlags := 0, code := some k19c2 }
/-- com/example/lexiflow/lexiflow/cli/Arguments -/
def k19 : Class := { plain "com/example/lexiflow/lexiflow/cli/Arguments" (some 0) with
  accessFlags := 48
  interfaces := #[]
  cf := some (fileOf pool19 11 #[] #[{ accessFlags := 0, nameIndex := 5, descriptorIndex := 179, attributes := #[] }, { accessFlags := 0, nameIndex := 42, descriptorIndex := 43, attributes := #[] }, { accessFlags := 0, nameIndex := 22, descriptorIndex := 54, attributes := #[] }] 48 2 #[] #[{ accessFlags := 26, nameIndex := 135, descriptorIndex := 136, attributes := #[] }, { accessFlags := 18, nameIndex := 18, descriptorIndex := 19, attributes := #[] }, { accessFlags := 18, nameIndex := 14, descriptorIndex := 15, attributes := #[] }, { accessFlags := 2, nameIndex := 22, descriptorIndex := 23, attributes := #[] }])
  fields := #[{ name := "POSITIVE", type := (.object "java/util/regex/Pattern"), accessFlags := 26, slot := 0, constantValue := 0 }, { name := "args", type := (.object "java/util/List"), accessFlags := 18, slot := 0, constantValue := 0 }, { name := "given", type := (.object "java/util/Set"), accessFlags := 18, slot := 1, constantValue := 0 }, { name := "next", type := .int, accessFlags := 2, slot := 2, constantValue := 0 }]
  methods := #[k19m0, k19m1, k19m2]
  instanceTypes := #[(.object "java/util/List"), (.object "java/util/Set"), .int]
  staticTypes := #[(.object "java/util/regex/Pattern")]
  resolved := Array.replicate 233 none
  statics := none }

def pool20 : Array CpInfo := pool [(26, .class_ 27), (0, u "java/lang/Object"), (5, .class_ 34), (0, u "java/util/Set"), (1, .class_ 38), (1, u "java/util/Collection")] 105

/-- java/util/Set -/
def k20 : Class := { plain "java/util/Set" (some 0) with
  accessFlags := 1537
  interfaces := #[11]
  cf := some (fileOf pool20 33 #[] #[] 1537 26 #[36] #[])
  fields := #[]
  methods := #[]
  instanceTypes := #[]
  staticTypes := #[]
  resolved := Array.replicate 144 none
  statics := none }

def pool21 : Array CpInfo := pool [(1, .methodref 2 3), (0, .class_ 4), (0, .nameAndType 5 6), (0, u "java/util/AbstractCollection"), (0, u "<init>"), (0, u "()V"), (0, .class_ 8), (0, u "java/util/Set"), (7, .class_ 17), (0, u "java/util/AbstractSet")] 78

def k21c0 : Code := { maxStack := 1, maxLocals := 1, code := jdk_91_method_1_code, exceptionTable := #[], attributes := #[] }
def k21m0 : Method := { name := "<init>", desc := "()V", sig := { parameters := [], returnType := none }, accessFlags := 4, code := some k21c0 }
/-- java/util/AbstractSet -/
def k21 : Class := { plain "java/util/AbstractSet" (some 12) with
  accessFlags := 1057
  interfaces := #[20]
  cf := some (fileOf pool21 16 #[] #[{ accessFlags := 4, nameIndex := 5, descriptorIndex := 6, attributes := #[] }] 1057 2 #[7] #[])
  fields := #[]
  methods := #[k21m0]
  instanceTypes := #[]
  staticTypes := #[]
  resolved := Array.replicate 96 none
  statics := none }

def pool22 : Array CpInfo := pool [(1, .methodref 2 3), (0, .class_ 4), (0, .nameAndType 5 6), (0, u "java/util/AbstractSet"), (0, u "<init>"), (0, u "()V"), (0, .class_ 8), (0, u "java/util/HashMap"), (0, .methodref 7 3), (0, .fieldref 11 12), (0, .class_ 13), (0, .nameAndType 14 15), (0, u "java/util/HashSet"), (0, u "map"), (0, u "Ljava/util/HashMap;"), (34, .class_ 52), (1, u "java/util/Set"), (13, u "PRESENT"), (0, u "Ljava/lang/Object;"), (158, .class_ 227), (0, u "java/lang/Cloneable"), (0, .class_ 229), (0, u "java/io/Serializable"), (0, u "serialVersionUID"), (0, u "J")] 71

def k22c0 : Code := { maxStack := 3, maxLocals := 1, code := jdk_93_method_1_code, exceptionTable := #[], attributes := #[] }
def k22m0 : Method := { name := "<init>", desc := "()V", sig := { parameters := [], returnType := none }, accessFlags := 1, code := some k22c0 }
/-- java/util/HashSet -/
def k22 : Class := { plain "java/util/HashSet" (some 21) with
  accessFlags := 33
  interfaces := #[20, 17, 3]
  cf := some (fileOf pool22 11 #[] #[{ accessFlags := 1, nameIndex := 5, descriptorIndex := 6, attributes := #[] }] 33 2 #[50, 226, 228] #[{ accessFlags := 24, nameIndex := 230, descriptorIndex := 231, attributes := #[] }, { accessFlags := 128, nameIndex := 14, descriptorIndex := 15, attributes := #[] }, { accessFlags := 24, nameIndex := 66, descriptorIndex := 67, attributes := #[] }])
  fields := #[{ name := "serialVersionUID", type := .long, accessFlags := 24, slot := 0, constantValue := 0 }, { name := "map", type := (.object "java/util/HashMap"), accessFlags := 128, slot := 0, constantValue := 0 }, { name := "PRESENT", type := (.object "java/lang/Object"), accessFlags := 24, slot := 1, constantValue := 0 }]
  methods := #[k22m0]
  instanceTypes := #[(.object "java/util/HashMap")]
  staticTypes := #[.long, (.object "java/lang/Object")]
  resolved := Array.replicate 303 none
  statics := none }

def pool23 : Array CpInfo := pool [(2, .class_ 4), (1, u "java/util/Map"), (31, .class_ 37), (0, u "java/util/Map$Entry"), (55, .class_ 94), (0, u "java/lang/Object")] 168

/-- java/util/Map -/
def k23 : Class := { plain "java/util/Map" (some 0) with
  accessFlags := 1537
  interfaces := #[]
  cf := some (fileOf pool23 2 #[.nestMembers #[36]] #[] 1537 93 #[] #[])
  fields := #[]
  methods := #[]
  instanceTypes := #[]
  staticTypes := #[]
  resolved := Array.replicate 263 none
  statics := none }

def pool24 : Array CpInfo := pool [(1, .methodref 2 3), (0, .class_ 4), (0, .nameAndType 5 6), (0, u "java/lang/Object"), (0, u "<init>"), (0, u "()V"), (1, .class_ 10), (1, u "java/util/AbstractMap"), (42, .class_ 54), (0, u "java/util/Map"), (9, u "keySet"), (0, u "Ljava/util/Set;"), (0, .class_ 67), (0, u "java/util/AbstractMap$1"), (5, u "values"), (0, u "Ljava/util/Collection;"), (0, .class_ 76), (0, u "java/util/AbstractMap$2"), (104, .class_ 182), (0, u "java/util/AbstractMap$ViewCollection"), (0, .class_ 184), (0, u "java/util/AbstractMap$SimpleImmutableEntry"), (0, .class_ 186), (0, u "java/util/AbstractMap$SimpleEntry"), (0, .class_ 188), (0, u "java/util/AbstractMap$2$1"), (0, .class_ 190), (0, u "java/util/AbstractMap$1$1")] 5

def k24c0 : Code := { maxStack := 1, maxLocals := 1, code := jdk_71_method_1_code, exceptionTable := #[], attributes := #[] }
def k24m0 : Method := { name := "<init>", desc := "()V", sig := { parameters := [], returnType := none }, accessFlags := 4, code := some k24c0 }
/-- java/util/AbstractMap -/
def k24 : Class := { plain "java/util/AbstractMap" (some 0) with
  accessFlags := 1057
  interfaces := #[23]
  cf := some (fileOf pool24 8 #[.nestMembers #[181, 183, 185, 75, 187, 66, 189]] #[{ accessFlags := 4, nameIndex := 5, descriptorIndex := 6, attributes := #[] }] 1057 2 #[53] #[{ accessFlags := 128, nameIndex := 64, descriptorIndex := 65, attributes := #[] }, { accessFlags := 128, nameIndex := 73, descriptorIndex := 74, attributes := #[] }])
  fields := #[{ name := "keySet", type := (.object "java/util/Set"), accessFlags := 128, slot := 0, constantValue := 0 }, { name := "values", type := (.object "java/util/Collection"), accessFlags := 128, slot := 1, constantValue := 0 }]
  methods := #[k24m0]
  instanceTypes := #[(.object "java/util/Set"), (.object "java/util/Collection")]
  staticTypes := #[]
  resolved := Array.replicate 196 none
  statics := none }

def pool25 : Array CpInfo := pool [(40, .class_ 41), (0, u "java/util/HashMap"), (1, .methodref 44 45), (0, .class_ 46), (0, .nameAndType 47 48), (0, u "java/util/AbstractMap"), (0, u "<init>"), (0, u "()V"), (32, .fieldref 40 82), (0, .nameAndType 83 84), (0, u "loadFactor"), (0, u "F"), (5, u "threshold"), (0, u "I"), (0, .float 1061158912), (8, .class_ 103), (1, u "java/util/Map"), (0, u "size"), (2, u "table"), (0, u "[Ljava/util/HashMap$Node;"), (14, u "entrySet"), (39, .class_ 165), (1, u "java/util/HashMap$Node"), (14, .class_ 181), (0, u "java/util/HashMap$TreeNode"), (22, u "modCount"), (37, u "Ljava/util/Set;"), (0, .class_ 244), (0, u "java/util/HashMap$KeySet"), (18, .class_ 264), (0, u "java/util/HashMap$Values"), (3, .class_ 269), (0, u "java/util/HashMap$EntrySet"), (76, .class_ 348), (1, u "java/util/HashMap$UnsafeHolder"), (43, .class_ 393), (0, u "java/lang/Cloneable"), (0, .class_ 395), (0, u "java/io/Serializable"), (0, u "serialVersionUID"), (0, u "J"), (3, u "DEFAULT_INITIAL_CAPACITY"), (1, u "MAXIMUM_CAPACITY"), (0, u "DEFAULT_LOAD_FACTOR"), (0, u "TREEIFY_THRESHOLD"), (1, u "UNTREEIFY_THRESHOLD"), (1, u "MIN_TREEIFY_CAPACITY"), (186, .class_ 597), (0, u "java/util/HashMap$EntrySpliterator"), (0, .class_ 599), (0, u "java/util/HashMap$ValueSpliterator"), (0, .class_ 601), (0, u "java/util/HashMap$KeySpliterator"), (0, .class_ 603), (0, u "java/util/HashMap$HashMapSpliterator"), (0, .class_ 605), (0, u "java/util/HashMap$EntryIterator"), (0, .class_ 607), (0, u "java/util/HashMap$ValueIterator"), (0, .class_ 609), (0, u "java/util/HashMap$KeyIterator"), (0, .class_ 611), (0, u "java/util/HashMap$HashIterator")] 17

def k25c0 : Code := { maxStack := 2, maxLocals := 1, code := jdk_69_method_7_code, exceptionTable := #[], attributes := #[] }
def k25m0 : Method := { name := "<init>", desc := "()V", sig := { parameters := [], returnType := none }, accessFlags := 1, code := some k25c0 }
/-- java/util/HashMap -/
def k25 : Class := { plain "java/util/HashMap" (some 24) with
  accessFlags := 33
  interfaces := #[23, 17, 3]
  cf := some (fileOf pool25 40 #[.nestMembers #[180, 596, 598, 600, 602, 604, 606, 608, 610, 346, 268, 263, 243, 163]] #[{ accessFlags := 1, nameIndex := 47, descriptorIndex := 48, attributes := #[] }] 33 44 #[101, 392, 394] #[{ accessFlags := 26, nameIndex := 396, descriptorIndex := 397, attributes := #[] }, { accessFlags := 24, nameIndex := 401, descriptorIndex := 91, attributes := #[] }, { accessFlags := 24, nameIndex := 403, descriptorIndex := 91, attributes := #[] }, { accessFlags := 24, nameIndex := 404, descriptorIndex := 84, attributes := #[] }, { accessFlags := 24, nameIndex := 405, descriptorIndex := 91, attributes := #[] }, { accessFlags := 24, nameIndex := 407, descriptorIndex := 91, attributes := #[] }, { accessFlags := 24, nameIndex := 409, descriptorIndex := 91, attributes := #[] }, { accessFlags := 128, nameIndex := 107, descriptorIndex := 108, attributes := #[] }, { accessFlags := 128, nameIndex := 123, descriptorIndex := 242, attributes := #[] }, { accessFlags := 128, nameIndex := 104, descriptorIndex := 91, attributes := #[] }, { accessFlags := 128, nameIndex := 204, descriptorIndex := 91, attributes := #[] }, { accessFlags := 0, nameIndex := 90, descriptorIndex := 91, attributes := #[] }, { accessFlags := 16, nameIndex := 83, descriptorIndex := 84, attributes := #[] }])
  fields := #[{ name := "serialVersionUID", type := .long, accessFlags := 26, slot := 0, constantValue := 0 }, { name := "DEFAULT_INITIAL_CAPACITY", type := .int, accessFlags := 24, slot := 1, constantValue := 0 }, { name := "MAXIMUM_CAPACITY", type := .int, accessFlags := 24, slot := 2, constantValue := 0 }, { name := "DEFAULT_LOAD_FACTOR", type := .float, accessFlags := 24, slot := 3, constantValue := 0 }, { name := "TREEIFY_THRESHOLD", type := .int, accessFlags := 24, slot := 4, constantValue := 0 }, { name := "UNTREEIFY_THRESHOLD", type := .int, accessFlags := 24, slot := 5, constantValue := 0 }, { name := "MIN_TREEIFY_CAPACITY", type := .int, accessFlags := 24, slot := 6, constantValue := 0 }, { name := "table", type := (.array (.object "java/util/HashMap$Node")), accessFlags := 128, slot := 2, constantValue := 0 }, { name := "entrySet", type := (.object "java/util/Set"), accessFlags := 128, slot := 3, constantValue := 0 }, { name := "size", type := .int, accessFlags := 128, slot := 4, constantValue := 0 }, { name := "modCount", type := .int, accessFlags := 128, slot := 5, constantValue := 0 }, { name := "threshold", type := .int, accessFlags := 0, slot := 6, constantValue := 0 }, { name := "loadFactor", type := .float, accessFlags := 16, slot := 7, constantValue := 0 }]
  methods := #[k25m0]
  instanceTypes := #[(.object "java/util/Set"), (.object "java/util/Collection"), (.array (.object "java/util/HashMap$Node")), (.object "java/util/Set"), .int, .int, .int, .float]
  staticTypes := #[.long, .int, .int, .float, .int, .int, .int]
  resolved := Array.replicate 629 none
  statics := none }

def pool26 : Array CpInfo := pool [(2, .class_ 4), (1, u "java/lang/Object"), (0, u "<init>"), (0, u "()V"), (35, .class_ 44), (1, u "java/util/Objects"), (60, .methodref 106 107), (0, .class_ 108), (0, .nameAndType 109 110), (0, u "jdk/internal/util/Preconditions"), (0, u "checkIndex"), (0, u "(IILjava/util/function/BiFunction;)I"), (60, u "(II)I")] 12

def k26m0 : Method := { name := "<init>", desc := "()V", sig := { parameters := [], returnType := none }, accessFlags := 2, code := none }
def k26c1 : Code := { maxStack := 3, maxLocals := 2, code := jdk_31_method_17_code, exceptionTable := #[], attributes := #[] }
def k26m1 : Method := { name := "checkIndex", desc := "(II)I", sig := { parameters := [.int, .int], returnType := some .int }, accessFlags := 9, code := some k26c1 }
/-- java/util/Objects -/
def k26 : Class := { plain "java/util/Objects" (some 0) with
  accessFlags := 49
  interfaces := #[]
  cf := some (fileOf pool26 42 #[] #[{ accessFlags := 2, nameIndex := 5, descriptorIndex := 6, attributes := #[] }, { accessFlags := 9, nameIndex := 109, descriptorIndex := 171, attributes := #[] }] 49 2 #[] #[])
  fields := #[]
  methods := #[k26m0, k26m1]
  instanceTypes := #[]
  staticTypes := #[]
  resolved := Array.replicate 184 none
  statics := none }

def pool27 : Array CpInfo := pool [(2, .class_ 4), (1, u "java/lang/Object"), (0, u "<init>"), (0, u "()V"), (17, .class_ 26), (1, u "jdk/internal/util/Preconditions"), (6, u "checkIndex"), (21, .class_ 56), (0, u "jdk/internal/util/Preconditions$4"), (57, .class_ 115), (0, u "jdk/internal/util/Preconditions$1"), (7, u "SIOOBE_FORMATTER"), (0, u "Ljava/util/function/BiFunction;"), (0, .class_ 126), (0, u "jdk/internal/util/Preconditions$2"), (3, u "AIOOBE_FORMATTER"), (0, .class_ 132), (0, u "jdk/internal/util/Preconditions$3"), (3, u "IOOBE_FORMATTER"), (41, u "(IILjava/util/function/BiFunction;)I")] 15

def k27m0 : Method := { name := "<init>", desc := "()V", sig := { parameters := [], returnType := none }, accessFlags := 1, code := none }
def k27c1 : Code := { maxStack := 3, maxLocals := 3, code := jdk_41_method_11_code, exceptionTable := #[], attributes := #[] }
def k27m1 : Method := { name := "checkIndex", desc := "(IILjava/util/function/BiFunction;)I", sig := { parameters := [.int, .int, (.object "java/util/function/BiFunction")], returnType := some .int }, accessFlags := 9, code := some k27c1 }
/-- jdk/internal/util/Preconditions -/
def k27 : Class := { plain "jdk/internal/util/Preconditions" (some 0) with
  accessFlags := 33
  interfaces := #[]
  cf := some (fileOf pool27 24 #[.nestMembers #[55, 131, 125, 114]] #[{ accessFlags := 1, nameIndex := 5, descriptorIndex := 6, attributes := #[] }, { accessFlags := 9, nameIndex := 33, descriptorIndex := 178, attributes := #[] }] 33 2 #[] #[{ accessFlags := 25, nameIndex := 123, descriptorIndex := 124, attributes := #[] }, { accessFlags := 25, nameIndex := 130, descriptorIndex := 124, attributes := #[] }, { accessFlags := 25, nameIndex := 136, descriptorIndex := 124, attributes := #[] }])
  fields := #[{ name := "SIOOBE_FORMATTER", type := (.object "java/util/function/BiFunction"), accessFlags := 25, slot := 0, constantValue := 0 }, { name := "AIOOBE_FORMATTER", type := (.object "java/util/function/BiFunction"), accessFlags := 25, slot := 1, constantValue := 0 }, { name := "IOOBE_FORMATTER", type := (.object "java/util/function/BiFunction"), accessFlags := 25, slot := 2, constantValue := 0 }]
  methods := #[k27m0, k27m1]
  instanceTypes := #[]
  staticTypes := #[(.object "java/util/function/BiFunction"), (.object "java/util/function/BiFunction"), (.object "java/util/function/BiFunction")]
  resolved := Array.replicate 194 none
  statics := some 2 }

def pool28 : Array CpInfo := pool [(9, u "<init>"), (6, .class_ 18), (1, u "java/lang/Object"), (0, u "()V"), (1, .class_ 23), (1, u "jdk/internal/util/ArraysSupport"), (0, u "LOG2_ARRAY_LONG_INDEX_SCALE"), (0, u "I"), (2, u "U"), (0, u "Ljdk/internal/misc/Unsafe;"), (8, u "BIG_ENDIAN"), (0, u "Z"), (8, u "LOG2_BYTE_BIT_SIZE"), (4, u "LOG2_ARRAY_INT_INDEX_SCALE"), (54, u "JLA"), (0, u "Ljdk/internal/access/JavaLangAccess;"), (11, u "LOG2_ARRAY_BOOLEAN_INDEX_SCALE"), (9, u "LOG2_ARRAY_BYTE_INDEX_SCALE"), (5, u "LOG2_ARRAY_CHAR_INDEX_SCALE"), (5, u "LOG2_ARRAY_SHORT_INDEX_SCALE"), (18, u "LOG2_ARRAY_FLOAT_INDEX_SCALE"), (24, u "LOG2_ARRAY_DOUBLE_INDEX_SCALE"), (89, u "T_BOOLEAN"), (2, u "T_CHAR"), (1, u "T_FLOAT"), (1, u "T_DOUBLE"), (1, u "T_BYTE"), (1, u "T_SHORT"), (1, u "T_INT"), (1, u "T_LONG"), (1, u "SOFT_MAX_ARRAY_LENGTH")] 83

def k28m0 : Method := { name := "<init>", desc := "()V", sig := { parameters := [], returnType := none }, accessFlags := 2, code := none }
/-- jdk/internal/util/ArraysSupport -/
def k28 : Class := { plain "jdk/internal/util/ArraysSupport" (some 0) with
  accessFlags := 33
  interfaces := #[]
  cf := some (fileOf pool28 21 #[] #[{ accessFlags := 2, nameIndex := 9, descriptorIndex := 19, attributes := #[] }] 33 16 #[] #[{ accessFlags := 24, nameIndex := 28, descriptorIndex := 29, attributes := #[] }, { accessFlags := 26, nameIndex := 38, descriptorIndex := 39, attributes := #[] }, { accessFlags := 25, nameIndex := 121, descriptorIndex := 25, attributes := #[] }, { accessFlags := 25, nameIndex := 131, descriptorIndex := 25, attributes := #[] }, { accessFlags := 25, nameIndex := 137, descriptorIndex := 25, attributes := #[] }, { accessFlags := 25, nameIndex := 143, descriptorIndex := 25, attributes := #[] }, { accessFlags := 25, nameIndex := 53, descriptorIndex := 25, attributes := #[] }, { accessFlags := 25, nameIndex := 24, descriptorIndex := 25, attributes := #[] }, { accessFlags := 25, nameIndex := 162, descriptorIndex := 25, attributes := #[] }, { accessFlags := 25, nameIndex := 187, descriptorIndex := 25, attributes := #[] }, { accessFlags := 26, nameIndex := 48, descriptorIndex := 25, attributes := #[] }, { accessFlags := 25, nameIndex := 277, descriptorIndex := 25, attributes := #[] }, { accessFlags := 25, nameIndex := 280, descriptorIndex := 25, attributes := #[] }, { accessFlags := 25, nameIndex := 282, descriptorIndex := 25, attributes := #[] }, { accessFlags := 25, nameIndex := 284, descriptorIndex := 25, attributes := #[] }, { accessFlags := 25, nameIndex := 286, descriptorIndex := 25, attributes := #[] }, { accessFlags := 25, nameIndex := 288, descriptorIndex := 25, attributes := #[] }, { accessFlags := 25, nameIndex := 290, descriptorIndex := 25, attributes := #[] }, { accessFlags := 25, nameIndex := 292, descriptorIndex := 25, attributes := #[] }, { accessFlags := 26, nameIndex := 108, descriptorIndex := 109, attributes := #[] }, { accessFlags := 25, nameIndex := 294, descriptorIndex := 25, attributes := #[] }])
  fields := #[{ name := "U", type := (.object "jdk/internal/misc/Unsafe"), accessFlags := 24, slot := 0, constantValue := 0 }, { name := "BIG_ENDIAN", type := .boolean, accessFlags := 26, slot := 1, constantValue := 0 }, { name := "LOG2_ARRAY_BOOLEAN_INDEX_SCALE", type := .int, accessFlags := 25, slot := 2, constantValue := 0 }, { name := "LOG2_ARRAY_BYTE_INDEX_SCALE", type := .int, accessFlags := 25, slot := 3, constantValue := 0 }, { name := "LOG2_ARRAY_CHAR_INDEX_SCALE", type := .int, accessFlags := 25, slot := 4, constantValue := 0 }, { name := "LOG2_ARRAY_SHORT_INDEX_SCALE", type := .int, accessFlags := 25, slot := 5, constantValue := 0 }, { name := "LOG2_ARRAY_INT_INDEX_SCALE", type := .int, accessFlags := 25, slot := 6, constantValue := 0 }, { name := "LOG2_ARRAY_LONG_INDEX_SCALE", type := .int, accessFlags := 25, slot := 7, constantValue := 0 }, { name := "LOG2_ARRAY_FLOAT_INDEX_SCALE", type := .int, accessFlags := 25, slot := 8, constantValue := 0 }, { name := "LOG2_ARRAY_DOUBLE_INDEX_SCALE", type := .int, accessFlags := 25, slot := 9, constantValue := 0 }, { name := "LOG2_BYTE_BIT_SIZE", type := .int, accessFlags := 26, slot := 10, constantValue := 0 }, { name := "T_BOOLEAN", type := .int, accessFlags := 25, slot := 11, constantValue := 0 }, { name := "T_CHAR", type := .int, accessFlags := 25, slot := 12, constantValue := 0 }, { name := "T_FLOAT", type := .int, accessFlags := 25, slot := 13, constantValue := 0 }, { name := "T_DOUBLE", type := .int, accessFlags := 25, slot := 14, constantValue := 0 }, { name := "T_BYTE", type := .int, accessFlags := 25, slot := 15, constantValue := 0 }, { name := "T_SHORT", type := .int, accessFlags := 25, slot := 16, constantValue := 0 }, { name := "T_INT", type := .int, accessFlags := 25, slot := 17, constantValue := 0 }, { name := "T_LONG", type := .int, accessFlags := 25, slot := 18, constantValue := 0 }, { name := "JLA", type := (.object "jdk/internal/access/JavaLangAccess"), accessFlags := 26, slot := 19, constantValue := 0 }, { name := "SOFT_MAX_ARRAY_LENGTH", type := .int, accessFlags := 25, slot := 20, constantValue := 0 }]
  methods := #[k28m0]
  instanceTypes := #[]
  staticTypes := #[(.object "jdk/internal/misc/Unsafe"), .boolean, .int, .int, .int, .int, .int, .int, .int, .int, .int, .int, .int, .int, .int, .int, .int, .int, .int, (.object "jdk/internal/access/JavaLangAccess"), .int]
  resolved := Array.replicate 378 none
  statics := none }

/-- the primitive byte -/
def k29 : Class := { plain "byte" none with kind := .primitive 'B', accessFlags := 0x411 }
/-- [B -/
def k30 : Class := { plain "[B" (some 0) with kind := .array 29 .byte, interfaces := #[17, 3], accessFlags := 1041 }

/-- the primitive int -/
def k31 : Class := { plain "int" none with kind := .primitive 'I', accessFlags := 0x411 }
/-- [I -/
def k32 : Class := { plain "[I" (some 0) with kind := .array 31 .int, interfaces := #[17, 3], accessFlags := 1041 }

/-- [Ljava/lang/Object; -/
def k33 : Class := { plain "[Ljava/lang/Object;" (some 0) with kind := .array 0 (.object "java/lang/Object"), interfaces := #[17, 3], accessFlags := 1041 }

def heap : Heap := #[{ cls := 8, slots := #[.long 0, .int 1, .null, .int 0, .null, .int 0, .int 0], vm := .statics 8 },
  { cls := 18, slots := #[.long 0, .int 0, .ref 3, .ref 4], vm := .statics 18 },
  { cls := 27, slots := #[.null, .null, .null], vm := .statics 27 },
  { cls := 33, slots := #[], vm := .none },
  { cls := 33, slots := #[], vm := .none }]
def classes : Array Class := #[k0, k1, k2, k3, k4, k5, k6, k7, k8, k9, k10, k11, k12, k13, k14, k15, k16, k17, k18, k19, k20, k21, k22, k23, k24, k25, k26, k27, k28, k29, k30, k31, k32, k33]
def interned : List (Array UInt16 × Addr) := []
def slotsUsed : Nat := 14
def theMethod : MethodId := ⟨1, 1⟩
def args0 : Array Value := #[.int 3, .int 2, .int 5]
def aboutOver (below : List Frame) : State where
  vm := { classes := classes, interned := interned.toArray }
  heap := heap
  slotsUsed := slotsUsed
  threads := #[{ frames := .invoking theMethod args0 :: below }]
def below0 : List Frame := [.native { method := ⟨0, 0⟩, args := #[] }]
def about1 : State := aboutOver below0
def p0 : Program := .bare "" "" ""
def e0 : Env := launch0.env 0 0 0
theorem w_frames : about1.frames = Frame.invoking theMethod args0 :: below0 := rfl
set_option maxRecDepth 65536 in
theorem w_args : argsFit about1.vm theMethod args0 = true := by decide +kernel
set_option maxRecDepth 65536 in
theorem w_heap : heapFits about1 = true := by decide +kernel
set_option maxRecDepth 65536 in
theorem w_runnable : about1.curStatus? = some .runnable := by decide +kernel
set_option maxRecDepth 65536 in
theorem w_alone : about1.alone = true := by decide +kernel
set_option maxRecDepth 65536 in
theorem w_named : about1.methodNamed? x = some theMethod := by decide +kernel
set_option maxRecDepth 65536 in
theorem w_hears : about1.hears theMethod below0 = true := by decide +kernel
set_option maxRecDepth 65536 in
theorem w_ripe : about1.ripe theMethod args0 below0 = true := by decide +kernel
theorem w_running : about1.status = .running := rfl
set_option maxRecDepth 65536 in
theorem w_room : about1.hasRoom e0.platform room_1 = true :=
  launch0.hasRoom_least _ room_1 (by decide +kernel) (by decide +kernel) (by decide +kernel) (by decide +kernel) (by decide +kernel) (by decide +kernel)
theorem allAtoms_all (ts : List Jvm.Cond) (a : Array Jvm.Value) (st : Jvm.State) : (allAtoms ts).before a st = ts.all (fun c => c.before a st) := by
  induction ts with
  | nil => rfl
  | cons c t ih =>
    show (Jvm.Cond.and c (allAtoms t)).before a st = _
    rw [Jvm.Cond.before_and, ih, List.all_cons]
def words1 : List Jvm.Cond := Jvm.Cond.code x code maxLocals ret :: tables_1
/-- a 'code' word, met by the world's own term for the bytes: nothing is compared byte by byte -/
theorem code_word {y : MethodName} {bytes : ByteArray} {mx : Nat} {rt : Option FieldType} {a : Array Value} {s : State} {m : MethodId} {meth : Method} {c : Code} (h1 : s.methodNamed? y = some m) (h2 : s.vm.method? m = some meth) (h3 : meth.code = some c) (h4 : c.code = bytes)
    (h5 : (c.maxLocals == mx && c.exceptionTable.isEmpty && decide (c.maxStack ≤ mostOperands) && decide (meth.sig.returnType = rt) && !meth.locks && decide (parseMethodDescriptor y.desc = some meth.sig)) = true) : (Jvm.Cond.code y bytes mx rt).before a s = true := by
  simp only [Bool.and_eq_true, beq_iff_eq, Bool.not_eq_true', decide_eq_true_eq] at h5
  obtain ⟨⟨⟨⟨⟨g1, g2⟩, g3⟩, g4⟩, g5⟩, g6⟩ := h5
  simp [Cond.before, Cond.holds, Cond.value, h1, h2, h3, h4, g1, g2, g3, g4, g5, g6]
def isCode : Jvm.Cond → Bool
  | .code _ _ _ _ => true
  | _ => false
theorem all_split {L : List Jvm.Cond} {P : Jvm.Cond → Bool} (h1 : L.all (fun c => isCode c || P c) = true) (h2 : ∀ c ∈ L.filter isCode, P c = true) : L.all P = true := by
  refine List.all_eq_true.mpr fun c hc => ?_
  have h := List.all_eq_true.mp h1 c hc
  rcases Bool.eq_false_or_eq_true (isCode c) with hi | hi
  · exact h2 c (List.mem_filter.mpr ⟨hc, hi⟩)
  · simpa [hi] using h
set_option maxRecDepth 65536 in
theorem w_c0 : (Jvm.Cond.code x code maxLocals ret).before args0 about1 = true := code_word (m := ⟨1, 1⟩) (meth := k1m1) (c := k1c1) (by decide +kernel) rfl rfl rfl (by decide +kernel)
set_option maxRecDepth 65536 in
theorem w_c1 : (Jvm.Cond.code ({ cls := "java/lang/Math", name := "min", desc := "(II)I" } : Jvm.MethodName) jdk_29_method_69_code (2 : Nat) (Option.some Jvm.ClassFile.FieldType.int)).before args0 about1 = true := code_word (m := ⟨2, 2⟩) (meth := k2m2) (c := k2c2) (by decide +kernel) rfl rfl rfl (by decide +kernel)
set_option maxRecDepth 65536 in
theorem w_c2 : (Jvm.Cond.code ({ cls := "java/lang/String", name := "valueOf", desc := "(C)Ljava/lang/String;" } : Jvm.MethodName) jdk_42_method_139_code (1 : Nat) (Option.some (Jvm.ClassFile.FieldType.object "java/lang/String"))).before args0 about1 = true := code_word (m := ⟨8, 2⟩) (meth := k8m2) (c := k8c2) (by decide +kernel) rfl rfl rfl (by decide +kernel)
set_option maxRecDepth 65536 in
theorem w_c3 : (Jvm.Cond.code ({ cls := "java/lang/StringLatin1", name := "canEncode", desc := "(C)Z" } : Jvm.MethodName) jdk_43_method_3_code (1 : Nat) (Option.some Jvm.ClassFile.FieldType.boolean)).before args0 about1 = true := code_word (m := ⟨9, 1⟩) (meth := k9m1) (c := k9c1) (by decide +kernel) rfl rfl rfl (by decide +kernel)
set_option maxRecDepth 65536 in
theorem w_c4 : (Jvm.Cond.code ({ cls := "java/lang/StringLatin1", name := "toBytes", desc := "(C)[B" } : Jvm.MethodName) jdk_43_method_46_code (1 : Nat) (Option.some (Jvm.ClassFile.FieldType.array Jvm.ClassFile.FieldType.byte))).before args0 about1 = true := code_word (m := ⟨9, 2⟩) (meth := k9m2) (c := k9c2) (by decide +kernel) rfl rfl rfl (by decide +kernel)
set_option maxRecDepth 65536 in
theorem w_c5 : (Jvm.Cond.code ({ cls := "java/lang/String", name := "<init>", desc := "([BB)V" } : Jvm.MethodName) jdk_42_method_151_code (3 : Nat) (Option.none : Option Jvm.ClassFile.FieldType)).before args0 about1 = true := code_word (m := ⟨8, 3⟩) (meth := k8m3) (c := k8c3) (by decide +kernel) rfl rfl rfl (by decide +kernel)
set_option maxRecDepth 65536 in
theorem w_c6 : (Jvm.Cond.code ({ cls := "java/lang/Object", name := "<init>", desc := "()V" } : Jvm.MethodName) object_method_1_code (1 : Nat) (Option.none : Option Jvm.ClassFile.FieldType)).before args0 about1 = true := code_word (m := ⟨0, 0⟩) (meth := k0m0) (c := k0c0) (by decide +kernel) rfl rfl rfl (by decide +kernel)
set_option maxRecDepth 65536 in
theorem w_c7 : (Jvm.Cond.code ({ cls := "java/util/ArrayList", name := "<init>", desc := "()V" } : Jvm.MethodName) jdk_38_method_2_code (1 : Nat) (Option.none : Option Jvm.ClassFile.FieldType)).before args0 about1 = true := code_word (m := ⟨18, 0⟩) (meth := k18m0) (c := k18c0) (by decide +kernel) rfl rfl rfl (by decide +kernel)
set_option maxRecDepth 65536 in
theorem w_c8 : (Jvm.Cond.code ({ cls := "java/util/AbstractList", name := "<init>", desc := "()V" } : Jvm.MethodName) jdk_39_method_1_code (1 : Nat) (Option.none : Option Jvm.ClassFile.FieldType)).before args0 about1 = true := code_word (m := ⟨15, 0⟩) (meth := k15m0) (c := k15c0) (by decide +kernel) rfl rfl rfl (by decide +kernel)
set_option maxRecDepth 65536 in
theorem w_c9 : (Jvm.Cond.code ({ cls := "java/util/AbstractCollection", name := "<init>", desc := "()V" } : Jvm.MethodName) jdk_22_method_1_code (1 : Nat) (Option.none : Option Jvm.ClassFile.FieldType)).before args0 about1 = true := code_word (m := ⟨12, 0⟩) (meth := k12m0) (c := k12c0) (by decide +kernel) rfl rfl rfl (by decide +kernel)
set_option maxRecDepth 65536 in
theorem w_c10 : (Jvm.Cond.code ({ cls := "com/example/lexiflow/lexiflow/cli/Arguments", name := "<init>", desc := "(Ljava/util/List;)V" } : Jvm.MethodName) prog_1_method_1_code (2 : Nat) (Option.none : Option Jvm.ClassFile.FieldType)).before args0 about1 = true := code_word (m := ⟨19, 0⟩) (meth := k19m0) (c := k19c0) (by decide +kernel) rfl rfl rfl (by decide +kernel)
set_option maxRecDepth 65536 in
theorem w_c11 : (Jvm.Cond.code ({ cls := "java/util/HashSet", name := "<init>", desc := "()V" } : Jvm.MethodName) jdk_93_method_1_code (1 : Nat) (Option.none : Option Jvm.ClassFile.FieldType)).before args0 about1 = true := code_word (m := ⟨22, 0⟩) (meth := k22m0) (c := k22c0) (by decide +kernel) rfl rfl rfl (by decide +kernel)
set_option maxRecDepth 65536 in
theorem w_c12 : (Jvm.Cond.code ({ cls := "java/util/AbstractSet", name := "<init>", desc := "()V" } : Jvm.MethodName) jdk_91_method_1_code (1 : Nat) (Option.none : Option Jvm.ClassFile.FieldType)).before args0 about1 = true := code_word (m := ⟨21, 0⟩) (meth := k21m0) (c := k21c0) (by decide +kernel) rfl rfl rfl (by decide +kernel)
set_option maxRecDepth 65536 in
theorem w_c13 : (Jvm.Cond.code ({ cls := "java/util/HashMap", name := "<init>", desc := "()V" } : Jvm.MethodName) jdk_69_method_7_code (1 : Nat) (Option.none : Option Jvm.ClassFile.FieldType)).before args0 about1 = true := code_word (m := ⟨25, 0⟩) (meth := k25m0) (c := k25c0) (by decide +kernel) rfl rfl rfl (by decide +kernel)
set_option maxRecDepth 65536 in
theorem w_c14 : (Jvm.Cond.code ({ cls := "java/util/AbstractMap", name := "<init>", desc := "()V" } : Jvm.MethodName) jdk_71_method_1_code (1 : Nat) (Option.none : Option Jvm.ClassFile.FieldType)).before args0 about1 = true := code_word (m := ⟨24, 0⟩) (meth := k24m0) (c := k24c0) (by decide +kernel) rfl rfl rfl (by decide +kernel)
set_option maxRecDepth 65536 in
theorem w_c15 : (Jvm.Cond.code ({ cls := "com/example/lexiflow/lexiflow/cli/Arguments", name := "hasNext", desc := "()Z" } : Jvm.MethodName) prog_1_method_2_code (1 : Nat) (Option.some Jvm.ClassFile.FieldType.boolean)).before args0 about1 = true := code_word (m := ⟨19, 1⟩) (meth := k19m1) (c := k19c1) (by decide +kernel) rfl rfl rfl (by decide +kernel)
set_option maxRecDepth 65536 in
theorem w_c16 : (Jvm.Cond.code ({ cls := "java/util/ArrayList", name := "size", desc := "()I" } : Jvm.MethodName) jdk_38_method_8_code (1 : Nat) (Option.some Jvm.ClassFile.FieldType.int)).before args0 about1 = true := code_word (m := ⟨18, 3⟩) (meth := k18m3) (c := k18c3) (by decide +kernel) rfl rfl rfl (by decide +kernel)
set_option maxRecDepth 65536 in
theorem w_c17 : (Jvm.Cond.code ({ cls := "java/util/ArrayList", name := "add", desc := "(Ljava/lang/Object;)Z" } : Jvm.MethodName) jdk_38_method_25_code (2 : Nat) (Option.some Jvm.ClassFile.FieldType.boolean)).before args0 about1 = true := code_word (m := ⟨18, 7⟩) (meth := k18m7) (c := k18c7) (by decide +kernel) rfl rfl rfl (by decide +kernel)
set_option maxRecDepth 65536 in
theorem w_c18 : (Jvm.Cond.code ({ cls := "java/util/ArrayList", name := "add", desc := "(Ljava/lang/Object;[Ljava/lang/Object;I)V" } : Jvm.MethodName) jdk_38_method_24_code (4 : Nat) (Option.none : Option Jvm.ClassFile.FieldType)).before args0 about1 = true := code_word (m := ⟨18, 6⟩) (meth := k18m6) (c := k18c6) (by decide +kernel) rfl rfl rfl (by decide +kernel)
set_option maxRecDepth 65536 in
theorem w_c19 : (Jvm.Cond.code ({ cls := "java/util/ArrayList", name := "grow", desc := "()[Ljava/lang/Object;" } : Jvm.MethodName) jdk_38_method_7_code (1 : Nat) (Option.some (Jvm.ClassFile.FieldType.array (Jvm.ClassFile.FieldType.object "java/lang/Object")))).before args0 about1 = true := code_word (m := ⟨18, 2⟩) (meth := k18m2) (c := k18c2) (by decide +kernel) rfl rfl rfl (by decide +kernel)
set_option maxRecDepth 65536 in
theorem w_c20 : (Jvm.Cond.code ({ cls := "java/util/ArrayList", name := "grow", desc := "(I)[Ljava/lang/Object;" } : Jvm.MethodName) jdk_38_method_6_code (4 : Nat) (Option.some (Jvm.ClassFile.FieldType.array (Jvm.ClassFile.FieldType.object "java/lang/Object")))).before args0 about1 = true := code_word (m := ⟨18, 1⟩) (meth := k18m1) (c := k18c1) (by decide +kernel) rfl rfl rfl (by decide +kernel)
set_option maxRecDepth 65536 in
theorem w_c21 : (Jvm.Cond.code ({ cls := "java/lang/Math", name := "max", desc := "(II)I" } : Jvm.MethodName) jdk_29_method_65_code (2 : Nat) (Option.some Jvm.ClassFile.FieldType.int)).before args0 about1 = true := code_word (m := ⟨2, 1⟩) (meth := k2m1) (c := k2c1) (by decide +kernel) rfl rfl rfl (by decide +kernel)
set_option maxRecDepth 65536 in
theorem w_c22 : (Jvm.Cond.code ({ cls := "com/example/lexiflow/lexiflow/cli/Arguments", name := "next", desc := "()Ljava/lang/String;" } : Jvm.MethodName) prog_1_method_3_code (1 : Nat) (Option.some (Jvm.ClassFile.FieldType.object "java/lang/String"))).before args0 about1 = true := code_word (m := ⟨19, 2⟩) (meth := k19m2) (c := k19c2) (by decide +kernel) rfl rfl rfl (by decide +kernel)
set_option maxRecDepth 65536 in
theorem w_c23 : (Jvm.Cond.code ({ cls := "java/util/ArrayList", name := "get", desc := "(I)Ljava/lang/Object;" } : Jvm.MethodName) jdk_38_method_20_code (2 : Nat) (Option.some (Jvm.ClassFile.FieldType.object "java/lang/Object"))).before args0 about1 = true := code_word (m := ⟨18, 5⟩) (meth := k18m5) (c := k18c5) (by decide +kernel) rfl rfl rfl (by decide +kernel)
set_option maxRecDepth 65536 in
theorem w_c24 : (Jvm.Cond.code ({ cls := "java/util/Objects", name := "checkIndex", desc := "(II)I" } : Jvm.MethodName) jdk_31_method_17_code (2 : Nat) (Option.some Jvm.ClassFile.FieldType.int)).before args0 about1 = true := code_word (m := ⟨26, 1⟩) (meth := k26m1) (c := k26c1) (by decide +kernel) rfl rfl rfl (by decide +kernel)
set_option maxRecDepth 65536 in
theorem w_c25 : (Jvm.Cond.code ({ cls := "jdk/internal/util/Preconditions", name := "checkIndex", desc := "(IILjava/util/function/BiFunction;)I" } : Jvm.MethodName) jdk_41_method_11_code (3 : Nat) (Option.some Jvm.ClassFile.FieldType.int)).before args0 about1 = true := code_word (m := ⟨27, 1⟩) (meth := k27m1) (c := k27c1) (by decide +kernel) rfl rfl rfl (by decide +kernel)
set_option maxRecDepth 65536 in
theorem w_c26 : (Jvm.Cond.code ({ cls := "java/util/ArrayList", name := "elementData", desc := "(I)Ljava/lang/Object;" } : Jvm.MethodName) jdk_38_method_18_code (2 : Nat) (Option.some (Jvm.ClassFile.FieldType.object "java/lang/Object"))).before args0 about1 = true := code_word (m := ⟨18, 4⟩) (meth := k18m4) (c := k18c4) (by decide +kernel) rfl rfl rfl (by decide +kernel)
set_option maxRecDepth 65536 in
theorem w_c27 : (Jvm.Cond.code ({ cls := "java/lang/String", name := "equals", desc := "(Ljava/lang/Object;)Z" } : Jvm.MethodName) jdk_42_method_66_code (3 : Nat) (Option.some Jvm.ClassFile.FieldType.boolean)).before args0 about1 = true := code_word (m := ⟨8, 1⟩) (meth := k8m1) (c := k8c1) (by decide +kernel) rfl rfl rfl (by decide +kernel)
def codes1 : List Jvm.Cond := [Jvm.Cond.code x code maxLocals ret, Jvm.Cond.code ({ cls := "java/lang/Math", name := "min", desc := "(II)I" } : Jvm.MethodName) jdk_29_method_69_code (2 : Nat) (Option.some Jvm.ClassFile.FieldType.int), Jvm.Cond.code ({ cls := "java/lang/String", name := "valueOf", desc := "(C)Ljava/lang/String;" } : Jvm.MethodName) jdk_42_method_139_code (1 : Nat) (Option.some (Jvm.ClassFile.FieldType.object "java/lang/String")), Jvm.Cond.code ({ cls := "java/lang/StringLatin1", name := "canEncode", desc := "(C)Z" } : Jvm.MethodName) jdk_43_method_3_code (1 : Nat) (Option.some Jvm.ClassFile.FieldType.boolean), Jvm.Cond.code ({ cls := "java/lang/StringLatin1", name := "toBytes", desc := "(C)[B" } : Jvm.MethodName) jdk_43_method_46_code (1 : Nat) (Option.some (Jvm.ClassFile.FieldType.array Jvm.ClassFile.FieldType.byte)), Jvm.Cond.code ({ cls := "java/lang/String", name := "<init>", desc := "([BB)V" } : Jvm.MethodName) jdk_42_method_151_code (3 : Nat) (Option.none : Option Jvm.ClassFile.FieldType), Jvm.Cond.code ({ cls := "java/lang/Object", name := "<init>", desc := "()V" } : Jvm.MethodName) object_method_1_code (1 : Nat) (Option.none : Option Jvm.ClassFile.FieldType), Jvm.Cond.code ({ cls := "java/util/ArrayList", name := "<init>", desc := "()V" } : Jvm.MethodName) jdk_38_method_2_code (1 : Nat) (Option.none : Option Jvm.ClassFile.FieldType), Jvm.Cond.code ({ cls := "java/util/AbstractList", name := "<init>", desc := "()V" } : Jvm.MethodName) jdk_39_method_1_code (1 : Nat) (Option.none : Option Jvm.ClassFile.FieldType), Jvm.Cond.code ({ cls := "java/util/AbstractCollection", name := "<init>", desc := "()V" } : Jvm.MethodName) jdk_22_method_1_code (1 : Nat) (Option.none : Option Jvm.ClassFile.FieldType), Jvm.Cond.code ({ cls := "com/example/lexiflow/lexiflow/cli/Arguments", name := "<init>", desc := "(Ljava/util/List;)V" } : Jvm.MethodName) prog_1_method_1_code (2 : Nat) (Option.none : Option Jvm.ClassFile.FieldType), Jvm.Cond.code ({ cls := "java/util/HashSet", name := "<init>", desc := "()V" } : Jvm.MethodName) jdk_93_method_1_code (1 : Nat) (Option.none : Option Jvm.ClassFile.FieldType), Jvm.Cond.code ({ cls := "java/util/AbstractSet", name := "<init>", desc := "()V" } : Jvm.MethodName) jdk_91_method_1_code (1 : Nat) (Option.none : Option Jvm.ClassFile.FieldType), Jvm.Cond.code ({ cls := "java/util/HashMap", name := "<init>", desc := "()V" } : Jvm.MethodName) jdk_69_method_7_code (1 : Nat) (Option.none : Option Jvm.ClassFile.FieldType), Jvm.Cond.code ({ cls := "java/util/AbstractMap", name := "<init>", desc := "()V" } : Jvm.MethodName) jdk_71_method_1_code (1 : Nat) (Option.none : Option Jvm.ClassFile.FieldType), Jvm.Cond.code ({ cls := "com/example/lexiflow/lexiflow/cli/Arguments", name := "hasNext", desc := "()Z" } : Jvm.MethodName) prog_1_method_2_code (1 : Nat) (Option.some Jvm.ClassFile.FieldType.boolean), Jvm.Cond.code ({ cls := "java/util/ArrayList", name := "size", desc := "()I" } : Jvm.MethodName) jdk_38_method_8_code (1 : Nat) (Option.some Jvm.ClassFile.FieldType.int), Jvm.Cond.code ({ cls := "java/util/ArrayList", name := "add", desc := "(Ljava/lang/Object;)Z" } : Jvm.MethodName) jdk_38_method_25_code (2 : Nat) (Option.some Jvm.ClassFile.FieldType.boolean), Jvm.Cond.code ({ cls := "java/util/ArrayList", name := "add", desc := "(Ljava/lang/Object;[Ljava/lang/Object;I)V" } : Jvm.MethodName) jdk_38_method_24_code (4 : Nat) (Option.none : Option Jvm.ClassFile.FieldType), Jvm.Cond.code ({ cls := "java/util/ArrayList", name := "grow", desc := "()[Ljava/lang/Object;" } : Jvm.MethodName) jdk_38_method_7_code (1 : Nat) (Option.some (Jvm.ClassFile.FieldType.array (Jvm.ClassFile.FieldType.object "java/lang/Object"))), Jvm.Cond.code ({ cls := "java/util/ArrayList", name := "grow", desc := "(I)[Ljava/lang/Object;" } : Jvm.MethodName) jdk_38_method_6_code (4 : Nat) (Option.some (Jvm.ClassFile.FieldType.array (Jvm.ClassFile.FieldType.object "java/lang/Object"))), Jvm.Cond.code ({ cls := "java/lang/Math", name := "max", desc := "(II)I" } : Jvm.MethodName) jdk_29_method_65_code (2 : Nat) (Option.some Jvm.ClassFile.FieldType.int), Jvm.Cond.code ({ cls := "com/example/lexiflow/lexiflow/cli/Arguments", name := "next", desc := "()Ljava/lang/String;" } : Jvm.MethodName) prog_1_method_3_code (1 : Nat) (Option.some (Jvm.ClassFile.FieldType.object "java/lang/String")), Jvm.Cond.code ({ cls := "java/util/ArrayList", name := "get", desc := "(I)Ljava/lang/Object;" } : Jvm.MethodName) jdk_38_method_20_code (2 : Nat) (Option.some (Jvm.ClassFile.FieldType.object "java/lang/Object")), Jvm.Cond.code ({ cls := "java/util/Objects", name := "checkIndex", desc := "(II)I" } : Jvm.MethodName) jdk_31_method_17_code (2 : Nat) (Option.some Jvm.ClassFile.FieldType.int), Jvm.Cond.code ({ cls := "jdk/internal/util/Preconditions", name := "checkIndex", desc := "(IILjava/util/function/BiFunction;)I" } : Jvm.MethodName) jdk_41_method_11_code (3 : Nat) (Option.some Jvm.ClassFile.FieldType.int), Jvm.Cond.code ({ cls := "java/util/ArrayList", name := "elementData", desc := "(I)Ljava/lang/Object;" } : Jvm.MethodName) jdk_38_method_18_code (2 : Nat) (Option.some (Jvm.ClassFile.FieldType.object "java/lang/Object")), Jvm.Cond.code ({ cls := "java/lang/String", name := "equals", desc := "(Ljava/lang/Object;)Z" } : Jvm.MethodName) jdk_42_method_66_code (3 : Nat) (Option.some Jvm.ClassFile.FieldType.boolean)]
set_option maxRecDepth 65536 in
theorem codes_eq : words1.filter isCode = codes1 := rfl
theorem w_codes : ∀ c ∈ words1.filter isCode, c.before args0 about1 = true := by
  rw [codes_eq]
  intro c hc
  simp only [codes1, List.mem_cons, List.not_mem_nil, or_false] at hc
  rcases hc with rfl | rfl | rfl | rfl | rfl | rfl | rfl | rfl | rfl | rfl | rfl | rfl | rfl | rfl | rfl | rfl | rfl | rfl | rfl | rfl | rfl | rfl | rfl | rfl | rfl | rfl | rfl | rfl
  · exact w_c0
  · exact w_c1
  · exact w_c2
  · exact w_c3
  · exact w_c4
  · exact w_c5
  · exact w_c6
  · exact w_c7
  · exact w_c8
  · exact w_c9
  · exact w_c10
  · exact w_c11
  · exact w_c12
  · exact w_c13
  · exact w_c14
  · exact w_c15
  · exact w_c16
  · exact w_c17
  · exact w_c18
  · exact w_c19
  · exact w_c20
  · exact w_c21
  · exact w_c22
  · exact w_c23
  · exact w_c24
  · exact w_c25
  · exact w_c26
  · exact w_c27
set_option maxRecDepth 65536 in
theorem w_t1 : (words1.take 24).all (fun c => isCode c || c.before args0 about1) = true := by decide +kernel
set_option maxRecDepth 65536 in
theorem w_t2 : ((words1.drop 24).take 24).all (fun c => isCode c || c.before args0 about1) = true := by decide +kernel
set_option maxRecDepth 65536 in
theorem w_t3 : (((words1.drop 24).drop 24).take 24).all (fun c => isCode c || c.before args0 about1) = true := by decide +kernel
set_option maxRecDepth 65536 in
theorem w_t4 : ((((words1.drop 24).drop 24).drop 24).take 24).all (fun c => isCode c || c.before args0 about1) = true := by decide +kernel
set_option maxRecDepth 65536 in
theorem w_t5 : (((((words1.drop 24).drop 24).drop 24).drop 24).take 24).all (fun c => isCode c || c.before args0 about1) = true := by decide +kernel
set_option maxRecDepth 65536 in
theorem w_t6 : ((((((words1.drop 24).drop 24).drop 24).drop 24).drop 24).take 24).all (fun c => isCode c || c.before args0 about1) = true := by decide +kernel
set_option maxRecDepth 65536 in
theorem w_t7 : (((((((words1.drop 24).drop 24).drop 24).drop 24).drop 24).drop 24).take 24).all (fun c => isCode c || c.before args0 about1) = true := by decide +kernel
set_option maxRecDepth 65536 in
theorem w_t8 : (((((((words1.drop 24).drop 24).drop 24).drop 24).drop 24).drop 24).drop 24).all (fun c => isCode c || c.before args0 about1) = true := by decide +kernel
theorem w_tables : (allAtoms (Jvm.Cond.code x code maxLocals ret :: tables_1)).before args0 about1 = true := by
  rw [allAtoms_all]
  show words1.all (fun c => c.before args0 about1) = true
  refine all_split ?_ w_codes
  rw [← List.take_append_drop 24 words1, List.all_append, w_t1, ← List.take_append_drop 24 (words1.drop 24), List.all_append, w_t2, ← List.take_append_drop 24 ((words1.drop 24).drop 24), List.all_append, w_t3, ← List.take_append_drop 24 (((words1.drop 24).drop 24).drop 24), List.all_append, w_t4, ← List.take_append_drop 24 ((((words1.drop 24).drop 24).drop 24).drop 24), List.all_append, w_t5, ← List.take_append_drop 24 (((((words1.drop 24).drop 24).drop 24).drop 24).drop 24), List.all_append, w_t6, ← List.take_append_drop 24 ((((((words1.drop 24).drop 24).drop 24).drop 24).drop 24).drop 24), List.all_append, w_t7, w_t8]
  rfl
set_option maxRecDepth 65536 in
theorem w_rest : rest_1_c.before args0 about1 = true := by decide +kernel
set_option maxRecDepth 65536 in
theorem w_case : (Jvm.Cond.and given_1 narrow_1).before args0 about1 = true := by decide +kernel
theorem w_applies : (headSpec (Jvm.Cond.code x code maxLocals ret :: tables_1) room_1).applies x e0.platform about1 = true :=
  (Spec.applies_iff w_frames).mpr ⟨w_running, w_runnable, w_alone, w_named, w_hears, w_ripe, w_room, w_tables⟩
theorem atStart : AtStart classFile x code maxLocals ret World_1 tables_1 room_1 Calls_1 rest_1 Pre_1 launch0 p0 e0 about1 theMethod args0 below0 :=
  ⟨lists_1, trivial, launch0.admits_env _ _ _, launch0.least_env, fairChoices_fair.cas, fairChoices_fair.clock, w_frames, w_args, w_heap, w_applies, trivial, w_rest, w_case⟩
end start1
theorem witness_1 : WitnessClaimed_1 := ⟨start1.p0, start1.e0, start1.about1, start1.theMethod, start1.args0, start1.below0, start1.atStart⟩
end Jvm.Pilot.@@N@@
