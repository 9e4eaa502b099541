import JvmDerived
import JvmDerived.Pilot.@@N@@Statement
import JvmDerived.Pilot.@@N@@Code
set_option linter.unusedVariables false
set_option linter.unusedSimpArgs false
namespace Jvm.Pilot.@@N@@
open Jvm Jvm.ClassFile Sem Op Lib Jvm.Free Jvm.Stand Jvm.LawKit Jvm.RoadKit Bundle Jvm.Pilot.@@N@@.Jvm.D
theorem wd {Z : State} {a0 : Array Value} (hw : ∀ d ∈ tables_1, d.before a0 Z = true) (i : Nat) {d : Jvm.Cond} (e : tables_1[i]? = some d) : d.before a0 Z = true := hw _ (List.mem_of_getElem? e)
section Layer
variable {p : Program} {l : Launch} {e : Env} {R : Room} {s : State} {m : MethodId} {args : Array Value} {below : List Frame} {meth : Method} {c : Code} {Z : State} {a0 : Array Value}
variable {own nm : String} {bytes : ByteArray} {maxL : Nat} {ret : Option FieldType} {n0 : Nat} {Q : Option Value → Heap → Prop} {h : Heap} {k n : Nat} {pc q : Nat} {ls : Array Slot} {st : List Value}
/-- what stays fixed while one body is walked -/
def Cx (p : Program) (s : State) (m : MethodId) (meth : Method) (c : Code) (Z : State) (own nm : String) (bytes : ByteArray) (maxL : Nat) (ret : Option FieldType) : Prop :=
  p.tables.exec = Jvm.exec ∧ Z.Warmed39 s.vm ∧ s.vm.findClass own = some m.cls ∧ c.code = bytes ∧ c.maxLocals = maxL ∧ meth.sig.returnType = ret ∧ meth.locks = false ∧ meth.name = nm
/-- from this frame, over a heap h, with k cells and n slots made, the body ends and Q holds -/
def Go (p : Program) (l : Launch) (e : Env) (R : Room) (s : State) (m : MethodId) (args : Array Value) (below : List Frame) (meth : Method) (c : Code) (n0 : Nat) (Q : Option Value → Heap → Prop) (h : Heap) (k n : Nat) (g : JFrame) : Prop :=
  ∀ T L, Stand p l e R s m args below meth c T L k n → Fr n0 L → T.heap = h →
    ∃ s₂ o, Steps p.tables e below (T.setTop g) s₂ ∧ s₂.status = .running ∧ Ended s₂ below o ∧ ∃ v L', o = .returned v ∧ (Q v s₂.heap ∧ Fr n0 L') ∧ FrameEnd s o s₂ L' R.cells R.slots
theorem Go.of {g g' : JFrame} (f : ∀ T target, At T m c below → Steps p.tables e below (T.setTop g') target → Steps p.tables e below (T.setTop g) target) (r : Go p l e R s m args below meth c n0 Q h k n g') : Go p l e R s m args below meth c n0 Q h k n g := fun T L X N eT => by
  obtain ⟨s₂, o, hs, z⟩ := r T L X N eT
  exact ⟨s₂, o, f T _ X.here hs, z⟩
theorem Go.ofX {g g' : JFrame} (f : ∀ T L target, Stand p l e R s m args below meth c T L k n → T.heap = h → Steps p.tables e below (T.setTop g') target → Steps p.tables e below (T.setTop g) target) (r : Go p l e R s m args below meth c n0 Q h k n g') : Go p l e R s m args below meth c n0 Q h k n g := fun T L X N eT => by
  obtain ⟨s₂, o, hs, z⟩ := r T L X N eT
  exact ⟨s₂, o, f T L _ X eT hs, z⟩
theorem Go.mono {Q' : Option Value → Heap → Prop} {g : JFrame} (r : Go p l e R s m args below meth c n0 Q h k n g) (f : ∀ v h', Q v h' → Q' v h') : Go p l e R s m args below meth c n0 Q' h k n g := fun T L X N eT => by
  obtain ⟨s₂, o, hs, h1, h2, v, L', h3, h4, h5⟩ := r T L X N eT
  exact ⟨s₂, o, hs, h1, h2, v, L', h3, ⟨f _ _ h4.1, h4.2⟩, h5⟩
theorem Go.less {g : JFrame} {k' n' : Nat} (r : Go p l e R s m args below meth c n0 Q h k' n' g) (hk : k ≤ k') (hn : n ≤ n') : Go p l e R s m args below meth c n0 Q h k n g := fun T L X N eT => r T L (X.more hk hn) N eT
theorem Go.at {g : JFrame} {h' : Heap} (r : Go p l e R s m args below meth c n0 Q h' k n g) (q : h = h') : Go p l e R s m args below meth c n0 Q h k n g := q ▸ r

theorem go_eqI {x y : Int32} {stl : List Value} (hxy : x = y) (r : Go p l e R s m args below meth c n0 Q h k n (mkF m pc ls (.int y :: stl))) : Go p l e R s m args below meth c n0 Q h k n (mkF m pc ls (.int x :: stl)) := hxy ▸ r
theorem go_eqJ {x y : Int64} {stl : List Value} (hxy : x = y) (r : Go p l e R s m args below meth c n0 Q h k n (mkF m pc ls (.long y :: stl))) : Go p l e R s m args below meth c n0 Q h k n (mkF m pc ls (.long x :: stl)) := hxy ▸ r

theorem go_nameI {x : Int32} {stl : List Value} (r : ∀ z, z = x → Go p l e R s m args below meth c n0 Q h k n (mkF m pc ls (.int z :: stl))) : Go p l e R s m args below meth c n0 Q h k n (mkF m pc ls (.int x :: stl)) := r x rfl
theorem go_nameJ {x : Int64} {stl : List Value} (r : ∀ z, z = x → Go p l e R s m args below meth c n0 Q h k n (mkF m pc ls (.long z :: stl))) : Go p l e R s m args below meth c n0 Q h k n (mkF m pc ls (.long x :: stl)) := r x rfl

theorem go_aloadN (K : Cx p s m meth c Z own nm bytes maxL ret) {i : Fin 4} {v : Value} (hd : decode bytes pc = .ok (.aload_n i, 1)) (hl : ls[i.val]? = some (.val v)) (hv : v.isRef = true) (hq : pc + 1 = q) (r : Go p l e R s m args below meth c n0 Q h k n (mkF m q ls (v :: st))) : Go p l e R s m args below meth c n0 Q h k n (mkF m pc ls st) := by
  subst hq; exact Go.of (fun T tg A => XS.aloadN A K.1 rfl (hb K.2.2.2.1 hd) hl hv) r
theorem go_aload (K : Cx p s m meth c Z own nm bytes maxL ret) {i : Nat} {v : Value} (hd : decode bytes pc = .ok (.aload i, 2)) (hl : ls[i]? = some (.val v)) (hv : v.isRef = true) (hq : pc + 2 = q) (r : Go p l e R s m args below meth c n0 Q h k n (mkF m q ls (v :: st))) : Go p l e R s m args below meth c n0 Q h k n (mkF m pc ls st) := by
  subst hq; exact Go.of (fun T tg A => XS.aload A K.1 rfl (hb K.2.2.2.1 hd) hl hv) r
theorem go_iloadN (K : Cx p s m meth c Z own nm bytes maxL ret) {i : Fin 4} {v : Int32} (hd : decode bytes pc = .ok (.iload_n i, 1)) (hl : ls[i.val]? = some (.val (.int v))) (hq : pc + 1 = q) (r : Go p l e R s m args below meth c n0 Q h k n (mkF m q ls (.int v :: st))) : Go p l e R s m args below meth c n0 Q h k n (mkF m pc ls st) := by
  subst hq; exact Go.of (fun T tg A => XS.iloadN A K.1 rfl (hb K.2.2.2.1 hd) hl) r
theorem go_iload (K : Cx p s m meth c Z own nm bytes maxL ret) {i : Nat} {v : Int32} (hd : decode bytes pc = .ok (.iload i, 2)) (hl : ls[i]? = some (.val (.int v))) (hq : pc + 2 = q) (r : Go p l e R s m args below meth c n0 Q h k n (mkF m q ls (.int v :: st))) : Go p l e R s m args below meth c n0 Q h k n (mkF m pc ls st) := by
  subst hq; exact Go.of (fun T tg A => XS.iload A K.1 rfl (hb K.2.2.2.1 hd) hl) r
theorem go_lloadN (K : Cx p s m meth c Z own nm bytes maxL ret) {i : Fin 4} {v : Int64} (hd : decode bytes pc = .ok (.lload_n i, 1)) (hl : ls[i.val]? = some (.val (.long v))) (hq : pc + 1 = q) (r : Go p l e R s m args below meth c n0 Q h k n (mkF m q ls (.long v :: st))) : Go p l e R s m args below meth c n0 Q h k n (mkF m pc ls st) := by
  subst hq; exact Go.of (fun T tg A => XT.lloadN A K.1 rfl (hb K.2.2.2.1 hd) hl) r
theorem go_lload (K : Cx p s m meth c Z own nm bytes maxL ret) {i : Nat} {v : Int64} (hd : decode bytes pc = .ok (.lload i, 2)) (hl : ls[i]? = some (.val (.long v))) (hq : pc + 2 = q) (r : Go p l e R s m args below meth c n0 Q h k n (mkF m q ls (.long v :: st))) : Go p l e R s m args below meth c n0 Q h k n (mkF m pc ls st) := by
  subst hq; exact Go.of (fun T tg A => XT.lload A K.1 rfl (hb K.2.2.2.1 hd) hl) r
theorem go_iconst (K : Cx p s m meth c Z own nm bytes maxL ret) {i : Int} (hd : decode bytes pc = .ok (.iconst i, 1)) (v : Int32) (hv : Int32.ofInt i = v) (hq : pc + 1 = q) (r : Go p l e R s m args below meth c n0 Q h k n (mkF m q ls (.int v :: st))) : Go p l e R s m args below meth c n0 Q h k n (mkF m pc ls st) := by
  subst hq; exact Go.of (fun T tg A => XT.iconstV A K.1 rfl v (hb K.2.2.2.1 hd) hv) r
theorem go_bipush (K : Cx p s m meth c Z own nm bytes maxL ret) {i : Int} (hd : decode bytes pc = .ok (.bipush i, 2)) (v : Int32) (hv : (Int8.ofInt i).toInt32 = v) (hq : pc + 2 = q) (r : Go p l e R s m args below meth c n0 Q h k n (mkF m q ls (.int v :: st))) : Go p l e R s m args below meth c n0 Q h k n (mkF m pc ls st) := by
  subst hq; exact Go.of (fun T tg A => XT.bipushV A K.1 rfl v (hb K.2.2.2.1 hd) hv) r
theorem go_sipush (K : Cx p s m meth c Z own nm bytes maxL ret) {i : Int} (hd : decode bytes pc = .ok (.sipush i, 3)) (v : Int32) (hv : (Int16.ofInt i).toInt32 = v) (hq : pc + 3 = q) (r : Go p l e R s m args below meth c n0 Q h k n (mkF m q ls (.int v :: st))) : Go p l e R s m args below meth c n0 Q h k n (mkF m pc ls st) := by
  subst hq; exact Go.of (fun T tg A => XT.sipushV A K.1 rfl v (hb K.2.2.2.1 hd) hv) r
theorem go_lconst (K : Cx p s m meth c Z own nm bytes maxL ret) {i : Fin 2} (hd : decode bytes pc = .ok (.lconst i, 1)) (v : Int64) (hv : Int64.ofNat i = v) (hq : pc + 1 = q) (r : Go p l e R s m args below meth c n0 Q h k n (mkF m q ls (.long v :: st))) : Go p l e R s m args below meth c n0 Q h k n (mkF m pc ls st) := by
  subst hq; exact Go.of (fun T tg A => XT.lconstV A K.1 rfl v (hb K.2.2.2.1 hd) hv) r
theorem go_aconst_null (K : Cx p s m meth c Z own nm bytes maxL ret)  (hd : decode bytes pc = .ok (.aconst_null, 1))  (hq : pc + 1 = q) (r : Go p l e R s m args below meth c n0 Q h k n (mkF m q ls (.null :: st))) : Go p l e R s m args below meth c n0 Q h k n (mkF m pc ls st) := by
  subst hq; exact Go.of (fun T tg A => XS.aconstNull A K.1 rfl (hb K.2.2.2.1 hd)) r
theorem go_iadd (K : Cx p s m meth c Z own nm bytes maxL ret) {x y : Int32} (hd : decode bytes pc = .ok (.iadd, 1))  (hq : pc + 1 = q) (r : Go p l e R s m args below meth c n0 Q h k n (mkF m q ls (.int (x + y) :: st))) : Go p l e R s m args below meth c n0 Q h k n (mkF m pc ls (.int y :: .int x :: st)) := by
  subst hq; exact Go.of (fun T tg A => XS.iadd A K.1 rfl (hb K.2.2.2.1 hd) rfl) r
theorem go_isub (K : Cx p s m meth c Z own nm bytes maxL ret) {x y : Int32} (hd : decode bytes pc = .ok (.isub, 1))  (hq : pc + 1 = q) (r : Go p l e R s m args below meth c n0 Q h k n (mkF m q ls (.int (x - y) :: st))) : Go p l e R s m args below meth c n0 Q h k n (mkF m pc ls (.int y :: .int x :: st)) := by
  subst hq; exact Go.of (fun T tg A => XS.isub A K.1 rfl (hb K.2.2.2.1 hd) rfl) r
theorem go_iand (K : Cx p s m meth c Z own nm bytes maxL ret) {x y : Int32} (hd : decode bytes pc = .ok (.iand, 1))  (hq : pc + 1 = q) (r : Go p l e R s m args below meth c n0 Q h k n (mkF m q ls (.int (x &&& y) :: st))) : Go p l e R s m args below meth c n0 Q h k n (mkF m pc ls (.int y :: .int x :: st)) := by
  subst hq; exact Go.of (fun T tg A => XS.iand A K.1 rfl (hb K.2.2.2.1 hd) rfl) r
theorem go_imul (K : Cx p s m meth c Z own nm bytes maxL ret) {x y : Int32} (hd : decode bytes pc = .ok (.imul, 1))  (hq : pc + 1 = q) (r : Go p l e R s m args below meth c n0 Q h k n (mkF m q ls (.int (x * y) :: st))) : Go p l e R s m args below meth c n0 Q h k n (mkF m pc ls (.int y :: .int x :: st)) := by
  subst hq; exact Go.of (fun T tg A => XS.imul A K.1 rfl (hb K.2.2.2.1 hd) rfl) r
theorem go_ixor (K : Cx p s m meth c Z own nm bytes maxL ret) {x y : Int32} (hd : decode bytes pc = .ok (.ixor, 1))  (hq : pc + 1 = q) (r : Go p l e R s m args below meth c n0 Q h k n (mkF m q ls (.int (x ^^^ y) :: st))) : Go p l e R s m args below meth c n0 Q h k n (mkF m pc ls (.int y :: .int x :: st)) := by
  subst hq; exact Go.of (fun T tg A => XT.ixor A K.1 rfl (hb K.2.2.2.1 hd) rfl) r
theorem go_ior (K : Cx p s m meth c Z own nm bytes maxL ret) {x y : Int32} (hd : decode bytes pc = .ok (.ior, 1))  (hq : pc + 1 = q) (r : Go p l e R s m args below meth c n0 Q h k n (mkF m q ls (.int (x ||| y) :: st))) : Go p l e R s m args below meth c n0 Q h k n (mkF m pc ls (.int y :: .int x :: st)) := by
  subst hq; exact Go.of (fun T tg A => XT.ior A K.1 rfl (hb K.2.2.2.1 hd) rfl) r
theorem go_ishl (K : Cx p s m meth c Z own nm bytes maxL ret) {x y : Int32} (hd : decode bytes pc = .ok (.ishl, 1))  (hq : pc + 1 = q) (r : Go p l e R s m args below meth c n0 Q h k n (mkF m q ls (.int (x <<< (y &&& 31)) :: st))) : Go p l e R s m args below meth c n0 Q h k n (mkF m pc ls (.int y :: .int x :: st)) := by
  subst hq; exact Go.of (fun T tg A => XT.ishl A K.1 rfl (hb K.2.2.2.1 hd) rfl) r
theorem go_ishr (K : Cx p s m meth c Z own nm bytes maxL ret) {x y : Int32} (hd : decode bytes pc = .ok (.ishr, 1))  (hq : pc + 1 = q) (r : Go p l e R s m args below meth c n0 Q h k n (mkF m q ls (.int (x >>> (y &&& 31)) :: st))) : Go p l e R s m args below meth c n0 Q h k n (mkF m pc ls (.int y :: .int x :: st)) := by
  subst hq; exact Go.of (fun T tg A => XT.ishr A K.1 rfl (hb K.2.2.2.1 hd) rfl) r
theorem go_iushr (K : Cx p s m meth c Z own nm bytes maxL ret) {x y : Int32} (hd : decode bytes pc = .ok (.iushr, 1))  (hq : pc + 1 = q) (r : Go p l e R s m args below meth c n0 Q h k n (mkF m q ls (.int (XT.ushr x y) :: st))) : Go p l e R s m args below meth c n0 Q h k n (mkF m pc ls (.int y :: .int x :: st)) := by
  subst hq; exact Go.of (fun T tg A => XT.iushr A K.1 rfl (hb K.2.2.2.1 hd) rfl) r
theorem go_ladd (K : Cx p s m meth c Z own nm bytes maxL ret) {x y : Int64} (hd : decode bytes pc = .ok (.ladd, 1))  (hq : pc + 1 = q) (r : Go p l e R s m args below meth c n0 Q h k n (mkF m q ls (.long (x + y) :: st))) : Go p l e R s m args below meth c n0 Q h k n (mkF m pc ls (.long y :: .long x :: st)) := by
  subst hq; exact Go.of (fun T tg A => XT.ladd A K.1 rfl (hb K.2.2.2.1 hd) rfl) r
theorem go_lsub (K : Cx p s m meth c Z own nm bytes maxL ret) {x y : Int64} (hd : decode bytes pc = .ok (.lsub, 1))  (hq : pc + 1 = q) (r : Go p l e R s m args below meth c n0 Q h k n (mkF m q ls (.long (x - y) :: st))) : Go p l e R s m args below meth c n0 Q h k n (mkF m pc ls (.long y :: .long x :: st)) := by
  subst hq; exact Go.of (fun T tg A => XT.lsub A K.1 rfl (hb K.2.2.2.1 hd) rfl) r
theorem go_lmul (K : Cx p s m meth c Z own nm bytes maxL ret) {x y : Int64} (hd : decode bytes pc = .ok (.lmul, 1))  (hq : pc + 1 = q) (r : Go p l e R s m args below meth c n0 Q h k n (mkF m q ls (.long (x * y) :: st))) : Go p l e R s m args below meth c n0 Q h k n (mkF m pc ls (.long y :: .long x :: st)) := by
  subst hq; exact Go.of (fun T tg A => XT.lmul A K.1 rfl (hb K.2.2.2.1 hd) rfl) r
theorem go_land (K : Cx p s m meth c Z own nm bytes maxL ret) {x y : Int64} (hd : decode bytes pc = .ok (.land, 1))  (hq : pc + 1 = q) (r : Go p l e R s m args below meth c n0 Q h k n (mkF m q ls (.long (x &&& y) :: st))) : Go p l e R s m args below meth c n0 Q h k n (mkF m pc ls (.long y :: .long x :: st)) := by
  subst hq; exact Go.of (fun T tg A => XT.land A K.1 rfl (hb K.2.2.2.1 hd) rfl) r
theorem go_lor (K : Cx p s m meth c Z own nm bytes maxL ret) {x y : Int64} (hd : decode bytes pc = .ok (.lor, 1))  (hq : pc + 1 = q) (r : Go p l e R s m args below meth c n0 Q h k n (mkF m q ls (.long (x ||| y) :: st))) : Go p l e R s m args below meth c n0 Q h k n (mkF m pc ls (.long y :: .long x :: st)) := by
  subst hq; exact Go.of (fun T tg A => XT.lor A K.1 rfl (hb K.2.2.2.1 hd) rfl) r
theorem go_lxor (K : Cx p s m meth c Z own nm bytes maxL ret) {x y : Int64} (hd : decode bytes pc = .ok (.lxor, 1))  (hq : pc + 1 = q) (r : Go p l e R s m args below meth c n0 Q h k n (mkF m q ls (.long (x ^^^ y) :: st))) : Go p l e R s m args below meth c n0 Q h k n (mkF m pc ls (.long y :: .long x :: st)) := by
  subst hq; exact Go.of (fun T tg A => XT.lxor A K.1 rfl (hb K.2.2.2.1 hd) rfl) r
theorem go_lshl (K : Cx p s m meth c Z own nm bytes maxL ret) {x : Int64} {y : Int32} (hd : decode bytes pc = .ok (.lshl, 1))  (hq : pc + 1 = q) (r : Go p l e R s m args below meth c n0 Q h k n (mkF m q ls (.long (x <<< (y.toInt64 &&& 63)) :: st))) : Go p l e R s m args below meth c n0 Q h k n (mkF m pc ls (.int y :: .long x :: st)) := by
  subst hq; exact Go.of (fun T tg A => XT.lshl A K.1 rfl (hb K.2.2.2.1 hd) rfl) r
theorem go_lshr (K : Cx p s m meth c Z own nm bytes maxL ret) {x : Int64} {y : Int32} (hd : decode bytes pc = .ok (.lshr, 1))  (hq : pc + 1 = q) (r : Go p l e R s m args below meth c n0 Q h k n (mkF m q ls (.long (x >>> (y.toInt64 &&& 63)) :: st))) : Go p l e R s m args below meth c n0 Q h k n (mkF m pc ls (.int y :: .long x :: st)) := by
  subst hq; exact Go.of (fun T tg A => XT.lshr A K.1 rfl (hb K.2.2.2.1 hd) rfl) r
theorem go_lushr (K : Cx p s m meth c Z own nm bytes maxL ret) {x : Int64} {y : Int32} (hd : decode bytes pc = .ok (.lushr, 1))  (hq : pc + 1 = q) (r : Go p l e R s m args below meth c n0 Q h k n (mkF m q ls (.long (XT.ushrL x y) :: st))) : Go p l e R s m args below meth c n0 Q h k n (mkF m pc ls (.int y :: .long x :: st)) := by
  subst hq; exact Go.of (fun T tg A => XT.lushr A K.1 rfl (hb K.2.2.2.1 hd) rfl) r
theorem go_idiv (K : Cx p s m meth c Z own nm bytes maxL ret) {x y : Int32} (hd : decode bytes pc = .ok (.idiv, 1)) (hy : y ≠ 0) (hq : pc + 1 = q) (r : Go p l e R s m args below meth c n0 Q h k n (mkF m q ls (.int (x / y) :: st))) : Go p l e R s m args below meth c n0 Q h k n (mkF m pc ls (.int y :: .int x :: st)) := by
  subst hq; exact Go.of (fun T tg A => XS.idiv A K.1 rfl (hb K.2.2.2.1 hd) rfl hy) r
theorem go_irem (K : Cx p s m meth c Z own nm bytes maxL ret) {x y : Int32} (hd : decode bytes pc = .ok (.irem, 1)) (hy : y ≠ 0) (hq : pc + 1 = q) (r : Go p l e R s m args below meth c n0 Q h k n (mkF m q ls (.int (x % y) :: st))) : Go p l e R s m args below meth c n0 Q h k n (mkF m pc ls (.int y :: .int x :: st)) := by
  subst hq; exact Go.ofX (fun T L tg S _ => iremM S K.1 rfl (hb K.2.2.2.1 hd) rfl hy) r
theorem go_ldiv (K : Cx p s m meth c Z own nm bytes maxL ret) {x y : Int64} (hd : decode bytes pc = .ok (.ldiv, 1)) (hy : y ≠ 0) (hq : pc + 1 = q) (r : Go p l e R s m args below meth c n0 Q h k n (mkF m q ls (.long (x / y) :: st))) : Go p l e R s m args below meth c n0 Q h k n (mkF m pc ls (.long y :: .long x :: st)) := by
  subst hq; exact Go.of (fun T tg A => XT.ldiv A K.1 rfl (hb K.2.2.2.1 hd) rfl hy) r
theorem go_lrem (K : Cx p s m meth c Z own nm bytes maxL ret) {x y : Int64} (hd : decode bytes pc = .ok (.lrem, 1)) (hy : y ≠ 0) (hq : pc + 1 = q) (r : Go p l e R s m args below meth c n0 Q h k n (mkF m q ls (.long (x % y) :: st))) : Go p l e R s m args below meth c n0 Q h k n (mkF m pc ls (.long y :: .long x :: st)) := by
  subst hq; rw [← lrem_mod x y] at r; exact Go.of (fun T tg A => XT.lrem A K.1 rfl (hb K.2.2.2.1 hd) rfl hy) r
theorem go_ineg (K : Cx p s m meth c Z own nm bytes maxL ret) {x : Int32} (hd : decode bytes pc = .ok (.ineg, 1))  (hq : pc + 1 = q) (r : Go p l e R s m args below meth c n0 Q h k n (mkF m q ls (.int (-x) :: st))) : Go p l e R s m args below meth c n0 Q h k n (mkF m pc ls (.int x :: st)) := by
  subst hq; exact Go.of (fun T tg A => XS.ineg A K.1 rfl (hb K.2.2.2.1 hd) rfl) r
theorem go_lneg (K : Cx p s m meth c Z own nm bytes maxL ret) {x : Int64} (hd : decode bytes pc = .ok (.lneg, 1))  (hq : pc + 1 = q) (r : Go p l e R s m args below meth c n0 Q h k n (mkF m q ls (.long (-x) :: st))) : Go p l e R s m args below meth c n0 Q h k n (mkF m pc ls (.long x :: st)) := by
  subst hq; exact Go.of (fun T tg A => XT.lneg A K.1 rfl (hb K.2.2.2.1 hd) rfl) r
theorem go_i2l (K : Cx p s m meth c Z own nm bytes maxL ret) {x : Int32} (hd : decode bytes pc = .ok (.i2l, 1))  (hq : pc + 1 = q) (r : Go p l e R s m args below meth c n0 Q h k n (mkF m q ls (.long (x.toInt64) :: st))) : Go p l e R s m args below meth c n0 Q h k n (mkF m pc ls (.int x :: st)) := by
  subst hq; exact Go.of (fun T tg A => XT.i2l A K.1 rfl (hb K.2.2.2.1 hd) rfl) r
theorem go_l2i (K : Cx p s m meth c Z own nm bytes maxL ret) {x : Int64} (hd : decode bytes pc = .ok (.l2i, 1))  (hq : pc + 1 = q) (r : Go p l e R s m args below meth c n0 Q h k n (mkF m q ls (.int (x.toInt32) :: st))) : Go p l e R s m args below meth c n0 Q h k n (mkF m pc ls (.long x :: st)) := by
  subst hq; exact Go.of (fun T tg A => XT.l2i A K.1 rfl (hb K.2.2.2.1 hd) rfl) r
theorem go_i2b (K : Cx p s m meth c Z own nm bytes maxL ret) {x : Int32} (hd : decode bytes pc = .ok (.i2b, 1))  (hq : pc + 1 = q) (r : Go p l e R s m args below meth c n0 Q h k n (mkF m q ls (.int (x.toInt8.toInt32) :: st))) : Go p l e R s m args below meth c n0 Q h k n (mkF m pc ls (.int x :: st)) := by
  subst hq; exact Go.of (fun T tg A => XT.i2b A K.1 rfl (hb K.2.2.2.1 hd) rfl) r
theorem go_i2c (K : Cx p s m meth c Z own nm bytes maxL ret) {x : Int32} (hd : decode bytes pc = .ok (.i2c, 1))  (hq : pc + 1 = q) (r : Go p l e R s m args below meth c n0 Q h k n (mkF m q ls (.int (x.toUInt32.toUInt16.toUInt32.toInt32) :: st))) : Go p l e R s m args below meth c n0 Q h k n (mkF m pc ls (.int x :: st)) := by
  subst hq; exact Go.of (fun T tg A => XT.i2c A K.1 rfl (hb K.2.2.2.1 hd) rfl) r
theorem go_i2s (K : Cx p s m meth c Z own nm bytes maxL ret) {x : Int32} (hd : decode bytes pc = .ok (.i2s, 1))  (hq : pc + 1 = q) (r : Go p l e R s m args below meth c n0 Q h k n (mkF m q ls (.int (x.toInt16.toInt32) :: st))) : Go p l e R s m args below meth c n0 Q h k n (mkF m pc ls (.int x :: st)) := by
  subst hq; exact Go.of (fun T tg A => XT.i2s A K.1 rfl (hb K.2.2.2.1 hd) rfl) r
theorem go_lcmp (K : Cx p s m meth c Z own nm bytes maxL ret) {x y : Int64} (hd : decode bytes pc = .ok (.lcmp, 1))  (hq : pc + 1 = q) (r : Go p l e R s m args below meth c n0 Q h k n (mkF m q ls (.int (XT.cmpL x y) :: st))) : Go p l e R s m args below meth c n0 Q h k n (mkF m pc ls (.long y :: .long x :: st)) := by
  subst hq; exact Go.of (fun T tg A => XT.lcmp A K.1 rfl (hb K.2.2.2.1 hd) rfl) r
theorem go_dup (K : Cx p s m meth c Z own nm bytes maxL ret) {x : Value} (hd : decode bytes pc = .ok (.dup, 1)) (hc : x.category = 1) (hq : pc + 1 = q) (r : Go p l e R s m args below meth c n0 Q h k n (mkF m q ls (x :: x :: st))) : Go p l e R s m args below meth c n0 Q h k n (mkF m pc ls (x :: st)) := by
  subst hq; exact Go.of (fun T tg A => XS.dup A K.1 rfl (hb K.2.2.2.1 hd) rfl hc) r
theorem go_pop (K : Cx p s m meth c Z own nm bytes maxL ret) {x : Value} (hd : decode bytes pc = .ok (.pop, 1)) (hc : x.category = 1) (hq : pc + 1 = q) (r : Go p l e R s m args below meth c n0 Q h k n (mkF m q ls st)) : Go p l e R s m args below meth c n0 Q h k n (mkF m pc ls (x :: st)) := by
  subst hq; exact Go.of (fun T tg A => XT.pop A K.1 rfl (hb K.2.2.2.1 hd) rfl hc) r
theorem go_dup_x1 (K : Cx p s m meth c Z own nm bytes maxL ret) {x y : Value} (hd : decode bytes pc = .ok (.dup_x1, 1)) (hc : x.category = 1) (hc2 : y.category = 1) (hq : pc + 1 = q) (r : Go p l e R s m args below meth c n0 Q h k n (mkF m q ls (x :: y :: x :: st))) : Go p l e R s m args below meth c n0 Q h k n (mkF m pc ls (x :: y :: st)) := by
  subst hq; exact Go.of (fun T tg A => XT.dupX1 A K.1 rfl (hb K.2.2.2.1 hd) rfl hc hc2) r
theorem go_dup2L (K : Cx p s m meth c Z own nm bytes maxL ret) {x : Int64} (hd : decode bytes pc = .ok (.dup2, 1))  (hq : pc + 1 = q) (r : Go p l e R s m args below meth c n0 Q h k n (mkF m q ls (.long x :: .long x :: st))) : Go p l e R s m args below meth c n0 Q h k n (mkF m pc ls (.long x :: st)) := by
  subst hq; exact Go.of (fun T tg A => XT.dup2L A K.1 rfl (hb K.2.2.2.1 hd) rfl) r
theorem go_istoreN (K : Cx p s m meth c Z own nm bytes maxL ret) {i : Fin 4} {x : Int32} (hd : decode bytes pc = .ok (.istore_n i, 1)) (l' : Array Slot) (hl : storeLocals ls i.val (.int x) = some l') (hq : pc + 1 = q) (r : Go p l e R s m args below meth c n0 Q h k n (mkF m q l' st)) : Go p l e R s m args below meth c n0 Q h k n (mkF m pc ls (.int x :: st)) := by
  subst hq; exact Go.of (fun T tg A => XS.istoreN A K.1 rfl (hb K.2.2.2.1 hd) rfl hl) r
theorem go_istore (K : Cx p s m meth c Z own nm bytes maxL ret) {i : Nat} {x : Int32} (hd : decode bytes pc = .ok (.istore i, 2)) (l' : Array Slot) (hl : storeLocals ls i (.int x) = some l') (hq : pc + 2 = q) (r : Go p l e R s m args below meth c n0 Q h k n (mkF m q l' st)) : Go p l e R s m args below meth c n0 Q h k n (mkF m pc ls (.int x :: st)) := by
  subst hq; exact Go.of (fun T tg A => XS.istore A K.1 rfl (hb K.2.2.2.1 hd) rfl hl) r
theorem go_lstoreN (K : Cx p s m meth c Z own nm bytes maxL ret) {i : Fin 4} {x : Int64} (hd : decode bytes pc = .ok (.lstore_n i, 1)) (l' : Array Slot) (hl : storeLocals ls i.val (.long x) = some l') (hq : pc + 1 = q) (r : Go p l e R s m args below meth c n0 Q h k n (mkF m q l' st)) : Go p l e R s m args below meth c n0 Q h k n (mkF m pc ls (.long x :: st)) := by
  subst hq; exact Go.of (fun T tg A => XT.lstoreN A K.1 rfl (hb K.2.2.2.1 hd) rfl hl) r
theorem go_lstore (K : Cx p s m meth c Z own nm bytes maxL ret) {i : Nat} {x : Int64} (hd : decode bytes pc = .ok (.lstore i, 2)) (l' : Array Slot) (hl : storeLocals ls i (.long x) = some l') (hq : pc + 2 = q) (r : Go p l e R s m args below meth c n0 Q h k n (mkF m q l' st)) : Go p l e R s m args below meth c n0 Q h k n (mkF m pc ls (.long x :: st)) := by
  subst hq; exact Go.of (fun T tg A => XT.lstore A K.1 rfl (hb K.2.2.2.1 hd) rfl hl) r
theorem go_astoreN (K : Cx p s m meth c Z own nm bytes maxL ret) {i : Fin 4} {x : Value} (hd : decode bytes pc = .ok (.astore_n i, 1)) (l' : Array Slot) (hv : x.isRef = true) (hl : storeLocals ls i.val x = some l') (hq : pc + 1 = q) (r : Go p l e R s m args below meth c n0 Q h k n (mkF m q l' st)) : Go p l e R s m args below meth c n0 Q h k n (mkF m pc ls (x :: st)) := by
  subst hq; exact Go.of (fun T tg A => XS.astoreN A K.1 rfl (hb K.2.2.2.1 hd) rfl hv hl) r
theorem go_astore (K : Cx p s m meth c Z own nm bytes maxL ret) {i : Nat} {x : Value} (hd : decode bytes pc = .ok (.astore i, 2)) (l' : Array Slot) (hv : x.isRef = true) (hl : storeLocals ls i x = some l') (hq : pc + 2 = q) (r : Go p l e R s m args below meth c n0 Q h k n (mkF m q l' st)) : Go p l e R s m args below meth c n0 Q h k n (mkF m pc ls (x :: st)) := by
  subst hq; exact Go.of (fun T tg A => XS.astore A K.1 rfl (hb K.2.2.2.1 hd) rfl hv hl) r
theorem go_iinc (K : Cx p s m meth c Z own nm bytes maxL ret) {i : Nat} {z : Int} {x : Int32} (hd : decode bytes pc = .ok (.iinc i z, 3)) (v : Int32) (l' : Array Slot) (hv : Int32.ofInt z = v) (hl : ls[i]? = some (.val (.int x))) (hl' : storeLocals ls i (.int (x + v)) = some l') (hq : pc + 3 = q) (r : Go p l e R s m args below meth c n0 Q h k n (mkF m q l' st)) : Go p l e R s m args below meth c n0 Q h k n (mkF m pc ls st) := by
  subst hq; exact Go.of (fun T tg A => XT.iincV A K.1 rfl v (hb K.2.2.2.1 hd) hv hl hl') r
theorem go_goto (K : Cx p s m meth c Z own nm bytes maxL ret)  {o : Int} (hd : decode bytes pc = .ok (.goto o, 3))  (ho : 0 ≤ (pc : Int) + o) (hq : ((pc : Int) + o).toNat = q) (r : Go p l e R s m args below meth c n0 Q h k n (mkF m q ls st)) : Go p l e R s m args below meth c n0 Q h k n (mkF m pc ls st) := by
  exact Go.of (fun T tg A => XS.goto A K.1 rfl rfl (hb K.2.2.2.1 hd) ho hq) r
def cP : ClassFile.Cond → Int32 → Int32 → Prop
  | .eq, x, y => x = y
  | .ne, x, y => ¬ x = y
  | .lt, x, y => x < y
  | .ge, x, y => ¬ x < y
  | .gt, x, y => y < x
  | .le, x, y => ¬ y < x
theorem cP_t {cd : ClassFile.Cond} {x y : Int32} (h : cP cd x y) : if_icmp.holds cd x y = true := by
  cases cd
  · exact XT.ii_eq_t h
  · exact XT.ii_ne_t h
  · exact XT.ii_lt_t h
  · exact XT.ii_ge_t h
  · exact XT.ii_gt_t h
  · exact XT.ii_le_t h
def cN : ClassFile.Cond → Int32 → Int32 → Prop
  | .eq, x, y => ¬ x = y
  | .ne, x, y => x = y
  | .lt, x, y => ¬ x < y
  | .ge, x, y => x < y
  | .gt, x, y => ¬ y < x
  | .le, x, y => y < x
theorem cN_no {cd : ClassFile.Cond} {x y : Int32} {G : Prop} (h : cP cd x y) (h' : cN cd x y) : G := by
  cases cd <;> first | exact absurd h h' | exact absurd h' h
theorem cN_no2 {cd : ClassFile.Cond} {x y : Int32} {G : Prop} (h' : cN cd x y) (h : cP cd x y) : G := cN_no h h'
theorem cP_or (cd : ClassFile.Cond) (x y : Int32) : cP cd x y ∨ cN cd x y := by
  cases cd
  · exact Classical.em (x = y)
  · exact (Classical.em (x = y)).symm
  · exact Classical.em (x < y)
  · exact (Classical.em (x < y)).symm
  · exact Classical.em (y < x)
  · exact (Classical.em (y < x)).symm
theorem cP_f {cd : ClassFile.Cond} {x y : Int32} (h : cN cd x y) : if_icmp.holds cd x y = false := by
  cases cd
  · exact XT.ii_eq_f h
  · exact XT.ii_ne_f h
  · exact XT.ii_lt_f h
  · exact XT.ii_ge_f h
  · exact XT.ii_gt_f h
  · exact XT.ii_le_f h

theorem go_icmp (K : Cx p s m meth c Z own nm bytes maxL ret) {cd : ClassFile.Cond} {x y : Int32} {o : Int} {q' : Nat} (hd : decode bytes pc = .ok (.if_icmp cd o, 3)) (ho : 0 ≤ (pc : Int) + o) (hq : ((pc : Int) + o).toNat = q) (hq' : pc + 3 = q') (r : cP cd x y → Go p l e R s m args below meth c n0 Q h k n (mkF m q ls st)) (r' : cN cd x y → Go p l e R s m args below meth c n0 Q h k n (mkF m q' ls st)) : Go p l e R s m args below meth c n0 Q h k n (mkF m pc ls (.int y :: .int x :: st)) := by
  subst hq'; rcases cP_or cd x y with hc | hc
  · exact Go.of (fun T tg A => XS.icmpYes A K.1 rfl rfl (hb K.2.2.2.1 hd) rfl (cP_t hc) ho hq) (r hc)
  · exact Go.of (fun T tg A => XS.icmpNo A K.1 rfl (hb K.2.2.2.1 hd) rfl (cP_f hc)) (r' hc)
theorem go_if0 (K : Cx p s m meth c Z own nm bytes maxL ret) {cd : ClassFile.Cond} {x : Int32} {o : Int} {q' : Nat} (hd : decode bytes pc = .ok (.ifCond cd o, 3)) (ho : 0 ≤ (pc : Int) + o) (hq : ((pc : Int) + o).toNat = q) (hq' : pc + 3 = q') (r : cP cd x 0 → Go p l e R s m args below meth c n0 Q h k n (mkF m q ls st)) (r' : cN cd x 0 → Go p l e R s m args below meth c n0 Q h k n (mkF m q' ls st)) : Go p l e R s m args below meth c n0 Q h k n (mkF m pc ls (.int x :: st)) := by
  subst hq'; rcases cP_or cd x 0 with hc | hc
  · exact Go.of (fun T tg A => XS.ifYes A K.1 rfl rfl (hb K.2.2.2.1 hd) rfl (by rw [if0]; exact cP_t hc) ho hq) (r hc)
  · exact Go.of (fun T tg A => XS.ifNo A K.1 rfl (hb K.2.2.2.1 hd) rfl (by rw [if0]; exact cP_f hc)) (r' hc)
def cL : ClassFile.Cond → Int64 → Int64 → Prop
  | .eq, x, y => x = y
  | .ne, x, y => ¬ x = y
  | .lt, x, y => x < y
  | .ge, x, y => ¬ x < y
  | .gt, x, y => y < x
  | .le, x, y => ¬ y < x
theorem cL_t {cd : ClassFile.Cond} {x y : Int64} (h : cL cd x y) : ifCond.holds cd (XT.cmpL x y) = true := by
  cases cd
  · exact XT.ll_eq_t h
  · exact XT.ll_ne_t h
  · exact XT.ll_lt_t h
  · exact XT.ll_ge_t h
  · exact XT.ll_gt_t h
  · exact XT.ll_le_t h
def cLN : ClassFile.Cond → Int64 → Int64 → Prop
  | .eq, x, y => ¬ x = y
  | .ne, x, y => x = y
  | .lt, x, y => ¬ x < y
  | .ge, x, y => x < y
  | .gt, x, y => ¬ y < x
  | .le, x, y => y < x
theorem cLN_no {cd : ClassFile.Cond} {x y : Int64} {G : Prop} (h : cL cd x y) (h' : cLN cd x y) : G := by
  cases cd <;> first | exact absurd h h' | exact absurd h' h
theorem cLN_no2 {cd : ClassFile.Cond} {x y : Int64} {G : Prop} (h' : cLN cd x y) (h : cL cd x y) : G := cLN_no h h'
theorem cL_or (cd : ClassFile.Cond) (x y : Int64) : cL cd x y ∨ cLN cd x y := by
  cases cd
  · exact Classical.em (x = y)
  · exact (Classical.em (x = y)).symm
  · exact Classical.em (x < y)
  · exact (Classical.em (x < y)).symm
  · exact Classical.em (y < x)
  · exact (Classical.em (y < x)).symm
theorem cL_f {cd : ClassFile.Cond} {x y : Int64} (h : cLN cd x y) : ifCond.holds cd (XT.cmpL x y) = false := by
  cases cd
  · exact XT.ll_eq_f h
  · exact XT.ll_ne_f h
  · exact XT.ll_lt_f h
  · exact XT.ll_ge_f h
  · exact XT.ll_gt_f h
  · exact XT.ll_le_f h

theorem go_ifL (K : Cx p s m meth c Z own nm bytes maxL ret) {cd : ClassFile.Cond} {x y : Int64} {o : Int} {q' : Nat} (hd : decode bytes pc = .ok (.ifCond cd o, 3)) (ho : 0 ≤ (pc : Int) + o) (hq : ((pc : Int) + o).toNat = q) (hq' : pc + 3 = q') (r : cL cd x y → Go p l e R s m args below meth c n0 Q h k n (mkF m q ls st)) (r' : cLN cd x y → Go p l e R s m args below meth c n0 Q h k n (mkF m q' ls st)) : Go p l e R s m args below meth c n0 Q h k n (mkF m pc ls (.int (XT.cmpL x y) :: st)) := by
  subst hq'; rcases cL_or cd x y with hc | hc
  · exact Go.of (fun T tg A => XS.ifYes A K.1 rfl rfl (hb K.2.2.2.1 hd) rfl (cL_t hc) ho hq) (r hc)
  · exact Go.of (fun T tg A => XS.ifNo A K.1 rfl (hb K.2.2.2.1 hd) rfl (cL_f hc)) (r' hc)
theorem go_ifnullY (K : Cx p s m meth c Z own nm bytes maxL ret)  {o : Int} (hd : decode bytes pc = .ok (.ifnull o, 3))  (ho : 0 ≤ (pc : Int) + o) (hq : ((pc : Int) + o).toNat = q) (r : Go p l e R s m args below meth c n0 Q h k n (mkF m q ls st)) : Go p l e R s m args below meth c n0 Q h k n (mkF m pc ls (.null :: st)) := by
  exact Go.of (fun T tg A => XS.ifnullYes A K.1 rfl rfl (hb K.2.2.2.1 hd) rfl ho hq) r
theorem go_ifnullN (K : Cx p s m meth c Z own nm bytes maxL ret) {a : Addr} {o : Int} (hd : decode bytes pc = .ok (.ifnull o, 3))  (hq : pc + 3 = q) (r : Go p l e R s m args below meth c n0 Q h k n (mkF m q ls st)) : Go p l e R s m args below meth c n0 Q h k n (mkF m pc ls (.ref a :: st)) := by
  subst hq; exact Go.of (fun T tg A => XS.ifnullNo A K.1 rfl (hb K.2.2.2.1 hd) rfl) r
theorem go_ifnonnullY (K : Cx p s m meth c Z own nm bytes maxL ret) {a : Addr} {o : Int} (hd : decode bytes pc = .ok (.ifnonnull o, 3))  (ho : 0 ≤ (pc : Int) + o) (hq : ((pc : Int) + o).toNat = q) (r : Go p l e R s m args below meth c n0 Q h k n (mkF m q ls st)) : Go p l e R s m args below meth c n0 Q h k n (mkF m pc ls (.ref a :: st)) := by
  exact Go.of (fun T tg A => XT.ifnonnullYes A K.1 rfl rfl (hb K.2.2.2.1 hd) rfl ho hq) r
theorem go_ifnonnullN (K : Cx p s m meth c Z own nm bytes maxL ret) {o : Int} (hd : decode bytes pc = .ok (.ifnonnull o, 3))  (hq : pc + 3 = q) (r : Go p l e R s m args below meth c n0 Q h k n (mkF m q ls st)) : Go p l e R s m args below meth c n0 Q h k n (mkF m pc ls (.null :: st)) := by
  subst hq; exact Go.of (fun T tg A => XT.ifnonnullNo A K.1 rfl (hb K.2.2.2.1 hd) rfl) r
def cA : ClassFile.ACond → Value → Value → Prop
  | .eq, x, y => x = y
  | .ne, x, y => ¬ x = y
def cAN : ClassFile.ACond → Value → Value → Prop
  | .eq, x, y => ¬ x = y
  | .ne, x, y => x = y
theorem cAN_no {cd : ClassFile.ACond} {x y : Value} {G : Prop} (h : cA cd x y) (h' : cAN cd x y) : G := by
  cases cd <;> first | exact absurd h h' | exact absurd h' h
theorem cAN_no2 {cd : ClassFile.ACond} {x y : Value} {G : Prop} (h' : cAN cd x y) (h : cA cd x y) : G := cAN_no h h'
theorem cA_or (cd : ClassFile.ACond) (x y : Value) : cA cd x y ∨ cAN cd x y := by
  cases cd
  · exact Classical.em (x = y)
  · exact (Classical.em (x = y)).symm
theorem cA_v {cd : ClassFile.ACond} {x y : Value} {b : Bool} (hb : decide (x = y) = b) : (acV cd b = true ↔ cA cd x y) := by
  subst hb; cases cd <;> simp [acV, cA]

theorem go_acmp (K : Cx p s m meth c Z own nm bytes maxL ret) {cd : ClassFile.ACond} {x y : Value} {o : Int} {q' : Nat} (hd : decode bytes pc = .ok (.if_acmp cd o, 3)) (h1 : x.isRef = true) (h2 : y.isRef = true) (ho : 0 ≤ (pc : Int) + o) (hq : ((pc : Int) + o).toNat = q) (hq' : pc + 3 = q') (r : cA cd x y → Go p l e R s m args below meth c n0 Q h k n (mkF m q ls st)) (r' : cAN cd x y → Go p l e R s m args below meth c n0 Q h k n (mkF m q' ls st)) : Go p l e R s m args below meth c n0 Q h k n (mkF m pc ls (y :: x :: st)) := by
  subst hq'; rcases cA_or cd x y with hc | hc
  · exact Go.ofX (fun T L tg S _ => acmp S K.1 rfl h1 h2 rfl (hb K.2.2.2.1 hd) rfl rfl ho (by rw [if_pos ((cA_v rfl).mpr hc)]; exact hq.symm)) (r hc)
  · exact Go.ofX (fun T L tg S _ => acmp S K.1 rfl h1 h2 rfl (hb K.2.2.2.1 hd) rfl rfl ho (by rw [if_neg (fun z => cAN_no ((cA_v rfl).mp z) hc)])) (r' hc)
theorem go_ldcI (K : Cx p s m meth c Z own nm bytes maxL ret) {i : Nat} {v : Int32} (wc : (Cond.constant own i v).before a0 Z = true) (hd : decode bytes pc = .ok (.ldc i, 2)) (hq : pc + 2 = q) (r : Go p l e R s m args below meth c n0 Q h k n (mkF m q ls (.int v :: st))) : Go p l e R s m args below meth c n0 Q h k n (mkF m pc ls st) := by
  subst hq; exact Go.ofX (fun T L tg S _ => S.ldcI K.1 K.2.2.1 (mvT K.2.1 wc) rfl (hb K.2.2.2.1 hd)) r
theorem go_ldcWI (K : Cx p s m meth c Z own nm bytes maxL ret) {i : Nat} {v : Int32} (wc : (Cond.constant own i v).before a0 Z = true) (hd : decode bytes pc = .ok (.ldc_w i, 3)) (hq : pc + 3 = q) (r : Go p l e R s m args below meth c n0 Q h k n (mkF m q ls (.int v :: st))) : Go p l e R s m args below meth c n0 Q h k n (mkF m pc ls st) := by
  subst hq; exact Go.ofX (fun T L tg S _ => S.ldcWI K.1 K.2.2.1 (mvT K.2.1 wc) rfl (hb K.2.2.2.1 hd)) r
theorem go_ldc2J (K : Cx p s m meth c Z own nm bytes maxL ret) {i : Nat} {v : Int64} (wc : (Cond.constantLong own i v).before a0 Z = true) (hd : decode bytes pc = .ok (.ldc2_w i, 3)) (hq : pc + 3 = q) (r : Go p l e R s m args below meth c n0 Q h k n (mkF m q ls (.long v :: st))) : Go p l e R s m args below meth c n0 Q h k n (mkF m pc ls st) := by
  subst hq; exact Go.ofX (fun T L tg S _ => S.ldc2J K.1 K.2.2.1 (mvT K.2.1 wc) rfl (hb K.2.2.2.1 hd)) r
theorem go_ldcF (K : Cx p s m meth c Z own nm bytes maxL ret) {i : Nat} {v : UInt32} (wc : (Cond.constantFloat own i v).before a0 Z = true) (hd : decode bytes pc = .ok (.ldc i, 2)) (hq : pc + 2 = q) (r : Go p l e R s m args below meth c n0 Q h k n (mkF m q ls (.float v :: st))) : Go p l e R s m args below meth c n0 Q h k n (mkF m pc ls st) := by
  subst hq; exact Go.ofX (fun T L tg S _ => S.ldcFloatC K.1 K.2.2.1 (mvT K.2.1 wc) (g := mkF m pc ls st) rfl (hb K.2.2.2.1 hd) tg) r
theorem lswAt {tb : Tables} [Ours tb] {e : Env} {below : List Frame} {T target : State} {m : MethodId} {c : Code} {g : JFrame} (h : At T m c below) (hx : tb.exec = Jvm.exec) (hg : g.method = m) {dflt o : Int} {prs : Array (Int × Int)} {len pc0 pc' : Nat} (hpc : g.pc = pc0) (hd : decode c.code g.pc = .ok (.lookupswitch dflt prs, len)) {i : Int32} {rest : List Value} (hs : g.stack = .int i :: rest)
    (hinc : (prs.toList.zip (prs.toList.drop 1)).all (fun (a, next) => a.1 < next.1) = true) (hoff : lookupswitch.offset prs.toList dflt i.toInt = o) (ho : 0 ≤ (pc0 : Int) + o) (hp : ((pc0 : Int) + o).toNat = pc')
    (hr : Steps tb e below (T.setTop { g with pc := pc', stack := rest }) target) : Steps tb e below (T.setTop g) target := by
  subst hg hpc hp
  jvm_step h [h.top, hx, hd, hs, lookupswitch.wp_chain, hoff, ho]
  exact ⟨by simpa using hinc, hr⟩
theorem go_lsw (K : Cx p s m meth c Z own nm bytes maxL ret) {dflt o : Int} {prs : Array (Int × Int)} {len : Nat} {x : Int32} (hd : decode bytes pc = .ok (.lookupswitch dflt prs, len)) (hinc : (prs.toList.zip (prs.toList.drop 1)).all (fun (a, next) => a.1 < next.1) = true) (hoff : lookupswitch.offset prs.toList dflt x.toInt = o) (ho : 0 ≤ (pc : Int) + o) (hq : ((pc : Int) + o).toNat = q)
    (r : Go p l e R s m args below meth c n0 Q h k n (mkF m q ls st)) : Go p l e R s m args below meth c n0 Q h k n (mkF m pc ls (.int x :: st)) :=
  by exact Go.of (fun T tg A => lswAt (g := mkF m pc ls (.int x :: st)) A K.1 rfl (pc0 := pc) (pc' := q) rfl (hb K.2.2.2.1 hd) rfl hinc hoff ho hq) r
theorem go_tsw (K : Cx p s m meth c Z own nm bytes maxL ret) {dflt low high o : Int} {offs : Array Int} {len : Nat} {x : Int32} (hd : decode bytes pc = .ok (.tableswitch dflt low high offs, len)) (hin : ¬ (x.toInt < low ∨ x.toInt > high)) (hoff : offs[(x.toInt - low).toNat]? = some o) (ho : 0 ≤ (pc : Int) + o) (hq : ((pc : Int) + o).toNat = q)
    (r : Go p l e R s m args below meth c n0 Q h k n (mkF m q ls st)) : Go p l e R s m args below meth c n0 Q h k n (mkF m pc ls (.int x :: st)) :=
  by exact Go.of (fun T tg A => XS.tswIn (g := mkF m pc ls (.int x :: st)) A K.1 rfl (pc0 := pc) (pc' := q) rfl (hb K.2.2.2.1 hd) rfl hin hoff ho hq) r

theorem go_return (K : Cx p s m meth c Z own nm bytes maxL ret) (hd : decode bytes pc = .ok (.return_, 1)) (hr : ret = none) (hk : k ≤ R.cells) (hn : n ≤ R.slots) (hQ : Q none h) : Go p l e R s m args below meth c n0 Q h k n (mkF m pc ls []) := fun T L S N eT => by
  obtain ⟨fs, hr', hrun, hended, hW, hsame⟩ := S.leave (v := none) (fun _ => rfl) K.2.2.2.2.2.2.1
  exact ⟨_, _, S.returnOut K.1 (K.2.2.2.2.2.1.trans hr) (hb K.2.2.2.1 hd) hr', hrun, hended, _, _, rfl, ⟨by show Q none T.heap; rw [eT]; exact hQ, N⟩, ⟨_, rfl⟩, hW, hsame.mono hk hn⟩
theorem go_ret (K : Cx p s m meth c Z own nm bytes maxL ret) {v : Value} {t : FieldType} {i : Instr} (hd : decode bytes pc = .ok (i, 1)) (hr : ret = some t) (hnw : narrow t v = v) (hi : (i = .ireturn ∧ (t = .int ∨ t = .boolean ∨ t = .byte ∨ t = .char ∨ t = .short) ∧ ∃ z, v = .int z) ∨ (i = .lreturn ∧ t = .long ∧ ∃ z, v = .long z) ∨ (i = .dreturn ∧ t = .double ∧ ∃ z, v = .double z) ∨ (i = .freturn ∧ t = .float ∧ ∃ z, v = .float z) ∨ (i = .areturn ∧ t.isReference = true ∧ v.isRef = true)) (hk : k ≤ R.cells) (hn : n ≤ R.slots) (hQ : Q (some v) h) : Go p l e R s m args below meth c n0 Q h k n (mkF m pc ls (v :: st)) := fun T L S N eT => by
  obtain ⟨fs, hr', hrun, hended, hW, hsame⟩ := S.leave (v := some v) (fun z => by rw [K.2.2.2.2.2.1, hr] at z; cases z) K.2.2.2.2.2.2.1
  exact ⟨_, _, retOut S K.1 (K.2.2.2.2.2.1.trans hr) hnw hi (hb K.2.2.2.1 hd) hr', hrun, hended, _, _, rfl, ⟨by show Q (some v) T.heap; rw [eT]; exact hQ, N⟩, ⟨_, rfl⟩, hW, hsame.mono hk hn⟩
theorem go_iret (K : Cx p s m meth c Z own nm bytes maxL ret) {v : Int32} {t : FieldType} (hd : decode bytes pc = .ok (.ireturn, 1)) (hr : ret = some t) (ht : t = .int ∨ t = .boolean ∨ t = .byte ∨ t = .char ∨ t = .short) (hnw : narrow t (.int v) = .int v) (hk : k ≤ R.cells) (hn : n ≤ R.slots) (hQ : Q (some (.int v)) h) : Go p l e R s m args below meth c n0 Q h k n (mkF m pc ls (.int v :: st)) :=
  go_ret K hd hr hnw (Or.inl ⟨rfl, ht, v, rfl⟩) hk hn hQ
theorem go_lret (K : Cx p s m meth c Z own nm bytes maxL ret) {v : Int64} (hd : decode bytes pc = .ok (.lreturn, 1)) (hr : ret = some .long) (hk : k ≤ R.cells) (hn : n ≤ R.slots) (hQ : Q (some (.long v)) h) : Go p l e R s m args below meth c n0 Q h k n (mkF m pc ls (.long v :: st)) :=
  go_ret K hd hr rfl (Or.inr (Or.inl ⟨rfl, rfl, v, rfl⟩)) hk hn hQ
theorem go_aret (K : Cx p s m meth c Z own nm bytes maxL ret) {v : Value} {t : FieldType} (hd : decode bytes pc = .ok (.areturn, 1)) (hr : ret = some t) (ht : t.isReference = true) (hv : v.isRef = true) (hnw : narrow t v = v) (hk : k ≤ R.cells) (hn : n ≤ R.slots) (hQ : Q (some v) h) : Go p l e R s m args below meth c n0 Q h k n (mkF m pc ls (v :: st)) :=
  go_ret K hd hr hnw (Or.inr (Or.inr (Or.inr (Or.inr ⟨rfl, ht, hv⟩)))) hk hn hQ
/-- a body's contract: called with just these arguments over the heap h it comes back, Q holds, and nothing below n0 was written -/
def Met (l : Launch) (y : MethodName) (bytes : ByteArray) (maxL : Nat) (ret : Option FieldType) (ws : List Jvm.Cond) (R : Room) (as' : Array Value) (Z : State) (h : Heap) (n0 : Nat) (Q : Option Value → Heap → Prop) : Prop :=
  MetFree l y (head1 (Jvm.Cond.code y bytes maxL ret :: ws) R) (fun a U => a = as' ∧ Z.Warmed39 U.vm ∧ U.heap = h) (fun _ _ _ _ _ => True) (fun _ U o U' => ∃ v L, o = .returned v ∧ (Q v U'.heap ∧ Fr n0 L) ∧ FrameEnd U o U' L R.cells R.slots)
theorem Met.of {y : MethodName} {ws : List Jvm.Cond} {as' : Array Value} (hp : plainFor y = true)
    (body : ∀ (p : Program) (e : Env) (s : State) (m : MethodId) (below : List Frame) (meth : Method) (c : Code), Cx p s m meth c Z y.cls y.name bytes maxL ret → Go p l e R s m as' below meth c n0 Q h 0 0 (entryFrame m as' maxL)) : Met l y bytes maxL ret ws R as' Z h n0 Q := by
  refine MetFree.of_bodySF hp hisR ?_
  intro p e s m args below meth c s₁ Bd hml0 hP hK
  obtain ⟨rfl, hZ, hh⟩ := hP
  have hown : s.vm.findClass y.cls = some m.cls := findClass_of_methodNamed Bd.named
  have hnm := (name_of_methodNamed Bd.named Bd.method).1
  exact body p e s m below meth c ⟨Bd.exec, hZ, hown, Bd.bytes, hml0, Bd.returns, Bd.notSynchronized, hnm⟩ s₁ [] (Stand.of_body Bd) (Fr.nil n0) (by rw [← hh, Bd.state]; rfl)
theorem Met.mono {y : MethodName} {ws : List Jvm.Cond} {as' : Array Value} {Q' : Option Value → Heap → Prop} (M : Met l y bytes maxL ret ws R as' Z h n0 Q) (f : ∀ v h', Q v h' → Q' v h') : Met l y bytes maxL ret ws R as' Z h n0 Q' := by
  intro p e ha hc hk s m args below hf happ hP hK
  obtain ⟨n, o, h1, h2, h3, v, L, h4, h5, h6⟩ := M p e ha hc hk s m args below hf happ hP hK
  exact ⟨n, o, h1, h2, h3, v, L, h4, ⟨f _ _ h5.1, h5.2⟩, h6⟩
theorem Go.entry {maxL' : Nat} {as' : Array Value} (hl : argsToLocals as' maxL' = ls) (r : Go p l e R s m args below meth c n0 Q h k n (mkF m 0 ls [])) : Go p l e R s m args below meth c n0 Q h k n (entryFrame m as' maxL') := by
  subst hl; exact r

/-- what a static call by contract needs -/
theorem go_callS (K : Cx p s m meth c Z own nm bytes maxL ret) {y : MethodName} {bytes' : ByteArray} {maxL' : Nat} {ret' : Option FieldType} {rm : Room} {W i : Nat} {Q' : Option Value → Heap → Prop} {ps : List FieldType}
    (w1 : (Cond.methodLink own i y).before a0 Z = true) (w2 : (Cond.static y).before a0 Z = true) (w3 : (Cond.initialized y.cls).before a0 Z = true) (w4 : (Cond.code y bytes' maxL' ret').before a0 Z = true)
    (argsL rest : List Value) (hM : Met l y bytes' maxL' ret' [] rm argsL.toArray Z h n0 Q') (hd : decode bytes pc = .ok (.invokestatic i, 3)) (hpd : parseMethodDescriptor y.desc = some ⟨ps, ret'⟩) (hlen : argsL.length = ps.length) (hst : st = argsL.reverse ++ rest)
    (hls : ls.size = maxL) (hy : y.cls ≠ "java/lang/invoke/MethodHandle" ∧ y.cls ≠ "java/lang/invoke/VarHandle") (hW : (rest.map fun v => v.category).sum = W) (hfr : rm.frames + 1 ≤ R.frames) (hlo : W + (maxL' + 11) + rm.locals ≤ R.locals) (hce : k + rm.cells ≤ R.cells) (hsl : n + rm.slots ≤ R.slots) (hq : pc + 3 = q)
    (r : ∀ v h', Q' v h' → Go p l e R s m args below meth c n0 Q h' (k + rm.cells) (n + rm.slots) (mkF m q ls (v.toList ++ rest))) : Go p l e R s m args below meth c n0 Q h k n (mkF m pc ls st) := fun T L S N eT => by
  subst hq hst
  obtain ⟨v, _, B, -, X, ⟨Lc, hQ, l1, y1, z1⟩, stp⟩ := Jvm.LawKit.callS S K.1 (y := y) K.2.2.1 (mvT K.2.1 w1) (mvT K.2.1 w2) (mvT K.2.1 w3) (mvT K.2.1 w4) hy (backOf (W := W) (Q := fun v h' L => Q' v h' ∧ Fr n0 L) hM K.2.1 w4 w3 hfr hlo) (g := mkF m pc ls (argsL.reverse ++ rest)) rfl (hls.trans K.2.2.2.2.1.symm) (argsL := argsL) (rest := rest) (lenOf hpd hlen) rfl (by show 2 * 0 + _ ≤ _; rw [hW]; omega) (hb K.2.2.2.1 hd) (fun _ _ => ⟨rfl, eT, hce, hsl⟩)
  obtain ⟨T', L', k', n'⟩ := B
  dsimp only [Pt.U, Pt.locs, Pt.cells, Pt.slots] at X l1 y1 z1 stp hQ
  subst l1 y1 z1
  obtain ⟨s₂, o, hs, z⟩ := r v _ hQ.1 T' _ X (Fr.app N hQ.2) rfl
  exact ⟨s₂, o, stp _ hs, z⟩
theorem go_callI (K : Cx p s m meth c Z own nm bytes maxL ret) {y : MethodName} {bytes' : ByteArray} {maxL' : Nat} {rm : Room} {W i : Nat} {Q' : Option Value → Heap → Prop} {ps : List FieldType} {a : Addr}
    (w1 : (Cond.methodLink own i y).before a0 Z = true) (w2 : (Cond.instanceMethod y).before a0 Z = true) (w3 : (Cond.initialized y.cls).before a0 Z = true) (w4 : (Cond.code y bytes' maxL' none).before a0 Z = true) (hy1 : y.name = "<init>")
    (argsL rest : List Value) (hM : Met l y bytes' maxL' none [] rm (.ref a :: argsL).toArray Z h n0 Q') (hd : decode bytes pc = .ok (.invokespecial i, 3)) (hpd : parseMethodDescriptor y.desc = some ⟨ps, none⟩) (hlen : argsL.length = ps.length) (hst : st = argsL.reverse ++ .ref a :: rest)
    (hls : ls.size = maxL) (hy : y.cls ≠ "java/lang/invoke/MethodHandle" ∧ y.cls ≠ "java/lang/invoke/VarHandle") (hW : (rest.map fun v => v.category).sum = W) (hfr : rm.frames + 1 ≤ R.frames) (hlo : W + (maxL' + 11) + rm.locals ≤ R.locals) (hce : k + rm.cells ≤ R.cells) (hsl : n + rm.slots ≤ R.slots) (hq : pc + 3 = q)
    (r : ∀ v h', Q' v h' → Go p l e R s m args below meth c n0 Q h' (k + rm.cells) (n + rm.slots) (mkF m q ls (v.toList ++ rest))) : Go p l e R s m args below meth c n0 Q h k n (mkF m pc ls st) := fun T L S N eT => by
  subst hq hst
  obtain ⟨v, _, B, -, X, ⟨Lc, hQ, l1, y1, z1⟩, stp⟩ := S.specialBack K.1 (y := y) hy1 K.2.2.1 (mvT K.2.1 w1) (mvT K.2.1 w2) (mvT K.2.1 w4) hy (backOf (W := W) (Q := fun v h' L => Q' v h' ∧ Fr n0 L) hM K.2.1 w4 w3 hfr hlo) (g := mkF m pc ls (argsL.reverse ++ .ref a :: rest)) rfl (hls.trans K.2.2.2.2.1.symm) (Steps.refl _) (a := a) (argsL := argsL) (rest := rest) (lenOf hpd hlen) rfl (by show 2 * 0 + _ ≤ _; rw [hW]; omega) (hb K.2.2.2.1 hd) (fun _ _ => ⟨rfl, eT, hce, hsl⟩)
  obtain ⟨T', L', k', n'⟩ := B
  dsimp only [Pt.U, Pt.locs, Pt.cells, Pt.slots] at X l1 y1 z1 stp hQ
  subst l1 y1 z1
  obtain ⟨s₂, o, hs, z⟩ := r v _ hQ.1 T' _ X (Fr.app N hQ.2) rfl
  exact ⟨s₂, o, stp.trans hs, z⟩
theorem nf_of {y yf : MethodName} {Cf : String} (w : (Cond.selects Cf yf yf).before args s = true) (hyf : yf.cls = y.cls) : NotFace s y := fun r0 h0 => by
  obtain ⟨c2, r2, m2, -, -, q3, -, kP, hkP, hkPi⟩ := Cond.selects_spec w
  have hcl : m2.cls = r0.cls := by
    have e1 := findClass_of_methodNamed q3
    have e2 := findClass_of_methodNamed h0
    rw [hyf] at e1
    exact Option.some.inj (e1.symm.trans e2)
  rw [hcl] at hkP
  exact ⟨kP, hkP, hkPi⟩
theorem go_callV (K : Cx p s m meth c Z own nm bytes maxL ret) {y yz yf : MethodName} {C Cf : String} {bytes' : ByteArray} {maxL' : Nat} {ret' : Option FieldType} {rm : Room} {W i : Nat} {Q' : Option Value → Heap → Prop} {ps : List FieldType} {a : Addr}
    (w1 : (Cond.methodLink own i y).before a0 Z = true) (w2 : (Cond.declares y).before a0 Z = true) (w3 : (Cond.selects C y yz).before a0 Z = true) (w4 : (Cond.instanceMethod yz).before a0 Z = true) (w5 : (Cond.initialized yz.cls).before a0 Z = true) (w6 : (Cond.code yz bytes' maxL' ret').before a0 Z = true) (w7 : (Cond.selects Cf yf yf).before a0 Z = true) (hyf : yf.cls = y.cls)
    (E : Exa Z h a C) (argsL rest : List Value) (hM : Met l yz bytes' maxL' ret' [] rm (.ref a :: argsL).toArray Z h n0 Q') (hd : decode bytes pc = .ok (.invokevirtual i, 3)) (hpd : parseMethodDescriptor y.desc = some ⟨ps, ret'⟩) (hlen : argsL.length = ps.length) (hst : st = argsL.reverse ++ .ref a :: rest)
    (hls : ls.size = maxL) (hy : y.cls ≠ "java/lang/invoke/MethodHandle" ∧ y.cls ≠ "java/lang/invoke/VarHandle") (hW : (rest.map fun v => v.category).sum = W) (hfr : rm.frames + 1 ≤ R.frames) (hlo : W + (maxL' + 11) + rm.locals ≤ R.locals) (hce : k + rm.cells ≤ R.cells) (hsl : n + rm.slots ≤ R.slots) (hq : pc + 3 = q)
    (r : ∀ v h', Q' v h' → Go p l e R s m args below meth c n0 Q h' (k + rm.cells) (n + rm.slots) (mkF m q ls (v.toList ++ rest))) : Go p l e R s m args below meth c n0 Q h k n (mkF m pc ls st) := fun T L S N eT => by
  subst hq hst
  obtain ⟨cq, kq, qa, qb, qc⟩ := isOf K.2.1 eT E
  obtain ⟨v, _, B, -, X, ⟨Lc, hQ, l1, y1, z1⟩, stp⟩ := S.virtualBack K.1 (y := y) (z := yz) K.2.2.1 (mvT K.2.1 w1) (mvT K.2.1 w2) (nf_of (args := #[]) (mvT K.2.1 w7) hyf) (mvT K.2.1 w3) (mvT K.2.1 w4) hy (backOf (W := W) (Q := fun v h' L => Q' v h' ∧ Fr n0 L) hM K.2.1 w6 w5 hfr hlo) qa qc (g := mkF m pc ls (argsL.reverse ++ .ref a :: rest)) rfl (hls.trans K.2.2.2.2.1.symm) (Steps.refl _) (argsL := argsL) (rest := rest) (lenOf hpd hlen) rfl (by show 2 * 0 + _ ≤ _; rw [hW]; omega) (hb K.2.2.2.1 hd) (fun _ _ => ⟨rfl, eT, hce, hsl⟩)
  obtain ⟨T', L', k', n'⟩ := B
  dsimp only [Pt.U, Pt.locs, Pt.cells, Pt.slots] at X l1 y1 z1 stp hQ
  subst l1 y1 z1
  obtain ⟨s₂, o, hs, z⟩ := r v _ hQ.1 T' _ X (Fr.app N hQ.2) rfl
  exact ⟨s₂, o, stp.trans hs, z⟩

/-! the heap: fields, statics, objects -/
theorem go_getF (K : Cx p s m meth c Z own nm bytes maxL ret) {R0 O f d : String} {i : Nat} {a : Addr} {v : Value} (w1 : (Cond.fieldLink own i R0 f d).before a0 Z = true) (via : Via Z R0 O f d) (F : Fld Z h a O f d v) (hd : decode bytes pc = .ok (.getfield i, 3)) (hq : pc + 3 = q)
    (r : Go p l e R s m args below meth c n0 Q h k n (mkF m q ls (v :: st))) : Go p l e R s m args below meth c n0 Q h k n (mkF m pc ls (.ref a :: st)) := fun T L S N eT => by
  subst hq
  obtain ⟨T', X, e', stp⟩ := getF S K.1 K.2.1 K.2.2.1 (host := "") (Or.inl w1) via eT F (g := mkF m pc ls (.ref a :: st)) rfl rfl (hb K.2.2.2.1 hd)
  obtain ⟨s₂, o, hs, z⟩ := r T' L X N e'
  exact ⟨s₂, o, stp _ hs, z⟩
theorem go_getS (K : Cx p s m meth c Z own nm bytes maxL ret) {R0 O f d : String} {i : Nat} {v : Value} (w1 : (Cond.fieldLink own i R0 f d).before a0 Z = true) (via : Via Z R0 O f d) (F : Sta Z h O f d v) (hd : decode bytes pc = .ok (.getstatic i, 3)) (hq : pc + 3 = q)
    (r : Go p l e R s m args below meth c n0 Q h k n (mkF m q ls (v :: st))) : Go p l e R s m args below meth c n0 Q h k n (mkF m pc ls st) := fun T L S N eT => by
  subst hq
  obtain ⟨T', X, e', stp⟩ := getS S K.1 K.2.1 (host := "") K.2.2.1 w1 via eT F (g := mkF m pc ls st) rfl (hb K.2.2.2.1 hd)
  obtain ⟨s₂, o, hs, z⟩ := r T' L X N e'
  exact ⟨s₂, o, stp _ hs, z⟩
theorem go_putF (K : Cx p s m meth c Z own nm bytes maxL ret) {R0 O f d C : String} {i kk : Nat} {ty : FieldType} {a : Addr} {v old : Value} (w1 : (Cond.fieldLink own i R0 f d).before a0 Z = true) (via : Via Z R0 O f d) (F : Fld Z h a O f d old) (E : Exa Z h a C)
    (Ly : (Cond.lays C O f d).before a0 Z = true ∨ ((Cond.laysFinal C O f d).before a0 Z = true ∧ own = O ∧ nm = "<init>")) (wi : (Cond.instantiable C kk).before a0 Z = true) (hty : parseFieldDescriptor d = some ty) (hnw : narrow ty v = v) (hf : fits ty v = true) (ha : n0 ≤ a)
    (hd : decode bytes pc = .ok (.putfield i, 3)) (hq : pc + 3 = q)
    (r : ∀ h', Wr h h' a (Jvm.RoadKit.slotOf Z O f d) v → Go p l e R s m args below meth c n0 Q h' k n (mkF m q ls st)) : Go p l e R s m args below meth c n0 Q h k n (mkF m pc ls (v :: .ref a :: st)) := fun T L S N eT => by
  subst hq
  obtain ⟨T', h', X, e', W, stp⟩ := putF S K.1 K.2.1 K.2.2.1 (host := "") (Or.inl w1) via eT F E (Ly.imp id fun z => ⟨z.1, z.2.1, K.2.2.2.2.2.2.2.trans z.2.2⟩) wi hty hnw hf (g := mkF m pc ls (v :: .ref a :: st)) rfl rfl (hb K.2.2.2.1 hd)
  obtain ⟨s₂, o, hs, z⟩ := r h' W T' _ X (Fr.snoc X N ha) e'
  exact ⟨s₂, o, stp _ hs, z⟩
theorem go_new (K : Cx p s m meth c Z own nm bytes maxL ret) {C : String} {i sz : Nat} (w1 : (Cond.classLink own i C).before a0 Z = true) (w2 : (Cond.instantiable C sz).before a0 Z = true) (w3 : (Cond.initialized C).before a0 Z = true) (hd : decode bytes pc = .ok (.new i, 3)) (hce : k + 1 ≤ R.cells) (hsl : n + sz ≤ R.slots) (hq : pc + 3 = q)
    (r : ∀ h' a, a = h.size → Ext h h' → Exa Z h' a C → (∀ {O f d : String} {ty : FieldType}, Laid Z a0 C O f d → parseFieldDescriptor d = some ty → Fld Z h' a O f d (defaultValue ty)) → Go p l e R s m args below meth c n0 Q h' (k + 1) (n + sz) (mkF m q ls (.ref a :: st))) : Go p l e R s m args below meth c n0 Q h k n (mkF m pc ls st) := fun T L S N eT => by
  subst hq
  obtain ⟨T', h', X, e', E, A, D, -, stp⟩ := newO S K.1 K.2.1 K.2.2.1 w1 w2 w3 eT (g := mkF m pc ls st) rfl (hb K.2.2.2.1 hd) hce hsl
  obtain ⟨s₂, o, hs, z⟩ := r h' _ rfl E A D T' _ X N e'
  exact ⟨s₂, o, stp _ hs, z⟩
theorem go_initO (K : Cx p s m meth c Z own nm bytes maxL ret) {i : Nat} {a : Addr} (w1 : (Cond.methodLink own i Lib.objectInit).before a0 Z = true) (w2 : (Cond.instanceMethod Lib.objectInit).before a0 Z = true) (w3 : (Cond.code Lib.objectInit ⟨#[0xb1]⟩ 1 none).before a0 Z = true) (hd : decode bytes pc = .ok (.invokespecial i, 3)) {W : Nat} (hls : ls.size = maxL) (hW : (st.map fun v => v.category).sum = W) (hfr : 1 ≤ R.frames) (hlo : W + 12 ≤ R.locals) (hq : pc + 3 = q)
    (r : Go p l e R s m args below meth c n0 Q h k n (mkF m q ls st)) : Go p l e R s m args below meth c n0 Q h k n (mkF m pc ls (.ref a :: st)) := fun T L S N eT => by
  subst hq
  obtain ⟨T', X, e', stp⟩ := initO S K.1 K.2.1 K.2.2.1 w1 w2 w3 eT (g := mkF m pc ls (.ref a :: st)) rfl (hls.trans K.2.2.2.2.1.symm) rfl (hb K.2.2.2.1 hd) hfr (W := W) (by show 2 * 0 + _ ≤ _; rw [hW]; omega) hlo
  obtain ⟨s₂, o, hs, z⟩ := r T' L X N e'
  exact ⟨s₂, o, stp _ hs, z⟩
/-! arrays: a known array and the list of what it holds -/
def Ary (Z : State) (h : Heap) (a : Addr) (kl : ClassId) (ty : FieldType) (vs : List Value) : Prop := ∃ cl : Cell, Arr Z h a cl ty ∧ cl.cls = kl ∧ cl.slots.toList = vs ∧ vs.length < 2 ^ 31
theorem Ary.lt {a : Addr} {kl : ClassId} {ty : FieldType} {vs : List Value} (F : Ary Z h a kl ty vs) : a < h.size := by obtain ⟨cl, A, -⟩ := F; exact A.lt
theorem Ary.ext {h' : Heap} {a : Addr} {kl : ClassId} {ty : FieldType} {vs : List Value} (F : Ary Z h a kl ty vs) (E : Ext h h') : Ary Z h' a kl ty vs := by obtain ⟨cl, A, r⟩ := F; exact ⟨cl, A.ext E, r⟩
theorem Ary.other {h' : Heap} {a b : Addr} {sl : Nat} {v : Value} {kl : ClassId} {ty : FieldType} {vs : List Value} (F : Ary Z h b kl ty vs) (W : Wr h h' a sl v) (q : b ≠ a) : Ary Z h' b kl ty vs := by obtain ⟨cl, A, r⟩ := F; exact ⟨cl, A.other W q, r⟩
theorem Ary.keep {h' : Heap} {ws : List Addr} {a : Addr} {kl : ClassId} {ty : FieldType} {vs : List Value} (F : Ary Z h a kl ty vs) (K : Keep h h' ws) (q : a ∉ ws) : Ary Z h' a kl ty vs := by obtain ⟨cl, A, r⟩ := F; exact ⟨cl, ⟨K.2.1 a cl A.1 q, A.2⟩, r⟩
theorem Ary.set {h' : Heap} {a : Addr} {j : Nat} {v : Value} {kl : ClassId} {ty : FieldType} {vs : List Value} (F : Ary Z h a kl ty vs) (W : Wr h h' a j v) : Ary Z h' a kl ty (vs.set j v) := by
  obtain ⟨cl, A, r1, r2, r3⟩ := F
  refine ⟨_, A.same W, r1, ?_, by simpa using r3⟩
  subst r2
  simp [Cell.setSlot]
theorem ary_in {cl : Cell} {vs : List Value} {j : Int32} (r2 : cl.slots.toList = vs) (hj0 : ¬ j < 0) (hj : j.toNatClampNeg < vs.length) : ¬ (j < 0 ∨ cl.slots.size ≤ j.toNatClampNeg) := by
  subst r2
  rintro (q | q)
  · exact hj0 q
  · simp at hj; omega

theorem go_iaload (K : Cx p s m meth c Z own nm bytes maxL ret) {a : Addr} {kl : ClassId} {vs : List Value} {j : Int32} {v : Int32} (F : Ary Z h a kl .int vs) (hj0 : ¬ j < 0) (hj : vs[j.toNatClampNeg]? = some (.int v)) (hd : decode bytes pc = .ok (.iaload, 1)) (hq : pc + 1 = q)
    (r : Go p l e R s m args below meth c n0 Q h k n (mkF m q ls ((.int v) :: st))) : Go p l e R s m args below meth c n0 Q h k n (mkF m pc ls (.int j :: .ref a :: st)) := by
  subst hq
  obtain ⟨cl, A, r1, r2, r3⟩ := F
  refine Go.ofX (fun T L tg S eT => S.iaload K.1 (j := j) (v := (.int v)) (by rw [eT]; exact A.1) (State.isArrayOf_alike K.2.1.alike A.2.1) A.2.2 (ary_in r2 hj0 (List.getElem?_eq_some_iff.mp hj).1) (by rw [← hj, ← r2]; simp) (g := mkF m pc ls (.int j :: .ref a :: st)) rfl rfl (hb K.2.2.2.1 hd) tg) r
theorem go_laload (K : Cx p s m meth c Z own nm bytes maxL ret) {a : Addr} {kl : ClassId} {vs : List Value} {j : Int32} {v : Int64} (F : Ary Z h a kl .long vs) (hj0 : ¬ j < 0) (hj : vs[j.toNatClampNeg]? = some (.long v)) (hd : decode bytes pc = .ok (.laload, 1)) (hq : pc + 1 = q)
    (r : Go p l e R s m args below meth c n0 Q h k n (mkF m q ls ((.long v) :: st))) : Go p l e R s m args below meth c n0 Q h k n (mkF m pc ls (.int j :: .ref a :: st)) := by
  subst hq
  obtain ⟨cl, A, r1, r2, r3⟩ := F
  refine Go.ofX (fun T L tg S eT => S.laload K.1 (j := j) (v := (.long v)) (by rw [eT]; exact A.1) (State.isArrayOf_alike K.2.1.alike A.2.1) A.2.2 (ary_in r2 hj0 (List.getElem?_eq_some_iff.mp hj).1) (by rw [← hj, ← r2]; simp) (g := mkF m pc ls (.int j :: .ref a :: st)) rfl rfl (hb K.2.2.2.1 hd) tg) r
theorem go_caload (K : Cx p s m meth c Z own nm bytes maxL ret) {a : Addr} {kl : ClassId} {vs : List Value} {j : Int32} {v : Int32} (F : Ary Z h a kl .char vs) (hj0 : ¬ j < 0) (hj : vs[j.toNatClampNeg]? = some (.int v)) (hd : decode bytes pc = .ok (.caload, 1)) (hq : pc + 1 = q)
    (r : Go p l e R s m args below meth c n0 Q h k n (mkF m q ls ((.int v) :: st))) : Go p l e R s m args below meth c n0 Q h k n (mkF m pc ls (.int j :: .ref a :: st)) := by
  subst hq
  obtain ⟨cl, A, r1, r2, r3⟩ := F
  refine Go.ofX (fun T L tg S eT => S.caload K.1 (j := j) (v := (.int v)) (by rw [eT]; exact A.1) (State.isArrayOf_alike K.2.1.alike A.2.1) A.2.2 (ary_in r2 hj0 (List.getElem?_eq_some_iff.mp hj).1) (by rw [← hj, ← r2]; simp) (g := mkF m pc ls (.int j :: .ref a :: st)) rfl rfl (hb K.2.2.2.1 hd) tg) r
theorem go_baload (K : Cx p s m meth c Z own nm bytes maxL ret) {a : Addr} {kl : ClassId} {vs : List Value} {j : Int32} {v : Int32} (F : Ary Z h a kl .byte vs) (hj0 : ¬ j < 0) (hj : vs[j.toNatClampNeg]? = some (.int v)) (hd : decode bytes pc = .ok (.baload, 1)) (hq : pc + 1 = q)
    (r : Go p l e R s m args below meth c n0 Q h k n (mkF m q ls ((.int v) :: st))) : Go p l e R s m args below meth c n0 Q h k n (mkF m pc ls (.int j :: .ref a :: st)) := by
  subst hq
  obtain ⟨cl, A, r1, r2, r3⟩ := F
  refine Go.ofX (fun T L tg S eT => S.baloadBytes K.1 (j := j) (v := (.int v)) (by rw [eT]; exact A.1) (State.isArrayOf_alike K.2.1.alike A.2.1) A.2.2 (ary_in r2 hj0 (List.getElem?_eq_some_iff.mp hj).1) (by rw [← hj, ← r2]; simp) (g := mkF m pc ls (.int j :: .ref a :: st)) rfl rfl (hb K.2.2.2.1 hd) tg) r
theorem go_aaload (K : Cx p s m meth c Z own nm bytes maxL ret) {a : Addr} {kl : ClassId} {vs : List Value} {j : Int32} {v : Value} {ty : FieldType} (F : Ary Z h a kl ty vs) (ht : ty.isReference = true) (hv : v.isRef = true) (hj0 : ¬ j < 0) (hj : vs[j.toNatClampNeg]? = some v) (hd : decode bytes pc = .ok (.aaload, 1)) (hq : pc + 1 = q)
    (r : Go p l e R s m args below meth c n0 Q h k n (mkF m q ls (v :: st))) : Go p l e R s m args below meth c n0 Q h k n (mkF m pc ls (.int j :: .ref a :: st)) := by
  subst hq
  obtain ⟨cl, A, r1, r2, r3⟩ := F
  refine Go.ofX (fun T L tg S eT => S.aaload K.1 (j := j) (v := v) (by rw [eT]; exact A.1) (State.isArrayOf_alike K.2.1.alike A.2.1) ht A.2.2 (ary_in r2 hj0 (List.getElem?_eq_some_iff.mp hj).1) (by rw [← hj, ← r2]; simp) (g := mkF m pc ls (.int j :: .ref a :: st)) rfl rfl (hb K.2.2.2.1 hd) tg) r
theorem go_arraylength (K : Cx p s m meth c Z own nm bytes maxL ret) {a : Addr} {kl : ClassId} {vs : List Value} {ty : FieldType} {z : Int32} (F : Ary Z h a kl ty vs) (hz : vs.length.toInt32 = z) (hd : decode bytes pc = .ok (.arraylength, 1)) (hq : pc + 1 = q)
    (r : Go p l e R s m args below meth c n0 Q h k n (mkF m q ls (.int z :: st))) : Go p l e R s m args below meth c n0 Q h k n (mkF m pc ls (.ref a :: st)) := by
  subst hq
  obtain ⟨cl, A, r1, r2, r3⟩ := F
  have e1 : cl.slots.size.toInt32 = z := by rw [← hz, ← r2]; simp
  subst e1
  refine Go.ofX (fun T L tg S eT => S.arraylength K.1 (cell := cl) (by rw [eT]; exact A.1) (State.isArrayOf_alike K.2.1.alike A.2.1) (g := mkF m pc ls (.ref a :: st)) rfl (rest := st) rfl (hb K.2.2.2.1 hd) tg) r
theorem go_iastore (K : Cx p s m meth c Z own nm bytes maxL ret) {a : Addr} {kl : ClassId} {vs : List Value} {j : Int32} {v : Int32} (F : Ary Z h a kl .int vs) (hj0 : ¬ j < 0) (hj : j.toNatClampNeg < vs.length) (ha : n0 ≤ a) (hd : decode bytes pc = .ok (.iastore, 1)) (hq : pc + 1 = q)
    (r : ∀ h', Wr h h' a j.toNatClampNeg (.int v) → Ary Z h' a kl .int (vs.set j.toNatClampNeg (.int v)) → Go p l e R s m args below meth c n0 Q h' k n (mkF m q ls st)) : Go p l e R s m args below meth c n0 Q h k n (mkF m pc ls (.int v :: .int j :: .ref a :: st)) := fun T L S N eT => by
  subst hq
  obtain ⟨cl, A, r1, r2, r3⟩ := id F
  obtain ⟨T', h', X, e', W, stp⟩ := stI S K.1 K.2.1 eT A (j := j) (x := v) (ary_in r2 hj0 hj) (g := mkF m pc ls (.int v :: .int j :: .ref a :: st)) rfl rfl (hb K.2.2.2.1 hd)
  obtain ⟨s₂, o, hs, z⟩ := r h' W (F.set W) T' _ X (Fr.snoc X N ha) e'
  exact ⟨s₂, o, stp _ hs, z⟩
theorem go_lastore (K : Cx p s m meth c Z own nm bytes maxL ret) {a : Addr} {kl : ClassId} {vs : List Value} {j : Int32} {v : Int64} (F : Ary Z h a kl .long vs) (hj0 : ¬ j < 0) (hj : j.toNatClampNeg < vs.length) (ha : n0 ≤ a) (hd : decode bytes pc = .ok (.lastore, 1)) (hq : pc + 1 = q)
    (r : ∀ h', Wr h h' a j.toNatClampNeg (.long v) → Ary Z h' a kl .long (vs.set j.toNatClampNeg (.long v)) → Go p l e R s m args below meth c n0 Q h' k n (mkF m q ls st)) : Go p l e R s m args below meth c n0 Q h k n (mkF m pc ls (.long v :: .int j :: .ref a :: st)) := fun T L S N eT => by
  subst hq
  obtain ⟨cl, A, r1, r2, r3⟩ := id F
  obtain ⟨T', h', X, e', W, stp⟩ := stJ S K.1 K.2.1 eT A (j := j) (x := v) (ary_in r2 hj0 hj) (g := mkF m pc ls (.long v :: .int j :: .ref a :: st)) rfl rfl (hb K.2.2.2.1 hd)
  obtain ⟨s₂, o, hs, z⟩ := r h' W (F.set W) T' _ X (Fr.snoc X N ha) e'
  exact ⟨s₂, o, stp _ hs, z⟩
theorem go_castore (K : Cx p s m meth c Z own nm bytes maxL ret) {a : Addr} {kl : ClassId} {vs : List Value} {j : Int32} {v : Int32} (F : Ary Z h a kl .char vs) (hj0 : ¬ j < 0) (hj : j.toNatClampNeg < vs.length) (ha : n0 ≤ a) (hd : decode bytes pc = .ok (.castore, 1)) (hq : pc + 1 = q)
    (r : ∀ h', Wr h h' a j.toNatClampNeg (.int (nar .char v)) → Ary Z h' a kl .char (vs.set j.toNatClampNeg (.int (nar .char v))) → Go p l e R s m args below meth c n0 Q h' k n (mkF m q ls st)) : Go p l e R s m args below meth c n0 Q h k n (mkF m pc ls (.int v :: .int j :: .ref a :: st)) := fun T L S N eT => by
  subst hq
  obtain ⟨cl, A, r1, r2, r3⟩ := id F
  obtain ⟨T', h', X, e', W, stp⟩ := stC S K.1 K.2.1 eT A (j := j) (x := v) (ary_in r2 hj0 hj) (g := mkF m pc ls (.int v :: .int j :: .ref a :: st)) rfl rfl (hb K.2.2.2.1 hd)
  obtain ⟨s₂, o, hs, z⟩ := r h' W (F.set W) T' _ X (Fr.snoc X N ha) e'
  exact ⟨s₂, o, stp _ hs, z⟩
theorem go_bastore (K : Cx p s m meth c Z own nm bytes maxL ret) {a : Addr} {kl : ClassId} {vs : List Value} {j : Int32} {v : Int32} (F : Ary Z h a kl .byte vs) (hj0 : ¬ j < 0) (hj : j.toNatClampNeg < vs.length) (ha : n0 ≤ a) (hd : decode bytes pc = .ok (.bastore, 1)) (hq : pc + 1 = q)
    (r : ∀ h', Wr h h' a j.toNatClampNeg (.int (nar .byte v)) → Ary Z h' a kl .byte (vs.set j.toNatClampNeg (.int (nar .byte v))) → Go p l e R s m args below meth c n0 Q h' k n (mkF m q ls st)) : Go p l e R s m args below meth c n0 Q h k n (mkF m pc ls (.int v :: .int j :: .ref a :: st)) := fun T L S N eT => by
  subst hq
  obtain ⟨cl, A, r1, r2, r3⟩ := id F
  obtain ⟨T', h', X, e', W, stp⟩ := stB S K.1 K.2.1 eT A (j := j) (x := v) (ary_in r2 hj0 hj) (g := mkF m pc ls (.int v :: .int j :: .ref a :: st)) rfl rfl (hb K.2.2.2.1 hd)
  obtain ⟨s₂, o, hs, z⟩ := r h' W (F.set W) T' _ X (Fr.snoc X N ha) e'
  exact ⟨s₂, o, stp _ hs, z⟩
theorem go_newarray (K : Cx p s m meth c Z own nm bytes maxL ret) {aty : ArrayType} {z : Int32} {num cap : Nat} (w1 : (Cond.arrayClass (newarray.typeOf aty)).before a0 Z = true) (hd : decode bytes pc = .ok (.newarray aty, 2)) (hz : ¬ z < 0) (hzn : z.toNatClampNeg = num) (hcap : num ≤ cap) (hcb : cap * 8 ≤ 536870912) (hce : k + 1 ≤ R.cells) (hsl : n + cap ≤ R.slots) (hq : pc + 2 = q)
    (r : ∀ h' a kl, a = h.size → Ext h h' → Ary Z h' a kl (newarray.typeOf aty) (List.replicate num (defaultValue (newarray.typeOf aty))) → Go p l e R s m args below meth c n0 Q h' (k + 1) (n + cap) (mkF m q ls (.ref a :: st))) : Go p l e R s m args below meth c n0 Q h k n (mkF m pc ls (.int z :: st)) := fun T L S N eT => by
  subst hq hzn
  obtain ⟨T', h', kl, X, e', E, A, stp⟩ := newP S K.1 K.2.1 w1 eT (g := mkF m pc ls (.int z :: st)) rfl (hb K.2.2.2.1 hd) (n := z) (rest := st) rfl hz hcap hcb hce hsl
  obtain ⟨s₂, o, hs, zz⟩ := r h' _ kl rfl E ⟨_, A, rfl, by simp [newA], by simp; omega⟩ T' _ X N e'
  exact ⟨s₂, o, stp _ hs, zz⟩

theorem go_anewarray (K : Cx p s m meth c Z own nm bytes maxL ret) {C : String} {i : Nat} {z : Int32} {num cap : Nat} (w1 : (Cond.classLink own i C).before a0 Z = true) (w2 : (Cond.arrayOver (.object C)).before a0 Z = true) (hd : decode bytes pc = .ok (.anewarray i, 3)) (hz : ¬ z < 0) (hzn : z.toNatClampNeg = num) (hcap : num ≤ cap) (hcb : cap * 8 ≤ 536870912) (hce : k + 1 ≤ R.cells) (hsl : n + cap ≤ R.slots) (hq : pc + 3 = q)
    (r : ∀ h' a kl, a = h.size → Ext h h' → Ary Z h' a kl (.object C) (List.replicate num .null) → Ovr Z kl C → Go p l e R s m args below meth c n0 Q h' (k + 1) (n + cap) (mkF m q ls (.ref a :: st))) : Go p l e R s m args below meth c n0 Q h k n (mkF m pc ls (.int z :: st)) := fun T L S N eT => by
  subst hq hzn
  obtain ⟨T', h', kl, X, e', E, A, O, stp⟩ := newR S K.1 K.2.1 K.2.2.1 w1 w2 eT (g := mkF m pc ls (.int z :: st)) rfl (hb K.2.2.2.1 hd) (n := z) (rest := st) rfl hz hcap hcb hce hsl
  obtain ⟨s₂, o, hs, zz⟩ := r h' _ kl rfl E ⟨_, A, rfl, by simp [newA, defaultValue], by simp; omega⟩ O T' _ X N e'
  exact ⟨s₂, o, stp _ hs, zz⟩
theorem go_aastore (K : Cx p s m meth c Z own nm bytes maxL ret) {a : Addr} {kl : ClassId} {vs : List Value} {j : Int32} {v : Value} {ty : FieldType} (F : Ary Z h a kl ty vs) (hty : ty.isReference = true) (So : Sto Z h a v) (hj0 : ¬ j < 0) (hj : j.toNatClampNeg < vs.length) (ha : n0 ≤ a) (hd : decode bytes pc = .ok (.aastore, 1)) (hq : pc + 1 = q)
    (r : ∀ h', Wr h h' a j.toNatClampNeg v → Ary Z h' a kl ty (vs.set j.toNatClampNeg v) → Go p l e R s m args below meth c n0 Q h' k n (mkF m q ls st)) : Go p l e R s m args below meth c n0 Q h k n (mkF m pc ls (v :: .int j :: .ref a :: st)) := fun T L S N eT => by
  subst hq
  obtain ⟨cl, A, r1, r2, r3⟩ := id F
  obtain ⟨T', h', X, e', W, stp⟩ := stR S K.1 K.2.1 eT A (j := j) (v := v) (ary_in r2 hj0 hj) hty So (g := mkF m pc ls (v :: .int j :: .ref a :: st)) rfl rfl (hb K.2.2.2.1 hd)
  obtain ⟨s₂, o, hs, z⟩ := r h' W (F.set W) T' _ X (Fr.snoc X N ha) e'
  exact ⟨s₂, o, stp _ hs, z⟩
theorem sto_of {a y : Addr} {kl : ClassId} {ty : FieldType} {vs : List Value} {C : String} (F : Ary Z h a kl ty vs) (O : Ovr Z kl C) (Iy : Ins Z h y C true) : Sto Z h a (.ref y) := by
  obtain ⟨cl, A, rfl, -⟩ := F
  exact Sto.of A O Iy
theorem go_checkcast (K : Cx p s m meth c Z own nm bytes maxL ret) {C : String} {i : Nat} {a : Addr} (w1 : (Cond.classLink own i C).before a0 Z = true) (F : Ins Z h a C true) (hd : decode bytes pc = .ok (.checkcast i, 3)) (hq : pc + 3 = q)
    (r : Go p l e R s m args below meth c n0 Q h k n (mkF m q ls (.ref a :: st))) : Go p l e R s m args below meth c n0 Q h k n (mkF m pc ls (.ref a :: st)) := fun T L S N eT => by
  subst hq
  obtain ⟨T', X, e', stp⟩ := castY S K.1 K.2.1 K.2.2.1 w1 eT F (g := mkF m pc ls (.ref a :: st)) rfl rfl (hb K.2.2.2.1 hd)
  obtain ⟨s₂, o, hs, z⟩ := r T' L X N e'
  exact ⟨s₂, o, stp _ hs, z⟩
theorem go_instY (K : Cx p s m meth c Z own nm bytes maxL ret) {C : String} {i : Nat} {a : Addr} (w1 : (Cond.classLink own i C).before a0 Z = true) (F : Ins Z h a C true) (hd : decode bytes pc = .ok (.instanceof i, 3)) (hq : pc + 3 = q)
    (r : Go p l e R s m args below meth c n0 Q h k n (mkF m q ls (.int 1 :: st))) : Go p l e R s m args below meth c n0 Q h k n (mkF m pc ls (.ref a :: st)) := fun T L S N eT => by
  subst hq
  obtain ⟨T', X, e', stp⟩ := instY S K.1 K.2.1 K.2.2.1 w1 eT F (g := mkF m pc ls (.ref a :: st)) rfl rfl (hb K.2.2.2.1 hd)
  obtain ⟨s₂, o, hs, z⟩ := r T' L X N e'
  exact ⟨s₂, o, stp _ hs, z⟩
/-- a virtual call through a subclass's name (the class 'ow' above declares the method) -/
theorem go_callU (K : Cx p s m meth c Z own nm bytes maxL ret) {y yz : MethodName} {C ow : String} {bytes' : ByteArray} {maxL' : Nat} {ret' : Option FieldType} {rm : Room} {W i : Nat} {Q' : Option Value → Heap → Prop} {ps : List FieldType} {a : Addr}
    (w1 : (Cond.methodLink own i y).before a0 Z = true) (w2 : (Cond.declares ⟨ow, y.name, y.desc⟩).before a0 Z = true) (w3 : (Cond.selects C y yz).before a0 Z = true) (w4 : (Cond.instanceMethod yz).before a0 Z = true) (w5 : (Cond.initialized yz.cls).before a0 Z = true) (w6 : (Cond.code yz bytes' maxL' ret').before a0 Z = true) (w7 : (Cond.sameMethod y.cls ow y.name y.desc).before a0 Z = true)
    (E : Exa Z h a C) (argsL rest : List Value) (hM : Met l yz bytes' maxL' ret' [] rm (.ref a :: argsL).toArray Z h n0 Q') (hd : decode bytes pc = .ok (.invokevirtual i, 3)) (hpd : parseMethodDescriptor y.desc = some ⟨ps, ret'⟩) (hlen : argsL.length = ps.length) (hst : st = argsL.reverse ++ .ref a :: rest)
    (hls : ls.size = maxL) (hy : ow ≠ "java/lang/invoke/MethodHandle" ∧ ow ≠ "java/lang/invoke/VarHandle") (hW : (rest.map fun v => v.category).sum = W) (hfr : rm.frames + 1 ≤ R.frames) (hlo : W + (maxL' + 11) + rm.locals ≤ R.locals) (hce : k + rm.cells ≤ R.cells) (hsl : n + rm.slots ≤ R.slots) (hq : pc + 3 = q)
    (r : ∀ v h', Q' v h' → Go p l e R s m args below meth c n0 Q h' (k + rm.cells) (n + rm.slots) (mkF m q ls (v.toList ++ rest))) : Go p l e R s m args below meth c n0 Q h k n (mkF m pc ls st) := fun T L S N eT => by
  subst hq hst
  obtain ⟨cq, kq, qa, qb, qc⟩ := isOf K.2.1 eT E
  obtain ⟨v, _, B, -, X, ⟨Lc, hQ, l1, y1, z1⟩, stp⟩ := S.virtualBackUp K.1 (x := y) (y := yz) K.2.2.1 (mvT K.2.1 w1) (mvT K.2.1 w7) (mvT K.2.1 w2) hy (mvT K.2.1 w3) (mvT K.2.1 w4) (backOf (W := W) (Q := fun v h' L => Q' v h' ∧ Fr n0 L) hM K.2.1 w6 w5 hfr hlo) qa qc (g := mkF m pc ls (argsL.reverse ++ .ref a :: rest)) rfl (hls.trans K.2.2.2.2.1.symm) (Steps.refl _) (argsL := argsL) (rest := rest) (lenOf hpd hlen) rfl (by show 2 * 0 + _ ≤ _; rw [hW]; omega) (hb K.2.2.2.1 hd) (fun _ _ => ⟨rfl, eT, hce, hsl⟩)
  obtain ⟨T', L', k', n'⟩ := B
  dsimp only [Pt.U, Pt.locs, Pt.cells, Pt.slots] at X l1 y1 z1 stp hQ
  subst l1 y1 z1
  obtain ⟨s₂, o, hs, z⟩ := r v _ hQ.1 T' _ X (Fr.app N hQ.2) rfl
  exact ⟨s₂, o, stp.trans hs, z⟩
/-- invokevirtual of a private method -/
theorem go_callP (K : Cx p s m meth c Z own nm bytes maxL ret) {y : MethodName} {C : String} {bytes' : ByteArray} {maxL' : Nat} {ret' : Option FieldType} {rm : Room} {W i : Nat} {Q' : Option Value → Heap → Prop} {ps : List FieldType} {a : Addr} {yf : MethodName} {Cf : String}
    (w1 : (Cond.methodLink own i y).before a0 Z = true) (w2 : (Cond.privateMethod y).before a0 Z = true) (w3 : (Cond.selects Cf yf yf).before a0 Z = true) (hyf : yf.cls = y.cls) (w4 : (Cond.instanceMethod y).before a0 Z = true) (w5 : (Cond.initialized y.cls).before a0 Z = true) (w6 : (Cond.code y bytes' maxL' ret').before a0 Z = true)
    (E : Exa Z h a C) (argsL rest : List Value) (hM : Met l y bytes' maxL' ret' [] rm (.ref a :: argsL).toArray Z h n0 Q') (hd : decode bytes pc = .ok (.invokevirtual i, 3)) (hpd : parseMethodDescriptor y.desc = some ⟨ps, ret'⟩) (hlen : argsL.length = ps.length) (hst : st = argsL.reverse ++ .ref a :: rest)
    (hls : ls.size = maxL) (hy : y.cls ≠ "java/lang/invoke/MethodHandle" ∧ y.cls ≠ "java/lang/invoke/VarHandle") (hW : (rest.map fun v => v.category).sum = W) (hfr : rm.frames + 1 ≤ R.frames) (hlo : W + (maxL' + 11) + rm.locals ≤ R.locals) (hce : k + rm.cells ≤ R.cells) (hsl : n + rm.slots ≤ R.slots) (hq : pc + 3 = q)
    (r : ∀ v h', Q' v h' → Go p l e R s m args below meth c n0 Q h' (k + rm.cells) (n + rm.slots) (mkF m q ls (v.toList ++ rest))) : Go p l e R s m args below meth c n0 Q h k n (mkF m pc ls st) := fun T L S N eT => by
  subst hq hst
  obtain ⟨cell, hcell, hobj⟩ := E.cell
  have hK := backOf (len := 3) (W := W) (R := R) (p := p) (e := e) (below := below) (args := args) (Q := fun v h' L => Q' v h' ∧ Fr n0 L) hM K.2.1 w6 w5 hfr hlo
  obtain ⟨mk, methM, hnamed, hmethM, hstM, habM⟩ := Cond.instanceMethod_spec (mvT (args := args) K.2.1 w4)
  obtain ⟨methM', cM, hmethM', -, -, -, -, -, -, hsigM⟩ := Cond.code_spec hnamed (mvT (args := args) K.2.1 w6)
  cases hmethM.symm.trans hmethM'
  obtain ⟨c2, r2, m2, -, -, q3, -, kP, hkP, hkPi⟩ := Cond.selects_spec (mvT (args := args) K.2.1 w3)
  have hcl : m2.cls = mk.cls := by
    have e1 := findClass_of_methodNamed q3
    have e2 := findClass_of_methodNamed hnamed
    rw [hyf] at e1
    exact Option.some.inj (e1.symm.trans e2)
  rw [hcl] at hkP
  have hpriv : s.PrivateAt y := Cond.privateMethod_at (mvP K.2.1 w2 (args := #[]))
  have hselP : selectMethod e.platform s.vm cell.cls mk = .method mk := selectMethod_private hmethM (hpriv mk methM hnamed hmethM)
  obtain ⟨vm₁, X₁, hstep₁⟩ := S.invokevirtual K.1 K.2.2.1 (mvT K.2.1 w1) hnamed hmethM hstM hkP hkPi hy (a := a) (cell := cell) (by rw [eT]; exact hcell) hobj hselP hmethM habM hkP hkPi (g := mkF m pc ls (argsL.reverse ++ .ref a :: rest)) rfl (argsL := argsL) (rest := rest) (by rw [lenOf hpd hlen _ hsigM]) rfl (hb K.2.2.2.1 hd)
  obtain ⟨v, B, X, ⟨Lc, hQ, l1, y1, z1⟩, hsteps⟩ := hK m meth c ⟨T.setVm vm₁, L, k, n⟩ (mkF m pc ls rest) (.invokevirtual i) mk (.ref a :: argsL).toArray X₁ rfl (hls.trans K.2.2.2.2.1.symm) (hb K.2.2.2.1 hd) (by show 2 * 0 + _ ≤ _; rw [hW]; omega) (X₁.named hnamed) ⟨rfl, eT, hce, hsl⟩
  obtain ⟨T', L', k', n'⟩ := B
  dsimp only [Pt.U, Pt.locs, Pt.cells, Pt.slots] at X l1 y1 z1 hsteps hQ
  subst l1 y1 z1
  obtain ⟨s₂, o, hs, z⟩ := r v _ hQ.1 T' _ X (Fr.app N hQ.2) rfl
  exact ⟨s₂, o, hstep₁ _ fun acts => by rw [doInvoke_state]; exact hsteps.trans hs, z⟩
/-- invokeinterface -/
theorem go_callF (K : Cx p s m meth c Z own nm bytes maxL ret) {y yz : MethodName} {C : String} {bytes' : ByteArray} {maxL' : Nat} {ret' : Option FieldType} {rm : Room} {W i cnt : Nat} {Q' : Option Value → Heap → Prop} {ps : List FieldType} {a : Addr}
    (w1 : (Cond.methodLink own i y).before a0 Z = true) (w2 : (Cond.declares y).before a0 Z = true) (w3 : (Cond.selects C y yz).before a0 Z = true) (w4 : (Cond.instanceMethod yz).before a0 Z = true) (w5 : (Cond.initialized yz.cls).before a0 Z = true) (w6 : (Cond.code yz bytes' maxL' ret').before a0 Z = true) (w7 : (Cond.interfaceMethod y.cls y.cls y.name y.desc).before a0 Z = true) (w8 : (Cond.publicMethod yz).before a0 Z = true) (w9 : (Cond.unhidden C y.name y.desc).before a0 Z = true) (wa : (Cond.castable C y.cls).before a0 Z = true)
    (E : Exa Z h a C) (argsL rest : List Value) (hM : Met l yz bytes' maxL' ret' [] rm (.ref a :: argsL).toArray Z h n0 Q') (hd : decode bytes pc = .ok (.invokeinterface i cnt, 5)) (hpd : parseMethodDescriptor y.desc = some ⟨ps, ret'⟩) (hlen : argsL.length = ps.length) (hst : st = argsL.reverse ++ .ref a :: rest)
    (hls : ls.size = maxL) (hy : y.cls ≠ "java/lang/invoke/MethodHandle" ∧ y.cls ≠ "java/lang/invoke/VarHandle") (hW : (rest.map fun v => v.category).sum = W) (hfr : rm.frames + 1 ≤ R.frames) (hlo : W + (maxL' + 11) + rm.locals ≤ R.locals) (hce : k + rm.cells ≤ R.cells) (hsl : n + rm.slots ≤ R.slots) (hq : pc + 5 = q)
    (r : ∀ v h', Q' v h' → Go p l e R s m args below meth c n0 Q h' (k + rm.cells) (n + rm.slots) (mkF m q ls (v.toList ++ rest))) : Go p l e R s m args below meth c n0 Q h k n (mkF m pc ls st) := fun T L S N eT => by
  subst hq hst
  obtain ⟨cq, kq, qa, qb, qc⟩ := isOf K.2.1 eT E
  obtain ⟨v, _, B, -, X, ⟨Lc, hQ, l1, y1, z1⟩, stp⟩ := S.interfaceBack K.1 (xi := y) (y := yz) K.2.2.1 (mvT K.2.1 w1) (mvT K.2.1 w2) (mvT K.2.1 w7 (by simp [Cond.onTables, Cond.keepsFace, Cond.keeps, Cond.steady, Cond.faceAtom, hy.1, hy.2])) (mvT K.2.1 w3) (mvT K.2.1 w4) (mvT K.2.1 w8) (mvT K.2.1 w9) (mvT K.2.1 wa) hy (backOf (W := W) (Q := fun v h' L => Q' v h' ∧ Fr n0 L) hM K.2.1 w6 w5 hfr hlo) qa qb qc (g := mkF m pc ls (argsL.reverse ++ .ref a :: rest)) rfl (hls.trans K.2.2.2.2.1.symm) (Steps.refl _) (argsL := argsL) (rest := rest) (lenOf hpd hlen) rfl (by show 2 * 0 + _ ≤ _; rw [hW]; omega) (hb K.2.2.2.1 hd) (fun _ _ => ⟨rfl, eT, hce, hsl⟩)
  obtain ⟨T', L', k', n'⟩ := B
  dsimp only [Pt.U, Pt.locs, Pt.cells, Pt.slots] at X l1 y1 z1 stp hQ
  subst l1 y1 z1
  obtain ⟨s₂, o, hs, z⟩ := r v _ hQ.1 T' _ X (Fr.app N hQ.2) rfl
  exact ⟨s₂, o, stp.trans hs, z⟩

end Layer
theorem dmi_0 : decode jdk_29_method_69_code 0 = .ok (.iload_n 0, 1) := by decide +kernel
theorem dmi_1 : decode jdk_29_method_69_code 1 = .ok (.iload_n 1, 1) := by decide +kernel
theorem dmi_2 : decode jdk_29_method_69_code 2 = .ok (.if_icmp .gt 7, 3) := by decide +kernel
theorem dmi_5 : decode jdk_29_method_69_code 5 = .ok (.iload_n 0, 1) := by decide +kernel
theorem dmi_6 : decode jdk_29_method_69_code 6 = .ok (.goto 4, 3) := by decide +kernel
theorem dmi_9 : decode jdk_29_method_69_code 9 = .ok (.iload_n 1, 1) := by decide +kernel
theorem dmi_10 : decode jdk_29_method_69_code 10 = .ok (.ireturn, 1) := by decide +kernel
theorem dip_0 : decode prog_98_method_7_code 0 = .ok (.iload_n 0, 1) := by decide +kernel
theorem dip_1 : decode prog_98_method_7_code 1 = .ok (.iconst 2, 1) := by decide +kernel
theorem dip_2 : decode prog_98_method_7_code 2 = .ok (.irem, 1) := by decide +kernel
theorem dip_3 : decode prog_98_method_7_code 3 = .ok (.ifCond .ne 14, 3) := by decide +kernel
theorem dip_6 : decode prog_98_method_7_code 6 = .ok (.iload_n 0, 1) := by decide +kernel
theorem dip_7 : decode prog_98_method_7_code 7 = .ok (.iconst 2, 1) := by decide +kernel
theorem dip_8 : decode prog_98_method_7_code 8 = .ok (.if_icmp .ne 7, 3) := by decide +kernel
theorem dip_11 : decode prog_98_method_7_code 11 = .ok (.iconst 1, 1) := by decide +kernel
theorem dip_12 : decode prog_98_method_7_code 12 = .ok (.goto 4, 3) := by decide +kernel
theorem dip_15 : decode prog_98_method_7_code 15 = .ok (.iconst 0, 1) := by decide +kernel
theorem dip_16 : decode prog_98_method_7_code 16 = .ok (.ireturn, 1) := by decide +kernel
theorem dip_17 : decode prog_98_method_7_code 17 = .ok (.iconst 3, 1) := by decide +kernel
theorem dip_18 : decode prog_98_method_7_code 18 = .ok (.istore_n 1, 1) := by decide +kernel
theorem dip_19 : decode prog_98_method_7_code 19 = .ok (.iload_n 1, 1) := by decide +kernel
theorem dip_20 : decode prog_98_method_7_code 20 = .ok (.iload_n 0, 1) := by decide +kernel
theorem dip_21 : decode prog_98_method_7_code 21 = .ok (.iload_n 1, 1) := by decide +kernel
theorem dip_22 : decode prog_98_method_7_code 22 = .ok (.idiv, 1) := by decide +kernel
theorem dip_23 : decode prog_98_method_7_code 23 = .ok (.if_icmp .gt 17, 3) := by decide +kernel
theorem dip_26 : decode prog_98_method_7_code 26 = .ok (.iload_n 0, 1) := by decide +kernel
theorem dip_27 : decode prog_98_method_7_code 27 = .ok (.iload_n 1, 1) := by decide +kernel
theorem dip_28 : decode prog_98_method_7_code 28 = .ok (.irem, 1) := by decide +kernel
theorem dip_29 : decode prog_98_method_7_code 29 = .ok (.ifCond .ne 5, 3) := by decide +kernel
theorem dip_32 : decode prog_98_method_7_code 32 = .ok (.iconst 0, 1) := by decide +kernel
theorem dip_33 : decode prog_98_method_7_code 33 = .ok (.ireturn, 1) := by decide +kernel
theorem dip_34 : decode prog_98_method_7_code 34 = .ok (.iinc 1 2, 3) := by decide +kernel
theorem dip_37 : decode prog_98_method_7_code 37 = .ok (.goto (-18), 3) := by decide +kernel
theorem dip_40 : decode prog_98_method_7_code 40 = .ok (.iload_n 0, 1) := by decide +kernel
theorem dip_41 : decode prog_98_method_7_code 41 = .ok (.iconst 1, 1) := by decide +kernel
theorem dip_42 : decode prog_98_method_7_code 42 = .ok (.if_icmp .le 7, 3) := by decide +kernel
theorem dip_45 : decode prog_98_method_7_code 45 = .ok (.iconst 1, 1) := by decide +kernel
theorem dip_46 : decode prog_98_method_7_code 46 = .ok (.goto 4, 3) := by decide +kernel
theorem dip_49 : decode prog_98_method_7_code 49 = .ok (.iconst 0, 1) := by decide +kernel
theorem dip_50 : decode prog_98_method_7_code 50 = .ok (.ireturn, 1) := by decide +kernel
def own_P (n : Int) : Prop := n = 2 ∨ (n % 2 = 1 ∧ 1 < n ∧ ∀ d : Int, 3 ≤ d → d % 2 = 1 → d * d ≤ n → ¬ n % d = 0)
theorem own_c0 : (0 : Int32).toInt = 0 := rfl
theorem own_c1 : (1 : Int32).toInt = 1 := rfl
theorem own_c2 : (2 : Int32).toInt = 2 := rfl
theorem own_rem0 {n d : Int32} (hd : 0 < d.toInt) : n % d = 0 ↔ n.toInt % d.toInt = 0 := by
  rw [← Int32.toInt_inj, Int32.toInt_mod, own_c0]
  constructor
  · intro h; exact Int.emod_eq_zero_of_dvd (Int.dvd_of_tmod_eq_zero h)
  · intro h; exact Int.tmod_eq_zero_of_dvd (Int.dvd_of_emod_eq_zero h)
theorem own_even {n : Int32} (h : n % 2 = 0) : n.toInt % 2 = 0 := (own_rem0 (d := 2) (by decide)).mp h
theorem own_odd {n : Int32} (h : ¬ n % 2 = 0) : n.toInt % 2 = 1 := by
  have this : ¬ n.toInt % 2 = 0 := fun q => h ((own_rem0 (d := 2) (by decide)).mpr q)
  omega
theorem own_le {n d : Int32} (hd : 3 ≤ d.toInt) (h : ¬ (n / d) < d) : d.toInt * d.toInt ≤ n.toInt := by
  rw [Int32.lt_iff_toInt_lt] at h
  obtain ⟨p, q⟩ := c_idiv n d d.toInt rfl (by intro e; rw [e] at hd; revert hd; decide)
  by_cases hn : 0 ≤ n.toInt
  · rw [p hn] at h
    have h1 := Int.mul_le_mul_of_nonneg_left (show d.toInt ≤ n.toInt / d.toInt by omega) (show 0 ≤ d.toInt by omega)
    have h2 := Int.mul_ediv_self_le (x := n.toInt) (k := d.toInt) (by omega)
    omega
  · rw [q (by omega)] at h
    have := Int.ediv_nonneg (show 0 ≤ -n.toInt by omega) (show 0 ≤ d.toInt by omega)
    omega
theorem own_gt {n d : Int32} (hd : 3 ≤ d.toInt) (h : (n / d) < d) : n.toInt < d.toInt * d.toInt := by
  rw [Int32.lt_iff_toInt_lt] at h
  obtain ⟨p, q⟩ := c_idiv n d d.toInt rfl (by intro e; rw [e] at hd; revert hd; decide)
  by_cases hn : 0 ≤ n.toInt
  · rw [p hn] at h
    have h1 := Int.lt_mul_of_ediv_lt (show 0 < d.toInt by omega) h
    exact h1
  · have := Int.mul_nonneg (show 0 ≤ d.toInt by omega) (show 0 ≤ d.toInt by omega)
    omega
theorem own_small {d : Int32} {n : Int32} (hd : 3 ≤ d.toInt) (h : d.toInt * d.toInt ≤ n.toInt) : d.toInt ≤ 46340 := by
  have h1 := rng32 n
  apply Classical.byContradiction; intro q
  have := Int.mul_le_mul (show (46341 : Int) ≤ d.toInt by omega) (show (46341 : Int) ≤ d.toInt by omega) (by omega) (by omega)
  omega
theorem own_next {d : Int32} (h3 : 3 ≤ d.toInt) (h : d.toInt ≤ 46340) : (d + (2 : Int32)).toInt = d.toInt + 2 := by
  have h1 := c_iadd d 2; have h2 := rng32 (d + (2 : Int32)); rw [own_c2] at h1; omega
theorem own_sq {a b : Int} (ha : 0 ≤ a) (h : a * a < b * b) (hb : 0 ≤ b) : a < b := by
  apply Classical.byContradiction; intro q
  have := Int.mul_le_mul (show b ≤ a by omega) (show b ≤ a by omega) hb ha
  omega
set_option maxRecDepth 65536 in
set_option maxHeartbeats 40000000 in
theorem ip_loop {p : Program} {l : Launch} {e : Env} {R : Room} {s : State} {m : MethodId} {args : Array Value} {below : List Frame} {meth : Method} {c : Code} {Z : State} {n0 : Nat} {h : Heap} {nm : String} (K : Cx p s m meth c Z "com/example/dispersa/dispersa/internal/ProbeSequence" nm prog_98_method_7_code 2 (some .boolean)) (nn : Int32) (hodd : nn.toInt % 2 = 1) (hR : 0 ≤ R.cells ∧ 0 ≤ R.slots) :
    ∀ (f : Nat) (d : Int32), 46350 - d.toInt ≤ (f : Int) → 3 ≤ d.toInt → d.toInt % 2 = 1 → (∀ d' : Int, 3 ≤ d' → d' % 2 = 1 → d' < d.toInt → ¬ nn.toInt % d' = 0) → Go p l e R s m args below meth c n0 (fun v h' => ∃ z : Int32, v = some (.int z) ∧ h = h' ∧ ((own_P nn.toInt ∧ z = 1) ∨ (¬ own_P nn.toInt ∧ z = 0))) h 0 0 (mkF m 19 #[.val (.int nn), .val (.int d)] []) := by
  intro f
  induction f with
  | zero =>
    intro d hf h3d hdo hinv
    have hd0 : d ≠ 0 := by intro q; rw [q] at h3d; revert h3d; decide
    refine go_iloadN (q := 20) K dip_19 rfl rfl ?_
    refine go_iloadN (q := 21) K dip_20 rfl rfl ?_
    refine go_iloadN (q := 22) K dip_21 rfl rfl ?_
    refine go_idiv (q := 23) K dip_22 hd0 rfl ?_
    refine go_icmp (q := 40) (q' := 26) K dip_23 (by decide) rfl rfl (fun hc23 => ?_) (fun hc23 => ?_)
    · have hc23 : (nn / d) < d := hc23
      refine go_iloadN (q := 41) K dip_40 rfl rfl ?_
      refine go_iconst (q := 42) K dip_41 (1 : Int32) rfl rfl ?_
      refine go_icmp (q := 49) (q' := 45) K dip_42 (by decide) rfl rfl (fun hc42 => ?_) (fun hc42 => ?_)
      · have hc42 : ¬ (1 : Int32) < nn := hc42
        have hc42 : ¬ 1 < nn.toInt := by rw [Int32.lt_iff_toInt_lt] at hc42; exact hc42
        refine go_iconst (q := 50) K dip_49 (0 : Int32) rfl rfl ?_
        refine go_iret K dip_50 rfl (Or.inr (Or.inl rfl)) rfl hR.1 hR.2 ?_
        exact ⟨0, rfl, rfl, Or.inr ⟨fun q => by rcases q with q | q <;> omega, rfl⟩⟩
      · have hc42 : (1 : Int32) < nn := hc42
        have hc42 : 1 < nn.toInt := by rw [Int32.lt_iff_toInt_lt] at hc42; exact hc42
        refine go_iconst (q := 46) K dip_45 (1 : Int32) rfl rfl ?_
        refine go_goto (q := 50) K dip_46 (by decide) rfl ?_
        refine go_iret K dip_50 rfl (Or.inr (Or.inl rfl)) rfl hR.1 hR.2 ?_
        exact ⟨1, rfl, rfl, Or.inl ⟨Or.inr ⟨hodd, hc42, fun d' h1 h2 h3 => hinv d' h1 h2 (own_sq (by omega) (by have := own_gt h3d hc23; omega) (by omega))⟩, rfl⟩⟩
    · have hc23 : ¬ (nn / d) < d := hc23
      exact absurd (own_small h3d (own_le h3d hc23)) (by omega)
  | succ f ih =>
    intro d hf h3d hdo hinv
    have hd0 : d ≠ 0 := by intro q; rw [q] at h3d; revert h3d; decide
    refine go_iloadN (q := 20) K dip_19 rfl rfl ?_
    refine go_iloadN (q := 21) K dip_20 rfl rfl ?_
    refine go_iloadN (q := 22) K dip_21 rfl rfl ?_
    refine go_idiv (q := 23) K dip_22 hd0 rfl ?_
    refine go_icmp (q := 40) (q' := 26) K dip_23 (by decide) rfl rfl (fun hc23 => ?_) (fun hc23 => ?_)
    · have hc23 : (nn / d) < d := hc23
      refine go_iloadN (q := 41) K dip_40 rfl rfl ?_
      refine go_iconst (q := 42) K dip_41 (1 : Int32) rfl rfl ?_
      refine go_icmp (q := 49) (q' := 45) K dip_42 (by decide) rfl rfl (fun hc42 => ?_) (fun hc42 => ?_)
      · have hc42 : ¬ (1 : Int32) < nn := hc42
        have hc42 : ¬ 1 < nn.toInt := by rw [Int32.lt_iff_toInt_lt] at hc42; exact hc42
        refine go_iconst (q := 50) K dip_49 (0 : Int32) rfl rfl ?_
        refine go_iret K dip_50 rfl (Or.inr (Or.inl rfl)) rfl hR.1 hR.2 ?_
        exact ⟨0, rfl, rfl, Or.inr ⟨fun q => by rcases q with q | q <;> omega, rfl⟩⟩
      · have hc42 : (1 : Int32) < nn := hc42
        have hc42 : 1 < nn.toInt := by rw [Int32.lt_iff_toInt_lt] at hc42; exact hc42
        refine go_iconst (q := 46) K dip_45 (1 : Int32) rfl rfl ?_
        refine go_goto (q := 50) K dip_46 (by decide) rfl ?_
        refine go_iret K dip_50 rfl (Or.inr (Or.inl rfl)) rfl hR.1 hR.2 ?_
        exact ⟨1, rfl, rfl, Or.inl ⟨Or.inr ⟨hodd, hc42, fun d' h1 h2 h3 => hinv d' h1 h2 (own_sq (by omega) (by have := own_gt h3d hc23; omega) (by omega))⟩, rfl⟩⟩
    · have hc23 : ¬ (nn / d) < d := hc23
      have hle : d.toInt * d.toInt ≤ nn.toInt := own_le h3d hc23
      have hsm := own_small h3d hle
      refine go_iloadN (q := 27) K dip_26 rfl rfl ?_
      refine go_iloadN (q := 28) K dip_27 rfl rfl ?_
      refine go_irem (q := 29) K dip_28 hd0 rfl ?_
      refine go_if0 (q := 34) (q' := 32) K dip_29 (by decide) rfl rfl (fun hc29 => ?_) (fun hc29 => ?_)
      · have hc29 : ¬ (nn % d) = (0 : Int32) := hc29
        refine go_iinc (q := 37) K dip_34 (2 : Int32) #[.val (.int nn), .val (.int (d + (2 : Int32)))] rfl rfl rfl rfl ?_
        refine go_goto (q := 19) K dip_37 (by decide) rfl ?_
        refine ih (d + (2 : Int32)) (by rw [own_next h3d hsm]; omega) (by rw [own_next h3d hsm]; omega) (by rw [own_next h3d hsm]; omega) ?_
        intro d' h1 h2 h4 q
        rw [own_next h3d hsm] at h4
        by_cases hl : d' < d.toInt
        · exact hinv d' h1 h2 hl q
        · have e : d' = d.toInt := by omega
          rw [e] at q; exact hc29 ((own_rem0 (by omega)).mpr q)
      · have hc29 : (nn % d) = (0 : Int32) := hc29
        refine go_iconst (q := 33) K dip_32 (0 : Int32) rfl rfl ?_
        refine go_iret K dip_33 rfl (Or.inr (Or.inl rfl)) rfl hR.1 hR.2 ?_
        exact ⟨0, rfl, rfl, Or.inr ⟨fun q => by
          rcases q with q | q
          · omega
          · exact q.2.2 d.toInt h3d hdo hle ((own_rem0 (by omega)).mp hc29), rfl⟩⟩
set_option maxRecDepth 65536 in
set_option maxHeartbeats 40000000 in
theorem ip_met (l : Launch) (Z : State) (a0 : Array Value) (hw : ∀ d ∈ tables_1, d.before a0 Z = true) (nn : Int32) (h : Heap) (n0 : Nat)  :
    Met l (⟨"com/example/dispersa/dispersa/internal/ProbeSequence", "isPrime", "(I)Z"⟩ : MethodName) prog_98_method_7_code 2 (some .boolean) [] ({ frames := 0, cells := 0, slots := 0, locals := 0 } : Room) #[(.int nn)] Z h n0 (fun v h' => ∃ z : Int32, v = some (.int z) ∧ h = h' ∧ ((own_P nn.toInt ∧ z = 1) ∨ (¬ own_P nn.toInt ∧ z = 0))) := by
  refine Met.of (plainFor_of_name (by first | (simp [plainName, overriddenIn]; done) | decide +kernel)) ?_
  intro p e s m below meth c K
  refine Go.entry (ls := #[.val (.int nn), .unset]) rfl ?_
  refine go_iloadN (q := 1) K dip_0 rfl rfl ?_
  refine go_iconst (q := 2) K dip_1 (2 : Int32) rfl rfl ?_
  refine go_irem (q := 3) K dip_2 (by decide) rfl ?_
  refine go_if0 (q := 17) (q' := 6) K dip_3 (by decide) rfl rfl (fun hc3 => ?_) (fun hc3 => ?_)
  · have hc3 : ¬ (nn % (2 : Int32)) = (0 : Int32) := hc3
    refine go_iconst (q := 18) K dip_17 (3 : Int32) rfl rfl ?_
    refine go_istoreN (q := 19) K dip_18 #[.val (.int nn), .val (.int (3 : Int32))] rfl rfl ?_
    exact ip_loop K nn (own_odd hc3) ⟨Nat.zero_le _, Nat.zero_le _⟩ 46347 (3 : Int32) (by decide) (by decide) (by decide) (fun d' h1 _ h2 => absurd h1 (by have e : (3 : Int32).toInt = 3 := rfl; omega))
  · have hc3 : (nn % (2 : Int32)) = (0 : Int32) := hc3
    refine go_iloadN (q := 7) K dip_6 rfl rfl ?_
    refine go_iconst (q := 8) K dip_7 (2 : Int32) rfl rfl ?_
    refine go_icmp (q := 15) (q' := 11) K dip_8 (by decide) rfl rfl (fun hc8 => ?_) (fun hc8 => ?_)
    · have hc8 : ¬ nn = (2 : Int32) := hc8
      refine go_iconst (q := 16) K dip_15 (0 : Int32) rfl rfl ?_
      refine go_iret K dip_16 rfl (Or.inr (Or.inl rfl)) rfl (by decide) (by decide) ?_
      exact ⟨0, rfl, rfl, Or.inr ⟨fun q => by
        have h1 := own_even hc3
        rcases q with q | q
        · exact hc8 (Int32.toInt_inj.mp q)
        · omega, rfl⟩⟩
    · have hc8 : nn = (2 : Int32) := hc8
      refine go_iconst (q := 12) K dip_11 (1 : Int32) rfl rfl ?_
      refine go_goto (q := 16) K dip_12 (by decide) rfl ?_
      refine go_iret K dip_16 rfl (Or.inr (Or.inl rfl)) rfl (by decide) (by decide) ?_
      exact ⟨1, rfl, rfl, Or.inl ⟨Or.inl (by rw [hc8]; rfl), rfl⟩⟩
set_option maxRecDepth 65536 in
set_option maxHeartbeats 40000000 in
theorem min_met (l : Launch) (Z : State) (a0 : Array Value) (hw : ∀ d ∈ tables_1, d.before a0 Z = true) (xa ya : Int32) (h : Heap) (n0 : Nat)  :
    Met l (⟨"java/lang/Math", "min", "(II)I"⟩ : MethodName) jdk_29_method_69_code 2 (some .int) [] ({ frames := 0, cells := 0, slots := 0, locals := 0 } : Room) #[(.int xa), (.int ya)] Z h n0 (fun v h' => v = some (.int (if ya < xa then ya else xa)) ∧ h = h') := by
  refine Met.of (Jvm.Free.JP.mathPlain rfl (by decide +kernel)) ?_
  intro p e s m below meth c K
  refine Go.entry (ls := #[.val (.int xa), .val (.int ya)]) rfl ?_
  refine go_iloadN (q := 1) K dmi_0 rfl rfl ?_
  refine go_iloadN (q := 2) K dmi_1 rfl rfl ?_
  refine go_icmp (q := 9) (q' := 5) K dmi_2 (by decide) rfl rfl (fun hc2 => ?_) (fun hc2 => ?_)
  · have hc2 : ya < xa := hc2
    refine go_iloadN (q := 10) K dmi_9 rfl rfl ?_
    refine go_iret K dmi_10 rfl (Or.inl rfl) rfl (by decide) (by decide) ?_
    exact ⟨by rw [if_pos hc2], rfl⟩
  · have hc2 : ¬ ya < xa := hc2
    refine go_iloadN (q := 6) K dmi_5 rfl rfl ?_
    refine go_goto (q := 10) K dmi_6 (by decide) rfl ?_
    refine go_iret K dmi_10 rfl (Or.inl rfl) rfl (by decide) (by decide) ?_
    exact ⟨by rw [if_neg hc2], rfl⟩
theorem own_a (xx : Int32) : 2 ≤ ((2 : Int32) + (xx &&& 2147483647) % 46339).toInt ∧ ((2 : Int32) + (xx &&& 2147483647) % 46339).toInt ≤ 46340 := by
  have h1 := c_mask xx 2147483647 31 (by decide) (by decide)
  have h2 := (c_irem (xx &&& 2147483647) 46339 46339 rfl).1 (by rw [h1]; omega)
  have h3 := c_iadd 2 ((xx &&& 2147483647) % 46339)
  have h4 := rng32 ((2 : Int32) + (xx &&& 2147483647) % 46339)
  rw [own_c2] at h3
  omega
theorem own_hi {a hi : Int32} (h2 : 2 ≤ a.toInt) (h3 : a.toInt ≤ 46340) (hh : hi = 2147483647 / a) : a.toInt ≤ hi.toInt ∧ hi.toInt * a.toInt ≤ 2147483647 := by
  have h1 := (c_idiv 2147483647 a a.toInt rfl (by intro e; rw [e] at h2; revert h2; decide)).1 (by decide)
  have e : (2147483647 : Int32).toInt = 2147483647 := rfl
  rw [hh, h1, e]
  refine ⟨?_, Int.ediv_mul_le _ (by omega)⟩
  rw [Int.le_ediv_iff_mul_le (by omega)]
  have := Int.mul_le_mul h3 h3 (by omega) (by omega)
  omega
theorem own_w {a hi w1 : Int32} (h2 : 2 ≤ a.toInt) (h : a.toInt ≤ hi.toInt) (hw : w1 = hi - a + 1) : w1.toInt = hi.toInt - a.toInt + 1 := by
  have h3 := c_isub hi a; have h4 := c_iadd (hi - a) 1; have h5 := rng32 hi; have h6 := rng32 w1; have h7 := rng32 (hi - a)
  rw [hw] at h6 ⊢; rw [own_c1] at h4; omega
theorem own_b {a hi w1 b yy : Int32} (h2 : 2 ≤ a.toInt) (h : a.toInt ≤ hi.toInt) (hw : w1.toInt = hi.toInt - a.toInt + 1) (hb : b = a + (yy &&& 2147483647) % w1) : a.toInt ≤ b.toInt ∧ b.toInt ≤ hi.toInt := by
  have h1 := c_mask yy 2147483647 31 (by decide) (by decide)
  have h3 := (c_irem (yy &&& 2147483647) w1 w1.toInt rfl).1 (by rw [h1]; omega)
  have h4 := c_iadd a ((yy &&& 2147483647) % w1)
  have h5 := rng32 b
  have h6 := rng32 hi
  have h7 := Int.emod_nonneg (yy &&& 2147483647).toInt (show w1.toInt ≠ 0 by omega)
  have h8 := Int.emod_lt_of_pos (yy &&& 2147483647).toInt (show 0 < w1.toInt by omega)
  rw [hb] at h5 ⊢; omega
theorem own_prod {a hi b cc : Int32} (h2 : 2 ≤ a.toInt) (hp : hi.toInt * a.toInt ≤ 2147483647) (hb : a.toInt ≤ b.toInt ∧ b.toInt ≤ hi.toInt) (hcc : cc = a * b) : cc.toInt = a.toInt * b.toInt := by
  have h1 := c_imul a b
  have h3 := rng32 cc
  have h4 := Int.mul_le_mul_of_nonneg_right hb.2 (show 0 ≤ a.toInt by omega)
  have h5 := Int.mul_nonneg (show 0 ≤ a.toInt by omega) (show 0 ≤ b.toInt by omega)
  rw [Int.mul_comm b.toInt] at h4
  rw [hcc] at h3 ⊢; omega
theorem own_comp {a b : Int} (h2 : 2 ≤ a) (hb : a ≤ b) : ¬ own_P (a * b) := by
  have h4 := Int.mul_le_mul h2 (show 2 ≤ b by omega) (by omega) (by omega)
  rintro (q | ⟨q1, q2, q3⟩)
  · omega
  · have ha : a % 2 = 1 := by
      rcases Int.emod_two_eq a with r | r
      · exfalso
        rw [Int.mul_emod, r] at q1; simp at q1
      · exact r
    exact q3 a (by omega) ha (Int.mul_le_mul_of_nonneg_left hb (by omega)) (Int.mul_emod_right a b)
theorem own_low {n : Int} (h : n ≤ 1) : ¬ own_P n := by rintro (q | q) <;> omega
def own_all (p : Nat → Bool) : Nat → Nat → Bool
  | 0, s => p s
  | k + 1, s => own_all p k s && own_all p k (s + 2 ^ k)
theorem own_all_spec (p : Nat → Bool) : ∀ k s, own_all p k s = true → ∀ i, i < 2 ^ k → p (s + i) = true
  | 0, s, h, i, hi => by
    have : i = 0 := by simpa using hi
    subst this; exact h
  | k + 1, s, h, i, hi => by
    have h' := (Bool.and_eq_true _ _ ▸ (h : (own_all p k s && own_all p k (s + 2 ^ k)) = true) : own_all p k s = true ∧ own_all p k (s + 2 ^ k) = true)
    by_cases q : i < 2 ^ k
    · exact own_all_spec p k s h'.1 i q
    · have := own_all_spec p k _ h'.2 (i - 2 ^ k) (by rw [Nat.pow_succ] at hi; omega)
      rwa [show s + 2 ^ k + (i - 2 ^ k) = s + i by omega] at this
def own_t (n i : Nat) : Bool := Nat.blt n ((2 * i + 3) * (2 * i + 3)) || !Nat.beq (n % (2 * i + 3)) 0
theorem own_pr {n : Nat} (k : Nat) (h : own_all (own_t n) k 0 = true) (hk : n < (2 * 2 ^ k + 3) * (2 * 2 ^ k + 3)) (ho : n % 2 = 1) (h1 : 1 < n) : own_P (n : Int) := by
  refine Or.inr ⟨by omega, by omega, fun d h3 hd hle hm => ?_⟩
  obtain ⟨i, rfl⟩ : ∃ i : Nat, d = ((2 * i + 3 : Nat) : Int) := ⟨((d - 3) / 2).toNat, by omega⟩
  have hle' : (2 * i + 3) * (2 * i + 3) ≤ n := by exact_mod_cast hle
  have hi : i < 2 ^ k := by
    apply Classical.byContradiction; intro q
    have := Nat.mul_le_mul (show 2 * 2 ^ k + 3 ≤ 2 * i + 3 by omega) (show 2 * 2 ^ k + 3 ≤ 2 * i + 3 by omega)
    omega
  have := own_all_spec _ k 0 h i hi
  rw [Nat.zero_add, own_t, Bool.or_eq_true] at this
  have hm' : n % (2 * i + 3) = 0 := by exact_mod_cast hm
  rcases this with q | q
  · have := Nat.blt_eq.mp q; omega
  · rw [hm'] at q; exact absurd q (by decide)
theorem own_p_2 : own_P 2 := Or.inl rfl
set_option maxRecDepth 65536 in
theorem own_p_3 : own_P 3 := own_pr (n := 3) 0 (by decide +kernel) (by decide) (by decide) (by decide)
set_option maxRecDepth 65536 in
theorem own_p_5 : own_P 5 := own_pr (n := 5) 0 (by decide +kernel) (by decide) (by decide) (by decide)
set_option maxRecDepth 65536 in
theorem own_p_7 : own_P 7 := own_pr (n := 7) 0 (by decide +kernel) (by decide) (by decide) (by decide)
set_option maxRecDepth 65536 in
theorem own_p_11 : own_P 11 := own_pr (n := 11) 0 (by decide +kernel) (by decide) (by decide) (by decide)
set_option maxRecDepth 65536 in
theorem own_p_13 : own_P 13 := own_pr (n := 13) 0 (by decide +kernel) (by decide) (by decide) (by decide)
set_option maxRecDepth 65536 in
theorem own_p_17 : own_P 17 := own_pr (n := 17) 0 (by decide +kernel) (by decide) (by decide) (by decide)
set_option maxRecDepth 65536 in
theorem own_p_19 : own_P 19 := own_pr (n := 19) 0 (by decide +kernel) (by decide) (by decide) (by decide)
set_option maxRecDepth 65536 in
theorem own_p_23 : own_P 23 := own_pr (n := 23) 0 (by decide +kernel) (by decide) (by decide) (by decide)
set_option maxRecDepth 65536 in
theorem own_p_29 : own_P 29 := own_pr (n := 29) 1 (by decide +kernel) (by decide) (by decide) (by decide)
set_option maxRecDepth 65536 in
theorem own_p_31 : own_P 31 := own_pr (n := 31) 1 (by decide +kernel) (by decide) (by decide) (by decide)
set_option maxRecDepth 65536 in
theorem own_p_37 : own_P 37 := own_pr (n := 37) 1 (by decide +kernel) (by decide) (by decide) (by decide)
set_option maxRecDepth 65536 in
theorem own_p_41 : own_P 41 := own_pr (n := 41) 1 (by decide +kernel) (by decide) (by decide) (by decide)
set_option maxRecDepth 65536 in
theorem own_p_43 : own_P 43 := own_pr (n := 43) 1 (by decide +kernel) (by decide) (by decide) (by decide)
set_option maxRecDepth 65536 in
theorem own_p_47 : own_P 47 := own_pr (n := 47) 1 (by decide +kernel) (by decide) (by decide) (by decide)
set_option maxRecDepth 65536 in
theorem own_p_53 : own_P 53 := own_pr (n := 53) 2 (by decide +kernel) (by decide) (by decide) (by decide)
set_option maxRecDepth 65536 in
theorem own_p_59 : own_P 59 := own_pr (n := 59) 2 (by decide +kernel) (by decide) (by decide) (by decide)
set_option maxRecDepth 65536 in
theorem own_p_61 : own_P 61 := own_pr (n := 61) 2 (by decide +kernel) (by decide) (by decide) (by decide)
set_option maxRecDepth 65536 in
theorem own_p_67 : own_P 67 := own_pr (n := 67) 2 (by decide +kernel) (by decide) (by decide) (by decide)
set_option maxRecDepth 65536 in
theorem own_p_71 : own_P 71 := own_pr (n := 71) 2 (by decide +kernel) (by decide) (by decide) (by decide)
set_option maxRecDepth 65536 in
theorem own_p_73 : own_P 73 := own_pr (n := 73) 2 (by decide +kernel) (by decide) (by decide) (by decide)
set_option maxRecDepth 65536 in
theorem own_p_79 : own_P 79 := own_pr (n := 79) 2 (by decide +kernel) (by decide) (by decide) (by decide)
set_option maxRecDepth 65536 in
theorem own_p_83 : own_P 83 := own_pr (n := 83) 2 (by decide +kernel) (by decide) (by decide) (by decide)
set_option maxRecDepth 65536 in
theorem own_p_89 : own_P 89 := own_pr (n := 89) 2 (by decide +kernel) (by decide) (by decide) (by decide)
set_option maxRecDepth 65536 in
theorem own_p_97 : own_P 97 := own_pr (n := 97) 2 (by decide +kernel) (by decide) (by decide) (by decide)
set_option maxRecDepth 65536 in
theorem own_p_101 : own_P 101 := own_pr (n := 101) 2 (by decide +kernel) (by decide) (by decide) (by decide)
set_option maxRecDepth 65536 in
theorem own_p_7919 : own_P 7919 := own_pr (n := 7919) 6 (by decide +kernel) (by decide) (by decide) (by decide)
set_option maxRecDepth 65536 in
theorem own_p_104729 : own_P 104729 := own_pr (n := 104729) 8 (by decide +kernel) (by decide) (by decide) (by decide)
set_option maxRecDepth 65536 in
theorem own_p_65521 : own_P 65521 := own_pr (n := 65521) 7 (by decide +kernel) (by decide) (by decide) (by decide)
set_option maxRecDepth 65536 in
theorem own_p_65537 : own_P 65537 := own_pr (n := 65537) 7 (by decide +kernel) (by decide) (by decide) (by decide)
set_option maxRecDepth 65536 in
theorem own_p_999983 : own_P 999983 := own_pr (n := 999983) 9 (by decide +kernel) (by decide) (by decide) (by decide)
set_option maxRecDepth 65536 in
theorem own_p_1000003 : own_P 1000003 := own_pr (n := 1000003) 9 (by decide +kernel) (by decide) (by decide) (by decide)
set_option maxRecDepth 65536 in
theorem own_p_998244353 : own_P 998244353 := own_pr (n := 998244353) 14 (by decide +kernel) (by decide) (by decide) (by decide)
set_option maxRecDepth 65536 in
theorem own_p_1000000007 : own_P 1000000007 := own_pr (n := 1000000007) 14 (by decide +kernel) (by decide) (by decide) (by decide)
set_option maxRecDepth 65536 in
theorem own_p_1000000009 : own_P 1000000009 := own_pr (n := 1000000009) 14 (by decide +kernel) (by decide) (by decide) (by decide)
set_option maxRecDepth 65536 in
theorem own_p_2147483647 : own_P 2147483647 := own_pr (n := 2147483647) 15 (by decide +kernel) (by decide) (by decide) (by decide)
def own_ps : List Value := [.int 2, .int 3, .int 5, .int 7, .int 11, .int 13, .int 17, .int 19, .int 23, .int 29, .int 31, .int 37, .int 41, .int 43, .int 47, .int 53, .int 59, .int 61, .int 67, .int 71, .int 73, .int 79, .int 83, .int 89, .int 97, .int 101, .int 7919, .int 104729, .int 65521, .int 65537, .int 999983, .int 1000003, .int 998244353, .int 1000000007, .int 1000000009, .int 2147483647]
theorem own_ps_at : ∀ i, i < 36 → ∃ z : Int32, own_ps[i]? = some (.int z) ∧ own_P z.toInt := by
  intro i hi
  match i, hi with
  | 0, _ => exact ⟨2, rfl, own_p_2⟩
  | 1, _ => exact ⟨3, rfl, own_p_3⟩
  | 2, _ => exact ⟨5, rfl, own_p_5⟩
  | 3, _ => exact ⟨7, rfl, own_p_7⟩
  | 4, _ => exact ⟨11, rfl, own_p_11⟩
  | 5, _ => exact ⟨13, rfl, own_p_13⟩
  | 6, _ => exact ⟨17, rfl, own_p_17⟩
  | 7, _ => exact ⟨19, rfl, own_p_19⟩
  | 8, _ => exact ⟨23, rfl, own_p_23⟩
  | 9, _ => exact ⟨29, rfl, own_p_29⟩
  | 10, _ => exact ⟨31, rfl, own_p_31⟩
  | 11, _ => exact ⟨37, rfl, own_p_37⟩
  | 12, _ => exact ⟨41, rfl, own_p_41⟩
  | 13, _ => exact ⟨43, rfl, own_p_43⟩
  | 14, _ => exact ⟨47, rfl, own_p_47⟩
  | 15, _ => exact ⟨53, rfl, own_p_53⟩
  | 16, _ => exact ⟨59, rfl, own_p_59⟩
  | 17, _ => exact ⟨61, rfl, own_p_61⟩
  | 18, _ => exact ⟨67, rfl, own_p_67⟩
  | 19, _ => exact ⟨71, rfl, own_p_71⟩
  | 20, _ => exact ⟨73, rfl, own_p_73⟩
  | 21, _ => exact ⟨79, rfl, own_p_79⟩
  | 22, _ => exact ⟨83, rfl, own_p_83⟩
  | 23, _ => exact ⟨89, rfl, own_p_89⟩
  | 24, _ => exact ⟨97, rfl, own_p_97⟩
  | 25, _ => exact ⟨101, rfl, own_p_101⟩
  | 26, _ => exact ⟨7919, rfl, own_p_7919⟩
  | 27, _ => exact ⟨104729, rfl, own_p_104729⟩
  | 28, _ => exact ⟨65521, rfl, own_p_65521⟩
  | 29, _ => exact ⟨65537, rfl, own_p_65537⟩
  | 30, _ => exact ⟨999983, rfl, own_p_999983⟩
  | 31, _ => exact ⟨1000003, rfl, own_p_1000003⟩
  | 32, _ => exact ⟨998244353, rfl, own_p_998244353⟩
  | 33, _ => exact ⟨1000000007, rfl, own_p_1000000007⟩
  | 34, _ => exact ⟨1000000009, rfl, own_p_1000000009⟩
  | 35, _ => exact ⟨2147483647, rfl, own_p_2147483647⟩
  | n + 36, h => omega
theorem own_ix (kk : Int32) : ¬ (XT.ushr kk 2 % 36) < 0 ∧ (XT.ushr kk 2 % 36).toNatClampNeg < 36 := by
  have h1 : (XT.ushr kk 2).toInt = (kk.toInt % 4294967296) / (2 ^ 2 : Nat) := c_iushr kk 2 2 (by decide) (by decide)
  have h2 := (c_irem (XT.ushr kk 2) 36 36 rfl).1 (by rw [h1]; omega)
  have h3 : 0 ≤ (XT.ushr kk 2).toInt := by rw [h1]; omega
  rw [Int32.lt_iff_toInt_lt, own_c0, Int32.toNatClampNeg, h2]
  omega
theorem own_min (nn : Int32) : (if (1 : Int32) < nn then 1 else nn).toInt ≤ 1 := by
  split
  · decide
  · rename_i h; rw [Int32.lt_iff_toInt_lt, own_c1] at h; omega
set_option maxRecDepth 65536 in
set_option maxHeartbeats 40000000 in
theorem law_met (l : Launch) (Z : State) (a0 : Array Value) (hw : ∀ d ∈ tables_1, d.before a0 Z = true) (nn xx yy kk : Int32) (h : Heap) (n0 : Nat) (hn0 : n0 ≤ h.size) :
    Met l x code maxLocals ret tables_1 room_1 #[(.int nn), (.int xx), (.int yy), (.int kk)] Z h n0 (fun v _ => v = some (.int 1)) := by
  refine Met.of (plainFor_of_name (by first | (simp [plainName, overriddenIn]; done) | decide +kernel)) ?_
  intro p e s m below meth c K
  refine Go.entry (ls := #[.val (.int nn), .val (.int xx), .val (.int yy), .val (.int kk), .unset, .unset, .unset, .unset]) rfl ?_
  refine go_iloadN (q := 1) K at_0 rfl rfl ?_
  refine go_iconst (q := 2) K at_1 (3 : Int32) rfl rfl ?_
  refine go_iand (q := 3) K at_2 rfl ?_
  refine go_istore (q := 5) K at_3 #[.val (.int nn), .val (.int xx), .val (.int yy), .val (.int kk), .val (.int (kk &&& (3 : Int32))), .unset, .unset, .unset] rfl rfl ?_
  refine go_iload (q := 7) K at_5 rfl rfl ?_
  refine go_if0 (q := 62) (q' := 10) K at_7 (by decide) rfl rfl (fun hc7 => ?_) (fun hc7 => ?_)
  · have hc7 : ¬ (kk &&& (3 : Int32)) = (0 : Int32) := hc7
    refine go_iload (q := 64) K at_62 rfl rfl ?_
    refine go_iconst (q := 65) K at_64 (1 : Int32) rfl rfl ?_
    refine go_icmp (q := 85) (q' := 68) K at_65 (by decide) rfl rfl (fun hc65 => ?_) (fun hc65 => ?_)
    · have hc65 : ¬ (kk &&& (3 : Int32)) = (1 : Int32) := hc65
      refine go_bipush (q := 87) K at_85 (36 : Int32) rfl rfl ?_
      refine go_newarray (q := 89) (num := 36) (cap := 36) K (wd hw 8 rfl) at_87 (by decide) rfl (by decide) (by decide) (by decide) (by decide) rfl ?_
      intro h1 ar kl gar Eh1 F1
      refine go_dup (q := 90) K at_89 rfl rfl ?_
      refine go_iconst (q := 91) K at_90 (0 : Int32) rfl rfl ?_
      refine go_iconst (q := 92) K at_91 (2 : Int32) rfl rfl ?_
      refine go_iastore (q := 93) K F1 (by decide) (show 0 < 36 from by decide) (by rw [gar]; exact hn0) at_92 rfl ?_
      intro h2 Wh2 F2
      refine go_dup (q := 94) K at_93 rfl rfl ?_
      refine go_iconst (q := 95) K at_94 (1 : Int32) rfl rfl ?_
      refine go_iconst (q := 96) K at_95 (3 : Int32) rfl rfl ?_
      refine go_iastore (q := 97) K F2 (by decide) (show 1 < 36 from by decide) (by rw [gar]; exact hn0) at_96 rfl ?_
      intro h3 Wh3 F3
      refine go_dup (q := 98) K at_97 rfl rfl ?_
      refine go_iconst (q := 99) K at_98 (2 : Int32) rfl rfl ?_
      refine go_iconst (q := 100) K at_99 (5 : Int32) rfl rfl ?_
      refine go_iastore (q := 101) K F3 (by decide) (show 2 < 36 from by decide) (by rw [gar]; exact hn0) at_100 rfl ?_
      intro h4 Wh4 F4
      refine go_dup (q := 102) K at_101 rfl rfl ?_
      refine go_iconst (q := 103) K at_102 (3 : Int32) rfl rfl ?_
      refine go_bipush (q := 105) K at_103 (7 : Int32) rfl rfl ?_
      refine go_iastore (q := 106) K F4 (by decide) (show 3 < 36 from by decide) (by rw [gar]; exact hn0) at_105 rfl ?_
      intro h5 Wh5 F5
      refine go_dup (q := 107) K at_106 rfl rfl ?_
      refine go_iconst (q := 108) K at_107 (4 : Int32) rfl rfl ?_
      refine go_bipush (q := 110) K at_108 (11 : Int32) rfl rfl ?_
      refine go_iastore (q := 111) K F5 (by decide) (show 4 < 36 from by decide) (by rw [gar]; exact hn0) at_110 rfl ?_
      intro h6 Wh6 F6
      refine go_dup (q := 112) K at_111 rfl rfl ?_
      refine go_iconst (q := 113) K at_112 (5 : Int32) rfl rfl ?_
      refine go_bipush (q := 115) K at_113 (13 : Int32) rfl rfl ?_
      refine go_iastore (q := 116) K F6 (by decide) (show 5 < 36 from by decide) (by rw [gar]; exact hn0) at_115 rfl ?_
      intro h7 Wh7 F7
      refine go_dup (q := 117) K at_116 rfl rfl ?_
      refine go_bipush (q := 119) K at_117 (6 : Int32) rfl rfl ?_
      refine go_bipush (q := 121) K at_119 (17 : Int32) rfl rfl ?_
      refine go_iastore (q := 122) K F7 (by decide) (show 6 < 36 from by decide) (by rw [gar]; exact hn0) at_121 rfl ?_
      intro h8 Wh8 F8
      refine go_dup (q := 123) K at_122 rfl rfl ?_
      refine go_bipush (q := 125) K at_123 (7 : Int32) rfl rfl ?_
      refine go_bipush (q := 127) K at_125 (19 : Int32) rfl rfl ?_
      refine go_iastore (q := 128) K F8 (by decide) (show 7 < 36 from by decide) (by rw [gar]; exact hn0) at_127 rfl ?_
      intro h9 Wh9 F9
      refine go_dup (q := 129) K at_128 rfl rfl ?_
      refine go_bipush (q := 131) K at_129 (8 : Int32) rfl rfl ?_
      refine go_bipush (q := 133) K at_131 (23 : Int32) rfl rfl ?_
      refine go_iastore (q := 134) K F9 (by decide) (show 8 < 36 from by decide) (by rw [gar]; exact hn0) at_133 rfl ?_
      intro h10 Wh10 F10
      refine go_dup (q := 135) K at_134 rfl rfl ?_
      refine go_bipush (q := 137) K at_135 (9 : Int32) rfl rfl ?_
      refine go_bipush (q := 139) K at_137 (29 : Int32) rfl rfl ?_
      refine go_iastore (q := 140) K F10 (by decide) (show 9 < 36 from by decide) (by rw [gar]; exact hn0) at_139 rfl ?_
      intro h11 Wh11 F11
      refine go_dup (q := 141) K at_140 rfl rfl ?_
      refine go_bipush (q := 143) K at_141 (10 : Int32) rfl rfl ?_
      refine go_bipush (q := 145) K at_143 (31 : Int32) rfl rfl ?_
      refine go_iastore (q := 146) K F11 (by decide) (show 10 < 36 from by decide) (by rw [gar]; exact hn0) at_145 rfl ?_
      intro h12 Wh12 F12
      refine go_dup (q := 147) K at_146 rfl rfl ?_
      refine go_bipush (q := 149) K at_147 (11 : Int32) rfl rfl ?_
      refine go_bipush (q := 151) K at_149 (37 : Int32) rfl rfl ?_
      refine go_iastore (q := 152) K F12 (by decide) (show 11 < 36 from by decide) (by rw [gar]; exact hn0) at_151 rfl ?_
      intro h13 Wh13 F13
      refine go_dup (q := 153) K at_152 rfl rfl ?_
      refine go_bipush (q := 155) K at_153 (12 : Int32) rfl rfl ?_
      refine go_bipush (q := 157) K at_155 (41 : Int32) rfl rfl ?_
      refine go_iastore (q := 158) K F13 (by decide) (show 12 < 36 from by decide) (by rw [gar]; exact hn0) at_157 rfl ?_
      intro h14 Wh14 F14
      refine go_dup (q := 159) K at_158 rfl rfl ?_
      refine go_bipush (q := 161) K at_159 (13 : Int32) rfl rfl ?_
      refine go_bipush (q := 163) K at_161 (43 : Int32) rfl rfl ?_
      refine go_iastore (q := 164) K F14 (by decide) (show 13 < 36 from by decide) (by rw [gar]; exact hn0) at_163 rfl ?_
      intro h15 Wh15 F15
      refine go_dup (q := 165) K at_164 rfl rfl ?_
      refine go_bipush (q := 167) K at_165 (14 : Int32) rfl rfl ?_
      refine go_bipush (q := 169) K at_167 (47 : Int32) rfl rfl ?_
      refine go_iastore (q := 170) K F15 (by decide) (show 14 < 36 from by decide) (by rw [gar]; exact hn0) at_169 rfl ?_
      intro h16 Wh16 F16
      refine go_dup (q := 171) K at_170 rfl rfl ?_
      refine go_bipush (q := 173) K at_171 (15 : Int32) rfl rfl ?_
      refine go_bipush (q := 175) K at_173 (53 : Int32) rfl rfl ?_
      refine go_iastore (q := 176) K F16 (by decide) (show 15 < 36 from by decide) (by rw [gar]; exact hn0) at_175 rfl ?_
      intro h17 Wh17 F17
      refine go_dup (q := 177) K at_176 rfl rfl ?_
      refine go_bipush (q := 179) K at_177 (16 : Int32) rfl rfl ?_
      refine go_bipush (q := 181) K at_179 (59 : Int32) rfl rfl ?_
      refine go_iastore (q := 182) K F17 (by decide) (show 16 < 36 from by decide) (by rw [gar]; exact hn0) at_181 rfl ?_
      intro h18 Wh18 F18
      refine go_dup (q := 183) K at_182 rfl rfl ?_
      refine go_bipush (q := 185) K at_183 (17 : Int32) rfl rfl ?_
      refine go_bipush (q := 187) K at_185 (61 : Int32) rfl rfl ?_
      refine go_iastore (q := 188) K F18 (by decide) (show 17 < 36 from by decide) (by rw [gar]; exact hn0) at_187 rfl ?_
      intro h19 Wh19 F19
      refine go_dup (q := 189) K at_188 rfl rfl ?_
      refine go_bipush (q := 191) K at_189 (18 : Int32) rfl rfl ?_
      refine go_bipush (q := 193) K at_191 (67 : Int32) rfl rfl ?_
      refine go_iastore (q := 194) K F19 (by decide) (show 18 < 36 from by decide) (by rw [gar]; exact hn0) at_193 rfl ?_
      intro h20 Wh20 F20
      refine go_dup (q := 195) K at_194 rfl rfl ?_
      refine go_bipush (q := 197) K at_195 (19 : Int32) rfl rfl ?_
      refine go_bipush (q := 199) K at_197 (71 : Int32) rfl rfl ?_
      refine go_iastore (q := 200) K F20 (by decide) (show 19 < 36 from by decide) (by rw [gar]; exact hn0) at_199 rfl ?_
      intro h21 Wh21 F21
      refine go_dup (q := 201) K at_200 rfl rfl ?_
      refine go_bipush (q := 203) K at_201 (20 : Int32) rfl rfl ?_
      refine go_bipush (q := 205) K at_203 (73 : Int32) rfl rfl ?_
      refine go_iastore (q := 206) K F21 (by decide) (show 20 < 36 from by decide) (by rw [gar]; exact hn0) at_205 rfl ?_
      intro h22 Wh22 F22
      refine go_dup (q := 207) K at_206 rfl rfl ?_
      refine go_bipush (q := 209) K at_207 (21 : Int32) rfl rfl ?_
      refine go_bipush (q := 211) K at_209 (79 : Int32) rfl rfl ?_
      refine go_iastore (q := 212) K F22 (by decide) (show 21 < 36 from by decide) (by rw [gar]; exact hn0) at_211 rfl ?_
      intro h23 Wh23 F23
      refine go_dup (q := 213) K at_212 rfl rfl ?_
      refine go_bipush (q := 215) K at_213 (22 : Int32) rfl rfl ?_
      refine go_bipush (q := 217) K at_215 (83 : Int32) rfl rfl ?_
      refine go_iastore (q := 218) K F23 (by decide) (show 22 < 36 from by decide) (by rw [gar]; exact hn0) at_217 rfl ?_
      intro h24 Wh24 F24
      refine go_dup (q := 219) K at_218 rfl rfl ?_
      refine go_bipush (q := 221) K at_219 (23 : Int32) rfl rfl ?_
      refine go_bipush (q := 223) K at_221 (89 : Int32) rfl rfl ?_
      refine go_iastore (q := 224) K F24 (by decide) (show 23 < 36 from by decide) (by rw [gar]; exact hn0) at_223 rfl ?_
      intro h25 Wh25 F25
      refine go_dup (q := 225) K at_224 rfl rfl ?_
      refine go_bipush (q := 227) K at_225 (24 : Int32) rfl rfl ?_
      refine go_bipush (q := 229) K at_227 (97 : Int32) rfl rfl ?_
      refine go_iastore (q := 230) K F25 (by decide) (show 24 < 36 from by decide) (by rw [gar]; exact hn0) at_229 rfl ?_
      intro h26 Wh26 F26
      refine go_dup (q := 231) K at_230 rfl rfl ?_
      refine go_bipush (q := 233) K at_231 (25 : Int32) rfl rfl ?_
      refine go_bipush (q := 235) K at_233 (101 : Int32) rfl rfl ?_
      refine go_iastore (q := 236) K F26 (by decide) (show 25 < 36 from by decide) (by rw [gar]; exact hn0) at_235 rfl ?_
      intro h27 Wh27 F27
      refine go_dup (q := 237) K at_236 rfl rfl ?_
      refine go_bipush (q := 239) K at_237 (26 : Int32) rfl rfl ?_
      refine go_sipush (q := 242) K at_239 (7919 : Int32) rfl rfl ?_
      refine go_iastore (q := 243) K F27 (by decide) (show 26 < 36 from by decide) (by rw [gar]; exact hn0) at_242 rfl ?_
      intro h28 Wh28 F28
      refine go_dup (q := 244) K at_243 rfl rfl ?_
      refine go_bipush (q := 246) K at_244 (27 : Int32) rfl rfl ?_
      refine go_ldcI (q := 248) K (wd hw 9 rfl) at_246 rfl ?_
      refine go_iastore (q := 249) K F28 (by decide) (show 27 < 36 from by decide) (by rw [gar]; exact hn0) at_248 rfl ?_
      intro h29 Wh29 F29
      refine go_dup (q := 250) K at_249 rfl rfl ?_
      refine go_bipush (q := 252) K at_250 (28 : Int32) rfl rfl ?_
      refine go_ldcI (q := 254) K (wd hw 10 rfl) at_252 rfl ?_
      refine go_iastore (q := 255) K F29 (by decide) (show 28 < 36 from by decide) (by rw [gar]; exact hn0) at_254 rfl ?_
      intro h30 Wh30 F30
      refine go_dup (q := 256) K at_255 rfl rfl ?_
      refine go_bipush (q := 258) K at_256 (29 : Int32) rfl rfl ?_
      refine go_ldcI (q := 260) K (wd hw 11 rfl) at_258 rfl ?_
      refine go_iastore (q := 261) K F30 (by decide) (show 29 < 36 from by decide) (by rw [gar]; exact hn0) at_260 rfl ?_
      intro h31 Wh31 F31
      refine go_dup (q := 262) K at_261 rfl rfl ?_
      refine go_bipush (q := 264) K at_262 (30 : Int32) rfl rfl ?_
      refine go_ldcI (q := 266) K (wd hw 12 rfl) at_264 rfl ?_
      refine go_iastore (q := 267) K F31 (by decide) (show 30 < 36 from by decide) (by rw [gar]; exact hn0) at_266 rfl ?_
      intro h32 Wh32 F32
      refine go_dup (q := 268) K at_267 rfl rfl ?_
      refine go_bipush (q := 270) K at_268 (31 : Int32) rfl rfl ?_
      refine go_ldcI (q := 272) K (wd hw 13 rfl) at_270 rfl ?_
      refine go_iastore (q := 273) K F32 (by decide) (show 31 < 36 from by decide) (by rw [gar]; exact hn0) at_272 rfl ?_
      intro h33 Wh33 F33
      refine go_dup (q := 274) K at_273 rfl rfl ?_
      refine go_bipush (q := 276) K at_274 (32 : Int32) rfl rfl ?_
      refine go_ldcI (q := 278) K (wd hw 14 rfl) at_276 rfl ?_
      refine go_iastore (q := 279) K F33 (by decide) (show 32 < 36 from by decide) (by rw [gar]; exact hn0) at_278 rfl ?_
      intro h34 Wh34 F34
      refine go_dup (q := 280) K at_279 rfl rfl ?_
      refine go_bipush (q := 282) K at_280 (33 : Int32) rfl rfl ?_
      refine go_ldcI (q := 284) K (wd hw 15 rfl) at_282 rfl ?_
      refine go_iastore (q := 285) K F34 (by decide) (show 33 < 36 from by decide) (by rw [gar]; exact hn0) at_284 rfl ?_
      intro h35 Wh35 F35
      refine go_dup (q := 286) K at_285 rfl rfl ?_
      refine go_bipush (q := 288) K at_286 (34 : Int32) rfl rfl ?_
      refine go_ldcI (q := 290) K (wd hw 16 rfl) at_288 rfl ?_
      refine go_iastore (q := 291) K F35 (by decide) (show 34 < 36 from by decide) (by rw [gar]; exact hn0) at_290 rfl ?_
      intro h36 Wh36 F36
      refine go_dup (q := 292) K at_291 rfl rfl ?_
      refine go_bipush (q := 294) K at_292 (35 : Int32) rfl rfl ?_
      refine go_ldcI (q := 296) K (wd hw 17 rfl) at_294 rfl ?_
      refine go_iastore (q := 297) K F36 (by decide) (show 35 < 36 from by decide) (by rw [gar]; exact hn0) at_296 rfl ?_
      intro h37 Wh37 F37
      refine go_astore (q := 299) K at_297 #[.val (.int nn), .val (.int xx), .val (.int yy), .val (.int kk), .val (.int (kk &&& (3 : Int32))), .val (.ref ar), .unset, .unset] rfl rfl rfl ?_
      refine go_aload (q := 301) K at_299 rfl rfl rfl ?_
      refine go_iloadN (q := 302) K at_301 rfl rfl ?_
      refine go_iconst (q := 303) K at_302 (2 : Int32) rfl rfl ?_
      refine go_iushr (q := 304) K at_303 rfl ?_
      refine go_aload (q := 306) K at_304 rfl rfl rfl ?_
      refine go_arraylength (q := 307) (z := (36 : Int32)) K F37 rfl at_306 rfl ?_
      refine go_irem (q := 308) K at_307 (by decide) rfl ?_
      refine go_nameI (fun j hj => ?_)
      have hps : Ary Z h37 ar kl .int own_ps := F37
      have hj2 := own_ix kk
      rw [← hj] at hj2
      obtain ⟨pz, hpz, hpp⟩ := own_ps_at _ hj2.2
      refine go_iaload (q := 309) K hps hj2.1 hpz at_308 rfl ?_
      refine go_callS (q := 312) K (wd hw 4 rfl) (wd hw 5 rfl) (wd hw 6 rfl) (wd hw 7 rfl) [(.int pz)] [] (ip_met l Z a0 hw pz _ n0) at_309 (ps := [.int]) (by decide +kernel) rfl rfl rfl (by decide) rfl (by decide) (by decide) (by decide) (by decide) rfl ?_
      rintro _ _ ⟨z, rfl, rfl, hz⟩
      obtain rfl : z = 1 := hz.elim (fun q => q.2) (fun q => absurd hpp q.1)
      show Go p l e _ s m _ below meth c n0 _ h37 1 36 (mkF m 312 #[.val (.int nn), .val (.int xx), .val (.int yy), .val (.int kk), .val (.int (kk &&& (3 : Int32))), .val (.ref ar), .unset, .unset] [(.int (1 : Int32))])
      refine go_iret K at_312 rfl (Or.inr (Or.inl rfl)) rfl (by decide) (by decide) ?_
      exact rfl
    · have hc65 : (kk &&& (3 : Int32)) = (1 : Int32) := hc65
      refine go_iloadN (q := 69) K at_68 rfl rfl ?_
      refine go_iconst (q := 70) K at_69 (1 : Int32) rfl rfl ?_
      refine go_callS (q := 73) K (wd hw 0 rfl) (wd hw 1 rfl) (wd hw 2 rfl) (wd hw 3 rfl) [(.int nn), (.int (1 : Int32))] [] (min_met l Z a0 hw nn (1 : Int32) _ n0) at_70 (ps := [.int, .int]) (by decide +kernel) rfl rfl rfl (by decide) rfl (by decide) (by decide) (by decide) (by decide) rfl ?_
      rintro _ _ ⟨rfl, rfl⟩
      show Go p l e _ s m _ below meth c n0 _ h 0 0 (mkF m 73 #[.val (.int nn), .val (.int xx), .val (.int yy), .val (.int kk), .val (.int (kk &&& (3 : Int32))), .unset, .unset, .unset] [(.int (if (1 : Int32) < nn then (1 : Int32) else nn))])
      refine go_nameI (fun mm hmm => ?_)
      have hnp : ¬ own_P mm.toInt := by rw [hmm]; exact own_low (own_min nn)
      refine go_callS (q := 76) K (wd hw 4 rfl) (wd hw 5 rfl) (wd hw 6 rfl) (wd hw 7 rfl) [(.int mm)] [] (ip_met l Z a0 hw mm _ n0) at_73 (ps := [.int]) (by decide +kernel) rfl rfl rfl (by decide) rfl (by decide) (by decide) (by decide) (by decide) rfl ?_
      rintro _ _ ⟨z, rfl, rfl, hz⟩
      obtain rfl : z = 0 := hz.elim (fun q => absurd q.1 hnp) (fun q => q.2)
      show Go p l e _ s m _ below meth c n0 _ h 0 0 (mkF m 76 #[.val (.int nn), .val (.int xx), .val (.int yy), .val (.int kk), .val (.int (kk &&& (3 : Int32))), .unset, .unset, .unset] [(.int (0 : Int32))])
      refine go_if0 (q := 83) (q' := 79) K at_76 (by decide) rfl rfl (fun hn => cN_no hn (show (0 : Int32) = (0 : Int32) from (by decide))) (fun _ => ?_)
      refine go_iconst (q := 80) K at_79 (1 : Int32) rfl rfl ?_
      refine go_goto (q := 84) K at_80 (by decide) rfl ?_
      refine go_iret K at_84 rfl (Or.inr (Or.inl rfl)) rfl (by decide) (by decide) ?_
      exact rfl
  · have hc7 : (kk &&& (3 : Int32)) = (0 : Int32) := hc7
    refine go_iconst (q := 11) K at_10 (2 : Int32) rfl rfl ?_
    refine go_iloadN (q := 12) K at_11 rfl rfl ?_
    refine go_ldcI (q := 14) K (wd hw 17 rfl) at_12 rfl ?_
    refine go_iand (q := 15) K at_14 rfl ?_
    refine go_ldcI (q := 17) K (wd hw 18 rfl) at_15 rfl ?_
    refine go_irem (q := 18) K at_17 (by decide) rfl ?_
    refine go_iadd (q := 19) K at_18 rfl ?_
    refine go_nameI (fun a ha => ?_)
    have ha2 : 2 ≤ a.toInt ∧ a.toInt ≤ 46340 := by rw [ha]; exact own_a xx
    have ha0 : a ≠ 0 := by intro q; have := ha2.1; rw [q] at this; revert this; decide
    refine go_istore (q := 21) K at_19 #[.val (.int nn), .val (.int xx), .val (.int yy), .val (.int kk), .val (.int (kk &&& (3 : Int32))), .val (.int a), .unset, .unset] rfl rfl ?_
    refine go_ldcI (q := 23) K (wd hw 17 rfl) at_21 rfl ?_
    refine go_iload (q := 25) K at_23 rfl rfl ?_
    refine go_idiv (q := 26) K at_25 ha0 rfl ?_
    refine go_nameI (fun hi hhi => ?_)
    have hhi2 := own_hi ha2.1 ha2.2 hhi
    refine go_istore (q := 28) K at_26 #[.val (.int nn), .val (.int xx), .val (.int yy), .val (.int kk), .val (.int (kk &&& (3 : Int32))), .val (.int a), .val (.int hi), .unset] rfl rfl ?_
    refine go_iload (q := 30) K at_28 rfl rfl ?_
    refine go_iloadN (q := 31) K at_30 rfl rfl ?_
    refine go_ldcI (q := 33) K (wd hw 17 rfl) at_31 rfl ?_
    refine go_iand (q := 34) K at_33 rfl ?_
    refine go_iload (q := 36) K at_34 rfl rfl ?_
    refine go_iload (q := 38) K at_36 rfl rfl ?_
    refine go_isub (q := 39) K at_38 rfl ?_
    refine go_iconst (q := 40) K at_39 (1 : Int32) rfl rfl ?_
    refine go_iadd (q := 41) K at_40 rfl ?_
    refine go_nameI (fun w1 hw1 => ?_)
    have hw2 := own_w ha2.1 hhi2.1 hw1
    have hw0 : w1 ≠ 0 := by intro q; rw [q, own_c0] at hw2; omega
    refine go_irem (q := 42) K at_41 hw0 rfl ?_
    refine go_iadd (q := 43) K at_42 rfl ?_
    refine go_nameI (fun b hb => ?_)
    have hb2 := own_b ha2.1 hhi2.1 hw2 hb
    refine go_istore (q := 45) K at_43 #[.val (.int nn), .val (.int xx), .val (.int yy), .val (.int kk), .val (.int (kk &&& (3 : Int32))), .val (.int a), .val (.int hi), .val (.int b)] rfl rfl ?_
    refine go_iload (q := 47) K at_45 rfl rfl ?_
    refine go_iload (q := 49) K at_47 rfl rfl ?_
    refine go_imul (q := 50) K at_49 rfl ?_
    refine go_nameI (fun cc hcc => ?_)
    have hcc2 := own_prod ha2.1 hhi2.2 hb2 hcc
    have hnp : ¬ own_P cc.toInt := by rw [hcc2]; exact own_comp ha2.1 hb2.1
    refine go_callS (q := 53) K (wd hw 4 rfl) (wd hw 5 rfl) (wd hw 6 rfl) (wd hw 7 rfl) [(.int cc)] [] (ip_met l Z a0 hw cc _ n0) at_50 (ps := [.int]) (by decide +kernel) rfl rfl rfl (by decide) rfl (by decide) (by decide) (by decide) (by decide) rfl ?_
    rintro _ _ ⟨z, rfl, rfl, hz⟩
    obtain rfl : z = 0 := hz.elim (fun q => absurd q.1 hnp) (fun q => q.2)
    show Go p l e _ s m _ below meth c n0 _ h 0 0 (mkF m 53 #[.val (.int nn), .val (.int xx), .val (.int yy), .val (.int kk), .val (.int (kk &&& (3 : Int32))), .val (.int a), .val (.int hi), .val (.int b)] [(.int (0 : Int32))])
    refine go_if0 (q := 60) (q' := 56) K at_53 (by decide) rfl rfl (fun hn => cN_no hn (show (0 : Int32) = (0 : Int32) from (by decide))) (fun _ => ?_)
    refine go_iconst (q := 57) K at_56 (1 : Int32) rfl rfl ?_
    refine go_goto (q := 61) K at_57 (by decide) rfl ?_
    refine go_iret K at_61 rfl (Or.inr (Or.inl rfl)) rfl (by decide) (by decide) ?_
    exact rfl
set_option maxRecDepth 65536 in
set_option maxHeartbeats 40000000 in
theorem comes_1 {Post : Tables → Env → Array Value → State → Outcome → State → Prop} (hpost : ∀ tb e args s v u, (limb_1_1.after args s (.returned v) u = true ∧ limb_1_2.after args s (.returned v) u = true ∧ True) → FrameEnd s (.returned v) u (Jvm.fieldLocs frame_1_writes args s ++ Jvm.arrayLocs frame_1_arrays args s ++ Jvm.staticLocs frame_1_statics s) 16 192 → Post tb e args s (.returned v) u) :
    ArmFor flags0 classFile x code maxLocals ret World_1 tables_1 room_1 Calls_1 rest_1 Pre_1 Post := by
  intro l hfl _ _ p e ha hc hk s m args below hf hA hF happ hP
  obtain ⟨hcalls, hrest, hpre⟩ := hP
  obtain ⟨-, -, -, hnamed, -, -, -, hat⟩ := (Spec.applies_iff hf).mp happ
  obtain ⟨hg, hn⟩ := and_e (Cond.before_iff.mp (show (Jvm.Cond.and given_1 narrow_1).before args s = true from hpre))
  obtain ⟨hcnt, hg0⟩ := and_e hg
  obtain ⟨ha0, hg1⟩ := and_e hg0
  obtain ⟨ha1, hg2⟩ := and_e hg1
  obtain ⟨ha2, hg3⟩ := and_e hg2
  have ha3 := hg3
  obtain ⟨w0, w1, w2, w3, rfl⟩ : ∃ w0 w1 w2 w3 : Value, args = #[w0, w1, w2, w3] := by
    have hs : args.size = 4 := by simpa [Cond.value, given_1] using hcnt
    obtain ⟨L⟩ := args
    match L, hs with
    | [w0, w1, w2, w3], _ => exact ⟨w0, w1, w2, w3, rfl⟩
  have hw := fun d (hd : d ∈ tables_1) => atoms_spec (ws := Jvm.Cond.code x code maxLocals ret :: tables_1) hat d (List.mem_cons_of_mem _ hd)
  have hfit : Fit s := fun {y c} hc i hi => by
    obtain ⟨ha, rfl⟩ := Array.getElem?_eq_some_iff.mp hc
    have q := List.all_eq_true.mp ((Array.all_eq_true_iff_forall_mem.mp hF) _ (Array.getElem_mem ha)) i (List.mem_range.mpr hi)
    simpa [Array.getElem?_eq_getElem hi] using q
  obtain ⟨i0, ea0⟩ := is_v ha0
  obtain rfl : w0 = (.int i0) := Option.some.inj ea0
  obtain ⟨i1, ea1⟩ := is_v ha1
  obtain rfl : w1 = (.int i1) := Option.some.inj ea1
  obtain ⟨i2, ea2⟩ := is_v ha2
  obtain rfl : w2 = (.int i2) := Option.some.inj ea2
  obtain ⟨i3, ea3⟩ := is_v ha3
  obtain rfl : w3 = (.int i3) := Option.some.inj ea3
  obtain ⟨n, o, h1, h2, h3, _, L, rfl, ⟨rfl, N⟩, hq⟩ := law_met l s _ hw i0 i1 i2 i3 s.heap s.heap.size (Nat.le_refl _) p e ha hc hk s m _ below hf ((Spec.applies_iff_loose hf).mp happ).1 ⟨rfl, State.Warmed39.refl s, rfl⟩ trivial
  refine ⟨n, _, h1, h2, h3, hpost _ _ _ _ _ _ ⟨Cond.after_iff.mpr rfl, Cond.after_iff.mpr (eq_i res_at (Term.int_eval (1)) rfl), trivial⟩ ⟨hq.1, hq.2.1, (hq.2.2.sift fun y hy => Or.inr (N y hy)).mono (by decide) (by decide)⟩⟩
theorem main_1_1 : Claimed_1_1 := comes_1 fun _ _ _ _ _ _ h hF => ⟨h.1, hF⟩
theorem main_1_2 : Claimed_1_2 := comes_1 fun _ _ _ _ _ _ h hF => ⟨h.2.1, hF⟩
end Jvm.Pilot.@@N@@
namespace Jvm.Pilot.@@N@@
open Jvm Jvm.ClassFile Sem Op Lib Jvm.Free Jvm.Stand Jvm.Pilot.@@N@@.Jvm.D
/-! MADE BY PROGRAM (witnessworld.py) out of the Statement's table words and the real class files: 13 classes; the members and pool entries that the words name. The judged class is class 1, her method 1. -/
namespace start1
open Jvm.ClassFile
def u (s : String) : CpInfo := .utf8 (stringToUtf16 s)
/-- a pool by its gaps: so many unusable entries, then the entry; so many at the end -/
def gap : Nat → List CpInfo → List CpInfo
  | 0, r => r
  | n + 1, r => .unusable :: gap n r
def poolList (es : List (Nat × CpInfo)) (last : Nat) : List CpInfo := es.foldr (fun e r => gap e.1 (e.2 :: r)) (gap last [])
def pool (es : List (Nat × CpInfo)) (last : Nat) : Array CpInfo := ⟨poolList es last⟩
def fileOf (pool : Array CpInfo) (this : Nat) (attrs : Array Attribute := #[]) (ms : Array MethodInfo := #[]) (fl : Nat := 33) (sup : Nat := 0) (ifs : Array Nat := #[]) (fds : Array FieldInfo := #[]) : ClassFile where
  minorVersion := 0
  majorVersion := 65
  constantPool := pool
  accessFlags := fl
  thisClass := this
  superClass := sup
  interfaces := ifs
  fields := fds
  methods := ms
  attributes := attrs
def plain (name : String) (sup : Option ClassId) : Class where
  name := name
  kind := .ordinary
  loader := none
  accessFlags := 33
  super := sup
  interfaces := #[]
  cf := none
  fields := #[]
  methods := #[]
  instanceTypes := #[]
  staticTypes := #[]
  resolved := #[]
  callSites := []
  init := .initialized
  statics := none
  mirror := none

def pool0 : Array CpInfo := pool [(5, u "<init>"), (0, u "()V"), (1, .class_ 10), (1, u "java/lang/Object")] 113

def k0m0 : Method := { name := "<init>", desc := "()V", sig := { parameters := [], returnType := none }, accessFlags := 1, code := none }
/-- java/lang/Object -/
def k0 : Class := { plain "java/lang/Object" none with
  accessFlags := 33
  interfaces := #[]
  cf := some (fileOf pool0 8 #[] #[{ accessFlags := 1, nameIndex := 5, descriptorIndex := 6, attributes := #[] }] 33 0 #[] #[])
  fields := #[]
  methods := #[k0m0]
  instanceTypes := #[]
  staticTypes := #[]
  resolved := Array.replicate 124 none
  statics := none }

def pool1 : Array CpInfo := pool [(2, .class_ 4), (1, u "java/lang/Object"), (0, u "<init>"), (0, u "()V"), (0, .integer 2147483647), (0, .integer 46339), (2, .methodref 12 13), (0, .class_ 14), (0, .nameAndType 15 16), (0, u "com/example/dispersa/dispersa/internal/ProbeSequence"), (0, u "isPrime"), (0, u "(I)Z"), (0, .methodref 18 19), (0, .class_ 20), (0, .nameAndType 21 22), (0, u "java/lang/Math"), (0, u "min"), (0, u "(II)I"), (0, .integer 104729), (0, .integer 65521), (0, .integer 65537), (0, .integer 999983), (0, .integer 1000003), (0, .integer 998244353), (0, .integer 1000000007), (0, .integer 1000000009), (0, .class_ 32), (0, u "com/example/dispersa/dispersa/internal/ProbeSequenceIsPrimePinLaw"), (2, u "law"), (0, u "(IIII)Z")] 3

def k1m0 : Method := { name := "<init>", desc := "()V", sig := { parameters := [], returnType := none }, accessFlags := 2, code := none }
def k1c1 : Code := { maxStack := 4, maxLocals := 8, code := code, exceptionTable := #[], attributes := #[] }
def k1m1 : Method := { name := "law", desc := "(IIII)Z", sig := { parameters := [.int, .int, .int, .int], returnType := some .boolean }, accessFlags := 9, code := some k1c1 }
/-- com/example/dispersa/dispersa/internal/ProbeSequenceIsPrimePinLaw -/
def k1 : Class := { plain "com/example/dispersa/dispersa/internal/ProbeSequenceIsPrimePinLaw" (some 0) with
  accessFlags := 49
  interfaces := #[]
  cf := some (fileOf pool1 31 #[] #[{ accessFlags := 2, nameIndex := 5, descriptorIndex := 6, attributes := #[] }, { accessFlags := 9, nameIndex := 35, descriptorIndex := 36, attributes := #[] }] 49 2 #[] #[])
  fields := #[]
  methods := #[k1m0, k1m1]
  instanceTypes := #[]
  staticTypes := #[]
  resolved := Array.replicate 40 none
  statics := none }

def pool2 : Array CpInfo := pool [(1, .class_ 2), (0, u "java/lang/Math"), (1, .class_ 6), (1, u "java/lang/Object"), (0, u "<init>"), (0, u "()V"), (89, .class_ 100), (1, u "java/lang/Math$RandomNumberGeneratorHolder"), (71, u "negativeZeroFloatBits"), (0, u "J"), (2, u "negativeZeroDoubleBits"), (24, u "min"), (43, u "$assertionsDisabled"), (0, u "Z"), (88, u "(II)I"), (2, u "twoToTheDoubleScaleDown"), (0, u "D"), (4, u "twoToTheDoubleScaleUp"), (9, u "E"), (3, u "PI"), (2, u "TAU"), (2, u "DEGREES_TO_RADIANS"), (0, u "RADIANS_TO_DEGREES")] 94

def k2m0 : Method := { name := "<init>", desc := "()V", sig := { parameters := [], returnType := none }, accessFlags := 2, code := none }
def k2c1 : Code := { maxStack := 2, maxLocals := 2, code := jdk_29_method_69_code, exceptionTable := #[], attributes := #[] }
def k2m1 : Method := { name := "min", desc := "(II)I", sig := { parameters := [.int, .int], returnType := some .int }, accessFlags := 9, code := some k2c1 }
/-- java/lang/Math -/
def k2 : Class := { plain "java/lang/Math" (some 0) with
  accessFlags := 49
  interfaces := #[]
  cf := some (fileOf pool2 1 #[.nestMembers #[98]] #[{ accessFlags := 2, nameIndex := 7, descriptorIndex := 8, attributes := #[] }, { accessFlags := 9, nameIndex := 201, descriptorIndex := 335, attributes := #[] }] 49 4 #[] #[{ accessFlags := 25, nameIndex := 354, descriptorIndex := 339, attributes := #[] }, { accessFlags := 25, nameIndex := 358, descriptorIndex := 339, attributes := #[] }, { accessFlags := 25, nameIndex := 361, descriptorIndex := 339, attributes := #[] }, { accessFlags := 26, nameIndex := 364, descriptorIndex := 339, attributes := #[] }, { accessFlags := 26, nameIndex := 365, descriptorIndex := 339, attributes := #[] }, { accessFlags := 26, nameIndex := 172, descriptorIndex := 173, attributes := #[] }, { accessFlags := 26, nameIndex := 176, descriptorIndex := 173, attributes := #[] }, { accessFlags := 8, nameIndex := 344, descriptorIndex := 339, attributes := #[] }, { accessFlags := 8, nameIndex := 338, descriptorIndex := 339, attributes := #[] }, { accessFlags := 4120, nameIndex := 245, descriptorIndex := 246, attributes := #[] }])
  fields := #[{ name := "E", type := .double, accessFlags := 25, slot := 0, constantValue := 0 }, { name := "PI", type := .double, accessFlags := 25, slot := 1, constantValue := 0 }, { name := "TAU", type := .double, accessFlags := 25, slot := 2, constantValue := 0 }, { name := "DEGREES_TO_RADIANS", type := .double, accessFlags := 26, slot := 3, constantValue := 0 }, { name := "RADIANS_TO_DEGREES", type := .double, accessFlags := 26, slot := 4, constantValue := 0 }, { name := "negativeZeroFloatBits", type := .long, accessFlags := 26, slot := 5, constantValue := 0 }, { name := "negativeZeroDoubleBits", type := .long, accessFlags := 26, slot := 6, constantValue := 0 }, { name := "twoToTheDoubleScaleUp", type := .double, accessFlags := 8, slot := 7, constantValue := 0 }, { name := "twoToTheDoubleScaleDown", type := .double, accessFlags := 8, slot := 8, constantValue := 0 }, { name := "$assertionsDisabled", type := .boolean, accessFlags := 4120, slot := 9, constantValue := 0 }]
  methods := #[k2m0, k2m1]
  instanceTypes := #[]
  staticTypes := #[.double, .double, .double, .double, .double, .long, .long, .double, .double, .boolean]
  resolved := Array.replicate 460 none
  statics := none }

def pool3 : Array CpInfo := pool [(1, .class_ 2), (0, u "java/lang/constant/Constable"), (0, .class_ 4), (0, u "java/lang/Object")] 6

/-- java/lang/constant/Constable -/
def k3 : Class := { plain "java/lang/constant/Constable" (some 0) with
  accessFlags := 1537
  interfaces := #[]
  cf := some (fileOf pool3 1 #[] #[] 1537 3 #[] #[])
  fields := #[]
  methods := #[]
  instanceTypes := #[]
  staticTypes := #[]
  resolved := Array.replicate 11 none
  statics := none }

def pool4 : Array CpInfo := pool [(1, .class_ 2), (0, u "java/lang/Comparable"), (0, .class_ 4), (0, u "java/lang/Object")] 7

/-- java/lang/Comparable -/
def k4 : Class := { plain "java/lang/Comparable" (some 0) with
  accessFlags := 1537
  interfaces := #[]
  cf := some (fileOf pool4 1 #[] #[] 1537 3 #[] #[])
  fields := #[]
  methods := #[]
  instanceTypes := #[]
  staticTypes := #[]
  resolved := Array.replicate 12 none
  statics := none }

def pool5 : Array CpInfo := pool [(1, .class_ 2), (0, u "java/io/Serializable"), (0, .class_ 4), (0, u "java/lang/Object")] 2

/-- java/io/Serializable -/
def k5 : Class := { plain "java/io/Serializable" (some 0) with
  accessFlags := 1537
  interfaces := #[]
  cf := some (fileOf pool5 1 #[] #[] 1537 3 #[] #[])
  fields := #[]
  methods := #[]
  instanceTypes := #[]
  staticTypes := #[]
  resolved := Array.replicate 7 none
  statics := none }

def pool6 : Array CpInfo := pool [(2, .class_ 4), (1, u "java/lang/Enum"), (0, u "name"), (0, u "Ljava/lang/String;"), (2, u "ordinal"), (0, u "I"), (1, .class_ 14), (1, u "java/lang/Object"), (4, u "hash"), (86, .class_ 108), (1, u "java/lang/Enum$EnumDesc"), (2, .class_ 112), (0, u "java/lang/constant/Constable"), (0, .class_ 114), (0, u "java/lang/Comparable"), (0, .class_ 116), (0, u "java/io/Serializable")] 87

/-- java/lang/Enum -/
def k6 : Class := { plain "java/lang/Enum" (some 0) with
  accessFlags := 1057
  interfaces := #[3, 4, 5]
  cf := some (fileOf pool6 2 #[.nestMembers #[106]] #[] 1057 12 #[111, 113, 115] #[{ accessFlags := 18, nameIndex := 5, descriptorIndex := 6, attributes := #[] }, { accessFlags := 18, nameIndex := 9, descriptorIndex := 10, attributes := #[] }, { accessFlags := 2, nameIndex := 19, descriptorIndex := 10, attributes := #[] }])
  fields := #[{ name := "name", type := (.object "java/lang/String"), accessFlags := 18, slot := 0, constantValue := 0 }, { name := "ordinal", type := .int, accessFlags := 18, slot := 1, constantValue := 0 }, { name := "hash", type := .int, accessFlags := 2, slot := 2, constantValue := 0 }]
  methods := #[]
  instanceTypes := #[(.object "java/lang/String"), .int, .int]
  staticTypes := #[]
  resolved := Array.replicate 204 none
  statics := none }

def pool7 : Array CpInfo := pool [(1, .class_ 2), (0, u "com/example/dispersa/dispersa/internal/ProbeSequence"), (2, u "LINEAR"), (0, u "Lcom/example/dispersa/dispersa/internal/ProbeSequence;"), (2, u "QUADRATIC"), (2, u "DOUBLE"), (2, u "$VALUES"), (0, u "[Lcom/example/dispersa/dispersa/internal/ProbeSequence;"), (6, .class_ 25), (1, u "java/lang/Enum"), (8, u "growth"), (0, u "I"), (2, u "hashedStep"), (0, u "Z"), (20, u "isPrime"), (0, u "(I)Z")] 26

def k7c0 : Code := { maxStack := 3, maxLocals := 2, code := prog_98_method_7_code, exceptionTable := #[], attributes := #[] }
def k7m0 : Method := { name := "isPrime", desc := "(I)Z", sig := { parameters := [.int], returnType := some .boolean }, accessFlags := 8, code := some k7c0 }
/-- com/example/dispersa/dispersa/internal/ProbeSequence -/
def k7 : Class := { plain "com/example/dispersa/dispersa/internal/ProbeSequence" (some 6) with
  accessFlags := 16433
  interfaces := #[]
  cf := some (fileOf pool7 1 #[] #[{ accessFlags := 8, nameIndex := 60, descriptorIndex := 61, attributes := #[] }] 16433 23 #[] #[{ accessFlags := 16409, nameIndex := 5, descriptorIndex := 6, attributes := #[] }, { accessFlags := 16409, nameIndex := 9, descriptorIndex := 6, attributes := #[] }, { accessFlags := 16409, nameIndex := 12, descriptorIndex := 6, attributes := #[] }, { accessFlags := 18, nameIndex := 34, descriptorIndex := 35, attributes := #[] }, { accessFlags := 18, nameIndex := 38, descriptorIndex := 39, attributes := #[] }, { accessFlags := 4122, nameIndex := 15, descriptorIndex := 16, attributes := #[] }])
  fields := #[{ name := "LINEAR", type := (.object "com/example/dispersa/dispersa/internal/ProbeSequence"), accessFlags := 16409, slot := 0, constantValue := 0 }, { name := "QUADRATIC", type := (.object "com/example/dispersa/dispersa/internal/ProbeSequence"), accessFlags := 16409, slot := 1, constantValue := 0 }, { name := "DOUBLE", type := (.object "com/example/dispersa/dispersa/internal/ProbeSequence"), accessFlags := 16409, slot := 2, constantValue := 0 }, { name := "growth", type := .int, accessFlags := 18, slot := 3, constantValue := 0 }, { name := "hashedStep", type := .boolean, accessFlags := 18, slot := 4, constantValue := 0 }, { name := "$VALUES", type := (.array (.object "com/example/dispersa/dispersa/internal/ProbeSequence")), accessFlags := 4122, slot := 3, constantValue := 0 }]
  methods := #[k7m0]
  instanceTypes := #[(.object "java/lang/String"), .int, .int, .int, .boolean]
  staticTypes := #[(.object "com/example/dispersa/dispersa/internal/ProbeSequence"), (.object "com/example/dispersa/dispersa/internal/ProbeSequence"), (.object "com/example/dispersa/dispersa/internal/ProbeSequence"), (.array (.object "com/example/dispersa/dispersa/internal/ProbeSequence"))]
  resolved := Array.replicate 88 none
  statics := none }

def pool8 : Array CpInfo := pool [(1, u "java/lang/Cloneable"), (0, .class_ 1), (0, u "java/lang/Object"), (0, .class_ 3)] 3

/-- java/lang/Cloneable -/
def k8 : Class := { plain "java/lang/Cloneable" (some 0) with
  accessFlags := 1537
  interfaces := #[]
  cf := some (fileOf pool8 2 #[] #[] 1537 4 #[] #[])
  fields := #[]
  methods := #[]
  instanceTypes := #[]
  staticTypes := #[]
  resolved := Array.replicate 8 none
  statics := none }

/-- the primitive byte -/
def k9 : Class := { plain "byte" none with kind := .primitive 'B', accessFlags := 0x411 }
/-- [B -/
def k10 : Class := { plain "[B" (some 0) with kind := .array 9 .byte, interfaces := #[8, 5], accessFlags := 1041 }

/-- the primitive int -/
def k11 : Class := { plain "int" none with kind := .primitive 'I', accessFlags := 0x411 }
/-- [I -/
def k12 : Class := { plain "[I" (some 0) with kind := .array 11 .int, interfaces := #[8, 5], accessFlags := 1041 }

def heap : Heap := #[]
def classes : Array Class := #[k0, k1, k2, k3, k4, k5, k6, k7, k8, k9, k10, k11, k12]
def interned : List (Array UInt16 × Addr) := []
def slotsUsed : Nat := 0
def theMethod : MethodId := ⟨1, 1⟩
def args0 : Array Value := #[.int 5, .int 7, .int 9, .int 2]
def aboutOver (below : List Frame) : State where
  vm := { classes := classes, interned := interned.toArray }
  heap := heap
  slotsUsed := slotsUsed
  threads := #[{ frames := .invoking theMethod args0 :: below }]
def below0 : List Frame := [.native { method := ⟨0, 0⟩, args := #[] }]
def about1 : State := aboutOver below0
def p0 : Program := .bare "" "" ""
def e0 : Env := launch0.env 0 0 0
theorem w_frames : about1.frames = Frame.invoking theMethod args0 :: below0 := rfl
set_option maxRecDepth 65536 in
theorem w_args : argsFit about1.vm theMethod args0 = true := by decide +kernel
set_option maxRecDepth 65536 in
theorem w_heap : heapFits about1 = true := by decide +kernel
set_option maxRecDepth 65536 in
theorem w_runnable : about1.curStatus? = some .runnable := by decide +kernel
set_option maxRecDepth 65536 in
theorem w_alone : about1.alone = true := by decide +kernel
set_option maxRecDepth 65536 in
theorem w_named : about1.methodNamed? x = some theMethod := by decide +kernel
set_option maxRecDepth 65536 in
theorem w_hears : about1.hears theMethod below0 = true := by decide +kernel
set_option maxRecDepth 65536 in
theorem w_ripe : about1.ripe theMethod args0 below0 = true := by decide +kernel
theorem w_running : about1.status = .running := rfl
set_option maxRecDepth 65536 in
theorem w_room : about1.hasRoom e0.platform room_1 = true :=
  launch0.hasRoom_least _ room_1 (by decide +kernel) (by decide +kernel) (by decide +kernel) (by decide +kernel) (by decide +kernel) (by decide +kernel)
theorem allAtoms_all (ts : List Jvm.Cond) (a : Array Jvm.Value) (st : Jvm.State) : (allAtoms ts).before a st = ts.all (fun c => c.before a st) := by
  induction ts with
  | nil => rfl
  | cons c t ih =>
    show (Jvm.Cond.and c (allAtoms t)).before a st = _
    rw [Jvm.Cond.before_and, ih, List.all_cons]
def words1 : List Jvm.Cond := Jvm.Cond.code x code maxLocals ret :: tables_1
/-- a 'code' word, met by the world's own term for the bytes: nothing is compared byte by byte -/
theorem code_word {y : MethodName} {bytes : ByteArray} {mx : Nat} {rt : Option FieldType} {a : Array Value} {s : State} {m : MethodId} {meth : Method} {c : Code} (h1 : s.methodNamed? y = some m) (h2 : s.vm.method? m = some meth) (h3 : meth.code = some c) (h4 : c.code = bytes)
    (h5 : (c.maxLocals == mx && c.exceptionTable.isEmpty && decide (c.maxStack ≤ mostOperands) && decide (meth.sig.returnType = rt) && !meth.locks && decide (parseMethodDescriptor y.desc = some meth.sig)) = true) : (Jvm.Cond.code y bytes mx rt).before a s = true := by
  simp only [Bool.and_eq_true, beq_iff_eq, Bool.not_eq_true', decide_eq_true_eq] at h5
  obtain ⟨⟨⟨⟨⟨g1, g2⟩, g3⟩, g4⟩, g5⟩, g6⟩ := h5
  simp [Cond.before, Cond.holds, Cond.value, h1, h2, h3, h4, g1, g2, g3, g4, g5, g6]
def isCode : Jvm.Cond → Bool
  | .code _ _ _ _ => true
  | _ => false
theorem all_split {L : List Jvm.Cond} {P : Jvm.Cond → Bool} (h1 : L.all (fun c => isCode c || P c) = true) (h2 : ∀ c ∈ L.filter isCode, P c = true) : L.all P = true := by
  refine List.all_eq_true.mpr fun c hc => ?_
  have h := List.all_eq_true.mp h1 c hc
  rcases Bool.eq_false_or_eq_true (isCode c) with hi | hi
  · exact h2 c (List.mem_filter.mpr ⟨hc, hi⟩)
  · simpa [hi] using h
set_option maxRecDepth 65536 in
theorem w_c0 : (Jvm.Cond.code x code maxLocals ret).before args0 about1 = true := code_word (m := ⟨1, 1⟩) (meth := k1m1) (c := k1c1) (by decide +kernel) rfl rfl rfl (by decide +kernel)
set_option maxRecDepth 65536 in
theorem w_c1 : (Jvm.Cond.code ({ cls := "java/lang/Math", name := "min", desc := "(II)I" } : Jvm.MethodName) jdk_29_method_69_code (2 : Nat) (Option.some Jvm.ClassFile.FieldType.int)).before args0 about1 = true := code_word (m := ⟨2, 1⟩) (meth := k2m1) (c := k2c1) (by decide +kernel) rfl rfl rfl (by decide +kernel)
set_option maxRecDepth 65536 in
theorem w_c2 : (Jvm.Cond.code ({ cls := "com/example/dispersa/dispersa/internal/ProbeSequence", name := "isPrime", desc := "(I)Z" } : Jvm.MethodName) prog_98_method_7_code (2 : Nat) (Option.some Jvm.ClassFile.FieldType.boolean)).before args0 about1 = true := code_word (m := ⟨7, 0⟩) (meth := k7m0) (c := k7c0) (by decide +kernel) rfl rfl rfl (by decide +kernel)
def codes1 : List Jvm.Cond := [Jvm.Cond.code x code maxLocals ret, Jvm.Cond.code ({ cls := "java/lang/Math", name := "min", desc := "(II)I" } : Jvm.MethodName) jdk_29_method_69_code (2 : Nat) (Option.some Jvm.ClassFile.FieldType.int), Jvm.Cond.code ({ cls := "com/example/dispersa/dispersa/internal/ProbeSequence", name := "isPrime", desc := "(I)Z" } : Jvm.MethodName) prog_98_method_7_code (2 : Nat) (Option.some Jvm.ClassFile.FieldType.boolean)]
set_option maxRecDepth 65536 in
theorem codes_eq : words1.filter isCode = codes1 := rfl
theorem w_codes : ∀ c ∈ words1.filter isCode, c.before args0 about1 = true := by
  rw [codes_eq]
  intro c hc
  simp only [codes1, List.mem_cons, List.not_mem_nil, or_false] at hc
  rcases hc with rfl | rfl | rfl
  · exact w_c0
  · exact w_c1
  · exact w_c2
set_option maxRecDepth 65536 in
theorem w_t1 : words1.all (fun c => isCode c || c.before args0 about1) = true := by decide +kernel
theorem w_tables : (allAtoms (Jvm.Cond.code x code maxLocals ret :: tables_1)).before args0 about1 = true := by
  rw [allAtoms_all]
  show words1.all (fun c => c.before args0 about1) = true
  refine all_split ?_ w_codes
  rw [w_t1]
set_option maxRecDepth 65536 in
theorem w_case : (Jvm.Cond.and given_1 narrow_1).before args0 about1 = true := by decide +kernel
theorem w_applies : (headSpec (Jvm.Cond.code x code maxLocals ret :: tables_1) room_1).applies x e0.platform about1 = true :=
  (Spec.applies_iff w_frames).mpr ⟨w_running, w_runnable, w_alone, w_named, w_hears, w_ripe, w_room, w_tables⟩
theorem atStart : AtStart classFile x code maxLocals ret World_1 tables_1 room_1 Calls_1 rest_1 Pre_1 launch0 p0 e0 about1 theMethod args0 below0 :=
  ⟨lists_1, trivial, launch0.admits_env _ _ _, launch0.least_env, fairChoices_fair.cas, fairChoices_fair.clock, w_frames, w_args, w_heap, w_applies, trivial, trivial, w_case⟩
end start1
theorem witness_1 : WitnessClaimed_1 := ⟨start1.p0, start1.e0, start1.about1, start1.theMethod, start1.args0, start1.below0, start1.atStart⟩
end Jvm.Pilot.@@N@@
