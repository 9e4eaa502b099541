import JvmDerived
import JvmDerived.Pilot.@@N@@Statement
import JvmDerived.Pilot.@@N@@Code
set_option linter.unusedVariables false
set_option linter.unusedSimpArgs false
namespace Jvm.Pilot.@@N@@
open Jvm Jvm.ClassFile Sem Op Lib Jvm.Free Jvm.Stand Jvm.LawKit Jvm.RoadKit Bundle Jvm.Pilot.@@N@@.Jvm.D
theorem wd {Z : State} {a0 : Array Value} (hw : ∀ d ∈ tables_1, d.before a0 Z = true) (i : Nat) {d : Jvm.Cond} (e : tables_1[i]? = some d) : d.before a0 Z = true := hw _ (List.mem_of_getElem? e)
section Layer
variable {p : Program} {l : Launch} {e : Env} {R : Room} {s : State} {m : MethodId} {args : Array Value} {below : List Frame} {meth : Method} {c : Code} {Z : State} {a0 : Array Value}
variable {own nm : String} {bytes : ByteArray} {maxL : Nat} {ret : Option FieldType} {n0 : Nat} {Q : Option Value → Heap → Prop} {h : Heap} {k n : Nat} {pc q : Nat} {ls : Array Slot} {st : List Value}
/-- what stays fixed while one body is walked -/
def Cx (p : Program) (s : State) (m : MethodId) (meth : Method) (c : Code) (Z : State) (own nm : String) (bytes : ByteArray) (maxL : Nat) (ret : Option FieldType) : Prop :=
  p.tables.exec = Jvm.exec ∧ Z.Warmed39 s.vm ∧ s.vm.findClass own = some m.cls ∧ c.code = bytes ∧ c.maxLocals = maxL ∧ meth.sig.returnType = ret ∧ meth.locks = false ∧ meth.name = nm
/-- from this frame, over a heap h, with k cells and n slots made, the body ends and Q holds -/
def Go (p : Program) (l : Launch) (e : Env) (R : Room) (s : State) (m : MethodId) (args : Array Value) (below : List Frame) (meth : Method) (c : Code) (n0 : Nat) (Q : Option Value → Heap → Prop) (h : Heap) (k n : Nat) (g : JFrame) : Prop :=
  ∀ T L, Stand p l e R s m args below meth c T L k n → Fr n0 L → T.heap = h →
    ∃ s₂ o, Steps p.tables e below (T.setTop g) s₂ ∧ s₂.status = .running ∧ Ended s₂ below o ∧ ∃ v L', o = .returned v ∧ (Q v s₂.heap ∧ Fr n0 L') ∧ FrameEnd s o s₂ L' R.cells R.slots
theorem Go.of {g g' : JFrame} (f : ∀ T target, At T m c below → Steps p.tables e below (T.setTop g') target → Steps p.tables e below (T.setTop g) target) (r : Go p l e R s m args below meth c n0 Q h k n g') : Go p l e R s m args below meth c n0 Q h k n g := fun T L X N eT => by
  obtain ⟨s₂, o, hs, z⟩ := r T L X N eT
  exact ⟨s₂, o, f T _ X.here hs, z⟩
theorem Go.ofX {g g' : JFrame} (f : ∀ T L target, Stand p l e R s m args below meth c T L k n → T.heap = h → Steps p.tables e below (T.setTop g') target → Steps p.tables e below (T.setTop g) target) (r : Go p l e R s m args below meth c n0 Q h k n g') : Go p l e R s m args below meth c n0 Q h k n g := fun T L X N eT => by
  obtain ⟨s₂, o, hs, z⟩ := r T L X N eT
  exact ⟨s₂, o, f T L _ X eT hs, z⟩
theorem Go.mono {Q' : Option Value → Heap → Prop} {g : JFrame} (r : Go p l e R s m args below meth c n0 Q h k n g) (f : ∀ v h', Q v h' → Q' v h') : Go p l e R s m args below meth c n0 Q' h k n g := fun T L X N eT => by
  obtain ⟨s₂, o, hs, h1, h2, v, L', h3, h4, h5⟩ := r T L X N eT
  exact ⟨s₂, o, hs, h1, h2, v, L', h3, ⟨f _ _ h4.1, h4.2⟩, h5⟩
theorem Go.less {g : JFrame} {k' n' : Nat} (r : Go p l e R s m args below meth c n0 Q h k' n' g) (hk : k ≤ k') (hn : n ≤ n') : Go p l e R s m args below meth c n0 Q h k n g := fun T L X N eT => r T L (X.more hk hn) N eT
theorem Go.at {g : JFrame} {h' : Heap} (r : Go p l e R s m args below meth c n0 Q h' k n g) (q : h = h') : Go p l e R s m args below meth c n0 Q h k n g := q ▸ r

theorem go_eqI {x y : Int32} {stl : List Value} (hxy : x = y) (r : Go p l e R s m args below meth c n0 Q h k n (mkF m pc ls (.int y :: stl))) : Go p l e R s m args below meth c n0 Q h k n (mkF m pc ls (.int x :: stl)) := hxy ▸ r
theorem go_eqJ {x y : Int64} {stl : List Value} (hxy : x = y) (r : Go p l e R s m args below meth c n0 Q h k n (mkF m pc ls (.long y :: stl))) : Go p l e R s m args below meth c n0 Q h k n (mkF m pc ls (.long x :: stl)) := hxy ▸ r

theorem go_nameI {x : Int32} {stl : List Value} (r : ∀ z, z = x → Go p l e R s m args below meth c n0 Q h k n (mkF m pc ls (.int z :: stl))) : Go p l e R s m args below meth c n0 Q h k n (mkF m pc ls (.int x :: stl)) := r x rfl
theorem go_nameJ {x : Int64} {stl : List Value} (r : ∀ z, z = x → Go p l e R s m args below meth c n0 Q h k n (mkF m pc ls (.long z :: stl))) : Go p l e R s m args below meth c n0 Q h k n (mkF m pc ls (.long x :: stl)) := r x rfl

theorem go_aloadN (K : Cx p s m meth c Z own nm bytes maxL ret) {i : Fin 4} {v : Value} (hd : decode bytes pc = .ok (.aload_n i, 1)) (hl : ls[i.val]? = some (.val v)) (hv : v.isRef = true) (hq : pc + 1 = q) (r : Go p l e R s m args below meth c n0 Q h k n (mkF m q ls (v :: st))) : Go p l e R s m args below meth c n0 Q h k n (mkF m pc ls st) := by
  subst hq; exact Go.of (fun T tg A => XS.aloadN A K.1 rfl (hb K.2.2.2.1 hd) hl hv) r
theorem go_aload (K : Cx p s m meth c Z own nm bytes maxL ret) {i : Nat} {v : Value} (hd : decode bytes pc = .ok (.aload i, 2)) (hl : ls[i]? = some (.val v)) (hv : v.isRef = true) (hq : pc + 2 = q) (r : Go p l e R s m args below meth c n0 Q h k n (mkF m q ls (v :: st))) : Go p l e R s m args below meth c n0 Q h k n (mkF m pc ls st) := by
  subst hq; exact Go.of (fun T tg A => XS.aload A K.1 rfl (hb K.2.2.2.1 hd) hl hv) r
theorem go_iloadN (K : Cx p s m meth c Z own nm bytes maxL ret) {i : Fin 4} {v : Int32} (hd : decode bytes pc = .ok (.iload_n i, 1)) (hl : ls[i.val]? = some (.val (.int v))) (hq : pc + 1 = q) (r : Go p l e R s m args below meth c n0 Q h k n (mkF m q ls (.int v :: st))) : Go p l e R s m args below meth c n0 Q h k n (mkF m pc ls st) := by
  subst hq; exact Go.of (fun T tg A => XS.iloadN A K.1 rfl (hb K.2.2.2.1 hd) hl) r
theorem go_iload (K : Cx p s m meth c Z own nm bytes maxL ret) {i : Nat} {v : Int32} (hd : decode bytes pc = .ok (.iload i, 2)) (hl : ls[i]? = some (.val (.int v))) (hq : pc + 2 = q) (r : Go p l e R s m args below meth c n0 Q h k n (mkF m q ls (.int v :: st))) : Go p l e R s m args below meth c n0 Q h k n (mkF m pc ls st) := by
  subst hq; exact Go.of (fun T tg A => XS.iload A K.1 rfl (hb K.2.2.2.1 hd) hl) r
theorem go_lloadN (K : Cx p s m meth c Z own nm bytes maxL ret) {i : Fin 4} {v : Int64} (hd : decode bytes pc = .ok (.lload_n i, 1)) (hl : ls[i.val]? = some (.val (.long v))) (hq : pc + 1 = q) (r : Go p l e R s m args below meth c n0 Q h k n (mkF m q ls (.long v :: st))) : Go p l e R s m args below meth c n0 Q h k n (mkF m pc ls st) := by
  subst hq; exact Go.of (fun T tg A => XT.lloadN A K.1 rfl (hb K.2.2.2.1 hd) hl) r
theorem go_lload (K : Cx p s m meth c Z own nm bytes maxL ret) {i : Nat} {v : Int64} (hd : decode bytes pc = .ok (.lload i, 2)) (hl : ls[i]? = some (.val (.long v))) (hq : pc + 2 = q) (r : Go p l e R s m args below meth c n0 Q h k n (mkF m q ls (.long v :: st))) : Go p l e R s m args below meth c n0 Q h k n (mkF m pc ls st) := by
  subst hq; exact Go.of (fun T tg A => XT.lload A K.1 rfl (hb K.2.2.2.1 hd) hl) r
theorem go_iconst (K : Cx p s m meth c Z own nm bytes maxL ret) {i : Int} (hd : decode bytes pc = .ok (.iconst i, 1)) (v : Int32) (hv : Int32.ofInt i = v) (hq : pc + 1 = q) (r : Go p l e R s m args below meth c n0 Q h k n (mkF m q ls (.int v :: st))) : Go p l e R s m args below meth c n0 Q h k n (mkF m pc ls st) := by
  subst hq; exact Go.of (fun T tg A => XT.iconstV A K.1 rfl v (hb K.2.2.2.1 hd) hv) r
theorem go_bipush (K : Cx p s m meth c Z own nm bytes maxL ret) {i : Int} (hd : decode bytes pc = .ok (.bipush i, 2)) (v : Int32) (hv : (Int8.ofInt i).toInt32 = v) (hq : pc + 2 = q) (r : Go p l e R s m args below meth c n0 Q h k n (mkF m q ls (.int v :: st))) : Go p l e R s m args below meth c n0 Q h k n (mkF m pc ls st) := by
  subst hq; exact Go.of (fun T tg A => XT.bipushV A K.1 rfl v (hb K.2.2.2.1 hd) hv) r
theorem go_sipush (K : Cx p s m meth c Z own nm bytes maxL ret) {i : Int} (hd : decode bytes pc = .ok (.sipush i, 3)) (v : Int32) (hv : (Int16.ofInt i).toInt32 = v) (hq : pc + 3 = q) (r : Go p l e R s m args below meth c n0 Q h k n (mkF m q ls (.int v :: st))) : Go p l e R s m args below meth c n0 Q h k n (mkF m pc ls st) := by
  subst hq; exact Go.of (fun T tg A => XT.sipushV A K.1 rfl v (hb K.2.2.2.1 hd) hv) r
theorem go_lconst (K : Cx p s m meth c Z own nm bytes maxL ret) {i : Fin 2} (hd : decode bytes pc = .ok (.lconst i, 1)) (v : Int64) (hv : Int64.ofNat i = v) (hq : pc + 1 = q) (r : Go p l e R s m args below meth c n0 Q h k n (mkF m q ls (.long v :: st))) : Go p l e R s m args below meth c n0 Q h k n (mkF m pc ls st) := by
  subst hq; exact Go.of (fun T tg A => XT.lconstV A K.1 rfl v (hb K.2.2.2.1 hd) hv) r
theorem go_aconst_null (K : Cx p s m meth c Z own nm bytes maxL ret)  (hd : decode bytes pc = .ok (.aconst_null, 1))  (hq : pc + 1 = q) (r : Go p l e R s m args below meth c n0 Q h k n (mkF m q ls (.null :: st))) : Go p l e R s m args below meth c n0 Q h k n (mkF m pc ls st) := by
  subst hq; exact Go.of (fun T tg A => XS.aconstNull A K.1 rfl (hb K.2.2.2.1 hd)) r
theorem go_iadd (K : Cx p s m meth c Z own nm bytes maxL ret) {x y : Int32} (hd : decode bytes pc = .ok (.iadd, 1))  (hq : pc + 1 = q) (r : Go p l e R s m args below meth c n0 Q h k n (mkF m q ls (.int (x + y) :: st))) : Go p l e R s m args below meth c n0 Q h k n (mkF m pc ls (.int y :: .int x :: st)) := by
  subst hq; exact Go.of (fun T tg A => XS.iadd A K.1 rfl (hb K.2.2.2.1 hd) rfl) r
theorem go_isub (K : Cx p s m meth c Z own nm bytes maxL ret) {x y : Int32} (hd : decode bytes pc = .ok (.isub, 1))  (hq : pc + 1 = q) (r : Go p l e R s m args below meth c n0 Q h k n (mkF m q ls (.int (x - y) :: st))) : Go p l e R s m args below meth c n0 Q h k n (mkF m pc ls (.int y :: .int x :: st)) := by
  subst hq; exact Go.of (fun T tg A => XS.isub A K.1 rfl (hb K.2.2.2.1 hd) rfl) r
theorem go_iand (K : Cx p s m meth c Z own nm bytes maxL ret) {x y : Int32} (hd : decode bytes pc = .ok (.iand, 1))  (hq : pc + 1 = q) (r : Go p l e R s m args below meth c n0 Q h k n (mkF m q ls (.int (x &&& y) :: st))) : Go p l e R s m args below meth c n0 Q h k n (mkF m pc ls (.int y :: .int x :: st)) := by
  subst hq; exact Go.of (fun T tg A => XS.iand A K.1 rfl (hb K.2.2.2.1 hd) rfl) r
theorem go_imul (K : Cx p s m meth c Z own nm bytes maxL ret) {x y : Int32} (hd : decode bytes pc = .ok (.imul, 1))  (hq : pc + 1 = q) (r : Go p l e R s m args below meth c n0 Q h k n (mkF m q ls (.int (x * y) :: st))) : Go p l e R s m args below meth c n0 Q h k n (mkF m pc ls (.int y :: .int x :: st)) := by
  subst hq; exact Go.of (fun T tg A => XS.imul A K.1 rfl (hb K.2.2.2.1 hd) rfl) r
theorem go_ixor (K : Cx p s m meth c Z own nm bytes maxL ret) {x y : Int32} (hd : decode bytes pc = .ok (.ixor, 1))  (hq : pc + 1 = q) (r : Go p l e R s m args below meth c n0 Q h k n (mkF m q ls (.int (x ^^^ y) :: st))) : Go p l e R s m args below meth c n0 Q h k n (mkF m pc ls (.int y :: .int x :: st)) := by
  subst hq; exact Go.of (fun T tg A => XT.ixor A K.1 rfl (hb K.2.2.2.1 hd) rfl) r
theorem go_ior (K : Cx p s m meth c Z own nm bytes maxL ret) {x y : Int32} (hd : decode bytes pc = .ok (.ior, 1))  (hq : pc + 1 = q) (r : Go p l e R s m args below meth c n0 Q h k n (mkF m q ls (.int (x ||| y) :: st))) : Go p l e R s m args below meth c n0 Q h k n (mkF m pc ls (.int y :: .int x :: st)) := by
  subst hq; exact Go.of (fun T tg A => XT.ior A K.1 rfl (hb K.2.2.2.1 hd) rfl) r
theorem go_ishl (K : Cx p s m meth c Z own nm bytes maxL ret) {x y : Int32} (hd : decode bytes pc = .ok (.ishl, 1))  (hq : pc + 1 = q) (r : Go p l e R s m args below meth c n0 Q h k n (mkF m q ls (.int (x <<< (y &&& 31)) :: st))) : Go p l e R s m args below meth c n0 Q h k n (mkF m pc ls (.int y :: .int x :: st)) := by
  subst hq; exact Go.of (fun T tg A => XT.ishl A K.1 rfl (hb K.2.2.2.1 hd) rfl) r
theorem go_ishr (K : Cx p s m meth c Z own nm bytes maxL ret) {x y : Int32} (hd : decode bytes pc = .ok (.ishr, 1))  (hq : pc + 1 = q) (r : Go p l e R s m args below meth c n0 Q h k n (mkF m q ls (.int (x >>> (y &&& 31)) :: st))) : Go p l e R s m args below meth c n0 Q h k n (mkF m pc ls (.int y :: .int x :: st)) := by
  subst hq; exact Go.of (fun T tg A => XT.ishr A K.1 rfl (hb K.2.2.2.1 hd) rfl) r
theorem go_iushr (K : Cx p s m meth c Z own nm bytes maxL ret) {x y : Int32} (hd : decode bytes pc = .ok (.iushr, 1))  (hq : pc + 1 = q) (r : Go p l e R s m args below meth c n0 Q h k n (mkF m q ls (.int (XT.ushr x y) :: st))) : Go p l e R s m args below meth c n0 Q h k n (mkF m pc ls (.int y :: .int x :: st)) := by
  subst hq; exact Go.of (fun T tg A => XT.iushr A K.1 rfl (hb K.2.2.2.1 hd) rfl) r
theorem go_ladd (K : Cx p s m meth c Z own nm bytes maxL ret) {x y : Int64} (hd : decode bytes pc = .ok (.ladd, 1))  (hq : pc + 1 = q) (r : Go p l e R s m args below meth c n0 Q h k n (mkF m q ls (.long (x + y) :: st))) : Go p l e R s m args below meth c n0 Q h k n (mkF m pc ls (.long y :: .long x :: st)) := by
  subst hq; exact Go.of (fun T tg A => XT.ladd A K.1 rfl (hb K.2.2.2.1 hd) rfl) r
theorem go_lsub (K : Cx p s m meth c Z own nm bytes maxL ret) {x y : Int64} (hd : decode bytes pc = .ok (.lsub, 1))  (hq : pc + 1 = q) (r : Go p l e R s m args below meth c n0 Q h k n (mkF m q ls (.long (x - y) :: st))) : Go p l e R s m args below meth c n0 Q h k n (mkF m pc ls (.long y :: .long x :: st)) := by
  subst hq; exact Go.of (fun T tg A => XT.lsub A K.1 rfl (hb K.2.2.2.1 hd) rfl) r
theorem go_lmul (K : Cx p s m meth c Z own nm bytes maxL ret) {x y : Int64} (hd : decode bytes pc = .ok (.lmul, 1))  (hq : pc + 1 = q) (r : Go p l e R s m args below meth c n0 Q h k n (mkF m q ls (.long (x * y) :: st))) : Go p l e R s m args below meth c n0 Q h k n (mkF m pc ls (.long y :: .long x :: st)) := by
  subst hq; exact Go.of (fun T tg A => XT.lmul A K.1 rfl (hb K.2.2.2.1 hd) rfl) r
theorem go_land (K : Cx p s m meth c Z own nm bytes maxL ret) {x y : Int64} (hd : decode bytes pc = .ok (.land, 1))  (hq : pc + 1 = q) (r : Go p l e R s m args below meth c n0 Q h k n (mkF m q ls (.long (x &&& y) :: st))) : Go p l e R s m args below meth c n0 Q h k n (mkF m pc ls (.long y :: .long x :: st)) := by
  subst hq; exact Go.of (fun T tg A => XT.land A K.1 rfl (hb K.2.2.2.1 hd) rfl) r
theorem go_lor (K : Cx p s m meth c Z own nm bytes maxL ret) {x y : Int64} (hd : decode bytes pc = .ok (.lor, 1))  (hq : pc + 1 = q) (r : Go p l e R s m args below meth c n0 Q h k n (mkF m q ls (.long (x ||| y) :: st))) : Go p l e R s m args below meth c n0 Q h k n (mkF m pc ls (.long y :: .long x :: st)) := by
  subst hq; exact Go.of (fun T tg A => XT.lor A K.1 rfl (hb K.2.2.2.1 hd) rfl) r
theorem go_lxor (K : Cx p s m meth c Z own nm bytes maxL ret) {x y : Int64} (hd : decode bytes pc = .ok (.lxor, 1))  (hq : pc + 1 = q) (r : Go p l e R s m args below meth c n0 Q h k n (mkF m q ls (.long (x ^^^ y) :: st))) : Go p l e R s m args below meth c n0 Q h k n (mkF m pc ls (.long y :: .long x :: st)) := by
  subst hq; exact Go.of (fun T tg A => XT.lxor A K.1 rfl (hb K.2.2.2.1 hd) rfl) r
theorem go_lshl (K : Cx p s m meth c Z own nm bytes maxL ret) {x : Int64} {y : Int32} (hd : decode bytes pc = .ok (.lshl, 1))  (hq : pc + 1 = q) (r : Go p l e R s m args below meth c n0 Q h k n (mkF m q ls (.long (x <<< (y.toInt64 &&& 63)) :: st))) : Go p l e R s m args below meth c n0 Q h k n (mkF m pc ls (.int y :: .long x :: st)) := by
  subst hq; exact Go.of (fun T tg A => XT.lshl A K.1 rfl (hb K.2.2.2.1 hd) rfl) r
theorem go_lshr (K : Cx p s m meth c Z own nm bytes maxL ret) {x : Int64} {y : Int32} (hd : decode bytes pc = .ok (.lshr, 1))  (hq : pc + 1 = q) (r : Go p l e R s m args below meth c n0 Q h k n (mkF m q ls (.long (x >>> (y.toInt64 &&& 63)) :: st))) : Go p l e R s m args below meth c n0 Q h k n (mkF m pc ls (.int y :: .long x :: st)) := by
  subst hq; exact Go.of (fun T tg A => XT.lshr A K.1 rfl (hb K.2.2.2.1 hd) rfl) r
theorem go_lushr (K : Cx p s m meth c Z own nm bytes maxL ret) {x : Int64} {y : Int32} (hd : decode bytes pc = .ok (.lushr, 1))  (hq : pc + 1 = q) (r : Go p l e R s m args below meth c n0 Q h k n (mkF m q ls (.long (XT.ushrL x y) :: st))) : Go p l e R s m args below meth c n0 Q h k n (mkF m pc ls (.int y :: .long x :: st)) := by
  subst hq; exact Go.of (fun T tg A => XT.lushr A K.1 rfl (hb K.2.2.2.1 hd) rfl) r
theorem go_idiv (K : Cx p s m meth c Z own nm bytes maxL ret) {x y : Int32} (hd : decode bytes pc = .ok (.idiv, 1)) (hy : y ≠ 0) (hq : pc + 1 = q) (r : Go p l e R s m args below meth c n0 Q h k n (mkF m q ls (.int (x / y) :: st))) : Go p l e R s m args below meth c n0 Q h k n (mkF m pc ls (.int y :: .int x :: st)) := by
  subst hq; exact Go.of (fun T tg A => XS.idiv A K.1 rfl (hb K.2.2.2.1 hd) rfl hy) r
theorem go_irem (K : Cx p s m meth c Z own nm bytes maxL ret) {x y : Int32} (hd : decode bytes pc = .ok (.irem, 1)) (hy : y ≠ 0) (hq : pc + 1 = q) (r : Go p l e R s m args below meth c n0 Q h k n (mkF m q ls (.int (x % y) :: st))) : Go p l e R s m args below meth c n0 Q h k n (mkF m pc ls (.int y :: .int x :: st)) := by
  subst hq; exact Go.ofX (fun T L tg S _ => iremM S K.1 rfl (hb K.2.2.2.1 hd) rfl hy) r
theorem go_ldiv (K : Cx p s m meth c Z own nm bytes maxL ret) {x y : Int64} (hd : decode bytes pc = .ok (.ldiv, 1)) (hy : y ≠ 0) (hq : pc + 1 = q) (r : Go p l e R s m args below meth c n0 Q h k n (mkF m q ls (.long (x / y) :: st))) : Go p l e R s m args below meth c n0 Q h k n (mkF m pc ls (.long y :: .long x :: st)) := by
  subst hq; exact Go.of (fun T tg A => XT.ldiv A K.1 rfl (hb K.2.2.2.1 hd) rfl hy) r
theorem go_lrem (K : Cx p s m meth c Z own nm bytes maxL ret) {x y : Int64} (hd : decode bytes pc = .ok (.lrem, 1)) (hy : y ≠ 0) (hq : pc + 1 = q) (r : Go p l e R s m args below meth c n0 Q h k n (mkF m q ls (.long (x % y) :: st))) : Go p l e R s m args below meth c n0 Q h k n (mkF m pc ls (.long y :: .long x :: st)) := by
  subst hq; rw [← lrem_mod x y] at r; exact Go.of (fun T tg A => XT.lrem A K.1 rfl (hb K.2.2.2.1 hd) rfl hy) r
theorem go_ineg (K : Cx p s m meth c Z own nm bytes maxL ret) {x : Int32} (hd : decode bytes pc = .ok (.ineg, 1))  (hq : pc + 1 = q) (r : Go p l e R s m args below meth c n0 Q h k n (mkF m q ls (.int (-x) :: st))) : Go p l e R s m args below meth c n0 Q h k n (mkF m pc ls (.int x :: st)) := by
  subst hq; exact Go.of (fun T tg A => XS.ineg A K.1 rfl (hb K.2.2.2.1 hd) rfl) r
theorem go_lneg (K : Cx p s m meth c Z own nm bytes maxL ret) {x : Int64} (hd : decode bytes pc = .ok (.lneg, 1))  (hq : pc + 1 = q) (r : Go p l e R s m args below meth c n0 Q h k n (mkF m q ls (.long (-x) :: st))) : Go p l e R s m args below meth c n0 Q h k n (mkF m pc ls (.long x :: st)) := by
  subst hq; exact Go.of (fun T tg A => XT.lneg A K.1 rfl (hb K.2.2.2.1 hd) rfl) r
theorem go_i2l (K : Cx p s m meth c Z own nm bytes maxL ret) {x : Int32} (hd : decode bytes pc = .ok (.i2l, 1))  (hq : pc + 1 = q) (r : Go p l e R s m args below meth c n0 Q h k n (mkF m q ls (.long (x.toInt64) :: st))) : Go p l e R s m args below meth c n0 Q h k n (mkF m pc ls (.int x :: st)) := by
  subst hq; exact Go.of (fun T tg A => XT.i2l A K.1 rfl (hb K.2.2.2.1 hd) rfl) r
theorem go_l2i (K : Cx p s m meth c Z own nm bytes maxL ret) {x : Int64} (hd : decode bytes pc = .ok (.l2i, 1))  (hq : pc + 1 = q) (r : Go p l e R s m args below meth c n0 Q h k n (mkF m q ls (.int (x.toInt32) :: st))) : Go p l e R s m args below meth c n0 Q h k n (mkF m pc ls (.long x :: st)) := by
  subst hq; exact Go.of (fun T tg A => XT.l2i A K.1 rfl (hb K.2.2.2.1 hd) rfl) r
theorem go_i2b (K : Cx p s m meth c Z own nm bytes maxL ret) {x : Int32} (hd : decode bytes pc = .ok (.i2b, 1))  (hq : pc + 1 = q) (r : Go p l e R s m args below meth c n0 Q h k n (mkF m q ls (.int (x.toInt8.toInt32) :: st))) : Go p l e R s m args below meth c n0 Q h k n (mkF m pc ls (.int x :: st)) := by
  subst hq; exact Go.of (fun T tg A => XT.i2b A K.1 rfl (hb K.2.2.2.1 hd) rfl) r
theorem go_i2c (K : Cx p s m meth c Z own nm bytes maxL ret) {x : Int32} (hd : decode bytes pc = .ok (.i2c, 1))  (hq : pc + 1 = q) (r : Go p l e R s m args below meth c n0 Q h k n (mkF m q ls (.int (x.toUInt32.toUInt16.toUInt32.toInt32) :: st))) : Go p l e R s m args below meth c n0 Q h k n (mkF m pc ls (.int x :: st)) := by
  subst hq; exact Go.of (fun T tg A => XT.i2c A K.1 rfl (hb K.2.2.2.1 hd) rfl) r
theorem go_i2s (K : Cx p s m meth c Z own nm bytes maxL ret) {x : Int32} (hd : decode bytes pc = .ok (.i2s, 1))  (hq : pc + 1 = q) (r : Go p l e R s m args below meth c n0 Q h k n (mkF m q ls (.int (x.toInt16.toInt32) :: st))) : Go p l e R s m args below meth c n0 Q h k n (mkF m pc ls (.int x :: st)) := by
  subst hq; exact Go.of (fun T tg A => XT.i2s A K.1 rfl (hb K.2.2.2.1 hd) rfl) r
theorem go_lcmp (K : Cx p s m meth c Z own nm bytes maxL ret) {x y : Int64} (hd : decode bytes pc = .ok (.lcmp, 1))  (hq : pc + 1 = q) (r : Go p l e R s m args below meth c n0 Q h k n (mkF m q ls (.int (XT.cmpL x y) :: st))) : Go p l e R s m args below meth c n0 Q h k n (mkF m pc ls (.long y :: .long x :: st)) := by
  subst hq; exact Go.of (fun T tg A => XT.lcmp A K.1 rfl (hb K.2.2.2.1 hd) rfl) r
theorem go_dup (K : Cx p s m meth c Z own nm bytes maxL ret) {x : Value} (hd : decode bytes pc = .ok (.dup, 1)) (hc : x.category = 1) (hq : pc + 1 = q) (r : Go p l e R s m args below meth c n0 Q h k n (mkF m q ls (x :: x :: st))) : Go p l e R s m args below meth c n0 Q h k n (mkF m pc ls (x :: st)) := by
  subst hq; exact Go.of (fun T tg A => XS.dup A K.1 rfl (hb K.2.2.2.1 hd) rfl hc) r
theorem go_pop (K : Cx p s m meth c Z own nm bytes maxL ret) {x : Value} (hd : decode bytes pc = .ok (.pop, 1)) (hc : x.category = 1) (hq : pc + 1 = q) (r : Go p l e R s m args below meth c n0 Q h k n (mkF m q ls st)) : Go p l e R s m args below meth c n0 Q h k n (mkF m pc ls (x :: st)) := by
  subst hq; exact Go.of (fun T tg A => XT.pop A K.1 rfl (hb K.2.2.2.1 hd) rfl hc) r
theorem go_dup_x1 (K : Cx p s m meth c Z own nm bytes maxL ret) {x y : Value} (hd : decode bytes pc = .ok (.dup_x1, 1)) (hc : x.category = 1) (hc2 : y.category = 1) (hq : pc + 1 = q) (r : Go p l e R s m args below meth c n0 Q h k n (mkF m q ls (x :: y :: x :: st))) : Go p l e R s m args below meth c n0 Q h k n (mkF m pc ls (x :: y :: st)) := by
  subst hq; exact Go.of (fun T tg A => XT.dupX1 A K.1 rfl (hb K.2.2.2.1 hd) rfl hc hc2) r
theorem go_dup2L (K : Cx p s m meth c Z own nm bytes maxL ret) {x : Int64} (hd : decode bytes pc = .ok (.dup2, 1))  (hq : pc + 1 = q) (r : Go p l e R s m args below meth c n0 Q h k n (mkF m q ls (.long x :: .long x :: st))) : Go p l e R s m args below meth c n0 Q h k n (mkF m pc ls (.long x :: st)) := by
  subst hq; exact Go.of (fun T tg A => XT.dup2L A K.1 rfl (hb K.2.2.2.1 hd) rfl) r
theorem go_istoreN (K : Cx p s m meth c Z own nm bytes maxL ret) {i : Fin 4} {x : Int32} (hd : decode bytes pc = .ok (.istore_n i, 1)) (l' : Array Slot) (hl : storeLocals ls i.val (.int x) = some l') (hq : pc + 1 = q) (r : Go p l e R s m args below meth c n0 Q h k n (mkF m q l' st)) : Go p l e R s m args below meth c n0 Q h k n (mkF m pc ls (.int x :: st)) := by
  subst hq; exact Go.of (fun T tg A => XS.istoreN A K.1 rfl (hb K.2.2.2.1 hd) rfl hl) r
theorem go_istore (K : Cx p s m meth c Z own nm bytes maxL ret) {i : Nat} {x : Int32} (hd : decode bytes pc = .ok (.istore i, 2)) (l' : Array Slot) (hl : storeLocals ls i (.int x) = some l') (hq : pc + 2 = q) (r : Go p l e R s m args below meth c n0 Q h k n (mkF m q l' st)) : Go p l e R s m args below meth c n0 Q h k n (mkF m pc ls (.int x :: st)) := by
  subst hq; exact Go.of (fun T tg A => XS.istore A K.1 rfl (hb K.2.2.2.1 hd) rfl hl) r
theorem go_lstoreN (K : Cx p s m meth c Z own nm bytes maxL ret) {i : Fin 4} {x : Int64} (hd : decode bytes pc = .ok (.lstore_n i, 1)) (l' : Array Slot) (hl : storeLocals ls i.val (.long x) = some l') (hq : pc + 1 = q) (r : Go p l e R s m args below meth c n0 Q h k n (mkF m q l' st)) : Go p l e R s m args below meth c n0 Q h k n (mkF m pc ls (.long x :: st)) := by
  subst hq; exact Go.of (fun T tg A => XT.lstoreN A K.1 rfl (hb K.2.2.2.1 hd) rfl hl) r
theorem go_lstore (K : Cx p s m meth c Z own nm bytes maxL ret) {i : Nat} {x : Int64} (hd : decode bytes pc = .ok (.lstore i, 2)) (l' : Array Slot) (hl : storeLocals ls i (.long x) = some l') (hq : pc + 2 = q) (r : Go p l e R s m args below meth c n0 Q h k n (mkF m q l' st)) : Go p l e R s m args below meth c n0 Q h k n (mkF m pc ls (.long x :: st)) := by
  subst hq; exact Go.of (fun T tg A => XT.lstore A K.1 rfl (hb K.2.2.2.1 hd) rfl hl) r
theorem go_astoreN (K : Cx p s m meth c Z own nm bytes maxL ret) {i : Fin 4} {x : Value} (hd : decode bytes pc = .ok (.astore_n i, 1)) (l' : Array Slot) (hv : x.isRef = true) (hl : storeLocals ls i.val x = some l') (hq : pc + 1 = q) (r : Go p l e R s m args below meth c n0 Q h k n (mkF m q l' st)) : Go p l e R s m args below meth c n0 Q h k n (mkF m pc ls (x :: st)) := by
  subst hq; exact Go.of (fun T tg A => XS.astoreN A K.1 rfl (hb K.2.2.2.1 hd) rfl hv hl) r
theorem go_astore (K : Cx p s m meth c Z own nm bytes maxL ret) {i : Nat} {x : Value} (hd : decode bytes pc = .ok (.astore i, 2)) (l' : Array Slot) (hv : x.isRef = true) (hl : storeLocals ls i x = some l') (hq : pc + 2 = q) (r : Go p l e R s m args below meth c n0 Q h k n (mkF m q l' st)) : Go p l e R s m args below meth c n0 Q h k n (mkF m pc ls (x :: st)) := by
  subst hq; exact Go.of (fun T tg A => XS.astore A K.1 rfl (hb K.2.2.2.1 hd) rfl hv hl) r
theorem go_iinc (K : Cx p s m meth c Z own nm bytes maxL ret) {i : Nat} {z : Int} {x : Int32} (hd : decode bytes pc = .ok (.iinc i z, 3)) (v : Int32) (l' : Array Slot) (hv : Int32.ofInt z = v) (hl : ls[i]? = some (.val (.int x))) (hl' : storeLocals ls i (.int (x + v)) = some l') (hq : pc + 3 = q) (r : Go p l e R s m args below meth c n0 Q h k n (mkF m q l' st)) : Go p l e R s m args below meth c n0 Q h k n (mkF m pc ls st) := by
  subst hq; exact Go.of (fun T tg A => XT.iincV A K.1 rfl v (hb K.2.2.2.1 hd) hv hl hl') r
theorem go_goto (K : Cx p s m meth c Z own nm bytes maxL ret)  {o : Int} (hd : decode bytes pc = .ok (.goto o, 3))  (ho : 0 ≤ (pc : Int) + o) (hq : ((pc : Int) + o).toNat = q) (r : Go p l e R s m args below meth c n0 Q h k n (mkF m q ls st)) : Go p l e R s m args below meth c n0 Q h k n (mkF m pc ls st) := by
  exact Go.of (fun T tg A => XS.goto A K.1 rfl rfl (hb K.2.2.2.1 hd) ho hq) r
def cP : ClassFile.Cond → Int32 → Int32 → Prop
  | .eq, x, y => x = y
  | .ne, x, y => ¬ x = y
  | .lt, x, y => x < y
  | .ge, x, y => ¬ x < y
  | .gt, x, y => y < x
  | .le, x, y => ¬ y < x
theorem cP_t {cd : ClassFile.Cond} {x y : Int32} (h : cP cd x y) : if_icmp.holds cd x y = true := by
  cases cd
  · exact XT.ii_eq_t h
  · exact XT.ii_ne_t h
  · exact XT.ii_lt_t h
  · exact XT.ii_ge_t h
  · exact XT.ii_gt_t h
  · exact XT.ii_le_t h
def cN : ClassFile.Cond → Int32 → Int32 → Prop
  | .eq, x, y => ¬ x = y
  | .ne, x, y => x = y
  | .lt, x, y => ¬ x < y
  | .ge, x, y => x < y
  | .gt, x, y => ¬ y < x
  | .le, x, y => y < x
theorem cN_no {cd : ClassFile.Cond} {x y : Int32} {G : Prop} (h : cP cd x y) (h' : cN cd x y) : G := by
  cases cd <;> first | exact absurd h h' | exact absurd h' h
theorem cN_no2 {cd : ClassFile.Cond} {x y : Int32} {G : Prop} (h' : cN cd x y) (h : cP cd x y) : G := cN_no h h'
theorem cP_or (cd : ClassFile.Cond) (x y : Int32) : cP cd x y ∨ cN cd x y := by
  cases cd
  · exact Classical.em (x = y)
  · exact (Classical.em (x = y)).symm
  · exact Classical.em (x < y)
  · exact (Classical.em (x < y)).symm
  · exact Classical.em (y < x)
  · exact (Classical.em (y < x)).symm
theorem cP_f {cd : ClassFile.Cond} {x y : Int32} (h : cN cd x y) : if_icmp.holds cd x y = false := by
  cases cd
  · exact XT.ii_eq_f h
  · exact XT.ii_ne_f h
  · exact XT.ii_lt_f h
  · exact XT.ii_ge_f h
  · exact XT.ii_gt_f h
  · exact XT.ii_le_f h

theorem go_icmp (K : Cx p s m meth c Z own nm bytes maxL ret) {cd : ClassFile.Cond} {x y : Int32} {o : Int} {q' : Nat} (hd : decode bytes pc = .ok (.if_icmp cd o, 3)) (ho : 0 ≤ (pc : Int) + o) (hq : ((pc : Int) + o).toNat = q) (hq' : pc + 3 = q') (r : cP cd x y → Go p l e R s m args below meth c n0 Q h k n (mkF m q ls st)) (r' : cN cd x y → Go p l e R s m args below meth c n0 Q h k n (mkF m q' ls st)) : Go p l e R s m args below meth c n0 Q h k n (mkF m pc ls (.int y :: .int x :: st)) := by
  subst hq'; rcases cP_or cd x y with hc | hc
  · exact Go.of (fun T tg A => XS.icmpYes A K.1 rfl rfl (hb K.2.2.2.1 hd) rfl (cP_t hc) ho hq) (r hc)
  · exact Go.of (fun T tg A => XS.icmpNo A K.1 rfl (hb K.2.2.2.1 hd) rfl (cP_f hc)) (r' hc)
theorem go_if0 (K : Cx p s m meth c Z own nm bytes maxL ret) {cd : ClassFile.Cond} {x : Int32} {o : Int} {q' : Nat} (hd : decode bytes pc = .ok (.ifCond cd o, 3)) (ho : 0 ≤ (pc : Int) + o) (hq : ((pc : Int) + o).toNat = q) (hq' : pc + 3 = q') (r : cP cd x 0 → Go p l e R s m args below meth c n0 Q h k n (mkF m q ls st)) (r' : cN cd x 0 → Go p l e R s m args below meth c n0 Q h k n (mkF m q' ls st)) : Go p l e R s m args below meth c n0 Q h k n (mkF m pc ls (.int x :: st)) := by
  subst hq'; rcases cP_or cd x 0 with hc | hc
  · exact Go.of (fun T tg A => XS.ifYes A K.1 rfl rfl (hb K.2.2.2.1 hd) rfl (by rw [if0]; exact cP_t hc) ho hq) (r hc)
  · exact Go.of (fun T tg A => XS.ifNo A K.1 rfl (hb K.2.2.2.1 hd) rfl (by rw [if0]; exact cP_f hc)) (r' hc)
def cL : ClassFile.Cond → Int64 → Int64 → Prop
  | .eq, x, y => x = y
  | .ne, x, y => ¬ x = y
  | .lt, x, y => x < y
  | .ge, x, y => ¬ x < y
  | .gt, x, y => y < x
  | .le, x, y => ¬ y < x
theorem cL_t {cd : ClassFile.Cond} {x y : Int64} (h : cL cd x y) : ifCond.holds cd (XT.cmpL x y) = true := by
  cases cd
  · exact XT.ll_eq_t h
  · exact XT.ll_ne_t h
  · exact XT.ll_lt_t h
  · exact XT.ll_ge_t h
  · exact XT.ll_gt_t h
  · exact XT.ll_le_t h
def cLN : ClassFile.Cond → Int64 → Int64 → Prop
  | .eq, x, y => ¬ x = y
  | .ne, x, y => x = y
  | .lt, x, y => ¬ x < y
  | .ge, x, y => x < y
  | .gt, x, y => ¬ y < x
  | .le, x, y => y < x
theorem cLN_no {cd : ClassFile.Cond} {x y : Int64} {G : Prop} (h : cL cd x y) (h' : cLN cd x y) : G := by
  cases cd <;> first | exact absurd h h' | exact absurd h' h
theorem cLN_no2 {cd : ClassFile.Cond} {x y : Int64} {G : Prop} (h' : cLN cd x y) (h : cL cd x y) : G := cLN_no h h'
theorem cL_or (cd : ClassFile.Cond) (x y : Int64) : cL cd x y ∨ cLN cd x y := by
  cases cd
  · exact Classical.em (x = y)
  · exact (Classical.em (x = y)).symm
  · exact Classical.em (x < y)
  · exact (Classical.em (x < y)).symm
  · exact Classical.em (y < x)
  · exact (Classical.em (y < x)).symm
theorem cL_f {cd : ClassFile.Cond} {x y : Int64} (h : cLN cd x y) : ifCond.holds cd (XT.cmpL x y) = false := by
  cases cd
  · exact XT.ll_eq_f h
  · exact XT.ll_ne_f h
  · exact XT.ll_lt_f h
  · exact XT.ll_ge_f h
  · exact XT.ll_gt_f h
  · exact XT.ll_le_f h

theorem go_ifL (K : Cx p s m meth c Z own nm bytes maxL ret) {cd : ClassFile.Cond} {x y : Int64} {o : Int} {q' : Nat} (hd : decode bytes pc = .ok (.ifCond cd o, 3)) (ho : 0 ≤ (pc : Int) + o) (hq : ((pc : Int) + o).toNat = q) (hq' : pc + 3 = q') (r : cL cd x y → Go p l e R s m args below meth c n0 Q h k n (mkF m q ls st)) (r' : cLN cd x y → Go p l e R s m args below meth c n0 Q h k n (mkF m q' ls st)) : Go p l e R s m args below meth c n0 Q h k n (mkF m pc ls (.int (XT.cmpL x y) :: st)) := by
  subst hq'; rcases cL_or cd x y with hc | hc
  · exact Go.of (fun T tg A => XS.ifYes A K.1 rfl rfl (hb K.2.2.2.1 hd) rfl (cL_t hc) ho hq) (r hc)
  · exact Go.of (fun T tg A => XS.ifNo A K.1 rfl (hb K.2.2.2.1 hd) rfl (cL_f hc)) (r' hc)
theorem go_ifnullY (K : Cx p s m meth c Z own nm bytes maxL ret)  {o : Int} (hd : decode bytes pc = .ok (.ifnull o, 3))  (ho : 0 ≤ (pc : Int) + o) (hq : ((pc : Int) + o).toNat = q) (r : Go p l e R s m args below meth c n0 Q h k n (mkF m q ls st)) : Go p l e R s m args below meth c n0 Q h k n (mkF m pc ls (.null :: st)) := by
  exact Go.of (fun T tg A => XS.ifnullYes A K.1 rfl rfl (hb K.2.2.2.1 hd) rfl ho hq) r
theorem go_ifnullN (K : Cx p s m meth c Z own nm bytes maxL ret) {a : Addr} {o : Int} (hd : decode bytes pc = .ok (.ifnull o, 3))  (hq : pc + 3 = q) (r : Go p l e R s m args below meth c n0 Q h k n (mkF m q ls st)) : Go p l e R s m args below meth c n0 Q h k n (mkF m pc ls (.ref a :: st)) := by
  subst hq; exact Go.of (fun T tg A => XS.ifnullNo A K.1 rfl (hb K.2.2.2.1 hd) rfl) r
theorem go_ifnonnullY (K : Cx p s m meth c Z own nm bytes maxL ret) {a : Addr} {o : Int} (hd : decode bytes pc = .ok (.ifnonnull o, 3))  (ho : 0 ≤ (pc : Int) + o) (hq : ((pc : Int) + o).toNat = q) (r : Go p l e R s m args below meth c n0 Q h k n (mkF m q ls st)) : Go p l e R s m args below meth c n0 Q h k n (mkF m pc ls (.ref a :: st)) := by
  exact Go.of (fun T tg A => XT.ifnonnullYes A K.1 rfl rfl (hb K.2.2.2.1 hd) rfl ho hq) r
theorem go_ifnonnullN (K : Cx p s m meth c Z own nm bytes maxL ret) {o : Int} (hd : decode bytes pc = .ok (.ifnonnull o, 3))  (hq : pc + 3 = q) (r : Go p l e R s m args below meth c n0 Q h k n (mkF m q ls st)) : Go p l e R s m args below meth c n0 Q h k n (mkF m pc ls (.null :: st)) := by
  subst hq; exact Go.of (fun T tg A => XT.ifnonnullNo A K.1 rfl (hb K.2.2.2.1 hd) rfl) r
def cA : ClassFile.ACond → Value → Value → Prop
  | .eq, x, y => x = y
  | .ne, x, y => ¬ x = y
def cAN : ClassFile.ACond → Value → Value → Prop
  | .eq, x, y => ¬ x = y
  | .ne, x, y => x = y
theorem cAN_no {cd : ClassFile.ACond} {x y : Value} {G : Prop} (h : cA cd x y) (h' : cAN cd x y) : G := by
  cases cd <;> first | exact absurd h h' | exact absurd h' h
theorem cAN_no2 {cd : ClassFile.ACond} {x y : Value} {G : Prop} (h' : cAN cd x y) (h : cA cd x y) : G := cAN_no h h'
theorem cA_or (cd : ClassFile.ACond) (x y : Value) : cA cd x y ∨ cAN cd x y := by
  cases cd
  · exact Classical.em (x = y)
  · exact (Classical.em (x = y)).symm
theorem cA_v {cd : ClassFile.ACond} {x y : Value} {b : Bool} (hb : decide (x = y) = b) : (acV cd b = true ↔ cA cd x y) := by
  subst hb; cases cd <;> simp [acV, cA]

theorem go_acmp (K : Cx p s m meth c Z own nm bytes maxL ret) {cd : ClassFile.ACond} {x y : Value} {o : Int} {q' : Nat} (hd : decode bytes pc = .ok (.if_acmp cd o, 3)) (h1 : x.isRef = true) (h2 : y.isRef = true) (ho : 0 ≤ (pc : Int) + o) (hq : ((pc : Int) + o).toNat = q) (hq' : pc + 3 = q') (r : cA cd x y → Go p l e R s m args below meth c n0 Q h k n (mkF m q ls st)) (r' : cAN cd x y → Go p l e R s m args below meth c n0 Q h k n (mkF m q' ls st)) : Go p l e R s m args below meth c n0 Q h k n (mkF m pc ls (y :: x :: st)) := by
  subst hq'; rcases cA_or cd x y with hc | hc
  · exact Go.ofX (fun T L tg S _ => acmp S K.1 rfl h1 h2 rfl (hb K.2.2.2.1 hd) rfl rfl ho (by rw [if_pos ((cA_v rfl).mpr hc)]; exact hq.symm)) (r hc)
  · exact Go.ofX (fun T L tg S _ => acmp S K.1 rfl h1 h2 rfl (hb K.2.2.2.1 hd) rfl rfl ho (by rw [if_neg (fun z => cAN_no ((cA_v rfl).mp z) hc)])) (r' hc)
theorem go_ldcI (K : Cx p s m meth c Z own nm bytes maxL ret) {i : Nat} {v : Int32} (wc : (Cond.constant own i v).before a0 Z = true) (hd : decode bytes pc = .ok (.ldc i, 2)) (hq : pc + 2 = q) (r : Go p l e R s m args below meth c n0 Q h k n (mkF m q ls (.int v :: st))) : Go p l e R s m args below meth c n0 Q h k n (mkF m pc ls st) := by
  subst hq; exact Go.ofX (fun T L tg S _ => S.ldcI K.1 K.2.2.1 (mvT K.2.1 wc) rfl (hb K.2.2.2.1 hd)) r
theorem go_ldcWI (K : Cx p s m meth c Z own nm bytes maxL ret) {i : Nat} {v : Int32} (wc : (Cond.constant own i v).before a0 Z = true) (hd : decode bytes pc = .ok (.ldc_w i, 3)) (hq : pc + 3 = q) (r : Go p l e R s m args below meth c n0 Q h k n (mkF m q ls (.int v :: st))) : Go p l e R s m args below meth c n0 Q h k n (mkF m pc ls st) := by
  subst hq; exact Go.ofX (fun T L tg S _ => S.ldcWI K.1 K.2.2.1 (mvT K.2.1 wc) rfl (hb K.2.2.2.1 hd)) r
theorem go_ldc2J (K : Cx p s m meth c Z own nm bytes maxL ret) {i : Nat} {v : Int64} (wc : (Cond.constantLong own i v).before a0 Z = true) (hd : decode bytes pc = .ok (.ldc2_w i, 3)) (hq : pc + 3 = q) (r : Go p l e R s m args below meth c n0 Q h k n (mkF m q ls (.long v :: st))) : Go p l e R s m args below meth c n0 Q h k n (mkF m pc ls st) := by
  subst hq; exact Go.ofX (fun T L tg S _ => S.ldc2J K.1 K.2.2.1 (mvT K.2.1 wc) rfl (hb K.2.2.2.1 hd)) r
theorem go_ldcF (K : Cx p s m meth c Z own nm bytes maxL ret) {i : Nat} {v : UInt32} (wc : (Cond.constantFloat own i v).before a0 Z = true) (hd : decode bytes pc = .ok (.ldc i, 2)) (hq : pc + 2 = q) (r : Go p l e R s m args below meth c n0 Q h k n (mkF m q ls (.float v :: st))) : Go p l e R s m args below meth c n0 Q h k n (mkF m pc ls st) := by
  subst hq; exact Go.ofX (fun T L tg S _ => S.ldcFloatC K.1 K.2.2.1 (mvT K.2.1 wc) (g := mkF m pc ls st) rfl (hb K.2.2.2.1 hd) tg) r
theorem lswAt {tb : Tables} [Ours tb] {e : Env} {below : List Frame} {T target : State} {m : MethodId} {c : Code} {g : JFrame} (h : At T m c below) (hx : tb.exec = Jvm.exec) (hg : g.method = m) {dflt o : Int} {prs : Array (Int × Int)} {len pc0 pc' : Nat} (hpc : g.pc = pc0) (hd : decode c.code g.pc = .ok (.lookupswitch dflt prs, len)) {i : Int32} {rest : List Value} (hs : g.stack = .int i :: rest)
    (hinc : (prs.toList.zip (prs.toList.drop 1)).all (fun (a, next) => a.1 < next.1) = true) (hoff : lookupswitch.offset prs.toList dflt i.toInt = o) (ho : 0 ≤ (pc0 : Int) + o) (hp : ((pc0 : Int) + o).toNat = pc')
    (hr : Steps tb e below (T.setTop { g with pc := pc', stack := rest }) target) : Steps tb e below (T.setTop g) target := by
  subst hg hpc hp
  jvm_step h [h.top, hx, hd, hs, lookupswitch.wp_chain, hoff, ho]
  exact ⟨by simpa using hinc, hr⟩
theorem go_lsw (K : Cx p s m meth c Z own nm bytes maxL ret) {dflt o : Int} {prs : Array (Int × Int)} {len : Nat} {x : Int32} (hd : decode bytes pc = .ok (.lookupswitch dflt prs, len)) (hinc : (prs.toList.zip (prs.toList.drop 1)).all (fun (a, next) => a.1 < next.1) = true) (hoff : lookupswitch.offset prs.toList dflt x.toInt = o) (ho : 0 ≤ (pc : Int) + o) (hq : ((pc : Int) + o).toNat = q)
    (r : Go p l e R s m args below meth c n0 Q h k n (mkF m q ls st)) : Go p l e R s m args below meth c n0 Q h k n (mkF m pc ls (.int x :: st)) :=
  by exact Go.of (fun T tg A => lswAt (g := mkF m pc ls (.int x :: st)) A K.1 rfl (pc0 := pc) (pc' := q) rfl (hb K.2.2.2.1 hd) rfl hinc hoff ho hq) r
theorem go_tsw (K : Cx p s m meth c Z own nm bytes maxL ret) {dflt low high o : Int} {offs : Array Int} {len : Nat} {x : Int32} (hd : decode bytes pc = .ok (.tableswitch dflt low high offs, len)) (hin : ¬ (x.toInt < low ∨ x.toInt > high)) (hoff : offs[(x.toInt - low).toNat]? = some o) (ho : 0 ≤ (pc : Int) + o) (hq : ((pc : Int) + o).toNat = q)
    (r : Go p l e R s m args below meth c n0 Q h k n (mkF m q ls st)) : Go p l e R s m args below meth c n0 Q h k n (mkF m pc ls (.int x :: st)) :=
  by exact Go.of (fun T tg A => XS.tswIn (g := mkF m pc ls (.int x :: st)) A K.1 rfl (pc0 := pc) (pc' := q) rfl (hb K.2.2.2.1 hd) rfl hin hoff ho hq) r

theorem go_return (K : Cx p s m meth c Z own nm bytes maxL ret) (hd : decode bytes pc = .ok (.return_, 1)) (hr : ret = none) (hk : k ≤ R.cells) (hn : n ≤ R.slots) (hQ : Q none h) : Go p l e R s m args below meth c n0 Q h k n (mkF m pc ls []) := fun T L S N eT => by
  obtain ⟨fs, hr', hrun, hended, hW, hsame⟩ := S.leave (v := none) (fun _ => rfl) K.2.2.2.2.2.2.1
  exact ⟨_, _, S.returnOut K.1 (K.2.2.2.2.2.1.trans hr) (hb K.2.2.2.1 hd) hr', hrun, hended, _, _, rfl, ⟨by show Q none T.heap; rw [eT]; exact hQ, N⟩, ⟨_, rfl⟩, hW, hsame.mono hk hn⟩
theorem go_ret (K : Cx p s m meth c Z own nm bytes maxL ret) {v : Value} {t : FieldType} {i : Instr} (hd : decode bytes pc = .ok (i, 1)) (hr : ret = some t) (hnw : narrow t v = v) (hi : (i = .ireturn ∧ (t = .int ∨ t = .boolean ∨ t = .byte ∨ t = .char ∨ t = .short) ∧ ∃ z, v = .int z) ∨ (i = .lreturn ∧ t = .long ∧ ∃ z, v = .long z) ∨ (i = .dreturn ∧ t = .double ∧ ∃ z, v = .double z) ∨ (i = .freturn ∧ t = .float ∧ ∃ z, v = .float z) ∨ (i = .areturn ∧ t.isReference = true ∧ v.isRef = true)) (hk : k ≤ R.cells) (hn : n ≤ R.slots) (hQ : Q (some v) h) : Go p l e R s m args below meth c n0 Q h k n (mkF m pc ls (v :: st)) := fun T L S N eT => by
  obtain ⟨fs, hr', hrun, hended, hW, hsame⟩ := S.leave (v := some v) (fun z => by rw [K.2.2.2.2.2.1, hr] at z; cases z) K.2.2.2.2.2.2.1
  exact ⟨_, _, retOut S K.1 (K.2.2.2.2.2.1.trans hr) hnw hi (hb K.2.2.2.1 hd) hr', hrun, hended, _, _, rfl, ⟨by show Q (some v) T.heap; rw [eT]; exact hQ, N⟩, ⟨_, rfl⟩, hW, hsame.mono hk hn⟩
theorem go_iret (K : Cx p s m meth c Z own nm bytes maxL ret) {v : Int32} {t : FieldType} (hd : decode bytes pc = .ok (.ireturn, 1)) (hr : ret = some t) (ht : t = .int ∨ t = .boolean ∨ t = .byte ∨ t = .char ∨ t = .short) (hnw : narrow t (.int v) = .int v) (hk : k ≤ R.cells) (hn : n ≤ R.slots) (hQ : Q (some (.int v)) h) : Go p l e R s m args below meth c n0 Q h k n (mkF m pc ls (.int v :: st)) :=
  go_ret K hd hr hnw (Or.inl ⟨rfl, ht, v, rfl⟩) hk hn hQ
theorem go_lret (K : Cx p s m meth c Z own nm bytes maxL ret) {v : Int64} (hd : decode bytes pc = .ok (.lreturn, 1)) (hr : ret = some .long) (hk : k ≤ R.cells) (hn : n ≤ R.slots) (hQ : Q (some (.long v)) h) : Go p l e R s m args below meth c n0 Q h k n (mkF m pc ls (.long v :: st)) :=
  go_ret K hd hr rfl (Or.inr (Or.inl ⟨rfl, rfl, v, rfl⟩)) hk hn hQ
theorem go_aret (K : Cx p s m meth c Z own nm bytes maxL ret) {v : Value} {t : FieldType} (hd : decode bytes pc = .ok (.areturn, 1)) (hr : ret = some t) (ht : t.isReference = true) (hv : v.isRef = true) (hnw : narrow t v = v) (hk : k ≤ R.cells) (hn : n ≤ R.slots) (hQ : Q (some v) h) : Go p l e R s m args below meth c n0 Q h k n (mkF m pc ls (v :: st)) :=
  go_ret K hd hr hnw (Or.inr (Or.inr (Or.inr (Or.inr ⟨rfl, ht, hv⟩)))) hk hn hQ
/-- a body's contract: called with just these arguments over the heap h it comes back, Q holds, and nothing below n0 was written -/
def Met (l : Launch) (y : MethodName) (bytes : ByteArray) (maxL : Nat) (ret : Option FieldType) (ws : List Jvm.Cond) (R : Room) (as' : Array Value) (Z : State) (h : Heap) (n0 : Nat) (Q : Option Value → Heap → Prop) : Prop :=
  MetFree l y (head1 (Jvm.Cond.code y bytes maxL ret :: ws) R) (fun a U => a = as' ∧ Z.Warmed39 U.vm ∧ U.heap = h) (fun _ _ _ _ _ => True) (fun _ U o U' => ∃ v L, o = .returned v ∧ (Q v U'.heap ∧ Fr n0 L) ∧ FrameEnd U o U' L R.cells R.slots)
theorem Met.of {y : MethodName} {ws : List Jvm.Cond} {as' : Array Value} (hp : plainFor y = true)
    (body : ∀ (p : Program) (e : Env) (s : State) (m : MethodId) (below : List Frame) (meth : Method) (c : Code), Cx p s m meth c Z y.cls y.name bytes maxL ret → Go p l e R s m as' below meth c n0 Q h 0 0 (entryFrame m as' maxL)) : Met l y bytes maxL ret ws R as' Z h n0 Q := by
  refine MetFree.of_bodySF hp hisR ?_
  intro p e s m args below meth c s₁ Bd hml0 hP hK
  obtain ⟨rfl, hZ, hh⟩ := hP
  have hown : s.vm.findClass y.cls = some m.cls := findClass_of_methodNamed Bd.named
  have hnm := (name_of_methodNamed Bd.named Bd.method).1
  exact body p e s m below meth c ⟨Bd.exec, hZ, hown, Bd.bytes, hml0, Bd.returns, Bd.notSynchronized, hnm⟩ s₁ [] (Stand.of_body Bd) (Fr.nil n0) (by rw [← hh, Bd.state]; rfl)
theorem Met.mono {y : MethodName} {ws : List Jvm.Cond} {as' : Array Value} {Q' : Option Value → Heap → Prop} (M : Met l y bytes maxL ret ws R as' Z h n0 Q) (f : ∀ v h', Q v h' → Q' v h') : Met l y bytes maxL ret ws R as' Z h n0 Q' := by
  intro p e ha hc hk s m args below hf happ hP hK
  obtain ⟨n, o, h1, h2, h3, v, L, h4, h5, h6⟩ := M p e ha hc hk s m args below hf happ hP hK
  exact ⟨n, o, h1, h2, h3, v, L, h4, ⟨f _ _ h5.1, h5.2⟩, h6⟩
theorem Go.entry {maxL' : Nat} {as' : Array Value} (hl : argsToLocals as' maxL' = ls) (r : Go p l e R s m args below meth c n0 Q h k n (mkF m 0 ls [])) : Go p l e R s m args below meth c n0 Q h k n (entryFrame m as' maxL') := by
  subst hl; exact r

/-- what a static call by contract needs -/
theorem go_callS (K : Cx p s m meth c Z own nm bytes maxL ret) {y : MethodName} {bytes' : ByteArray} {maxL' : Nat} {ret' : Option FieldType} {rm : Room} {W i : Nat} {Q' : Option Value → Heap → Prop} {ps : List FieldType}
    (w1 : (Cond.methodLink own i y).before a0 Z = true) (w2 : (Cond.static y).before a0 Z = true) (w3 : (Cond.initialized y.cls).before a0 Z = true) (w4 : (Cond.code y bytes' maxL' ret').before a0 Z = true)
    (argsL rest : List Value) (hM : Met l y bytes' maxL' ret' [] rm argsL.toArray Z h n0 Q') (hd : decode bytes pc = .ok (.invokestatic i, 3)) (hpd : parseMethodDescriptor y.desc = some ⟨ps, ret'⟩) (hlen : argsL.length = ps.length) (hst : st = argsL.reverse ++ rest)
    (hls : ls.size = maxL) (hy : y.cls ≠ "java/lang/invoke/MethodHandle" ∧ y.cls ≠ "java/lang/invoke/VarHandle") (hW : (rest.map fun v => v.category).sum = W) (hfr : rm.frames + 1 ≤ R.frames) (hlo : W + (maxL' + 11) + rm.locals ≤ R.locals) (hce : k + rm.cells ≤ R.cells) (hsl : n + rm.slots ≤ R.slots) (hq : pc + 3 = q)
    (r : ∀ v h', Q' v h' → Go p l e R s m args below meth c n0 Q h' (k + rm.cells) (n + rm.slots) (mkF m q ls (v.toList ++ rest))) : Go p l e R s m args below meth c n0 Q h k n (mkF m pc ls st) := fun T L S N eT => by
  subst hq hst
  obtain ⟨v, _, B, -, X, ⟨Lc, hQ, l1, y1, z1⟩, stp⟩ := Jvm.LawKit.callS S K.1 (y := y) K.2.2.1 (mvT K.2.1 w1) (mvT K.2.1 w2) (mvT K.2.1 w3) (mvT K.2.1 w4) hy (backOf (W := W) (Q := fun v h' L => Q' v h' ∧ Fr n0 L) hM K.2.1 w4 w3 hfr hlo) (g := mkF m pc ls (argsL.reverse ++ rest)) rfl (hls.trans K.2.2.2.2.1.symm) (argsL := argsL) (rest := rest) (lenOf hpd hlen) rfl (by show 2 * 0 + _ ≤ _; rw [hW]; omega) (hb K.2.2.2.1 hd) (fun _ _ => ⟨rfl, eT, hce, hsl⟩)
  obtain ⟨T', L', k', n'⟩ := B
  dsimp only [Pt.U, Pt.locs, Pt.cells, Pt.slots] at X l1 y1 z1 stp hQ
  subst l1 y1 z1
  obtain ⟨s₂, o, hs, z⟩ := r v _ hQ.1 T' _ X (Fr.app N hQ.2) rfl
  exact ⟨s₂, o, stp _ hs, z⟩
theorem go_callI (K : Cx p s m meth c Z own nm bytes maxL ret) {y : MethodName} {bytes' : ByteArray} {maxL' : Nat} {rm : Room} {W i : Nat} {Q' : Option Value → Heap → Prop} {ps : List FieldType} {a : Addr}
    (w1 : (Cond.methodLink own i y).before a0 Z = true) (w2 : (Cond.instanceMethod y).before a0 Z = true) (w3 : (Cond.initialized y.cls).before a0 Z = true) (w4 : (Cond.code y bytes' maxL' none).before a0 Z = true) (hy1 : y.name = "<init>")
    (argsL rest : List Value) (hM : Met l y bytes' maxL' none [] rm (.ref a :: argsL).toArray Z h n0 Q') (hd : decode bytes pc = .ok (.invokespecial i, 3)) (hpd : parseMethodDescriptor y.desc = some ⟨ps, none⟩) (hlen : argsL.length = ps.length) (hst : st = argsL.reverse ++ .ref a :: rest)
    (hls : ls.size = maxL) (hy : y.cls ≠ "java/lang/invoke/MethodHandle" ∧ y.cls ≠ "java/lang/invoke/VarHandle") (hW : (rest.map fun v => v.category).sum = W) (hfr : rm.frames + 1 ≤ R.frames) (hlo : W + (maxL' + 11) + rm.locals ≤ R.locals) (hce : k + rm.cells ≤ R.cells) (hsl : n + rm.slots ≤ R.slots) (hq : pc + 3 = q)
    (r : ∀ v h', Q' v h' → Go p l e R s m args below meth c n0 Q h' (k + rm.cells) (n + rm.slots) (mkF m q ls (v.toList ++ rest))) : Go p l e R s m args below meth c n0 Q h k n (mkF m pc ls st) := fun T L S N eT => by
  subst hq hst
  obtain ⟨v, _, B, -, X, ⟨Lc, hQ, l1, y1, z1⟩, stp⟩ := S.specialBack K.1 (y := y) hy1 K.2.2.1 (mvT K.2.1 w1) (mvT K.2.1 w2) (mvT K.2.1 w4) hy (backOf (W := W) (Q := fun v h' L => Q' v h' ∧ Fr n0 L) hM K.2.1 w4 w3 hfr hlo) (g := mkF m pc ls (argsL.reverse ++ .ref a :: rest)) rfl (hls.trans K.2.2.2.2.1.symm) (Steps.refl _) (a := a) (argsL := argsL) (rest := rest) (lenOf hpd hlen) rfl (by show 2 * 0 + _ ≤ _; rw [hW]; omega) (hb K.2.2.2.1 hd) (fun _ _ => ⟨rfl, eT, hce, hsl⟩)
  obtain ⟨T', L', k', n'⟩ := B
  dsimp only [Pt.U, Pt.locs, Pt.cells, Pt.slots] at X l1 y1 z1 stp hQ
  subst l1 y1 z1
  obtain ⟨s₂, o, hs, z⟩ := r v _ hQ.1 T' _ X (Fr.app N hQ.2) rfl
  exact ⟨s₂, o, stp.trans hs, z⟩
theorem nf_of {y yf : MethodName} {Cf : String} (w : (Cond.selects Cf yf yf).before args s = true) (hyf : yf.cls = y.cls) : NotFace s y := fun r0 h0 => by
  obtain ⟨c2, r2, m2, -, -, q3, -, kP, hkP, hkPi⟩ := Cond.selects_spec w
  have hcl : m2.cls = r0.cls := by
    have e1 := findClass_of_methodNamed q3
    have e2 := findClass_of_methodNamed h0
    rw [hyf] at e1
    exact Option.some.inj (e1.symm.trans e2)
  rw [hcl] at hkP
  exact ⟨kP, hkP, hkPi⟩
theorem go_callV (K : Cx p s m meth c Z own nm bytes maxL ret) {y yz yf : MethodName} {C Cf : String} {bytes' : ByteArray} {maxL' : Nat} {ret' : Option FieldType} {rm : Room} {W i : Nat} {Q' : Option Value → Heap → Prop} {ps : List FieldType} {a : Addr}
    (w1 : (Cond.methodLink own i y).before a0 Z = true) (w2 : (Cond.declares y).before a0 Z = true) (w3 : (Cond.selects C y yz).before a0 Z = true) (w4 : (Cond.instanceMethod yz).before a0 Z = true) (w5 : (Cond.initialized yz.cls).before a0 Z = true) (w6 : (Cond.code yz bytes' maxL' ret').before a0 Z = true) (w7 : (Cond.selects Cf yf yf).before a0 Z = true) (hyf : yf.cls = y.cls)
    (E : Exa Z h a C) (argsL rest : List Value) (hM : Met l yz bytes' maxL' ret' [] rm (.ref a :: argsL).toArray Z h n0 Q') (hd : decode bytes pc = .ok (.invokevirtual i, 3)) (hpd : parseMethodDescriptor y.desc = some ⟨ps, ret'⟩) (hlen : argsL.length = ps.length) (hst : st = argsL.reverse ++ .ref a :: rest)
    (hls : ls.size = maxL) (hy : y.cls ≠ "java/lang/invoke/MethodHandle" ∧ y.cls ≠ "java/lang/invoke/VarHandle") (hW : (rest.map fun v => v.category).sum = W) (hfr : rm.frames + 1 ≤ R.frames) (hlo : W + (maxL' + 11) + rm.locals ≤ R.locals) (hce : k + rm.cells ≤ R.cells) (hsl : n + rm.slots ≤ R.slots) (hq : pc + 3 = q)
    (r : ∀ v h', Q' v h' → Go p l e R s m args below meth c n0 Q h' (k + rm.cells) (n + rm.slots) (mkF m q ls (v.toList ++ rest))) : Go p l e R s m args below meth c n0 Q h k n (mkF m pc ls st) := fun T L S N eT => by
  subst hq hst
  obtain ⟨cq, kq, qa, qb, qc⟩ := isOf K.2.1 eT E
  obtain ⟨v, _, B, -, X, ⟨Lc, hQ, l1, y1, z1⟩, stp⟩ := S.virtualBack K.1 (y := y) (z := yz) K.2.2.1 (mvT K.2.1 w1) (mvT K.2.1 w2) (nf_of (args := #[]) (mvT K.2.1 w7) hyf) (mvT K.2.1 w3) (mvT K.2.1 w4) hy (backOf (W := W) (Q := fun v h' L => Q' v h' ∧ Fr n0 L) hM K.2.1 w6 w5 hfr hlo) qa qc (g := mkF m pc ls (argsL.reverse ++ .ref a :: rest)) rfl (hls.trans K.2.2.2.2.1.symm) (Steps.refl _) (argsL := argsL) (rest := rest) (lenOf hpd hlen) rfl (by show 2 * 0 + _ ≤ _; rw [hW]; omega) (hb K.2.2.2.1 hd) (fun _ _ => ⟨rfl, eT, hce, hsl⟩)
  obtain ⟨T', L', k', n'⟩ := B
  dsimp only [Pt.U, Pt.locs, Pt.cells, Pt.slots] at X l1 y1 z1 stp hQ
  subst l1 y1 z1
  obtain ⟨s₂, o, hs, z⟩ := r v _ hQ.1 T' _ X (Fr.app N hQ.2) rfl
  exact ⟨s₂, o, stp.trans hs, z⟩

/-! the heap: fields, statics, objects -/
theorem go_getF (K : Cx p s m meth c Z own nm bytes maxL ret) {R0 O f d : String} {i : Nat} {a : Addr} {v : Value} (w1 : (Cond.fieldLink own i R0 f d).before a0 Z = true) (via : Via Z R0 O f d) (F : Fld Z h a O f d v) (hd : decode bytes pc = .ok (.getfield i, 3)) (hq : pc + 3 = q)
    (r : Go p l e R s m args below meth c n0 Q h k n (mkF m q ls (v :: st))) : Go p l e R s m args below meth c n0 Q h k n (mkF m pc ls (.ref a :: st)) := fun T L S N eT => by
  subst hq
  obtain ⟨T', X, e', stp⟩ := getF S K.1 K.2.1 K.2.2.1 (host := "") (Or.inl w1) via eT F (g := mkF m pc ls (.ref a :: st)) rfl rfl (hb K.2.2.2.1 hd)
  obtain ⟨s₂, o, hs, z⟩ := r T' L X N e'
  exact ⟨s₂, o, stp _ hs, z⟩
theorem go_getS (K : Cx p s m meth c Z own nm bytes maxL ret) {R0 O f d : String} {i : Nat} {v : Value} (w1 : (Cond.fieldLink own i R0 f d).before a0 Z = true) (via : Via Z R0 O f d) (F : Sta Z h O f d v) (hd : decode bytes pc = .ok (.getstatic i, 3)) (hq : pc + 3 = q)
    (r : Go p l e R s m args below meth c n0 Q h k n (mkF m q ls (v :: st))) : Go p l e R s m args below meth c n0 Q h k n (mkF m pc ls st) := fun T L S N eT => by
  subst hq
  obtain ⟨T', X, e', stp⟩ := getS S K.1 K.2.1 (host := "") K.2.2.1 w1 via eT F (g := mkF m pc ls st) rfl (hb K.2.2.2.1 hd)
  obtain ⟨s₂, o, hs, z⟩ := r T' L X N e'
  exact ⟨s₂, o, stp _ hs, z⟩
theorem go_putF (K : Cx p s m meth c Z own nm bytes maxL ret) {R0 O f d C : String} {i kk : Nat} {ty : FieldType} {a : Addr} {v old : Value} (w1 : (Cond.fieldLink own i R0 f d).before a0 Z = true) (via : Via Z R0 O f d) (F : Fld Z h a O f d old) (E : Exa Z h a C)
    (Ly : (Cond.lays C O f d).before a0 Z = true ∨ ((Cond.laysFinal C O f d).before a0 Z = true ∧ own = O ∧ nm = "<init>")) (wi : (Cond.instantiable C kk).before a0 Z = true) (hty : parseFieldDescriptor d = some ty) (hnw : narrow ty v = v) (hf : fits ty v = true) (ha : n0 ≤ a)
    (hd : decode bytes pc = .ok (.putfield i, 3)) (hq : pc + 3 = q)
    (r : ∀ h', Wr h h' a (Jvm.RoadKit.slotOf Z O f d) v → Go p l e R s m args below meth c n0 Q h' k n (mkF m q ls st)) : Go p l e R s m args below meth c n0 Q h k n (mkF m pc ls (v :: .ref a :: st)) := fun T L S N eT => by
  subst hq
  obtain ⟨T', h', X, e', W, stp⟩ := putF S K.1 K.2.1 K.2.2.1 (host := "") (Or.inl w1) via eT F E (Ly.imp id fun z => ⟨z.1, z.2.1, K.2.2.2.2.2.2.2.trans z.2.2⟩) wi hty hnw hf (g := mkF m pc ls (v :: .ref a :: st)) rfl rfl (hb K.2.2.2.1 hd)
  obtain ⟨s₂, o, hs, z⟩ := r h' W T' _ X (Fr.snoc X N ha) e'
  exact ⟨s₂, o, stp _ hs, z⟩
theorem go_new (K : Cx p s m meth c Z own nm bytes maxL ret) {C : String} {i sz : Nat} (w1 : (Cond.classLink own i C).before a0 Z = true) (w2 : (Cond.instantiable C sz).before a0 Z = true) (w3 : (Cond.initialized C).before a0 Z = true) (hd : decode bytes pc = .ok (.new i, 3)) (hce : k + 1 ≤ R.cells) (hsl : n + sz ≤ R.slots) (hq : pc + 3 = q)
    (r : ∀ h' a, a = h.size → Ext h h' → Exa Z h' a C → (∀ {O f d : String} {ty : FieldType}, Laid Z a0 C O f d → parseFieldDescriptor d = some ty → Fld Z h' a O f d (defaultValue ty)) → Go p l e R s m args below meth c n0 Q h' (k + 1) (n + sz) (mkF m q ls (.ref a :: st))) : Go p l e R s m args below meth c n0 Q h k n (mkF m pc ls st) := fun T L S N eT => by
  subst hq
  obtain ⟨T', h', X, e', E, A, D, -, stp⟩ := newO S K.1 K.2.1 K.2.2.1 w1 w2 w3 eT (g := mkF m pc ls st) rfl (hb K.2.2.2.1 hd) hce hsl
  obtain ⟨s₂, o, hs, z⟩ := r h' _ rfl E A D T' _ X N e'
  exact ⟨s₂, o, stp _ hs, z⟩
theorem go_initO (K : Cx p s m meth c Z own nm bytes maxL ret) {i : Nat} {a : Addr} (w1 : (Cond.methodLink own i Lib.objectInit).before a0 Z = true) (w2 : (Cond.instanceMethod Lib.objectInit).before a0 Z = true) (w3 : (Cond.code Lib.objectInit ⟨#[0xb1]⟩ 1 none).before a0 Z = true) (hd : decode bytes pc = .ok (.invokespecial i, 3)) {W : Nat} (hls : ls.size = maxL) (hW : (st.map fun v => v.category).sum = W) (hfr : 1 ≤ R.frames) (hlo : W + 12 ≤ R.locals) (hq : pc + 3 = q)
    (r : Go p l e R s m args below meth c n0 Q h k n (mkF m q ls st)) : Go p l e R s m args below meth c n0 Q h k n (mkF m pc ls (.ref a :: st)) := fun T L S N eT => by
  subst hq
  obtain ⟨T', X, e', stp⟩ := initO S K.1 K.2.1 K.2.2.1 w1 w2 w3 eT (g := mkF m pc ls (.ref a :: st)) rfl (hls.trans K.2.2.2.2.1.symm) rfl (hb K.2.2.2.1 hd) hfr (W := W) (by show 2 * 0 + _ ≤ _; rw [hW]; omega) hlo
  obtain ⟨s₂, o, hs, z⟩ := r T' L X N e'
  exact ⟨s₂, o, stp _ hs, z⟩
/-! arrays: a known array and the list of what it holds -/
def Ary (Z : State) (h : Heap) (a : Addr) (kl : ClassId) (ty : FieldType) (vs : List Value) : Prop := ∃ cl : Cell, Arr Z h a cl ty ∧ cl.cls = kl ∧ cl.slots.toList = vs ∧ vs.length < 2 ^ 31
theorem Ary.lt {a : Addr} {kl : ClassId} {ty : FieldType} {vs : List Value} (F : Ary Z h a kl ty vs) : a < h.size := by obtain ⟨cl, A, -⟩ := F; exact A.lt
theorem Ary.ext {h' : Heap} {a : Addr} {kl : ClassId} {ty : FieldType} {vs : List Value} (F : Ary Z h a kl ty vs) (E : Ext h h') : Ary Z h' a kl ty vs := by obtain ⟨cl, A, r⟩ := F; exact ⟨cl, A.ext E, r⟩
theorem Ary.other {h' : Heap} {a b : Addr} {sl : Nat} {v : Value} {kl : ClassId} {ty : FieldType} {vs : List Value} (F : Ary Z h b kl ty vs) (W : Wr h h' a sl v) (q : b ≠ a) : Ary Z h' b kl ty vs := by obtain ⟨cl, A, r⟩ := F; exact ⟨cl, A.other W q, r⟩
theorem Ary.keep {h' : Heap} {ws : List Addr} {a : Addr} {kl : ClassId} {ty : FieldType} {vs : List Value} (F : Ary Z h a kl ty vs) (K : Keep h h' ws) (q : a ∉ ws) : Ary Z h' a kl ty vs := by obtain ⟨cl, A, r⟩ := F; exact ⟨cl, ⟨K.2.1 a cl A.1 q, A.2⟩, r⟩
theorem Ary.set {h' : Heap} {a : Addr} {j : Nat} {v : Value} {kl : ClassId} {ty : FieldType} {vs : List Value} (F : Ary Z h a kl ty vs) (W : Wr h h' a j v) : Ary Z h' a kl ty (vs.set j v) := by
  obtain ⟨cl, A, r1, r2, r3⟩ := F
  refine ⟨_, A.same W, r1, ?_, by simpa using r3⟩
  subst r2
  simp [Cell.setSlot]
theorem ary_in {cl : Cell} {vs : List Value} {j : Int32} (r2 : cl.slots.toList = vs) (hj0 : ¬ j < 0) (hj : j.toNatClampNeg < vs.length) : ¬ (j < 0 ∨ cl.slots.size ≤ j.toNatClampNeg) := by
  subst r2
  rintro (q | q)
  · exact hj0 q
  · simp at hj; omega

theorem go_iaload (K : Cx p s m meth c Z own nm bytes maxL ret) {a : Addr} {kl : ClassId} {vs : List Value} {j : Int32} {v : Int32} (F : Ary Z h a kl .int vs) (hj0 : ¬ j < 0) (hj : vs[j.toNatClampNeg]? = some (.int v)) (hd : decode bytes pc = .ok (.iaload, 1)) (hq : pc + 1 = q)
    (r : Go p l e R s m args below meth c n0 Q h k n (mkF m q ls ((.int v) :: st))) : Go p l e R s m args below meth c n0 Q h k n (mkF m pc ls (.int j :: .ref a :: st)) := by
  subst hq
  obtain ⟨cl, A, r1, r2, r3⟩ := F
  refine Go.ofX (fun T L tg S eT => S.iaload K.1 (j := j) (v := (.int v)) (by rw [eT]; exact A.1) (State.isArrayOf_alike K.2.1.alike A.2.1) A.2.2 (ary_in r2 hj0 (List.getElem?_eq_some_iff.mp hj).1) (by rw [← hj, ← r2]; simp) (g := mkF m pc ls (.int j :: .ref a :: st)) rfl rfl (hb K.2.2.2.1 hd) tg) r
theorem go_laload (K : Cx p s m meth c Z own nm bytes maxL ret) {a : Addr} {kl : ClassId} {vs : List Value} {j : Int32} {v : Int64} (F : Ary Z h a kl .long vs) (hj0 : ¬ j < 0) (hj : vs[j.toNatClampNeg]? = some (.long v)) (hd : decode bytes pc = .ok (.laload, 1)) (hq : pc + 1 = q)
    (r : Go p l e R s m args below meth c n0 Q h k n (mkF m q ls ((.long v) :: st))) : Go p l e R s m args below meth c n0 Q h k n (mkF m pc ls (.int j :: .ref a :: st)) := by
  subst hq
  obtain ⟨cl, A, r1, r2, r3⟩ := F
  refine Go.ofX (fun T L tg S eT => S.laload K.1 (j := j) (v := (.long v)) (by rw [eT]; exact A.1) (State.isArrayOf_alike K.2.1.alike A.2.1) A.2.2 (ary_in r2 hj0 (List.getElem?_eq_some_iff.mp hj).1) (by rw [← hj, ← r2]; simp) (g := mkF m pc ls (.int j :: .ref a :: st)) rfl rfl (hb K.2.2.2.1 hd) tg) r
theorem go_caload (K : Cx p s m meth c Z own nm bytes maxL ret) {a : Addr} {kl : ClassId} {vs : List Value} {j : Int32} {v : Int32} (F : Ary Z h a kl .char vs) (hj0 : ¬ j < 0) (hj : vs[j.toNatClampNeg]? = some (.int v)) (hd : decode bytes pc = .ok (.caload, 1)) (hq : pc + 1 = q)
    (r : Go p l e R s m args below meth c n0 Q h k n (mkF m q ls ((.int v) :: st))) : Go p l e R s m args below meth c n0 Q h k n (mkF m pc ls (.int j :: .ref a :: st)) := by
  subst hq
  obtain ⟨cl, A, r1, r2, r3⟩ := F
  refine Go.ofX (fun T L tg S eT => S.caload K.1 (j := j) (v := (.int v)) (by rw [eT]; exact A.1) (State.isArrayOf_alike K.2.1.alike A.2.1) A.2.2 (ary_in r2 hj0 (List.getElem?_eq_some_iff.mp hj).1) (by rw [← hj, ← r2]; simp) (g := mkF m pc ls (.int j :: .ref a :: st)) rfl rfl (hb K.2.2.2.1 hd) tg) r
theorem go_baload (K : Cx p s m meth c Z own nm bytes maxL ret) {a : Addr} {kl : ClassId} {vs : List Value} {j : Int32} {v : Int32} (F : Ary Z h a kl .byte vs) (hj0 : ¬ j < 0) (hj : vs[j.toNatClampNeg]? = some (.int v)) (hd : decode bytes pc = .ok (.baload, 1)) (hq : pc + 1 = q)
    (r : Go p l e R s m args below meth c n0 Q h k n (mkF m q ls ((.int v) :: st))) : Go p l e R s m args below meth c n0 Q h k n (mkF m pc ls (.int j :: .ref a :: st)) := by
  subst hq
  obtain ⟨cl, A, r1, r2, r3⟩ := F
  refine Go.ofX (fun T L tg S eT => S.baloadBytes K.1 (j := j) (v := (.int v)) (by rw [eT]; exact A.1) (State.isArrayOf_alike K.2.1.alike A.2.1) A.2.2 (ary_in r2 hj0 (List.getElem?_eq_some_iff.mp hj).1) (by rw [← hj, ← r2]; simp) (g := mkF m pc ls (.int j :: .ref a :: st)) rfl rfl (hb K.2.2.2.1 hd) tg) r
theorem go_aaload (K : Cx p s m meth c Z own nm bytes maxL ret) {a : Addr} {kl : ClassId} {vs : List Value} {j : Int32} {v : Value} {ty : FieldType} (F : Ary Z h a kl ty vs) (ht : ty.isReference = true) (hv : v.isRef = true) (hj0 : ¬ j < 0) (hj : vs[j.toNatClampNeg]? = some v) (hd : decode bytes pc = .ok (.aaload, 1)) (hq : pc + 1 = q)
    (r : Go p l e R s m args below meth c n0 Q h k n (mkF m q ls (v :: st))) : Go p l e R s m args below meth c n0 Q h k n (mkF m pc ls (.int j :: .ref a :: st)) := by
  subst hq
  obtain ⟨cl, A, r1, r2, r3⟩ := F
  refine Go.ofX (fun T L tg S eT => S.aaload K.1 (j := j) (v := v) (by rw [eT]; exact A.1) (State.isArrayOf_alike K.2.1.alike A.2.1) ht A.2.2 (ary_in r2 hj0 (List.getElem?_eq_some_iff.mp hj).1) (by rw [← hj, ← r2]; simp) (g := mkF m pc ls (.int j :: .ref a :: st)) rfl rfl (hb K.2.2.2.1 hd) tg) r
theorem go_arraylength (K : Cx p s m meth c Z own nm bytes maxL ret) {a : Addr} {kl : ClassId} {vs : List Value} {ty : FieldType} {z : Int32} (F : Ary Z h a kl ty vs) (hz : vs.length.toInt32 = z) (hd : decode bytes pc = .ok (.arraylength, 1)) (hq : pc + 1 = q)
    (r : Go p l e R s m args below meth c n0 Q h k n (mkF m q ls (.int z :: st))) : Go p l e R s m args below meth c n0 Q h k n (mkF m pc ls (.ref a :: st)) := by
  subst hq
  obtain ⟨cl, A, r1, r2, r3⟩ := F
  have e1 : cl.slots.size.toInt32 = z := by rw [← hz, ← r2]; simp
  subst e1
  refine Go.ofX (fun T L tg S eT => S.arraylength K.1 (cell := cl) (by rw [eT]; exact A.1) (State.isArrayOf_alike K.2.1.alike A.2.1) (g := mkF m pc ls (.ref a :: st)) rfl (rest := st) rfl (hb K.2.2.2.1 hd) tg) r
theorem go_iastore (K : Cx p s m meth c Z own nm bytes maxL ret) {a : Addr} {kl : ClassId} {vs : List Value} {j : Int32} {v : Int32} (F : Ary Z h a kl .int vs) (hj0 : ¬ j < 0) (hj : j.toNatClampNeg < vs.length) (ha : n0 ≤ a) (hd : decode bytes pc = .ok (.iastore, 1)) (hq : pc + 1 = q)
    (r : ∀ h', Wr h h' a j.toNatClampNeg (.int v) → Ary Z h' a kl .int (vs.set j.toNatClampNeg (.int v)) → Go p l e R s m args below meth c n0 Q h' k n (mkF m q ls st)) : Go p l e R s m args below meth c n0 Q h k n (mkF m pc ls (.int v :: .int j :: .ref a :: st)) := fun T L S N eT => by
  subst hq
  obtain ⟨cl, A, r1, r2, r3⟩ := id F
  obtain ⟨T', h', X, e', W, stp⟩ := stI S K.1 K.2.1 eT A (j := j) (x := v) (ary_in r2 hj0 hj) (g := mkF m pc ls (.int v :: .int j :: .ref a :: st)) rfl rfl (hb K.2.2.2.1 hd)
  obtain ⟨s₂, o, hs, z⟩ := r h' W (F.set W) T' _ X (Fr.snoc X N ha) e'
  exact ⟨s₂, o, stp _ hs, z⟩
theorem go_lastore (K : Cx p s m meth c Z own nm bytes maxL ret) {a : Addr} {kl : ClassId} {vs : List Value} {j : Int32} {v : Int64} (F : Ary Z h a kl .long vs) (hj0 : ¬ j < 0) (hj : j.toNatClampNeg < vs.length) (ha : n0 ≤ a) (hd : decode bytes pc = .ok (.lastore, 1)) (hq : pc + 1 = q)
    (r : ∀ h', Wr h h' a j.toNatClampNeg (.long v) → Ary Z h' a kl .long (vs.set j.toNatClampNeg (.long v)) → Go p l e R s m args below meth c n0 Q h' k n (mkF m q ls st)) : Go p l e R s m args below meth c n0 Q h k n (mkF m pc ls (.long v :: .int j :: .ref a :: st)) := fun T L S N eT => by
  subst hq
  obtain ⟨cl, A, r1, r2, r3⟩ := id F
  obtain ⟨T', h', X, e', W, stp⟩ := stJ S K.1 K.2.1 eT A (j := j) (x := v) (ary_in r2 hj0 hj) (g := mkF m pc ls (.long v :: .int j :: .ref a :: st)) rfl rfl (hb K.2.2.2.1 hd)
  obtain ⟨s₂, o, hs, z⟩ := r h' W (F.set W) T' _ X (Fr.snoc X N ha) e'
  exact ⟨s₂, o, stp _ hs, z⟩
theorem go_castore (K : Cx p s m meth c Z own nm bytes maxL ret) {a : Addr} {kl : ClassId} {vs : List Value} {j : Int32} {v : Int32} (F : Ary Z h a kl .char vs) (hj0 : ¬ j < 0) (hj : j.toNatClampNeg < vs.length) (ha : n0 ≤ a) (hd : decode bytes pc = .ok (.castore, 1)) (hq : pc + 1 = q)
    (r : ∀ h', Wr h h' a j.toNatClampNeg (.int (nar .char v)) → Ary Z h' a kl .char (vs.set j.toNatClampNeg (.int (nar .char v))) → Go p l e R s m args below meth c n0 Q h' k n (mkF m q ls st)) : Go p l e R s m args below meth c n0 Q h k n (mkF m pc ls (.int v :: .int j :: .ref a :: st)) := fun T L S N eT => by
  subst hq
  obtain ⟨cl, A, r1, r2, r3⟩ := id F
  obtain ⟨T', h', X, e', W, stp⟩ := stC S K.1 K.2.1 eT A (j := j) (x := v) (ary_in r2 hj0 hj) (g := mkF m pc ls (.int v :: .int j :: .ref a :: st)) rfl rfl (hb K.2.2.2.1 hd)
  obtain ⟨s₂, o, hs, z⟩ := r h' W (F.set W) T' _ X (Fr.snoc X N ha) e'
  exact ⟨s₂, o, stp _ hs, z⟩
theorem go_bastore (K : Cx p s m meth c Z own nm bytes maxL ret) {a : Addr} {kl : ClassId} {vs : List Value} {j : Int32} {v : Int32} (F : Ary Z h a kl .byte vs) (hj0 : ¬ j < 0) (hj : j.toNatClampNeg < vs.length) (ha : n0 ≤ a) (hd : decode bytes pc = .ok (.bastore, 1)) (hq : pc + 1 = q)
    (r : ∀ h', Wr h h' a j.toNatClampNeg (.int (nar .byte v)) → Ary Z h' a kl .byte (vs.set j.toNatClampNeg (.int (nar .byte v))) → Go p l e R s m args below meth c n0 Q h' k n (mkF m q ls st)) : Go p l e R s m args below meth c n0 Q h k n (mkF m pc ls (.int v :: .int j :: .ref a :: st)) := fun T L S N eT => by
  subst hq
  obtain ⟨cl, A, r1, r2, r3⟩ := id F
  obtain ⟨T', h', X, e', W, stp⟩ := stB S K.1 K.2.1 eT A (j := j) (x := v) (ary_in r2 hj0 hj) (g := mkF m pc ls (.int v :: .int j :: .ref a :: st)) rfl rfl (hb K.2.2.2.1 hd)
  obtain ⟨s₂, o, hs, z⟩ := r h' W (F.set W) T' _ X (Fr.snoc X N ha) e'
  exact ⟨s₂, o, stp _ hs, z⟩
theorem go_newarray (K : Cx p s m meth c Z own nm bytes maxL ret) {aty : ArrayType} {z : Int32} {num cap : Nat} (w1 : (Cond.arrayClass (newarray.typeOf aty)).before a0 Z = true) (hd : decode bytes pc = .ok (.newarray aty, 2)) (hz : ¬ z < 0) (hzn : z.toNatClampNeg = num) (hcap : num ≤ cap) (hcb : cap * 8 ≤ 536870912) (hce : k + 1 ≤ R.cells) (hsl : n + cap ≤ R.slots) (hq : pc + 2 = q)
    (r : ∀ h' a kl, a = h.size → Ext h h' → Ary Z h' a kl (newarray.typeOf aty) (List.replicate num (defaultValue (newarray.typeOf aty))) → Go p l e R s m args below meth c n0 Q h' (k + 1) (n + cap) (mkF m q ls (.ref a :: st))) : Go p l e R s m args below meth c n0 Q h k n (mkF m pc ls (.int z :: st)) := fun T L S N eT => by
  subst hq hzn
  obtain ⟨T', h', kl, X, e', E, A, stp⟩ := newP S K.1 K.2.1 w1 eT (g := mkF m pc ls (.int z :: st)) rfl (hb K.2.2.2.1 hd) (n := z) (rest := st) rfl hz hcap hcb hce hsl
  obtain ⟨s₂, o, hs, zz⟩ := r h' _ kl rfl E ⟨_, A, rfl, by simp [newA], by simp; omega⟩ T' _ X N e'
  exact ⟨s₂, o, stp _ hs, zz⟩

theorem go_anewarray (K : Cx p s m meth c Z own nm bytes maxL ret) {C : String} {i : Nat} {z : Int32} {num cap : Nat} (w1 : (Cond.classLink own i C).before a0 Z = true) (w2 : (Cond.arrayOver (.object C)).before a0 Z = true) (hd : decode bytes pc = .ok (.anewarray i, 3)) (hz : ¬ z < 0) (hzn : z.toNatClampNeg = num) (hcap : num ≤ cap) (hcb : cap * 8 ≤ 536870912) (hce : k + 1 ≤ R.cells) (hsl : n + cap ≤ R.slots) (hq : pc + 3 = q)
    (r : ∀ h' a kl, a = h.size → Ext h h' → Ary Z h' a kl (.object C) (List.replicate num .null) → Ovr Z kl C → Go p l e R s m args below meth c n0 Q h' (k + 1) (n + cap) (mkF m q ls (.ref a :: st))) : Go p l e R s m args below meth c n0 Q h k n (mkF m pc ls (.int z :: st)) := fun T L S N eT => by
  subst hq hzn
  obtain ⟨T', h', kl, X, e', E, A, O, stp⟩ := newR S K.1 K.2.1 K.2.2.1 w1 w2 eT (g := mkF m pc ls (.int z :: st)) rfl (hb K.2.2.2.1 hd) (n := z) (rest := st) rfl hz hcap hcb hce hsl
  obtain ⟨s₂, o, hs, zz⟩ := r h' _ kl rfl E ⟨_, A, rfl, by simp [newA, defaultValue], by simp; omega⟩ O T' _ X N e'
  exact ⟨s₂, o, stp _ hs, zz⟩
theorem go_aastore (K : Cx p s m meth c Z own nm bytes maxL ret) {a : Addr} {kl : ClassId} {vs : List Value} {j : Int32} {v : Value} {ty : FieldType} (F : Ary Z h a kl ty vs) (hty : ty.isReference = true) (So : Sto Z h a v) (hj0 : ¬ j < 0) (hj : j.toNatClampNeg < vs.length) (ha : n0 ≤ a) (hd : decode bytes pc = .ok (.aastore, 1)) (hq : pc + 1 = q)
    (r : ∀ h', Wr h h' a j.toNatClampNeg v → Ary Z h' a kl ty (vs.set j.toNatClampNeg v) → Go p l e R s m args below meth c n0 Q h' k n (mkF m q ls st)) : Go p l e R s m args below meth c n0 Q h k n (mkF m pc ls (v :: .int j :: .ref a :: st)) := fun T L S N eT => by
  subst hq
  obtain ⟨cl, A, r1, r2, r3⟩ := id F
  obtain ⟨T', h', X, e', W, stp⟩ := stR S K.1 K.2.1 eT A (j := j) (v := v) (ary_in r2 hj0 hj) hty So (g := mkF m pc ls (v :: .int j :: .ref a :: st)) rfl rfl (hb K.2.2.2.1 hd)
  obtain ⟨s₂, o, hs, z⟩ := r h' W (F.set W) T' _ X (Fr.snoc X N ha) e'
  exact ⟨s₂, o, stp _ hs, z⟩
theorem sto_of {a y : Addr} {kl : ClassId} {ty : FieldType} {vs : List Value} {C : String} (F : Ary Z h a kl ty vs) (O : Ovr Z kl C) (Iy : Ins Z h y C true) : Sto Z h a (.ref y) := by
  obtain ⟨cl, A, rfl, -⟩ := F
  exact Sto.of A O Iy
theorem go_checkcast (K : Cx p s m meth c Z own nm bytes maxL ret) {C : String} {i : Nat} {a : Addr} (w1 : (Cond.classLink own i C).before a0 Z = true) (F : Ins Z h a C true) (hd : decode bytes pc = .ok (.checkcast i, 3)) (hq : pc + 3 = q)
    (r : Go p l e R s m args below meth c n0 Q h k n (mkF m q ls (.ref a :: st))) : Go p l e R s m args below meth c n0 Q h k n (mkF m pc ls (.ref a :: st)) := fun T L S N eT => by
  subst hq
  obtain ⟨T', X, e', stp⟩ := castY S K.1 K.2.1 K.2.2.1 w1 eT F (g := mkF m pc ls (.ref a :: st)) rfl rfl (hb K.2.2.2.1 hd)
  obtain ⟨s₂, o, hs, z⟩ := r T' L X N e'
  exact ⟨s₂, o, stp _ hs, z⟩
theorem go_instY (K : Cx p s m meth c Z own nm bytes maxL ret) {C : String} {i : Nat} {a : Addr} (w1 : (Cond.classLink own i C).before a0 Z = true) (F : Ins Z h a C true) (hd : decode bytes pc = .ok (.instanceof i, 3)) (hq : pc + 3 = q)
    (r : Go p l e R s m args below meth c n0 Q h k n (mkF m q ls (.int 1 :: st))) : Go p l e R s m args below meth c n0 Q h k n (mkF m pc ls (.ref a :: st)) := fun T L S N eT => by
  subst hq
  obtain ⟨T', X, e', stp⟩ := instY S K.1 K.2.1 K.2.2.1 w1 eT F (g := mkF m pc ls (.ref a :: st)) rfl rfl (hb K.2.2.2.1 hd)
  obtain ⟨s₂, o, hs, z⟩ := r T' L X N e'
  exact ⟨s₂, o, stp _ hs, z⟩
/-- a virtual call through a subclass's name (the class 'ow' above declares the method) -/
theorem go_callU (K : Cx p s m meth c Z own nm bytes maxL ret) {y yz : MethodName} {C ow : String} {bytes' : ByteArray} {maxL' : Nat} {ret' : Option FieldType} {rm : Room} {W i : Nat} {Q' : Option Value → Heap → Prop} {ps : List FieldType} {a : Addr}
    (w1 : (Cond.methodLink own i y).before a0 Z = true) (w2 : (Cond.declares ⟨ow, y.name, y.desc⟩).before a0 Z = true) (w3 : (Cond.selects C y yz).before a0 Z = true) (w4 : (Cond.instanceMethod yz).before a0 Z = true) (w5 : (Cond.initialized yz.cls).before a0 Z = true) (w6 : (Cond.code yz bytes' maxL' ret').before a0 Z = true) (w7 : (Cond.sameMethod y.cls ow y.name y.desc).before a0 Z = true)
    (E : Exa Z h a C) (argsL rest : List Value) (hM : Met l yz bytes' maxL' ret' [] rm (.ref a :: argsL).toArray Z h n0 Q') (hd : decode bytes pc = .ok (.invokevirtual i, 3)) (hpd : parseMethodDescriptor y.desc = some ⟨ps, ret'⟩) (hlen : argsL.length = ps.length) (hst : st = argsL.reverse ++ .ref a :: rest)
    (hls : ls.size = maxL) (hy : ow ≠ "java/lang/invoke/MethodHandle" ∧ ow ≠ "java/lang/invoke/VarHandle") (hW : (rest.map fun v => v.category).sum = W) (hfr : rm.frames + 1 ≤ R.frames) (hlo : W + (maxL' + 11) + rm.locals ≤ R.locals) (hce : k + rm.cells ≤ R.cells) (hsl : n + rm.slots ≤ R.slots) (hq : pc + 3 = q)
    (r : ∀ v h', Q' v h' → Go p l e R s m args below meth c n0 Q h' (k + rm.cells) (n + rm.slots) (mkF m q ls (v.toList ++ rest))) : Go p l e R s m args below meth c n0 Q h k n (mkF m pc ls st) := fun T L S N eT => by
  subst hq hst
  obtain ⟨cq, kq, qa, qb, qc⟩ := isOf K.2.1 eT E
  obtain ⟨v, _, B, -, X, ⟨Lc, hQ, l1, y1, z1⟩, stp⟩ := S.virtualBackUp K.1 (x := y) (y := yz) K.2.2.1 (mvT K.2.1 w1) (mvT K.2.1 w7) (mvT K.2.1 w2) hy (mvT K.2.1 w3) (mvT K.2.1 w4) (backOf (W := W) (Q := fun v h' L => Q' v h' ∧ Fr n0 L) hM K.2.1 w6 w5 hfr hlo) qa qc (g := mkF m pc ls (argsL.reverse ++ .ref a :: rest)) rfl (hls.trans K.2.2.2.2.1.symm) (Steps.refl _) (argsL := argsL) (rest := rest) (lenOf hpd hlen) rfl (by show 2 * 0 + _ ≤ _; rw [hW]; omega) (hb K.2.2.2.1 hd) (fun _ _ => ⟨rfl, eT, hce, hsl⟩)
  obtain ⟨T', L', k', n'⟩ := B
  dsimp only [Pt.U, Pt.locs, Pt.cells, Pt.slots] at X l1 y1 z1 stp hQ
  subst l1 y1 z1
  obtain ⟨s₂, o, hs, z⟩ := r v _ hQ.1 T' _ X (Fr.app N hQ.2) rfl
  exact ⟨s₂, o, stp.trans hs, z⟩
/-- invokevirtual of a private method -/
theorem go_callP (K : Cx p s m meth c Z own nm bytes maxL ret) {y : MethodName} {C : String} {bytes' : ByteArray} {maxL' : Nat} {ret' : Option FieldType} {rm : Room} {W i : Nat} {Q' : Option Value → Heap → Prop} {ps : List FieldType} {a : Addr} {yf : MethodName} {Cf : String}
    (w1 : (Cond.methodLink own i y).before a0 Z = true) (w2 : (Cond.privateMethod y).before a0 Z = true) (w3 : (Cond.selects Cf yf yf).before a0 Z = true) (hyf : yf.cls = y.cls) (w4 : (Cond.instanceMethod y).before a0 Z = true) (w5 : (Cond.initialized y.cls).before a0 Z = true) (w6 : (Cond.code y bytes' maxL' ret').before a0 Z = true)
    (E : Exa Z h a C) (argsL rest : List Value) (hM : Met l y bytes' maxL' ret' [] rm (.ref a :: argsL).toArray Z h n0 Q') (hd : decode bytes pc = .ok (.invokevirtual i, 3)) (hpd : parseMethodDescriptor y.desc = some ⟨ps, ret'⟩) (hlen : argsL.length = ps.length) (hst : st = argsL.reverse ++ .ref a :: rest)
    (hls : ls.size = maxL) (hy : y.cls ≠ "java/lang/invoke/MethodHandle" ∧ y.cls ≠ "java/lang/invoke/VarHandle") (hW : (rest.map fun v => v.category).sum = W) (hfr : rm.frames + 1 ≤ R.frames) (hlo : W + (maxL' + 11) + rm.locals ≤ R.locals) (hce : k + rm.cells ≤ R.cells) (hsl : n + rm.slots ≤ R.slots) (hq : pc + 3 = q)
    (r : ∀ v h', Q' v h' → Go p l e R s m args below meth c n0 Q h' (k + rm.cells) (n + rm.slots) (mkF m q ls (v.toList ++ rest))) : Go p l e R s m args below meth c n0 Q h k n (mkF m pc ls st) := fun T L S N eT => by
  subst hq hst
  obtain ⟨cell, hcell, hobj⟩ := E.cell
  have hK := backOf (len := 3) (W := W) (R := R) (p := p) (e := e) (below := below) (args := args) (Q := fun v h' L => Q' v h' ∧ Fr n0 L) hM K.2.1 w6 w5 hfr hlo
  obtain ⟨mk, methM, hnamed, hmethM, hstM, habM⟩ := Cond.instanceMethod_spec (mvT (args := args) K.2.1 w4)
  obtain ⟨methM', cM, hmethM', -, -, -, -, -, -, hsigM⟩ := Cond.code_spec hnamed (mvT (args := args) K.2.1 w6)
  cases hmethM.symm.trans hmethM'
  obtain ⟨c2, r2, m2, -, -, q3, -, kP, hkP, hkPi⟩ := Cond.selects_spec (mvT (args := args) K.2.1 w3)
  have hcl : m2.cls = mk.cls := by
    have e1 := findClass_of_methodNamed q3
    have e2 := findClass_of_methodNamed hnamed
    rw [hyf] at e1
    exact Option.some.inj (e1.symm.trans e2)
  rw [hcl] at hkP
  have hpriv : s.PrivateAt y := Cond.privateMethod_at (mvP K.2.1 w2 (args := #[]))
  have hselP : selectMethod e.platform s.vm cell.cls mk = .method mk := selectMethod_private hmethM (hpriv mk methM hnamed hmethM)
  obtain ⟨vm₁, X₁, hstep₁⟩ := S.invokevirtual K.1 K.2.2.1 (mvT K.2.1 w1) hnamed hmethM hstM hkP hkPi hy (a := a) (cell := cell) (by rw [eT]; exact hcell) hobj hselP hmethM habM hkP hkPi (g := mkF m pc ls (argsL.reverse ++ .ref a :: rest)) rfl (argsL := argsL) (rest := rest) (by rw [lenOf hpd hlen _ hsigM]) rfl (hb K.2.2.2.1 hd)
  obtain ⟨v, B, X, ⟨Lc, hQ, l1, y1, z1⟩, hsteps⟩ := hK m meth c ⟨T.setVm vm₁, L, k, n⟩ (mkF m pc ls rest) (.invokevirtual i) mk (.ref a :: argsL).toArray X₁ rfl (hls.trans K.2.2.2.2.1.symm) (hb K.2.2.2.1 hd) (by show 2 * 0 + _ ≤ _; rw [hW]; omega) (X₁.named hnamed) ⟨rfl, eT, hce, hsl⟩
  obtain ⟨T', L', k', n'⟩ := B
  dsimp only [Pt.U, Pt.locs, Pt.cells, Pt.slots] at X l1 y1 z1 hsteps hQ
  subst l1 y1 z1
  obtain ⟨s₂, o, hs, z⟩ := r v _ hQ.1 T' _ X (Fr.app N hQ.2) rfl
  exact ⟨s₂, o, hstep₁ _ fun acts => by rw [doInvoke_state]; exact hsteps.trans hs, z⟩
/-- invokeinterface -/
theorem go_callF (K : Cx p s m meth c Z own nm bytes maxL ret) {y yz : MethodName} {C : String} {bytes' : ByteArray} {maxL' : Nat} {ret' : Option FieldType} {rm : Room} {W i cnt : Nat} {Q' : Option Value → Heap → Prop} {ps : List FieldType} {a : Addr}
    (w1 : (Cond.methodLink own i y).before a0 Z = true) (w2 : (Cond.declares y).before a0 Z = true) (w3 : (Cond.selects C y yz).before a0 Z = true) (w4 : (Cond.instanceMethod yz).before a0 Z = true) (w5 : (Cond.initialized yz.cls).before a0 Z = true) (w6 : (Cond.code yz bytes' maxL' ret').before a0 Z = true) (w7 : (Cond.interfaceMethod y.cls y.cls y.name y.desc).before a0 Z = true) (w8 : (Cond.publicMethod yz).before a0 Z = true) (w9 : (Cond.unhidden C y.name y.desc).before a0 Z = true) (wa : (Cond.castable C y.cls).before a0 Z = true)
    (E : Exa Z h a C) (argsL rest : List Value) (hM : Met l yz bytes' maxL' ret' [] rm (.ref a :: argsL).toArray Z h n0 Q') (hd : decode bytes pc = .ok (.invokeinterface i cnt, 5)) (hpd : parseMethodDescriptor y.desc = some ⟨ps, ret'⟩) (hlen : argsL.length = ps.length) (hst : st = argsL.reverse ++ .ref a :: rest)
    (hls : ls.size = maxL) (hy : y.cls ≠ "java/lang/invoke/MethodHandle" ∧ y.cls ≠ "java/lang/invoke/VarHandle") (hW : (rest.map fun v => v.category).sum = W) (hfr : rm.frames + 1 ≤ R.frames) (hlo : W + (maxL' + 11) + rm.locals ≤ R.locals) (hce : k + rm.cells ≤ R.cells) (hsl : n + rm.slots ≤ R.slots) (hq : pc + 5 = q)
    (r : ∀ v h', Q' v h' → Go p l e R s m args below meth c n0 Q h' (k + rm.cells) (n + rm.slots) (mkF m q ls (v.toList ++ rest))) : Go p l e R s m args below meth c n0 Q h k n (mkF m pc ls st) := fun T L S N eT => by
  subst hq hst
  obtain ⟨cq, kq, qa, qb, qc⟩ := isOf K.2.1 eT E
  obtain ⟨v, _, B, -, X, ⟨Lc, hQ, l1, y1, z1⟩, stp⟩ := S.interfaceBack K.1 (xi := y) (y := yz) K.2.2.1 (mvT K.2.1 w1) (mvT K.2.1 w2) (mvT K.2.1 w7 (by simp [Cond.onTables, Cond.keepsFace, Cond.keeps, Cond.steady, Cond.faceAtom, hy.1, hy.2])) (mvT K.2.1 w3) (mvT K.2.1 w4) (mvT K.2.1 w8) (mvT K.2.1 w9) (mvT K.2.1 wa) hy (backOf (W := W) (Q := fun v h' L => Q' v h' ∧ Fr n0 L) hM K.2.1 w6 w5 hfr hlo) qa qb qc (g := mkF m pc ls (argsL.reverse ++ .ref a :: rest)) rfl (hls.trans K.2.2.2.2.1.symm) (Steps.refl _) (argsL := argsL) (rest := rest) (lenOf hpd hlen) rfl (by show 2 * 0 + _ ≤ _; rw [hW]; omega) (hb K.2.2.2.1 hd) (fun _ _ => ⟨rfl, eT, hce, hsl⟩)
  obtain ⟨T', L', k', n'⟩ := B
  dsimp only [Pt.U, Pt.locs, Pt.cells, Pt.slots] at X l1 y1 z1 stp hQ
  subst l1 y1 z1
  obtain ⟨s₂, o, hs, z⟩ := r v _ hQ.1 T' _ X (Fr.app N hQ.2) rfl
  exact ⟨s₂, o, stp.trans hs, z⟩

end Layer
theorem own_nel {a b n : Nat} (h : a < n) (g : n ≤ b) : a ≠ b := Nat.ne_of_lt (Nat.lt_of_lt_of_le h g)
theorem own_ge {Z : State} {n0 : Nat} {h : Heap} (O : Old Z n0 h) : n0 ≤ h.size := O.1 ▸ O.2.1
theorem keep_ext {h h' : Heap} (E : Ext h h') : Keep h h' [] := (Keep.refl h []).ext E

theorem own_i0 : (0 : Int32).toInt = 0 := rfl
theorem own_i1 : (1 : Int32).toInt = 1 := rfl
theorem own_i2 : (2 : Int32).toInt = 2 := rfl
theorem own_i3 : (3 : Int32).toInt = 3 := rfl
theorem own_i4 : (4 : Int32).toInt = 4 := rfl
theorem own_i5 : (5 : Int32).toInt = 5 := rfl
theorem own_m4 {m : Int32} (h : 2 ≤ m.toInt ∧ m.toInt ≤ 5) : m = 2 ∨ m = 3 ∨ m = 4 ∨ m = 5 := by
  simp only [← Int32.toInt_inj, own_i2, own_i3, own_i4, own_i5]; omega
def own_mk (m mk : Int32) : Prop := (mk = 1 ∧ m = 2) ∨ (mk = 3 ∧ m = 4) ∨ (mk = -1 ∧ (m = 3 ∨ m = 5))
theorem dordi_0 : decode jdk_37_method_2_code 0 = .ok (.aload_n 0, 1) := by decide +kernel
theorem dordi_1 : decode jdk_37_method_2_code 1 = .ok (.getfield 7, 3) := by decide +kernel
theorem dordi_4 : decode jdk_37_method_2_code 4 = .ok (.ireturn, 1) := by decide +kernel
set_option maxRecDepth 65536 in
set_option maxHeartbeats 40000000 in
theorem ordi (l : Launch) (Z : State) (a0 : Array Value) (hw : ∀ d ∈ tables_1, d.before a0 Z = true) (lin : Addr) (h : Heap) (n0 : Nat) (p0_ : Old Z n0 h) (p1_ : Fld Z Z.heap lin "java/lang/Enum" "ordinal" "I" (.int (0 : Int32))) :
    Met l (⟨"java/lang/Enum", "ordinal", "()I"⟩ : MethodName) jdk_37_method_2_code 1 (some .int) [] ({ frames := 0, cells := 0, slots := 0, locals := 0 } : Room) #[(.ref lin)] Z h n0 (fun v h' => v = some (.int (0 : Int32)) ∧ h = h') := by
  refine Met.of (plainFor_of_name (by first | (simp [plainName, overriddenIn]; done) | decide +kernel)) ?_
  intro pP eE sS mM bB tT cC K
  refine Go.entry (ls := #[.val (.ref lin)]) (by first | (simp [argsToLocals, Value.category]; done) | rfl) ?_
  refine go_aloadN (q := 1) K dordi_0 rfl rfl rfl ?_
  refine go_getF (q := 4) K (wd hw 51 rfl) Via.refl (p1_.ext p0_.2) dordi_1 rfl ?_
  refine go_iret K dordi_4 rfl (Or.inl rfl) rfl (by decide) (by decide) ?_
  exact ⟨rfl, rfl⟩
theorem dfits_0 : decode prog_99_method_6_code 0 = .ok (.iload_n 1, 1) := by decide +kernel
theorem dfits_1 : decode prog_99_method_6_code 1 = .ok (.iconst 1, 1) := by decide +kernel
theorem dfits_2 : decode prog_99_method_6_code 2 = .ok (.if_icmp .lt 9, 3) := by decide +kernel
theorem dfits_5 : decode prog_99_method_6_code 5 = .ok (.iload_n 1, 1) := by decide +kernel
theorem dfits_6 : decode prog_99_method_6_code 6 = .ok (.ldc 48, 2) := by decide +kernel
theorem dfits_8 : decode prog_99_method_6_code 8 = .ok (.if_icmp .le 5, 3) := by decide +kernel
theorem dfits_11 : decode prog_99_method_6_code 11 = .ok (.iconst 0, 1) := by decide +kernel
theorem dfits_12 : decode prog_99_method_6_code 12 = .ok (.ireturn, 1) := by decide +kernel
theorem dfits_13 : decode prog_99_method_6_code 13 = .ok (.aload_n 0, 1) := by decide +kernel
theorem dfits_14 : decode prog_99_method_6_code 14 = .ok (.invokevirtual 49, 3) := by decide +kernel
theorem dfits_17 : decode prog_99_method_6_code 17 = .ok (.tableswitch 27 0 2 #[37, 37, 41], 27) := by decide +kernel
theorem dfits_44 : decode prog_99_method_6_code 44 = .ok (.new 53, 3) := by decide +kernel
theorem dfits_47 : decode prog_99_method_6_code 47 = .ok (.dup, 1) := by decide +kernel
theorem dfits_48 : decode prog_99_method_6_code 48 = .ok (.aconst_null, 1) := by decide +kernel
theorem dfits_49 : decode prog_99_method_6_code 49 = .ok (.aconst_null, 1) := by decide +kernel
theorem dfits_50 : decode prog_99_method_6_code 50 = .ok (.invokespecial 55, 3) := by decide +kernel
theorem dfits_53 : decode prog_99_method_6_code 53 = .ok (.athrow, 1) := by decide +kernel
theorem dfits_54 : decode prog_99_method_6_code 54 = .ok (.iconst 1, 1) := by decide +kernel
theorem dfits_55 : decode prog_99_method_6_code 55 = .ok (.goto 20, 3) := by decide +kernel
theorem dfits_58 : decode prog_99_method_6_code 58 = .ok (.iload_n 1, 1) := by decide +kernel
theorem dfits_59 : decode prog_99_method_6_code 59 = .ok (.iconst 3, 1) := by decide +kernel
theorem dfits_60 : decode prog_99_method_6_code 60 = .ok (.if_icmp .lt 14, 3) := by decide +kernel
theorem dfits_63 : decode prog_99_method_6_code 63 = .ok (.iload_n 1, 1) := by decide +kernel
theorem dfits_64 : decode prog_99_method_6_code 64 = .ok (.invokestatic 58, 3) := by decide +kernel
theorem dfits_67 : decode prog_99_method_6_code 67 = .ok (.ifCond .eq 7, 3) := by decide +kernel
theorem dfits_70 : decode prog_99_method_6_code 70 = .ok (.iconst 1, 1) := by decide +kernel
theorem dfits_71 : decode prog_99_method_6_code 71 = .ok (.goto 4, 3) := by decide +kernel
theorem dfits_74 : decode prog_99_method_6_code 74 = .ok (.iconst 0, 1) := by decide +kernel
theorem dfits_75 : decode prog_99_method_6_code 75 = .ok (.ireturn, 1) := by decide +kernel
theorem own_ge1 {m : Int32} (h : 2 ≤ m.toInt ∧ m.toInt ≤ 5) : ¬ m < (1 : Int32) := by rw [Int32.lt_iff_toInt_lt, own_i1]; omega
theorem own_le30 {m : Int32} (h : 2 ≤ m.toInt ∧ m.toInt ≤ 5) : ¬ (1073741824 : Int32) < m := by
  rw [Int32.lt_iff_toInt_lt]; have e : (1073741824 : Int32).toInt = 1073741824 := rfl
  omega
set_option maxRecDepth 65536 in
set_option maxHeartbeats 40000000 in
theorem fits (l : Launch) (Z : State) (a0 : Array Value) (hw : ∀ d ∈ tables_1, d.before a0 Z = true) (lin : Addr) (m : Int32) (h : Heap) (n0 : Nat) (p0_ : Old Z n0 h) (p1_ : Exa Z Z.heap lin "com/example/dispersa/dispersa/internal/ProbeSequence") (p2_ : Fld Z Z.heap lin "java/lang/Enum" "ordinal" "I" (.int (0 : Int32))) (hm : 2 ≤ m.toInt ∧ m.toInt ≤ 5) :
    Met l (⟨"com/example/dispersa/dispersa/internal/ProbeSequence", "fits", "(I)Z"⟩ : MethodName) prog_99_method_6_code 2 (some .boolean) [] ({ frames := 1, cells := 0, slots := 0, locals := 14 } : Room) #[(.ref lin), (.int m)] Z h n0 (fun v h' => v = some (.int (1 : Int32)) ∧ h = h') := by
  refine Met.of (plainFor_of_name (by first | (simp [plainName, overriddenIn]; done) | decide +kernel)) ?_
  intro pP eE sS mM bB tT cC K
  refine Go.entry (ls := #[.val (.ref lin), .val (.int m)]) (by first | (simp [argsToLocals, Value.category]; done) | rfl) ?_
  refine go_iloadN (q := 1) K dfits_0 rfl rfl ?_
  refine go_iconst (q := 2) K dfits_1 (1 : Int32) rfl rfl ?_
  refine go_icmp (q := 11) (q' := 5) K dfits_2 (by decide) rfl rfl (fun hn => cN_no hn (show ¬ m < (1 : Int32) from (own_ge1 hm))) (fun _ => ?_)
  refine go_iloadN (q := 6) K dfits_5 rfl rfl ?_
  refine go_ldcI (q := 8) K (wd hw 43 rfl) dfits_6 rfl ?_
  refine go_icmp (q := 13) (q' := 11) K dfits_8 (by decide) rfl rfl (fun _ => ?_) (fun hn => cN_no2 hn (show ¬ (1073741824 : Int32) < m from (own_le30 hm)))
  refine go_aloadN (q := 14) K dfits_13 rfl rfl rfl ?_
  refine go_callU (q := 17) (W := 0) (ow := "java/lang/Enum") K (wd hw 44 rfl) (wd hw 46 rfl) (wd hw 48 rfl) (wd hw 47 rfl) (wd hw 49 rfl) (wd hw 50 rfl) (wd hw 45 rfl) (p1_.ext p0_.2) [] [] (ordi l Z a0 hw _ _ n0 p0_ p2_) dfits_14 (ps := []) (by decide +kernel) rfl rfl rfl (by decide) rfl (by decide) (by decide) (by decide) (by decide) rfl ?_
  rintro _ _ ⟨rfl, rfl⟩
  show Go pP l eE _ sS mM _ bB tT cC n0 _ h 0 0 (mkF mM 17 #[.val (.ref lin), .val (.int m)] [(.int (0 : Int32))])
  refine go_tsw (q := 54) (o := 37) K dfits_17 (by decide) rfl (by decide) rfl ?_
  refine go_iconst (q := 55) K dfits_54 (1 : Int32) rfl rfl ?_
  refine go_goto (q := 75) K dfits_55 (by decide) rfl ?_
  refine go_iret K dfits_75 rfl (Or.inr (Or.inl rfl)) rfl (by decide) (by decide) ?_
  exact ⟨rfl, rfl⟩
def own_bc (m : Int32) : Int32 := ((((((((m - ((XT.ushr m (1 : Int32)) &&& (1431655765 : Int32))) &&& (858993459 : Int32)) + ((XT.ushr (m - ((XT.ushr m (1 : Int32)) &&& (1431655765 : Int32))) (2 : Int32)) &&& (858993459 : Int32))) + (XT.ushr (((m - ((XT.ushr m (1 : Int32)) &&& (1431655765 : Int32))) &&& (858993459 : Int32)) + ((XT.ushr (m - ((XT.ushr m (1 : Int32)) &&& (1431655765 : Int32))) (2 : Int32)) &&& (858993459 : Int32))) (4 : Int32))) &&& (252645135 : Int32)) + (XT.ushr (((((m - ((XT.ushr m (1 : Int32)) &&& (1431655765 : Int32))) &&& (858993459 : Int32)) + ((XT.ushr (m - ((XT.ushr m (1 : Int32)) &&& (1431655765 : Int32))) (2 : Int32)) &&& (858993459 : Int32))) + (XT.ushr (((m - ((XT.ushr m (1 : Int32)) &&& (1431655765 : Int32))) &&& (858993459 : Int32)) + ((XT.ushr (m - ((XT.ushr m (1 : Int32)) &&& (1431655765 : Int32))) (2 : Int32)) &&& (858993459 : Int32))) (4 : Int32))) &&& (252645135 : Int32)) (8 : Int32))) + (XT.ushr ((((((m - ((XT.ushr m (1 : Int32)) &&& (1431655765 : Int32))) &&& (858993459 : Int32)) + ((XT.ushr (m - ((XT.ushr m (1 : Int32)) &&& (1431655765 : Int32))) (2 : Int32)) &&& (858993459 : Int32))) + (XT.ushr (((m - ((XT.ushr m (1 : Int32)) &&& (1431655765 : Int32))) &&& (858993459 : Int32)) + ((XT.ushr (m - ((XT.ushr m (1 : Int32)) &&& (1431655765 : Int32))) (2 : Int32)) &&& (858993459 : Int32))) (4 : Int32))) &&& (252645135 : Int32)) + (XT.ushr (((((m - ((XT.ushr m (1 : Int32)) &&& (1431655765 : Int32))) &&& (858993459 : Int32)) + ((XT.ushr (m - ((XT.ushr m (1 : Int32)) &&& (1431655765 : Int32))) (2 : Int32)) &&& (858993459 : Int32))) + (XT.ushr (((m - ((XT.ushr m (1 : Int32)) &&& (1431655765 : Int32))) &&& (858993459 : Int32)) + ((XT.ushr (m - ((XT.ushr m (1 : Int32)) &&& (1431655765 : Int32))) (2 : Int32)) &&& (858993459 : Int32))) (4 : Int32))) &&& (252645135 : Int32)) (8 : Int32))) (16 : Int32))) &&& (63 : Int32))
theorem dbitc_0 : decode jdk_33_method_49_code 0 = .ok (.iload_n 0, 1) := by decide +kernel
theorem dbitc_1 : decode jdk_33_method_49_code 1 = .ok (.iload_n 0, 1) := by decide +kernel
theorem dbitc_2 : decode jdk_33_method_49_code 2 = .ok (.iconst 1, 1) := by decide +kernel
theorem dbitc_3 : decode jdk_33_method_49_code 3 = .ok (.iushr, 1) := by decide +kernel
theorem dbitc_4 : decode jdk_33_method_49_code 4 = .ok (.ldc_w 265, 3) := by decide +kernel
theorem dbitc_7 : decode jdk_33_method_49_code 7 = .ok (.iand, 1) := by decide +kernel
theorem dbitc_8 : decode jdk_33_method_49_code 8 = .ok (.isub, 1) := by decide +kernel
theorem dbitc_9 : decode jdk_33_method_49_code 9 = .ok (.istore_n 0, 1) := by decide +kernel
theorem dbitc_10 : decode jdk_33_method_49_code 10 = .ok (.iload_n 0, 1) := by decide +kernel
theorem dbitc_11 : decode jdk_33_method_49_code 11 = .ok (.ldc_w 266, 3) := by decide +kernel
theorem dbitc_14 : decode jdk_33_method_49_code 14 = .ok (.iand, 1) := by decide +kernel
theorem dbitc_15 : decode jdk_33_method_49_code 15 = .ok (.iload_n 0, 1) := by decide +kernel
theorem dbitc_16 : decode jdk_33_method_49_code 16 = .ok (.iconst 2, 1) := by decide +kernel
theorem dbitc_17 : decode jdk_33_method_49_code 17 = .ok (.iushr, 1) := by decide +kernel
theorem dbitc_18 : decode jdk_33_method_49_code 18 = .ok (.ldc_w 266, 3) := by decide +kernel
theorem dbitc_21 : decode jdk_33_method_49_code 21 = .ok (.iand, 1) := by decide +kernel
theorem dbitc_22 : decode jdk_33_method_49_code 22 = .ok (.iadd, 1) := by decide +kernel
theorem dbitc_23 : decode jdk_33_method_49_code 23 = .ok (.istore_n 0, 1) := by decide +kernel
theorem dbitc_24 : decode jdk_33_method_49_code 24 = .ok (.iload_n 0, 1) := by decide +kernel
theorem dbitc_25 : decode jdk_33_method_49_code 25 = .ok (.iload_n 0, 1) := by decide +kernel
theorem dbitc_26 : decode jdk_33_method_49_code 26 = .ok (.iconst 4, 1) := by decide +kernel
theorem dbitc_27 : decode jdk_33_method_49_code 27 = .ok (.iushr, 1) := by decide +kernel
theorem dbitc_28 : decode jdk_33_method_49_code 28 = .ok (.iadd, 1) := by decide +kernel
theorem dbitc_29 : decode jdk_33_method_49_code 29 = .ok (.ldc_w 267, 3) := by decide +kernel
theorem dbitc_32 : decode jdk_33_method_49_code 32 = .ok (.iand, 1) := by decide +kernel
theorem dbitc_33 : decode jdk_33_method_49_code 33 = .ok (.istore_n 0, 1) := by decide +kernel
theorem dbitc_34 : decode jdk_33_method_49_code 34 = .ok (.iload_n 0, 1) := by decide +kernel
theorem dbitc_35 : decode jdk_33_method_49_code 35 = .ok (.iload_n 0, 1) := by decide +kernel
theorem dbitc_36 : decode jdk_33_method_49_code 36 = .ok (.bipush 8, 2) := by decide +kernel
theorem dbitc_38 : decode jdk_33_method_49_code 38 = .ok (.iushr, 1) := by decide +kernel
theorem dbitc_39 : decode jdk_33_method_49_code 39 = .ok (.iadd, 1) := by decide +kernel
theorem dbitc_40 : decode jdk_33_method_49_code 40 = .ok (.istore_n 0, 1) := by decide +kernel
theorem dbitc_41 : decode jdk_33_method_49_code 41 = .ok (.iload_n 0, 1) := by decide +kernel
theorem dbitc_42 : decode jdk_33_method_49_code 42 = .ok (.iload_n 0, 1) := by decide +kernel
theorem dbitc_43 : decode jdk_33_method_49_code 43 = .ok (.bipush 16, 2) := by decide +kernel
theorem dbitc_45 : decode jdk_33_method_49_code 45 = .ok (.iushr, 1) := by decide +kernel
theorem dbitc_46 : decode jdk_33_method_49_code 46 = .ok (.iadd, 1) := by decide +kernel
theorem dbitc_47 : decode jdk_33_method_49_code 47 = .ok (.istore_n 0, 1) := by decide +kernel
theorem dbitc_48 : decode jdk_33_method_49_code 48 = .ok (.iload_n 0, 1) := by decide +kernel
theorem dbitc_49 : decode jdk_33_method_49_code 49 = .ok (.bipush 63, 2) := by decide +kernel
theorem dbitc_51 : decode jdk_33_method_49_code 51 = .ok (.iand, 1) := by decide +kernel
theorem dbitc_52 : decode jdk_33_method_49_code 52 = .ok (.ireturn, 1) := by decide +kernel
set_option maxRecDepth 65536 in
set_option maxHeartbeats 40000000 in
theorem bitc (l : Launch) (Z : State) (a0 : Array Value) (hw : ∀ d ∈ tables_1, d.before a0 Z = true) (m : Int32) (h : Heap) (n0 : Nat)  :
    Met l (⟨"java/lang/Integer", "bitCount", "(I)I"⟩ : MethodName) jdk_33_method_49_code 1 (some .int) [] ({ frames := 0, cells := 0, slots := 0, locals := 0 } : Room) #[(.int m)] Z h n0 (fun v h' => v = some (.int (own_bc m)) ∧ h = h') := by
  refine Met.of (plainFor_of_name (by first | (simp [plainName, overriddenIn]; done) | decide +kernel)) ?_
  intro pP eE sS mM bB tT cC K
  refine Go.entry (ls := #[.val (.int m)]) (by first | (simp [argsToLocals, Value.category]; done) | rfl) ?_
  refine go_iloadN (q := 1) K dbitc_0 rfl rfl ?_
  refine go_iloadN (q := 2) K dbitc_1 rfl rfl ?_
  refine go_iconst (q := 3) K dbitc_2 (1 : Int32) rfl rfl ?_
  refine go_iushr (q := 4) K dbitc_3 rfl ?_
  refine go_ldcWI (q := 7) K (wd hw 59 rfl) dbitc_4 rfl ?_
  refine go_iand (q := 8) K dbitc_7 rfl ?_
  refine go_isub (q := 9) K dbitc_8 rfl ?_
  refine go_istoreN (q := 10) K dbitc_9 #[.val (.int (m - ((XT.ushr m (1 : Int32)) &&& (1431655765 : Int32))))] rfl rfl ?_
  refine go_iloadN (q := 11) K dbitc_10 rfl rfl ?_
  refine go_ldcWI (q := 14) K (wd hw 60 rfl) dbitc_11 rfl ?_
  refine go_iand (q := 15) K dbitc_14 rfl ?_
  refine go_iloadN (q := 16) K dbitc_15 rfl rfl ?_
  refine go_iconst (q := 17) K dbitc_16 (2 : Int32) rfl rfl ?_
  refine go_iushr (q := 18) K dbitc_17 rfl ?_
  refine go_ldcWI (q := 21) K (wd hw 60 rfl) dbitc_18 rfl ?_
  refine go_iand (q := 22) K dbitc_21 rfl ?_
  refine go_iadd (q := 23) K dbitc_22 rfl ?_
  refine go_istoreN (q := 24) K dbitc_23 #[.val (.int (((m - ((XT.ushr m (1 : Int32)) &&& (1431655765 : Int32))) &&& (858993459 : Int32)) + ((XT.ushr (m - ((XT.ushr m (1 : Int32)) &&& (1431655765 : Int32))) (2 : Int32)) &&& (858993459 : Int32))))] rfl rfl ?_
  refine go_iloadN (q := 25) K dbitc_24 rfl rfl ?_
  refine go_iloadN (q := 26) K dbitc_25 rfl rfl ?_
  refine go_iconst (q := 27) K dbitc_26 (4 : Int32) rfl rfl ?_
  refine go_iushr (q := 28) K dbitc_27 rfl ?_
  refine go_iadd (q := 29) K dbitc_28 rfl ?_
  refine go_ldcWI (q := 32) K (wd hw 61 rfl) dbitc_29 rfl ?_
  refine go_iand (q := 33) K dbitc_32 rfl ?_
  refine go_istoreN (q := 34) K dbitc_33 #[.val (.int (((((m - ((XT.ushr m (1 : Int32)) &&& (1431655765 : Int32))) &&& (858993459 : Int32)) + ((XT.ushr (m - ((XT.ushr m (1 : Int32)) &&& (1431655765 : Int32))) (2 : Int32)) &&& (858993459 : Int32))) + (XT.ushr (((m - ((XT.ushr m (1 : Int32)) &&& (1431655765 : Int32))) &&& (858993459 : Int32)) + ((XT.ushr (m - ((XT.ushr m (1 : Int32)) &&& (1431655765 : Int32))) (2 : Int32)) &&& (858993459 : Int32))) (4 : Int32))) &&& (252645135 : Int32)))] rfl rfl ?_
  refine go_iloadN (q := 35) K dbitc_34 rfl rfl ?_
  refine go_iloadN (q := 36) K dbitc_35 rfl rfl ?_
  refine go_bipush (q := 38) K dbitc_36 (8 : Int32) rfl rfl ?_
  refine go_iushr (q := 39) K dbitc_38 rfl ?_
  refine go_iadd (q := 40) K dbitc_39 rfl ?_
  refine go_istoreN (q := 41) K dbitc_40 #[.val (.int ((((((m - ((XT.ushr m (1 : Int32)) &&& (1431655765 : Int32))) &&& (858993459 : Int32)) + ((XT.ushr (m - ((XT.ushr m (1 : Int32)) &&& (1431655765 : Int32))) (2 : Int32)) &&& (858993459 : Int32))) + (XT.ushr (((m - ((XT.ushr m (1 : Int32)) &&& (1431655765 : Int32))) &&& (858993459 : Int32)) + ((XT.ushr (m - ((XT.ushr m (1 : Int32)) &&& (1431655765 : Int32))) (2 : Int32)) &&& (858993459 : Int32))) (4 : Int32))) &&& (252645135 : Int32)) + (XT.ushr (((((m - ((XT.ushr m (1 : Int32)) &&& (1431655765 : Int32))) &&& (858993459 : Int32)) + ((XT.ushr (m - ((XT.ushr m (1 : Int32)) &&& (1431655765 : Int32))) (2 : Int32)) &&& (858993459 : Int32))) + (XT.ushr (((m - ((XT.ushr m (1 : Int32)) &&& (1431655765 : Int32))) &&& (858993459 : Int32)) + ((XT.ushr (m - ((XT.ushr m (1 : Int32)) &&& (1431655765 : Int32))) (2 : Int32)) &&& (858993459 : Int32))) (4 : Int32))) &&& (252645135 : Int32)) (8 : Int32))))] rfl rfl ?_
  refine go_iloadN (q := 42) K dbitc_41 rfl rfl ?_
  refine go_iloadN (q := 43) K dbitc_42 rfl rfl ?_
  refine go_bipush (q := 45) K dbitc_43 (16 : Int32) rfl rfl ?_
  refine go_iushr (q := 46) K dbitc_45 rfl ?_
  refine go_iadd (q := 47) K dbitc_46 rfl ?_
  refine go_istoreN (q := 48) K dbitc_47 #[.val (.int (((((((m - ((XT.ushr m (1 : Int32)) &&& (1431655765 : Int32))) &&& (858993459 : Int32)) + ((XT.ushr (m - ((XT.ushr m (1 : Int32)) &&& (1431655765 : Int32))) (2 : Int32)) &&& (858993459 : Int32))) + (XT.ushr (((m - ((XT.ushr m (1 : Int32)) &&& (1431655765 : Int32))) &&& (858993459 : Int32)) + ((XT.ushr (m - ((XT.ushr m (1 : Int32)) &&& (1431655765 : Int32))) (2 : Int32)) &&& (858993459 : Int32))) (4 : Int32))) &&& (252645135 : Int32)) + (XT.ushr (((((m - ((XT.ushr m (1 : Int32)) &&& (1431655765 : Int32))) &&& (858993459 : Int32)) + ((XT.ushr (m - ((XT.ushr m (1 : Int32)) &&& (1431655765 : Int32))) (2 : Int32)) &&& (858993459 : Int32))) + (XT.ushr (((m - ((XT.ushr m (1 : Int32)) &&& (1431655765 : Int32))) &&& (858993459 : Int32)) + ((XT.ushr (m - ((XT.ushr m (1 : Int32)) &&& (1431655765 : Int32))) (2 : Int32)) &&& (858993459 : Int32))) (4 : Int32))) &&& (252645135 : Int32)) (8 : Int32))) + (XT.ushr ((((((m - ((XT.ushr m (1 : Int32)) &&& (1431655765 : Int32))) &&& (858993459 : Int32)) + ((XT.ushr (m - ((XT.ushr m (1 : Int32)) &&& (1431655765 : Int32))) (2 : Int32)) &&& (858993459 : Int32))) + (XT.ushr (((m - ((XT.ushr m (1 : Int32)) &&& (1431655765 : Int32))) &&& (858993459 : Int32)) + ((XT.ushr (m - ((XT.ushr m (1 : Int32)) &&& (1431655765 : Int32))) (2 : Int32)) &&& (858993459 : Int32))) (4 : Int32))) &&& (252645135 : Int32)) + (XT.ushr (((((m - ((XT.ushr m (1 : Int32)) &&& (1431655765 : Int32))) &&& (858993459 : Int32)) + ((XT.ushr (m - ((XT.ushr m (1 : Int32)) &&& (1431655765 : Int32))) (2 : Int32)) &&& (858993459 : Int32))) + (XT.ushr (((m - ((XT.ushr m (1 : Int32)) &&& (1431655765 : Int32))) &&& (858993459 : Int32)) + ((XT.ushr (m - ((XT.ushr m (1 : Int32)) &&& (1431655765 : Int32))) (2 : Int32)) &&& (858993459 : Int32))) (4 : Int32))) &&& (252645135 : Int32)) (8 : Int32))) (16 : Int32))))] rfl rfl ?_
  refine go_iloadN (q := 49) K dbitc_48 rfl rfl ?_
  refine go_bipush (q := 51) K dbitc_49 (63 : Int32) rfl rfl ?_
  refine go_iand (q := 52) K dbitc_51 rfl ?_
  refine go_iret K dbitc_52 rfl (Or.inl rfl) rfl (by decide) (by decide) ?_
  exact ⟨rfl, rfl⟩
theorem dgoesOn_0 : decode prog_109_method_16_code 0 = .ok (.aload_n 0, 1) := by decide +kernel
theorem dgoesOn_1 : decode prog_109_method_16_code 1 = .ok (.getfield 21, 3) := by decide +kernel
theorem dgoesOn_4 : decode prog_109_method_16_code 4 = .ok (.getstatic 77, 3) := by decide +kernel
theorem dgoesOn_7 : decode prog_109_method_16_code 7 = .ok (.if_acmp .ne 35, 3) := by decide +kernel
theorem dgoesOn_10 : decode prog_109_method_16_code 10 = .ok (.aload_n 0, 1) := by decide +kernel
theorem dgoesOn_11 : decode prog_109_method_16_code 11 = .ok (.getfield 25, 3) := by decide +kernel
theorem dgoesOn_14 : decode prog_109_method_16_code 14 = .ok (.ifCond .eq 28, 3) := by decide +kernel
theorem dgoesOn_17 : decode prog_109_method_16_code 17 = .ok (.aload_n 0, 1) := by decide +kernel
theorem dgoesOn_18 : decode prog_109_method_16_code 18 = .ok (.getfield 35, 3) := by decide +kernel
theorem dgoesOn_21 : decode prog_109_method_16_code 21 = .ok (.ifCond .ne 21, 3) := by decide +kernel
theorem dgoesOn_24 : decode prog_109_method_16_code 24 = .ok (.aload_n 0, 1) := by decide +kernel
theorem dgoesOn_25 : decode prog_109_method_16_code 25 = .ok (.getfield 38, 3) := by decide +kernel
theorem dgoesOn_28 : decode prog_109_method_16_code 28 = .ok (.ifCond .ne 14, 3) := by decide +kernel
theorem dgoesOn_31 : decode prog_109_method_16_code 31 = .ok (.aload_n 0, 1) := by decide +kernel
theorem dgoesOn_32 : decode prog_109_method_16_code 32 = .ok (.getfield 32, 3) := by decide +kernel
theorem dgoesOn_35 : decode prog_109_method_16_code 35 = .ok (.ifCond .eq 7, 3) := by decide +kernel
theorem dgoesOn_38 : decode prog_109_method_16_code 38 = .ok (.iconst 1, 1) := by decide +kernel
theorem dgoesOn_39 : decode prog_109_method_16_code 39 = .ok (.goto 4, 3) := by decide +kernel
theorem dgoesOn_42 : decode prog_109_method_16_code 42 = .ok (.iconst 0, 1) := by decide +kernel
theorem dgoesOn_43 : decode prog_109_method_16_code 43 = .ok (.ireturn, 1) := by decide +kernel
set_option maxRecDepth 65536 in
set_option maxHeartbeats 40000000 in
theorem goesOn (l : Launch) (Z : State) (a0 : Array Value) (hw : ∀ d ∈ tables_1, d.before a0 Z = true) (t : Addr) (lin : Addr) (h : Heap) (n0 : Nat) (p0_ : Fld Z h t "com/example/dispersa/dispersa/internal/SlotTable" "probing" "Lcom/example/dispersa/dispersa/internal/ProbeSequence;" (.ref lin)) (p1_ : Fld Z h t "com/example/dispersa/dispersa/internal/SlotTable" "bounded" "Z" (.int (0 : Int32))) (p2_ : Old Z n0 h) (p3_ : Sta Z Z.heap "com/example/dispersa/dispersa/internal/ProbeSequence" "LINEAR" "Lcom/example/dispersa/dispersa/internal/ProbeSequence;" (.ref lin)) :
    Met l (⟨"com/example/dispersa/dispersa/internal/SlotTable", "computeGoesOn", "()Z"⟩ : MethodName) prog_109_method_16_code 1 (some .boolean) [] ({ frames := 0, cells := 0, slots := 0, locals := 0 } : Room) #[(.ref t)] Z h n0 (fun v h' => v = some (.int (0 : Int32)) ∧ h = h') := by
  refine Met.of (plainFor_of_name (by first | (simp [plainName, overriddenIn]; done) | decide +kernel)) ?_
  intro pP eE sS mM bB tT cC K
  refine Go.entry (ls := #[.val (.ref t)]) (by first | (simp [argsToLocals, Value.category]; done) | rfl) ?_
  refine go_aloadN (q := 1) K dgoesOn_0 rfl rfl rfl ?_
  refine go_getF (q := 4) K (wd hw 21 rfl) Via.refl p0_ dgoesOn_1 rfl ?_
  refine go_getS (q := 7) K (wd hw 64 rfl) Via.refl (p3_.ext p2_.2) dgoesOn_4 rfl ?_
  refine go_acmp (q := 42) (q' := 10) K dgoesOn_7 rfl rfl (by decide) rfl rfl (fun hn => cAN_no hn (show ((.ref lin) : Value) = (.ref lin) from rfl)) (fun _ => ?_)
  refine go_aloadN (q := 11) K dgoesOn_10 rfl rfl rfl ?_
  refine go_getF (q := 14) K (wd hw 23 rfl) Via.refl p1_ dgoesOn_11 rfl ?_
  refine go_if0 (q := 42) (q' := 17) K dgoesOn_14 (by decide) rfl rfl (fun _ => ?_) (fun hn => cN_no2 hn (show (0 : Int32) = (0 : Int32) from (by decide)))
  refine go_iconst (q := 43) K dgoesOn_42 (0 : Int32) rfl rfl ?_
  refine go_iret K dgoesOn_43 rfl (Or.inr (Or.inl rfl)) rfl (by decide) (by decide) ?_
  exact ⟨rfl, rfl⟩
theorem own_bc1 {m : Int32} (hm : 2 ≤ m.toInt ∧ m.toInt ≤ 5) (h : own_bc m = 1) : own_mk m (m - 1) := by
  rcases own_m4 hm with rfl | rfl | rfl | rfl
  · exact Or.inl ⟨by decide, rfl⟩
  · exact absurd h (by decide)
  · exact Or.inr (Or.inl ⟨by decide, rfl⟩)
  · exact absurd h (by decide)
theorem own_bc0 {m : Int32} (hm : 2 ≤ m.toInt ∧ m.toInt ≤ 5) (h : ¬ own_bc m = 1) : own_mk m (-1) := by
  rcases own_m4 hm with rfl | rfl | rfl | rfl
  · exact absurd (by decide) h
  · exact Or.inr (Or.inr ⟨rfl, Or.inl rfl⟩)
  · exact absurd (by decide) h
  · exact Or.inr (Or.inr ⟨rfl, Or.inr rfl⟩)
theorem own_nneg {m : Int32} (hm : 2 ≤ m.toInt ∧ m.toInt ≤ 5) : ¬ (m - 1) < (0 : Int32) := by
  rcases own_m4 hm with rfl | rfl | rfl | rfl <;> decide
theorem dreset_0 : decode prog_109_method_66_code 0 = .ok (.aload_n 0, 1) := by decide +kernel
theorem dreset_1 : decode prog_109_method_66_code 1 = .ok (.getfield 21, 3) := by decide +kernel
theorem dreset_4 : decode prog_109_method_66_code 4 = .ok (.iload_n 1, 1) := by decide +kernel
theorem dreset_5 : decode prog_109_method_66_code 5 = .ok (.invokevirtual 235, 3) := by decide +kernel
theorem dreset_8 : decode prog_109_method_66_code 8 = .ok (.ifCond .ne 24, 3) := by decide +kernel
theorem dreset_11 : decode prog_109_method_66_code 11 = .ok (.new 14, 3) := by decide +kernel
theorem dreset_14 : decode prog_109_method_66_code 14 = .ok (.dup, 1) := by decide +kernel
theorem dreset_15 : decode prog_109_method_66_code 15 = .ok (.aload_n 0, 1) := by decide +kernel
theorem dreset_16 : decode prog_109_method_66_code 16 = .ok (.getfield 21, 3) := by decide +kernel
theorem dreset_19 : decode prog_109_method_66_code 19 = .ok (.invokestatic 238, 3) := by decide +kernel
theorem dreset_22 : decode prog_109_method_66_code 22 = .ok (.iload_n 1, 1) := by decide +kernel
theorem dreset_23 : decode prog_109_method_66_code 23 = .ok (.invokedynamic 244, 5) := by decide +kernel
theorem dreset_28 : decode prog_109_method_66_code 28 = .ok (.invokespecial 18, 3) := by decide +kernel
theorem dreset_31 : decode prog_109_method_66_code 31 = .ok (.athrow, 1) := by decide +kernel
theorem dreset_32 : decode prog_109_method_66_code 32 = .ok (.aload_n 0, 1) := by decide +kernel
theorem dreset_33 : decode prog_109_method_66_code 33 = .ok (.iload_n 1, 1) := by decide +kernel
theorem dreset_34 : decode prog_109_method_66_code 34 = .ok (.putfield 45, 3) := by decide +kernel
theorem dreset_37 : decode prog_109_method_66_code 37 = .ok (.aload_n 0, 1) := by decide +kernel
theorem dreset_38 : decode prog_109_method_66_code 38 = .ok (.iload_n 1, 1) := by decide +kernel
theorem dreset_39 : decode prog_109_method_66_code 39 = .ok (.invokestatic 248, 3) := by decide +kernel
theorem dreset_42 : decode prog_109_method_66_code 42 = .ok (.iconst 1, 1) := by decide +kernel
theorem dreset_43 : decode prog_109_method_66_code 43 = .ok (.if_icmp .ne 9, 3) := by decide +kernel
theorem dreset_46 : decode prog_109_method_66_code 46 = .ok (.iload_n 1, 1) := by decide +kernel
theorem dreset_47 : decode prog_109_method_66_code 47 = .ok (.iconst 1, 1) := by decide +kernel
theorem dreset_48 : decode prog_109_method_66_code 48 = .ok (.isub, 1) := by decide +kernel
theorem dreset_49 : decode prog_109_method_66_code 49 = .ok (.goto 4, 3) := by decide +kernel
theorem dreset_52 : decode prog_109_method_66_code 52 = .ok (.iconst (-1), 1) := by decide +kernel
theorem dreset_53 : decode prog_109_method_66_code 53 = .ok (.putfield 151, 3) := by decide +kernel
theorem dreset_56 : decode prog_109_method_66_code 56 = .ok (.aload_n 0, 1) := by decide +kernel
theorem dreset_57 : decode prog_109_method_66_code 57 = .ok (.aload_n 0, 1) := by decide +kernel
theorem dreset_58 : decode prog_109_method_66_code 58 = .ok (.getfield 21, 3) := by decide +kernel
theorem dreset_61 : decode prog_109_method_66_code 61 = .ok (.getstatic 77, 3) := by decide +kernel
theorem dreset_64 : decode prog_109_method_66_code 64 = .ok (.if_acmp .ne 28, 3) := by decide +kernel
theorem dreset_67 : decode prog_109_method_66_code 67 = .ok (.aload_n 0, 1) := by decide +kernel
theorem dreset_68 : decode prog_109_method_66_code 68 = .ok (.getfield 151, 3) := by decide +kernel
theorem dreset_71 : decode prog_109_method_66_code 71 = .ok (.ifCond .lt 21, 3) := by decide +kernel
theorem dreset_74 : decode prog_109_method_66_code 74 = .ok (.aload_n 0, 1) := by decide +kernel
theorem dreset_75 : decode prog_109_method_66_code 75 = .ok (.getfield 25, 3) := by decide +kernel
theorem dreset_78 : decode prog_109_method_66_code 78 = .ok (.ifCond .eq 14, 3) := by decide +kernel
theorem dreset_81 : decode prog_109_method_66_code 81 = .ok (.aload_n 0, 1) := by decide +kernel
theorem dreset_82 : decode prog_109_method_66_code 82 = .ok (.getfield 35, 3) := by decide +kernel
theorem dreset_85 : decode prog_109_method_66_code 85 = .ok (.ifCond .ne 7, 3) := by decide +kernel
theorem dreset_88 : decode prog_109_method_66_code 88 = .ok (.iconst 1, 1) := by decide +kernel
theorem dreset_89 : decode prog_109_method_66_code 89 = .ok (.goto 4, 3) := by decide +kernel
theorem dreset_92 : decode prog_109_method_66_code 92 = .ok (.iconst 0, 1) := by decide +kernel
theorem dreset_93 : decode prog_109_method_66_code 93 = .ok (.putfield 64, 3) := by decide +kernel
theorem dreset_96 : decode prog_109_method_66_code 96 = .ok (.aload_n 0, 1) := by decide +kernel
theorem dreset_97 : decode prog_109_method_66_code 97 = .ok (.aload_n 0, 1) := by decide +kernel
theorem dreset_98 : decode prog_109_method_66_code 98 = .ok (.invokevirtual 82, 3) := by decide +kernel
theorem dreset_101 : decode prog_109_method_66_code 101 = .ok (.putfield 56, 3) := by decide +kernel
theorem dreset_104 : decode prog_109_method_66_code 104 = .ok (.aload_n 0, 1) := by decide +kernel
theorem dreset_105 : decode prog_109_method_66_code 105 = .ok (.iconst 0, 1) := by decide +kernel
theorem dreset_106 : decode prog_109_method_66_code 106 = .ok (.putfield 49, 3) := by decide +kernel
theorem dreset_109 : decode prog_109_method_66_code 109 = .ok (.aload_n 0, 1) := by decide +kernel
theorem dreset_110 : decode prog_109_method_66_code 110 = .ok (.iconst 0, 1) := by decide +kernel
theorem dreset_111 : decode prog_109_method_66_code 111 = .ok (.putfield 70, 3) := by decide +kernel
theorem dreset_114 : decode prog_109_method_66_code 114 = .ok (.return_, 1) := by decide +kernel
set_option maxRecDepth 65536 in
set_option maxHeartbeats 40000000 in
theorem reset (l : Launch) (Z : State) (a0 : Array Value) (hw : ∀ d ∈ tables_1, d.before a0 Z = true) (t : Addr) (lin : Addr) (m : Int32) (h : Heap) (n0 : Nat) (p0_ : Old Z n0 h) (p1_ : Sta Z Z.heap "com/example/dispersa/dispersa/internal/ProbeSequence" "LINEAR" "Lcom/example/dispersa/dispersa/internal/ProbeSequence;" (.ref lin)) (p2_ : Exa Z Z.heap lin "com/example/dispersa/dispersa/internal/ProbeSequence") (p3_ : Fld Z Z.heap lin "java/lang/Enum" "ordinal" "I" (.int (0 : Int32))) (p4_ : Fld Z Z.heap lin "com/example/dispersa/dispersa/internal/ProbeSequence" "hashedStep" "Z" (.int (0 : Int32))) (p5_ : Fld Z Z.heap lin "com/example/dispersa/dispersa/internal/ProbeSequence" "growth" "I" (.int (0 : Int32))) (p6_ : Exa Z h t "com/example/dispersa/dispersa/internal/LayoutTable") (p7_ : n0 ≤ t) (hm : 2 ≤ m.toInt ∧ m.toInt ≤ 5) (p9_ : Fld Z h t "com/example/dispersa/dispersa/internal/SlotTable" "probing" "Lcom/example/dispersa/dispersa/internal/ProbeSequence;" (.ref lin)) (p10_ : Fld Z h t "com/example/dispersa/dispersa/internal/SlotTable" "bounded" "Z" (.int (0 : Int32))) (p11_ : Fld Z h t "com/example/dispersa/dispersa/internal/SlotTable" "marksHomes" "Z" (.int (0 : Int32))) (p12_ : Fld Z h t "com/example/dispersa/dispersa/internal/SlotTable" "ordersRuns" "Z" (.int (0 : Int32))) (p13_ : Fld Z h t "com/example/dispersa/dispersa/internal/SlotTable" "counting" "Z" (.int (1 : Int32))) (p14_ : Fld Z h t "com/example/dispersa/dispersa/internal/SlotTable" "stopsAtReach" "Z" (.int (0 : Int32))) (p15_ : Fld Z h t "com/example/dispersa/dispersa/internal/SlotTable" "length" "I" (.int (0 : Int32))) (p16_ : Fld Z h t "com/example/dispersa/dispersa/internal/SlotTable" "mask" "I" (.int (0 : Int32))) (p17_ : Fld Z h t "com/example/dispersa/dispersa/internal/SlotTable" "linear" "Z" (.int (0 : Int32))) (p18_ : Fld Z h t "com/example/dispersa/dispersa/internal/SlotTable" "goesOn" "Z" (.int (0 : Int32))) (p19_ : Fld Z h t "com/example/dispersa/dispersa/internal/SlotTable" "markers" "I" (.int (0 : Int32))) (p20_ : Fld Z h t "com/example/dispersa/dispersa/internal/SlotTable" "reach" "I" (.int (0 : Int32))) (p21_ : Fld Z h t "com/example/dispersa/dispersa/internal/SlotTable" "probes" "J" (.long (0 : Int64))) (p22_ : Fld Z h t "com/example/dispersa/dispersa/internal/SlotTable" "position" "I" (.int (0 : Int32))) (p23_ : Fld Z h t "com/example/dispersa/dispersa/internal/LayoutTable" "keys" "[I" .null) (p24_ : Fld Z h t "com/example/dispersa/dispersa/internal/LayoutTable" "turnedAway" "Z" (.int (0 : Int32))) :
    Met l (⟨"com/example/dispersa/dispersa/internal/SlotTable", "reset", "(I)V"⟩ : MethodName) prog_109_method_66_code 2 none [] ({ frames := 2, cells := 0, slots := 0, locals := 40 } : Room) #[(.ref t), (.int m)] Z h n0 (fun v h' => ∃ (mk : Int32), v = none ∧ Keep h h' [t] ∧ Exa Z h' t "com/example/dispersa/dispersa/internal/LayoutTable" ∧ Fld Z h' t "com/example/dispersa/dispersa/internal/SlotTable" "probing" "Lcom/example/dispersa/dispersa/internal/ProbeSequence;" (.ref lin) ∧ Fld Z h' t "com/example/dispersa/dispersa/internal/SlotTable" "bounded" "Z" (.int (0 : Int32)) ∧ Fld Z h' t "com/example/dispersa/dispersa/internal/SlotTable" "marksHomes" "Z" (.int (0 : Int32)) ∧ Fld Z h' t "com/example/dispersa/dispersa/internal/SlotTable" "ordersRuns" "Z" (.int (0 : Int32)) ∧ Fld Z h' t "com/example/dispersa/dispersa/internal/SlotTable" "counting" "Z" (.int (1 : Int32)) ∧ Fld Z h' t "com/example/dispersa/dispersa/internal/SlotTable" "stopsAtReach" "Z" (.int (0 : Int32)) ∧ Fld Z h' t "com/example/dispersa/dispersa/internal/SlotTable" "length" "I" (.int m) ∧ Fld Z h' t "com/example/dispersa/dispersa/internal/SlotTable" "mask" "I" (.int mk) ∧ Fld Z h' t "com/example/dispersa/dispersa/internal/SlotTable" "linear" "Z" (.int (0 : Int32)) ∧ Fld Z h' t "com/example/dispersa/dispersa/internal/SlotTable" "goesOn" "Z" (.int (0 : Int32)) ∧ Fld Z h' t "com/example/dispersa/dispersa/internal/SlotTable" "markers" "I" (.int (0 : Int32)) ∧ Fld Z h' t "com/example/dispersa/dispersa/internal/SlotTable" "reach" "I" (.int (0 : Int32)) ∧ Fld Z h' t "com/example/dispersa/dispersa/internal/SlotTable" "probes" "J" (.long (0 : Int64)) ∧ Fld Z h' t "com/example/dispersa/dispersa/internal/SlotTable" "position" "I" (.int (0 : Int32)) ∧ Fld Z h' t "com/example/dispersa/dispersa/internal/LayoutTable" "keys" "[I" .null ∧ Fld Z h' t "com/example/dispersa/dispersa/internal/LayoutTable" "turnedAway" "Z" (.int (0 : Int32)) ∧ own_mk m mk) := by
  refine Met.of (plainFor_of_name (by first | (simp [plainName, overriddenIn]; done) | decide +kernel)) ?_
  intro pP eE sS mM bB tT cC K
  refine Go.entry (ls := #[.val (.ref t), .val (.int m)]) (by first | (simp [argsToLocals, Value.category]; done) | rfl) ?_
  refine go_aloadN (q := 1) K dreset_0 rfl rfl rfl ?_
  refine go_getF (q := 4) K (wd hw 21 rfl) Via.refl p9_ dreset_1 rfl ?_
  refine go_iloadN (q := 5) K dreset_4 rfl rfl ?_
  refine go_callV (q := 8) (W := 0) K (wd hw 38 rfl) (wd hw 39 rfl) (wd hw 41 rfl) (wd hw 40 rfl) (wd hw 5 rfl) (wd hw 42 rfl) (wd hw 41 rfl) rfl (p2_.ext p0_.2) [(.int m)] [] (fits l Z a0 hw _ _ _ n0 p0_ p2_ p3_ hm) dreset_5 (ps := [.int]) (by decide +kernel) rfl rfl rfl (by decide) rfl (by decide) (by decide) (by decide) (by decide) rfl ?_
  rintro _ _ ⟨rfl, rfl⟩
  show Go pP l eE _ sS mM _ bB tT cC n0 _ h 0 0 (mkF mM 8 #[.val (.ref t), .val (.int m)] [(.int (1 : Int32))])
  refine go_if0 (q := 32) (q' := 11) K dreset_8 (by decide) rfl rfl (fun _ => ?_) (fun hn => cN_no2 hn (show ¬ (1 : Int32) = (0 : Int32) from (by decide)))
  refine go_aloadN (q := 33) K dreset_32 rfl rfl rfl ?_
  refine go_iloadN (q := 34) K dreset_33 rfl rfl ?_
  refine go_putF (q := 37) K (wd hw 53 rfl) Via.refl p15_ p6_ (Or.inl (wd hw 54 rfl)) (wd hw 2 rfl) (ty := .int) (by decide +kernel) rfl rfl p7_ dreset_34 rfl ?_
  intro h2 Wh2
  refine go_aloadN (q := 38) K dreset_37 rfl rfl rfl ?_
  refine go_iloadN (q := 39) K dreset_38 rfl rfl ?_
  refine go_callS (q := 42) (W := 1) K (wd hw 55 rfl) (wd hw 56 rfl) (wd hw 57 rfl) (wd hw 58 rfl) [(.int m)] [(.ref t)] (bitc l Z a0 hw _ _ n0 ) dreset_39 (ps := [.int]) (by decide +kernel) rfl rfl rfl (by decide) rfl (by decide) (by decide) (by decide) (by decide) rfl ?_
  rintro _ _ ⟨rfl, rfl⟩
  show Go pP l eE _ sS mM _ bB tT cC n0 _ h2 0 0 (mkF mM 42 #[.val (.ref t), .val (.int m)] [(.int (own_bc m)), (.ref t)])
  refine go_iconst (q := 43) K dreset_42 (1 : Int32) rfl rfl ?_
  refine go_icmp (q := 52) (q' := 46) K dreset_43 (by decide) rfl rfl (fun hc43 => ?_) (fun hc43 => ?_)
  · have hc43 : ¬ (own_bc m) = (1 : Int32) := hc43
    refine go_iconst (q := 53) K dreset_52 (-1 : Int32) rfl rfl ?_
    have f1 := (p16_.other Wh2 (Or.inr (slot_ne (C := "com/example/dispersa/dispersa/internal/LayoutTable") (Or.inl (wd hw 63 rfl)) (Or.inl (wd hw 54 rfl)) (by decide) (t := .int) (t' := .int) (by decide +kernel) (by decide +kernel))))
    have f2 := (p6_.wr Wh2)
    refine go_putF (q := 56) K (wd hw 62 rfl) Via.refl f1 f2 (Or.inl (wd hw 63 rfl)) (wd hw 2 rfl) (ty := .int) (by decide +kernel) rfl rfl p7_ dreset_53 rfl ?_
    intro h4 Wh4
    refine go_aloadN (q := 57) K dreset_56 rfl rfl rfl ?_
    refine go_aloadN (q := 58) K dreset_57 rfl rfl rfl ?_
    have f3 := ((p9_.other Wh2 (Or.inr (slot_ne (C := "com/example/dispersa/dispersa/internal/LayoutTable") (Or.inr (wd hw 22 rfl)) (Or.inl (wd hw 54 rfl)) (by decide) (t := (.object "com/example/dispersa/dispersa/internal/ProbeSequence")) (t' := .int) (by decide +kernel) (by decide +kernel)))).other Wh4 (Or.inr (slot_ne (C := "com/example/dispersa/dispersa/internal/LayoutTable") (Or.inr (wd hw 22 rfl)) (Or.inl (wd hw 63 rfl)) (by decide) (t := (.object "com/example/dispersa/dispersa/internal/ProbeSequence")) (t' := .int) (by decide +kernel) (by decide +kernel))))
    refine go_getF (q := 61) K (wd hw 21 rfl) Via.refl f3 dreset_58 rfl ?_
    have f4 := ((p0_.wr Wh2 p7_).wr Wh4 p7_)
    refine go_getS (q := 64) K (wd hw 64 rfl) Via.refl (p1_.ext f4.2) dreset_61 rfl ?_
    refine go_acmp (q := 92) (q' := 67) K dreset_64 rfl rfl (by decide) rfl rfl (fun hn => cAN_no hn (show ((.ref lin) : Value) = (.ref lin) from rfl)) (fun _ => ?_)
    refine go_aloadN (q := 68) K dreset_67 rfl rfl rfl ?_
    refine go_getF (q := 71) K (wd hw 62 rfl) Via.refl (f1.same Wh4) dreset_68 rfl ?_
    refine go_if0 (q := 92) (q' := 74) K dreset_71 (by decide) rfl rfl (fun _ => ?_) (fun hn => cN_no2 hn (show (-1 : Int32) < (0 : Int32) from (by decide)))
    refine go_iconst (q := 93) K dreset_92 (0 : Int32) rfl rfl ?_
    have f5 := ((p17_.other Wh2 (Or.inr (slot_ne (C := "com/example/dispersa/dispersa/internal/LayoutTable") (Or.inl (wd hw 66 rfl)) (Or.inl (wd hw 54 rfl)) (by decide) (t := .boolean) (t' := .int) (by decide +kernel) (by decide +kernel)))).other Wh4 (Or.inr (slot_ne (C := "com/example/dispersa/dispersa/internal/LayoutTable") (Or.inl (wd hw 66 rfl)) (Or.inl (wd hw 63 rfl)) (by decide) (t := .boolean) (t' := .int) (by decide +kernel) (by decide +kernel))))
    have f6 := (f2.wr Wh4)
    refine go_putF (q := 96) K (wd hw 65 rfl) Via.refl f5 f6 (Or.inl (wd hw 66 rfl)) (wd hw 2 rfl) (ty := .boolean) (by decide +kernel) rfl rfl p7_ dreset_93 rfl ?_
    intro h5 Wh5
    refine go_aloadN (q := 97) K dreset_96 rfl rfl rfl ?_
    refine go_aloadN (q := 98) K dreset_97 rfl rfl rfl ?_
    have f7 := (f3.other Wh5 (Or.inr (slot_ne (C := "com/example/dispersa/dispersa/internal/LayoutTable") (Or.inr (wd hw 22 rfl)) (Or.inl (wd hw 66 rfl)) (by decide) (t := (.object "com/example/dispersa/dispersa/internal/ProbeSequence")) (t' := .boolean) (by decide +kernel) (by decide +kernel))))
    have f8 := (((p10_.other Wh2 (Or.inr (slot_ne (C := "com/example/dispersa/dispersa/internal/LayoutTable") (Or.inr (wd hw 24 rfl)) (Or.inl (wd hw 54 rfl)) (by decide) (t := .boolean) (t' := .int) (by decide +kernel) (by decide +kernel)))).other Wh4 (Or.inr (slot_ne (C := "com/example/dispersa/dispersa/internal/LayoutTable") (Or.inr (wd hw 24 rfl)) (Or.inl (wd hw 63 rfl)) (by decide) (t := .boolean) (t' := .int) (by decide +kernel) (by decide +kernel)))).other Wh5 (Or.inr (slot_ne (C := "com/example/dispersa/dispersa/internal/LayoutTable") (Or.inr (wd hw 24 rfl)) (Or.inl (wd hw 66 rfl)) (by decide) (t := .boolean) (t' := .boolean) (by decide +kernel) (by decide +kernel))))
    have f9 := (f4.wr Wh5 p7_)
    have f10 := (f6.wr Wh5)
    refine go_callP (q := 101) (W := 1) K (wd hw 67 rfl) (wd hw 69 rfl) (wd hw 36 rfl) rfl (wd hw 68 rfl) (wd hw 13 rfl) (wd hw 70 rfl) f10 [] [(.ref t)] (goesOn l Z a0 hw _ _ _ n0 f7 f8 f9 p1_) dreset_98 (ps := []) (by decide +kernel) rfl rfl rfl (by decide) rfl (by decide) (by decide) (by decide) (by decide) rfl ?_
    rintro _ _ ⟨rfl, rfl⟩
    show Go pP l eE _ sS mM _ bB tT cC n0 _ h5 0 0 (mkF mM 101 #[.val (.ref t), .val (.int m)] [(.int (0 : Int32)), (.ref t)])
    have f11 := (((p18_.other Wh2 (Or.inr (slot_ne (C := "com/example/dispersa/dispersa/internal/LayoutTable") (Or.inl (wd hw 72 rfl)) (Or.inl (wd hw 54 rfl)) (by decide) (t := .boolean) (t' := .int) (by decide +kernel) (by decide +kernel)))).other Wh4 (Or.inr (slot_ne (C := "com/example/dispersa/dispersa/internal/LayoutTable") (Or.inl (wd hw 72 rfl)) (Or.inl (wd hw 63 rfl)) (by decide) (t := .boolean) (t' := .int) (by decide +kernel) (by decide +kernel)))).other Wh5 (Or.inr (slot_ne (C := "com/example/dispersa/dispersa/internal/LayoutTable") (Or.inl (wd hw 72 rfl)) (Or.inl (wd hw 66 rfl)) (by decide) (t := .boolean) (t' := .boolean) (by decide +kernel) (by decide +kernel))))
    refine go_putF (q := 104) K (wd hw 71 rfl) Via.refl f11 f10 (Or.inl (wd hw 72 rfl)) (wd hw 2 rfl) (ty := .boolean) (by decide +kernel) rfl rfl p7_ dreset_101 rfl ?_
    intro h7 Wh7
    refine go_aloadN (q := 105) K dreset_104 rfl rfl rfl ?_
    refine go_iconst (q := 106) K dreset_105 (0 : Int32) rfl rfl ?_
    have f12 := ((((p19_.other Wh2 (Or.inr (slot_ne (C := "com/example/dispersa/dispersa/internal/LayoutTable") (Or.inl (wd hw 74 rfl)) (Or.inl (wd hw 54 rfl)) (by decide) (t := .int) (t' := .int) (by decide +kernel) (by decide +kernel)))).other Wh4 (Or.inr (slot_ne (C := "com/example/dispersa/dispersa/internal/LayoutTable") (Or.inl (wd hw 74 rfl)) (Or.inl (wd hw 63 rfl)) (by decide) (t := .int) (t' := .int) (by decide +kernel) (by decide +kernel)))).other Wh5 (Or.inr (slot_ne (C := "com/example/dispersa/dispersa/internal/LayoutTable") (Or.inl (wd hw 74 rfl)) (Or.inl (wd hw 66 rfl)) (by decide) (t := .int) (t' := .boolean) (by decide +kernel) (by decide +kernel)))).other Wh7 (Or.inr (slot_ne (C := "com/example/dispersa/dispersa/internal/LayoutTable") (Or.inl (wd hw 74 rfl)) (Or.inl (wd hw 72 rfl)) (by decide) (t := .int) (t' := .boolean) (by decide +kernel) (by decide +kernel))))
    have f13 := (f10.wr Wh7)
    refine go_putF (q := 109) K (wd hw 73 rfl) Via.refl f12 f13 (Or.inl (wd hw 74 rfl)) (wd hw 2 rfl) (ty := .int) (by decide +kernel) rfl rfl p7_ dreset_106 rfl ?_
    intro h8 Wh8
    refine go_aloadN (q := 110) K dreset_109 rfl rfl rfl ?_
    refine go_iconst (q := 111) K dreset_110 (0 : Int32) rfl rfl ?_
    have f14 := (((((p20_.other Wh2 (Or.inr (slot_ne (C := "com/example/dispersa/dispersa/internal/LayoutTable") (Or.inl (wd hw 76 rfl)) (Or.inl (wd hw 54 rfl)) (by decide) (t := .int) (t' := .int) (by decide +kernel) (by decide +kernel)))).other Wh4 (Or.inr (slot_ne (C := "com/example/dispersa/dispersa/internal/LayoutTable") (Or.inl (wd hw 76 rfl)) (Or.inl (wd hw 63 rfl)) (by decide) (t := .int) (t' := .int) (by decide +kernel) (by decide +kernel)))).other Wh5 (Or.inr (slot_ne (C := "com/example/dispersa/dispersa/internal/LayoutTable") (Or.inl (wd hw 76 rfl)) (Or.inl (wd hw 66 rfl)) (by decide) (t := .int) (t' := .boolean) (by decide +kernel) (by decide +kernel)))).other Wh7 (Or.inr (slot_ne (C := "com/example/dispersa/dispersa/internal/LayoutTable") (Or.inl (wd hw 76 rfl)) (Or.inl (wd hw 72 rfl)) (by decide) (t := .int) (t' := .boolean) (by decide +kernel) (by decide +kernel)))).other Wh8 (Or.inr (slot_ne (C := "com/example/dispersa/dispersa/internal/LayoutTable") (Or.inl (wd hw 76 rfl)) (Or.inl (wd hw 74 rfl)) (by decide) (t := .int) (t' := .int) (by decide +kernel) (by decide +kernel))))
    have f15 := (f13.wr Wh8)
    refine go_putF (q := 114) K (wd hw 75 rfl) Via.refl f14 f15 (Or.inl (wd hw 76 rfl)) (wd hw 2 rfl) (ty := .int) (by decide +kernel) rfl rfl p7_ dreset_111 rfl ?_
    intro h9 Wh9
    refine go_return K dreset_114 rfl (by decide) (by decide) ?_
    have f16 := (((((((Keep.refl h [t]).wr Wh2 (Or.inl (by simp))).wr Wh4 (Or.inl (by simp))).wr Wh5 (Or.inl (by simp))).wr Wh7 (Or.inl (by simp))).wr Wh8 (Or.inl (by simp))).wr Wh9 (Or.inl (by simp)))
    have f17 := (f15.wr Wh9)
    have f18 := (((f7.other Wh7 (Or.inr (slot_ne (C := "com/example/dispersa/dispersa/internal/LayoutTable") (Or.inr (wd hw 22 rfl)) (Or.inl (wd hw 72 rfl)) (by decide) (t := (.object "com/example/dispersa/dispersa/internal/ProbeSequence")) (t' := .boolean) (by decide +kernel) (by decide +kernel)))).other Wh8 (Or.inr (slot_ne (C := "com/example/dispersa/dispersa/internal/LayoutTable") (Or.inr (wd hw 22 rfl)) (Or.inl (wd hw 74 rfl)) (by decide) (t := (.object "com/example/dispersa/dispersa/internal/ProbeSequence")) (t' := .int) (by decide +kernel) (by decide +kernel)))).other Wh9 (Or.inr (slot_ne (C := "com/example/dispersa/dispersa/internal/LayoutTable") (Or.inr (wd hw 22 rfl)) (Or.inl (wd hw 76 rfl)) (by decide) (t := (.object "com/example/dispersa/dispersa/internal/ProbeSequence")) (t' := .int) (by decide +kernel) (by decide +kernel))))
    have f19 := (((f8.other Wh7 (Or.inr (slot_ne (C := "com/example/dispersa/dispersa/internal/LayoutTable") (Or.inr (wd hw 24 rfl)) (Or.inl (wd hw 72 rfl)) (by decide) (t := .boolean) (t' := .boolean) (by decide +kernel) (by decide +kernel)))).other Wh8 (Or.inr (slot_ne (C := "com/example/dispersa/dispersa/internal/LayoutTable") (Or.inr (wd hw 24 rfl)) (Or.inl (wd hw 74 rfl)) (by decide) (t := .boolean) (t' := .int) (by decide +kernel) (by decide +kernel)))).other Wh9 (Or.inr (slot_ne (C := "com/example/dispersa/dispersa/internal/LayoutTable") (Or.inr (wd hw 24 rfl)) (Or.inl (wd hw 76 rfl)) (by decide) (t := .boolean) (t' := .int) (by decide +kernel) (by decide +kernel))))
    have f20 := ((((((p11_.other Wh2 (Or.inr (slot_ne (C := "com/example/dispersa/dispersa/internal/LayoutTable") (Or.inr (wd hw 26 rfl)) (Or.inl (wd hw 54 rfl)) (by decide) (t := .boolean) (t' := .int) (by decide +kernel) (by decide +kernel)))).other Wh4 (Or.inr (slot_ne (C := "com/example/dispersa/dispersa/internal/LayoutTable") (Or.inr (wd hw 26 rfl)) (Or.inl (wd hw 63 rfl)) (by decide) (t := .boolean) (t' := .int) (by decide +kernel) (by decide +kernel)))).other Wh5 (Or.inr (slot_ne (C := "com/example/dispersa/dispersa/internal/LayoutTable") (Or.inr (wd hw 26 rfl)) (Or.inl (wd hw 66 rfl)) (by decide) (t := .boolean) (t' := .boolean) (by decide +kernel) (by decide +kernel)))).other Wh7 (Or.inr (slot_ne (C := "com/example/dispersa/dispersa/internal/LayoutTable") (Or.inr (wd hw 26 rfl)) (Or.inl (wd hw 72 rfl)) (by decide) (t := .boolean) (t' := .boolean) (by decide +kernel) (by decide +kernel)))).other Wh8 (Or.inr (slot_ne (C := "com/example/dispersa/dispersa/internal/LayoutTable") (Or.inr (wd hw 26 rfl)) (Or.inl (wd hw 74 rfl)) (by decide) (t := .boolean) (t' := .int) (by decide +kernel) (by decide +kernel)))).other Wh9 (Or.inr (slot_ne (C := "com/example/dispersa/dispersa/internal/LayoutTable") (Or.inr (wd hw 26 rfl)) (Or.inl (wd hw 76 rfl)) (by decide) (t := .boolean) (t' := .int) (by decide +kernel) (by decide +kernel))))
    have f21 := ((((((p12_.other Wh2 (Or.inr (slot_ne (C := "com/example/dispersa/dispersa/internal/LayoutTable") (Or.inr (wd hw 28 rfl)) (Or.inl (wd hw 54 rfl)) (by decide) (t := .boolean) (t' := .int) (by decide +kernel) (by decide +kernel)))).other Wh4 (Or.inr (slot_ne (C := "com/example/dispersa/dispersa/internal/LayoutTable") (Or.inr (wd hw 28 rfl)) (Or.inl (wd hw 63 rfl)) (by decide) (t := .boolean) (t' := .int) (by decide +kernel) (by decide +kernel)))).other Wh5 (Or.inr (slot_ne (C := "com/example/dispersa/dispersa/internal/LayoutTable") (Or.inr (wd hw 28 rfl)) (Or.inl (wd hw 66 rfl)) (by decide) (t := .boolean) (t' := .boolean) (by decide +kernel) (by decide +kernel)))).other Wh7 (Or.inr (slot_ne (C := "com/example/dispersa/dispersa/internal/LayoutTable") (Or.inr (wd hw 28 rfl)) (Or.inl (wd hw 72 rfl)) (by decide) (t := .boolean) (t' := .boolean) (by decide +kernel) (by decide +kernel)))).other Wh8 (Or.inr (slot_ne (C := "com/example/dispersa/dispersa/internal/LayoutTable") (Or.inr (wd hw 28 rfl)) (Or.inl (wd hw 74 rfl)) (by decide) (t := .boolean) (t' := .int) (by decide +kernel) (by decide +kernel)))).other Wh9 (Or.inr (slot_ne (C := "com/example/dispersa/dispersa/internal/LayoutTable") (Or.inr (wd hw 28 rfl)) (Or.inl (wd hw 76 rfl)) (by decide) (t := .boolean) (t' := .int) (by decide +kernel) (by decide +kernel))))
    have f22 := ((((((p13_.other Wh2 (Or.inr (slot_ne (C := "com/example/dispersa/dispersa/internal/LayoutTable") (Or.inl (wd hw 30 rfl)) (Or.inl (wd hw 54 rfl)) (by decide) (t := .boolean) (t' := .int) (by decide +kernel) (by decide +kernel)))).other Wh4 (Or.inr (slot_ne (C := "com/example/dispersa/dispersa/internal/LayoutTable") (Or.inl (wd hw 30 rfl)) (Or.inl (wd hw 63 rfl)) (by decide) (t := .boolean) (t' := .int) (by decide +kernel) (by decide +kernel)))).other Wh5 (Or.inr (slot_ne (C := "com/example/dispersa/dispersa/internal/LayoutTable") (Or.inl (wd hw 30 rfl)) (Or.inl (wd hw 66 rfl)) (by decide) (t := .boolean) (t' := .boolean) (by decide +kernel) (by decide +kernel)))).other Wh7 (Or.inr (slot_ne (C := "com/example/dispersa/dispersa/internal/LayoutTable") (Or.inl (wd hw 30 rfl)) (Or.inl (wd hw 72 rfl)) (by decide) (t := .boolean) (t' := .boolean) (by decide +kernel) (by decide +kernel)))).other Wh8 (Or.inr (slot_ne (C := "com/example/dispersa/dispersa/internal/LayoutTable") (Or.inl (wd hw 30 rfl)) (Or.inl (wd hw 74 rfl)) (by decide) (t := .boolean) (t' := .int) (by decide +kernel) (by decide +kernel)))).other Wh9 (Or.inr (slot_ne (C := "com/example/dispersa/dispersa/internal/LayoutTable") (Or.inl (wd hw 30 rfl)) (Or.inl (wd hw 76 rfl)) (by decide) (t := .boolean) (t' := .int) (by decide +kernel) (by decide +kernel))))
    have f23 := ((((((p14_.other Wh2 (Or.inr (slot_ne (C := "com/example/dispersa/dispersa/internal/LayoutTable") (Or.inl (wd hw 32 rfl)) (Or.inl (wd hw 54 rfl)) (by decide) (t := .boolean) (t' := .int) (by decide +kernel) (by decide +kernel)))).other Wh4 (Or.inr (slot_ne (C := "com/example/dispersa/dispersa/internal/LayoutTable") (Or.inl (wd hw 32 rfl)) (Or.inl (wd hw 63 rfl)) (by decide) (t := .boolean) (t' := .int) (by decide +kernel) (by decide +kernel)))).other Wh5 (Or.inr (slot_ne (C := "com/example/dispersa/dispersa/internal/LayoutTable") (Or.inl (wd hw 32 rfl)) (Or.inl (wd hw 66 rfl)) (by decide) (t := .boolean) (t' := .boolean) (by decide +kernel) (by decide +kernel)))).other Wh7 (Or.inr (slot_ne (C := "com/example/dispersa/dispersa/internal/LayoutTable") (Or.inl (wd hw 32 rfl)) (Or.inl (wd hw 72 rfl)) (by decide) (t := .boolean) (t' := .boolean) (by decide +kernel) (by decide +kernel)))).other Wh8 (Or.inr (slot_ne (C := "com/example/dispersa/dispersa/internal/LayoutTable") (Or.inl (wd hw 32 rfl)) (Or.inl (wd hw 74 rfl)) (by decide) (t := .boolean) (t' := .int) (by decide +kernel) (by decide +kernel)))).other Wh9 (Or.inr (slot_ne (C := "com/example/dispersa/dispersa/internal/LayoutTable") (Or.inl (wd hw 32 rfl)) (Or.inl (wd hw 76 rfl)) (by decide) (t := .boolean) (t' := .int) (by decide +kernel) (by decide +kernel))))
    have f24 := ((((((p15_.same Wh2).other Wh4 (Or.inr (slot_ne (C := "com/example/dispersa/dispersa/internal/LayoutTable") (Or.inl (wd hw 54 rfl)) (Or.inl (wd hw 63 rfl)) (by decide) (t := .int) (t' := .int) (by decide +kernel) (by decide +kernel)))).other Wh5 (Or.inr (slot_ne (C := "com/example/dispersa/dispersa/internal/LayoutTable") (Or.inl (wd hw 54 rfl)) (Or.inl (wd hw 66 rfl)) (by decide) (t := .int) (t' := .boolean) (by decide +kernel) (by decide +kernel)))).other Wh7 (Or.inr (slot_ne (C := "com/example/dispersa/dispersa/internal/LayoutTable") (Or.inl (wd hw 54 rfl)) (Or.inl (wd hw 72 rfl)) (by decide) (t := .int) (t' := .boolean) (by decide +kernel) (by decide +kernel)))).other Wh8 (Or.inr (slot_ne (C := "com/example/dispersa/dispersa/internal/LayoutTable") (Or.inl (wd hw 54 rfl)) (Or.inl (wd hw 74 rfl)) (by decide) (t := .int) (t' := .int) (by decide +kernel) (by decide +kernel)))).other Wh9 (Or.inr (slot_ne (C := "com/example/dispersa/dispersa/internal/LayoutTable") (Or.inl (wd hw 54 rfl)) (Or.inl (wd hw 76 rfl)) (by decide) (t := .int) (t' := .int) (by decide +kernel) (by decide +kernel))))
    have f25 := (((((f1.same Wh4).other Wh5 (Or.inr (slot_ne (C := "com/example/dispersa/dispersa/internal/LayoutTable") (Or.inl (wd hw 63 rfl)) (Or.inl (wd hw 66 rfl)) (by decide) (t := .int) (t' := .boolean) (by decide +kernel) (by decide +kernel)))).other Wh7 (Or.inr (slot_ne (C := "com/example/dispersa/dispersa/internal/LayoutTable") (Or.inl (wd hw 63 rfl)) (Or.inl (wd hw 72 rfl)) (by decide) (t := .int) (t' := .boolean) (by decide +kernel) (by decide +kernel)))).other Wh8 (Or.inr (slot_ne (C := "com/example/dispersa/dispersa/internal/LayoutTable") (Or.inl (wd hw 63 rfl)) (Or.inl (wd hw 74 rfl)) (by decide) (t := .int) (t' := .int) (by decide +kernel) (by decide +kernel)))).other Wh9 (Or.inr (slot_ne (C := "com/example/dispersa/dispersa/internal/LayoutTable") (Or.inl (wd hw 63 rfl)) (Or.inl (wd hw 76 rfl)) (by decide) (t := .int) (t' := .int) (by decide +kernel) (by decide +kernel))))
    have f26 := ((((f5.same Wh5).other Wh7 (Or.inr (slot_ne (C := "com/example/dispersa/dispersa/internal/LayoutTable") (Or.inl (wd hw 66 rfl)) (Or.inl (wd hw 72 rfl)) (by decide) (t := .boolean) (t' := .boolean) (by decide +kernel) (by decide +kernel)))).other Wh8 (Or.inr (slot_ne (C := "com/example/dispersa/dispersa/internal/LayoutTable") (Or.inl (wd hw 66 rfl)) (Or.inl (wd hw 74 rfl)) (by decide) (t := .boolean) (t' := .int) (by decide +kernel) (by decide +kernel)))).other Wh9 (Or.inr (slot_ne (C := "com/example/dispersa/dispersa/internal/LayoutTable") (Or.inl (wd hw 66 rfl)) (Or.inl (wd hw 76 rfl)) (by decide) (t := .boolean) (t' := .int) (by decide +kernel) (by decide +kernel))))
    have f27 := (((f11.same Wh7).other Wh8 (Or.inr (slot_ne (C := "com/example/dispersa/dispersa/internal/LayoutTable") (Or.inl (wd hw 72 rfl)) (Or.inl (wd hw 74 rfl)) (by decide) (t := .boolean) (t' := .int) (by decide +kernel) (by decide +kernel)))).other Wh9 (Or.inr (slot_ne (C := "com/example/dispersa/dispersa/internal/LayoutTable") (Or.inl (wd hw 72 rfl)) (Or.inl (wd hw 76 rfl)) (by decide) (t := .boolean) (t' := .int) (by decide +kernel) (by decide +kernel))))
    have f28 := ((f12.same Wh8).other Wh9 (Or.inr (slot_ne (C := "com/example/dispersa/dispersa/internal/LayoutTable") (Or.inl (wd hw 74 rfl)) (Or.inl (wd hw 76 rfl)) (by decide) (t := .int) (t' := .int) (by decide +kernel) (by decide +kernel))))
    have f29 := ((((((p21_.other Wh2 (Or.inr (slot_ne (C := "com/example/dispersa/dispersa/internal/LayoutTable") (Or.inl (wd hw 147 rfl)) (Or.inl (wd hw 54 rfl)) (by decide) (t := .long) (t' := .int) (by decide +kernel) (by decide +kernel)))).other Wh4 (Or.inr (slot_ne (C := "com/example/dispersa/dispersa/internal/LayoutTable") (Or.inl (wd hw 147 rfl)) (Or.inl (wd hw 63 rfl)) (by decide) (t := .long) (t' := .int) (by decide +kernel) (by decide +kernel)))).other Wh5 (Or.inr (slot_ne (C := "com/example/dispersa/dispersa/internal/LayoutTable") (Or.inl (wd hw 147 rfl)) (Or.inl (wd hw 66 rfl)) (by decide) (t := .long) (t' := .boolean) (by decide +kernel) (by decide +kernel)))).other Wh7 (Or.inr (slot_ne (C := "com/example/dispersa/dispersa/internal/LayoutTable") (Or.inl (wd hw 147 rfl)) (Or.inl (wd hw 72 rfl)) (by decide) (t := .long) (t' := .boolean) (by decide +kernel) (by decide +kernel)))).other Wh8 (Or.inr (slot_ne (C := "com/example/dispersa/dispersa/internal/LayoutTable") (Or.inl (wd hw 147 rfl)) (Or.inl (wd hw 74 rfl)) (by decide) (t := .long) (t' := .int) (by decide +kernel) (by decide +kernel)))).other Wh9 (Or.inr (slot_ne (C := "com/example/dispersa/dispersa/internal/LayoutTable") (Or.inl (wd hw 147 rfl)) (Or.inl (wd hw 76 rfl)) (by decide) (t := .long) (t' := .int) (by decide +kernel) (by decide +kernel))))
    have f30 := ((((((p22_.other Wh2 (Or.inr (slot_ne (C := "com/example/dispersa/dispersa/internal/LayoutTable") (Or.inl (wd hw 149 rfl)) (Or.inl (wd hw 54 rfl)) (by decide) (t := .int) (t' := .int) (by decide +kernel) (by decide +kernel)))).other Wh4 (Or.inr (slot_ne (C := "com/example/dispersa/dispersa/internal/LayoutTable") (Or.inl (wd hw 149 rfl)) (Or.inl (wd hw 63 rfl)) (by decide) (t := .int) (t' := .int) (by decide +kernel) (by decide +kernel)))).other Wh5 (Or.inr (slot_ne (C := "com/example/dispersa/dispersa/internal/LayoutTable") (Or.inl (wd hw 149 rfl)) (Or.inl (wd hw 66 rfl)) (by decide) (t := .int) (t' := .boolean) (by decide +kernel) (by decide +kernel)))).other Wh7 (Or.inr (slot_ne (C := "com/example/dispersa/dispersa/internal/LayoutTable") (Or.inl (wd hw 149 rfl)) (Or.inl (wd hw 72 rfl)) (by decide) (t := .int) (t' := .boolean) (by decide +kernel) (by decide +kernel)))).other Wh8 (Or.inr (slot_ne (C := "com/example/dispersa/dispersa/internal/LayoutTable") (Or.inl (wd hw 149 rfl)) (Or.inl (wd hw 74 rfl)) (by decide) (t := .int) (t' := .int) (by decide +kernel) (by decide +kernel)))).other Wh9 (Or.inr (slot_ne (C := "com/example/dispersa/dispersa/internal/LayoutTable") (Or.inl (wd hw 149 rfl)) (Or.inl (wd hw 76 rfl)) (by decide) (t := .int) (t' := .int) (by decide +kernel) (by decide +kernel))))
    have f31 := ((((((p23_.other Wh2 (Or.inr (slot_ne (C := "com/example/dispersa/dispersa/internal/LayoutTable") (Or.inr (wd hw 79 rfl)) (Or.inl (wd hw 54 rfl)) (by decide) (t := (.array .int)) (t' := .int) (by decide +kernel) (by decide +kernel)))).other Wh4 (Or.inr (slot_ne (C := "com/example/dispersa/dispersa/internal/LayoutTable") (Or.inr (wd hw 79 rfl)) (Or.inl (wd hw 63 rfl)) (by decide) (t := (.array .int)) (t' := .int) (by decide +kernel) (by decide +kernel)))).other Wh5 (Or.inr (slot_ne (C := "com/example/dispersa/dispersa/internal/LayoutTable") (Or.inr (wd hw 79 rfl)) (Or.inl (wd hw 66 rfl)) (by decide) (t := (.array .int)) (t' := .boolean) (by decide +kernel) (by decide +kernel)))).other Wh7 (Or.inr (slot_ne (C := "com/example/dispersa/dispersa/internal/LayoutTable") (Or.inr (wd hw 79 rfl)) (Or.inl (wd hw 72 rfl)) (by decide) (t := (.array .int)) (t' := .boolean) (by decide +kernel) (by decide +kernel)))).other Wh8 (Or.inr (slot_ne (C := "com/example/dispersa/dispersa/internal/LayoutTable") (Or.inr (wd hw 79 rfl)) (Or.inl (wd hw 74 rfl)) (by decide) (t := (.array .int)) (t' := .int) (by decide +kernel) (by decide +kernel)))).other Wh9 (Or.inr (slot_ne (C := "com/example/dispersa/dispersa/internal/LayoutTable") (Or.inr (wd hw 79 rfl)) (Or.inl (wd hw 76 rfl)) (by decide) (t := (.array .int)) (t' := .int) (by decide +kernel) (by decide +kernel))))
    have f32 := ((((((p24_.other Wh2 (Or.inr (slot_ne (C := "com/example/dispersa/dispersa/internal/LayoutTable") (Or.inl (wd hw 210 rfl)) (Or.inl (wd hw 54 rfl)) (by decide) (t := .boolean) (t' := .int) (by decide +kernel) (by decide +kernel)))).other Wh4 (Or.inr (slot_ne (C := "com/example/dispersa/dispersa/internal/LayoutTable") (Or.inl (wd hw 210 rfl)) (Or.inl (wd hw 63 rfl)) (by decide) (t := .boolean) (t' := .int) (by decide +kernel) (by decide +kernel)))).other Wh5 (Or.inr (slot_ne (C := "com/example/dispersa/dispersa/internal/LayoutTable") (Or.inl (wd hw 210 rfl)) (Or.inl (wd hw 66 rfl)) (by decide) (t := .boolean) (t' := .boolean) (by decide +kernel) (by decide +kernel)))).other Wh7 (Or.inr (slot_ne (C := "com/example/dispersa/dispersa/internal/LayoutTable") (Or.inl (wd hw 210 rfl)) (Or.inl (wd hw 72 rfl)) (by decide) (t := .boolean) (t' := .boolean) (by decide +kernel) (by decide +kernel)))).other Wh8 (Or.inr (slot_ne (C := "com/example/dispersa/dispersa/internal/LayoutTable") (Or.inl (wd hw 210 rfl)) (Or.inl (wd hw 74 rfl)) (by decide) (t := .boolean) (t' := .int) (by decide +kernel) (by decide +kernel)))).other Wh9 (Or.inr (slot_ne (C := "com/example/dispersa/dispersa/internal/LayoutTable") (Or.inl (wd hw 210 rfl)) (Or.inl (wd hw 76 rfl)) (by decide) (t := .boolean) (t' := .int) (by decide +kernel) (by decide +kernel))))
    exact ⟨(-1 : Int32), rfl, f16, f17, f18, f19, f20, f21, f22, f23, f24, f25, f26, f27, f28, (f14.same Wh9), f29, f30, f31, f32, (own_bc0 hm hc43)⟩
  · have hc43 : (own_bc m) = (1 : Int32) := hc43
    refine go_iloadN (q := 47) K dreset_46 rfl rfl ?_
    refine go_iconst (q := 48) K dreset_47 (1 : Int32) rfl rfl ?_
    refine go_isub (q := 49) K dreset_48 rfl ?_
    refine go_goto (q := 53) K dreset_49 (by decide) rfl ?_
    have f1 := (p16_.other Wh2 (Or.inr (slot_ne (C := "com/example/dispersa/dispersa/internal/LayoutTable") (Or.inl (wd hw 63 rfl)) (Or.inl (wd hw 54 rfl)) (by decide) (t := .int) (t' := .int) (by decide +kernel) (by decide +kernel))))
    have f2 := (p6_.wr Wh2)
    refine go_putF (q := 56) K (wd hw 62 rfl) Via.refl f1 f2 (Or.inl (wd hw 63 rfl)) (wd hw 2 rfl) (ty := .int) (by decide +kernel) rfl rfl p7_ dreset_53 rfl ?_
    intro h4 Wh4
    refine go_aloadN (q := 57) K dreset_56 rfl rfl rfl ?_
    refine go_aloadN (q := 58) K dreset_57 rfl rfl rfl ?_
    have f3 := ((p9_.other Wh2 (Or.inr (slot_ne (C := "com/example/dispersa/dispersa/internal/LayoutTable") (Or.inr (wd hw 22 rfl)) (Or.inl (wd hw 54 rfl)) (by decide) (t := (.object "com/example/dispersa/dispersa/internal/ProbeSequence")) (t' := .int) (by decide +kernel) (by decide +kernel)))).other Wh4 (Or.inr (slot_ne (C := "com/example/dispersa/dispersa/internal/LayoutTable") (Or.inr (wd hw 22 rfl)) (Or.inl (wd hw 63 rfl)) (by decide) (t := (.object "com/example/dispersa/dispersa/internal/ProbeSequence")) (t' := .int) (by decide +kernel) (by decide +kernel))))
    refine go_getF (q := 61) K (wd hw 21 rfl) Via.refl f3 dreset_58 rfl ?_
    have f4 := ((p0_.wr Wh2 p7_).wr Wh4 p7_)
    refine go_getS (q := 64) K (wd hw 64 rfl) Via.refl (p1_.ext f4.2) dreset_61 rfl ?_
    refine go_acmp (q := 92) (q' := 67) K dreset_64 rfl rfl (by decide) rfl rfl (fun hn => cAN_no hn (show ((.ref lin) : Value) = (.ref lin) from rfl)) (fun _ => ?_)
    refine go_aloadN (q := 68) K dreset_67 rfl rfl rfl ?_
    refine go_getF (q := 71) K (wd hw 62 rfl) Via.refl (f1.same Wh4) dreset_68 rfl ?_
    refine go_if0 (q := 92) (q' := 74) K dreset_71 (by decide) rfl rfl (fun hn => cN_no hn (show ¬ (m - (1 : Int32)) < (0 : Int32) from (own_nneg hm))) (fun _ => ?_)
    refine go_aloadN (q := 75) K dreset_74 rfl rfl rfl ?_
    have f5 := ((p10_.other Wh2 (Or.inr (slot_ne (C := "com/example/dispersa/dispersa/internal/LayoutTable") (Or.inr (wd hw 24 rfl)) (Or.inl (wd hw 54 rfl)) (by decide) (t := .boolean) (t' := .int) (by decide +kernel) (by decide +kernel)))).other Wh4 (Or.inr (slot_ne (C := "com/example/dispersa/dispersa/internal/LayoutTable") (Or.inr (wd hw 24 rfl)) (Or.inl (wd hw 63 rfl)) (by decide) (t := .boolean) (t' := .int) (by decide +kernel) (by decide +kernel))))
    refine go_getF (q := 78) K (wd hw 23 rfl) Via.refl f5 dreset_75 rfl ?_
    refine go_if0 (q := 92) (q' := 81) K dreset_78 (by decide) rfl rfl (fun _ => ?_) (fun hn => cN_no2 hn (show (0 : Int32) = (0 : Int32) from (by decide)))
    refine go_iconst (q := 93) K dreset_92 (0 : Int32) rfl rfl ?_
    have f6 := ((p17_.other Wh2 (Or.inr (slot_ne (C := "com/example/dispersa/dispersa/internal/LayoutTable") (Or.inl (wd hw 66 rfl)) (Or.inl (wd hw 54 rfl)) (by decide) (t := .boolean) (t' := .int) (by decide +kernel) (by decide +kernel)))).other Wh4 (Or.inr (slot_ne (C := "com/example/dispersa/dispersa/internal/LayoutTable") (Or.inl (wd hw 66 rfl)) (Or.inl (wd hw 63 rfl)) (by decide) (t := .boolean) (t' := .int) (by decide +kernel) (by decide +kernel))))
    have f7 := (f2.wr Wh4)
    refine go_putF (q := 96) K (wd hw 65 rfl) Via.refl f6 f7 (Or.inl (wd hw 66 rfl)) (wd hw 2 rfl) (ty := .boolean) (by decide +kernel) rfl rfl p7_ dreset_93 rfl ?_
    intro h5 Wh5
    refine go_aloadN (q := 97) K dreset_96 rfl rfl rfl ?_
    refine go_aloadN (q := 98) K dreset_97 rfl rfl rfl ?_
    have f8 := (f3.other Wh5 (Or.inr (slot_ne (C := "com/example/dispersa/dispersa/internal/LayoutTable") (Or.inr (wd hw 22 rfl)) (Or.inl (wd hw 66 rfl)) (by decide) (t := (.object "com/example/dispersa/dispersa/internal/ProbeSequence")) (t' := .boolean) (by decide +kernel) (by decide +kernel))))
    have f9 := (f5.other Wh5 (Or.inr (slot_ne (C := "com/example/dispersa/dispersa/internal/LayoutTable") (Or.inr (wd hw 24 rfl)) (Or.inl (wd hw 66 rfl)) (by decide) (t := .boolean) (t' := .boolean) (by decide +kernel) (by decide +kernel))))
    have f10 := (f4.wr Wh5 p7_)
    have f11 := (f7.wr Wh5)
    refine go_callP (q := 101) (W := 1) K (wd hw 67 rfl) (wd hw 69 rfl) (wd hw 36 rfl) rfl (wd hw 68 rfl) (wd hw 13 rfl) (wd hw 70 rfl) f11 [] [(.ref t)] (goesOn l Z a0 hw _ _ _ n0 f8 f9 f10 p1_) dreset_98 (ps := []) (by decide +kernel) rfl rfl rfl (by decide) rfl (by decide) (by decide) (by decide) (by decide) rfl ?_
    rintro _ _ ⟨rfl, rfl⟩
    show Go pP l eE _ sS mM _ bB tT cC n0 _ h5 0 0 (mkF mM 101 #[.val (.ref t), .val (.int m)] [(.int (0 : Int32)), (.ref t)])
    have f12 := (((p18_.other Wh2 (Or.inr (slot_ne (C := "com/example/dispersa/dispersa/internal/LayoutTable") (Or.inl (wd hw 72 rfl)) (Or.inl (wd hw 54 rfl)) (by decide) (t := .boolean) (t' := .int) (by decide +kernel) (by decide +kernel)))).other Wh4 (Or.inr (slot_ne (C := "com/example/dispersa/dispersa/internal/LayoutTable") (Or.inl (wd hw 72 rfl)) (Or.inl (wd hw 63 rfl)) (by decide) (t := .boolean) (t' := .int) (by decide +kernel) (by decide +kernel)))).other Wh5 (Or.inr (slot_ne (C := "com/example/dispersa/dispersa/internal/LayoutTable") (Or.inl (wd hw 72 rfl)) (Or.inl (wd hw 66 rfl)) (by decide) (t := .boolean) (t' := .boolean) (by decide +kernel) (by decide +kernel))))
    refine go_putF (q := 104) K (wd hw 71 rfl) Via.refl f12 f11 (Or.inl (wd hw 72 rfl)) (wd hw 2 rfl) (ty := .boolean) (by decide +kernel) rfl rfl p7_ dreset_101 rfl ?_
    intro h7 Wh7
    refine go_aloadN (q := 105) K dreset_104 rfl rfl rfl ?_
    refine go_iconst (q := 106) K dreset_105 (0 : Int32) rfl rfl ?_
    have f13 := ((((p19_.other Wh2 (Or.inr (slot_ne (C := "com/example/dispersa/dispersa/internal/LayoutTable") (Or.inl (wd hw 74 rfl)) (Or.inl (wd hw 54 rfl)) (by decide) (t := .int) (t' := .int) (by decide +kernel) (by decide +kernel)))).other Wh4 (Or.inr (slot_ne (C := "com/example/dispersa/dispersa/internal/LayoutTable") (Or.inl (wd hw 74 rfl)) (Or.inl (wd hw 63 rfl)) (by decide) (t := .int) (t' := .int) (by decide +kernel) (by decide +kernel)))).other Wh5 (Or.inr (slot_ne (C := "com/example/dispersa/dispersa/internal/LayoutTable") (Or.inl (wd hw 74 rfl)) (Or.inl (wd hw 66 rfl)) (by decide) (t := .int) (t' := .boolean) (by decide +kernel) (by decide +kernel)))).other Wh7 (Or.inr (slot_ne (C := "com/example/dispersa/dispersa/internal/LayoutTable") (Or.inl (wd hw 74 rfl)) (Or.inl (wd hw 72 rfl)) (by decide) (t := .int) (t' := .boolean) (by decide +kernel) (by decide +kernel))))
    have f14 := (f11.wr Wh7)
    refine go_putF (q := 109) K (wd hw 73 rfl) Via.refl f13 f14 (Or.inl (wd hw 74 rfl)) (wd hw 2 rfl) (ty := .int) (by decide +kernel) rfl rfl p7_ dreset_106 rfl ?_
    intro h8 Wh8
    refine go_aloadN (q := 110) K dreset_109 rfl rfl rfl ?_
    refine go_iconst (q := 111) K dreset_110 (0 : Int32) rfl rfl ?_
    have f15 := (((((p20_.other Wh2 (Or.inr (slot_ne (C := "com/example/dispersa/dispersa/internal/LayoutTable") (Or.inl (wd hw 76 rfl)) (Or.inl (wd hw 54 rfl)) (by decide) (t := .int) (t' := .int) (by decide +kernel) (by decide +kernel)))).other Wh4 (Or.inr (slot_ne (C := "com/example/dispersa/dispersa/internal/LayoutTable") (Or.inl (wd hw 76 rfl)) (Or.inl (wd hw 63 rfl)) (by decide) (t := .int) (t' := .int) (by decide +kernel) (by decide +kernel)))).other Wh5 (Or.inr (slot_ne (C := "com/example/dispersa/dispersa/internal/LayoutTable") (Or.inl (wd hw 76 rfl)) (Or.inl (wd hw 66 rfl)) (by decide) (t := .int) (t' := .boolean) (by decide +kernel) (by decide +kernel)))).other Wh7 (Or.inr (slot_ne (C := "com/example/dispersa/dispersa/internal/LayoutTable") (Or.inl (wd hw 76 rfl)) (Or.inl (wd hw 72 rfl)) (by decide) (t := .int) (t' := .boolean) (by decide +kernel) (by decide +kernel)))).other Wh8 (Or.inr (slot_ne (C := "com/example/dispersa/dispersa/internal/LayoutTable") (Or.inl (wd hw 76 rfl)) (Or.inl (wd hw 74 rfl)) (by decide) (t := .int) (t' := .int) (by decide +kernel) (by decide +kernel))))
    have f16 := (f14.wr Wh8)
    refine go_putF (q := 114) K (wd hw 75 rfl) Via.refl f15 f16 (Or.inl (wd hw 76 rfl)) (wd hw 2 rfl) (ty := .int) (by decide +kernel) rfl rfl p7_ dreset_111 rfl ?_
    intro h9 Wh9
    refine go_return K dreset_114 rfl (by decide) (by decide) ?_
    have f17 := (((((((Keep.refl h [t]).wr Wh2 (Or.inl (by simp))).wr Wh4 (Or.inl (by simp))).wr Wh5 (Or.inl (by simp))).wr Wh7 (Or.inl (by simp))).wr Wh8 (Or.inl (by simp))).wr Wh9 (Or.inl (by simp)))
    have f18 := (f16.wr Wh9)
    have f19 := (((f8.other Wh7 (Or.inr (slot_ne (C := "com/example/dispersa/dispersa/internal/LayoutTable") (Or.inr (wd hw 22 rfl)) (Or.inl (wd hw 72 rfl)) (by decide) (t := (.object "com/example/dispersa/dispersa/internal/ProbeSequence")) (t' := .boolean) (by decide +kernel) (by decide +kernel)))).other Wh8 (Or.inr (slot_ne (C := "com/example/dispersa/dispersa/internal/LayoutTable") (Or.inr (wd hw 22 rfl)) (Or.inl (wd hw 74 rfl)) (by decide) (t := (.object "com/example/dispersa/dispersa/internal/ProbeSequence")) (t' := .int) (by decide +kernel) (by decide +kernel)))).other Wh9 (Or.inr (slot_ne (C := "com/example/dispersa/dispersa/internal/LayoutTable") (Or.inr (wd hw 22 rfl)) (Or.inl (wd hw 76 rfl)) (by decide) (t := (.object "com/example/dispersa/dispersa/internal/ProbeSequence")) (t' := .int) (by decide +kernel) (by decide +kernel))))
    have f20 := (((f9.other Wh7 (Or.inr (slot_ne (C := "com/example/dispersa/dispersa/internal/LayoutTable") (Or.inr (wd hw 24 rfl)) (Or.inl (wd hw 72 rfl)) (by decide) (t := .boolean) (t' := .boolean) (by decide +kernel) (by decide +kernel)))).other Wh8 (Or.inr (slot_ne (C := "com/example/dispersa/dispersa/internal/LayoutTable") (Or.inr (wd hw 24 rfl)) (Or.inl (wd hw 74 rfl)) (by decide) (t := .boolean) (t' := .int) (by decide +kernel) (by decide +kernel)))).other Wh9 (Or.inr (slot_ne (C := "com/example/dispersa/dispersa/internal/LayoutTable") (Or.inr (wd hw 24 rfl)) (Or.inl (wd hw 76 rfl)) (by decide) (t := .boolean) (t' := .int) (by decide +kernel) (by decide +kernel))))
    have f21 := ((((((p11_.other Wh2 (Or.inr (slot_ne (C := "com/example/dispersa/dispersa/internal/LayoutTable") (Or.inr (wd hw 26 rfl)) (Or.inl (wd hw 54 rfl)) (by decide) (t := .boolean) (t' := .int) (by decide +kernel) (by decide +kernel)))).other Wh4 (Or.inr (slot_ne (C := "com/example/dispersa/dispersa/internal/LayoutTable") (Or.inr (wd hw 26 rfl)) (Or.inl (wd hw 63 rfl)) (by decide) (t := .boolean) (t' := .int) (by decide +kernel) (by decide +kernel)))).other Wh5 (Or.inr (slot_ne (C := "com/example/dispersa/dispersa/internal/LayoutTable") (Or.inr (wd hw 26 rfl)) (Or.inl (wd hw 66 rfl)) (by decide) (t := .boolean) (t' := .boolean) (by decide +kernel) (by decide +kernel)))).other Wh7 (Or.inr (slot_ne (C := "com/example/dispersa/dispersa/internal/LayoutTable") (Or.inr (wd hw 26 rfl)) (Or.inl (wd hw 72 rfl)) (by decide) (t := .boolean) (t' := .boolean) (by decide +kernel) (by decide +kernel)))).other Wh8 (Or.inr (slot_ne (C := "com/example/dispersa/dispersa/internal/LayoutTable") (Or.inr (wd hw 26 rfl)) (Or.inl (wd hw 74 rfl)) (by decide) (t := .boolean) (t' := .int) (by decide +kernel) (by decide +kernel)))).other Wh9 (Or.inr (slot_ne (C := "com/example/dispersa/dispersa/internal/LayoutTable") (Or.inr (wd hw 26 rfl)) (Or.inl (wd hw 76 rfl)) (by decide) (t := .boolean) (t' := .int) (by decide +kernel) (by decide +kernel))))
    have f22 := ((((((p12_.other Wh2 (Or.inr (slot_ne (C := "com/example/dispersa/dispersa/internal/LayoutTable") (Or.inr (wd hw 28 rfl)) (Or.inl (wd hw 54 rfl)) (by decide) (t := .boolean) (t' := .int) (by decide +kernel) (by decide +kernel)))).other Wh4 (Or.inr (slot_ne (C := "com/example/dispersa/dispersa/internal/LayoutTable") (Or.inr (wd hw 28 rfl)) (Or.inl (wd hw 63 rfl)) (by decide) (t := .boolean) (t' := .int) (by decide +kernel) (by decide +kernel)))).other Wh5 (Or.inr (slot_ne (C := "com/example/dispersa/dispersa/internal/LayoutTable") (Or.inr (wd hw 28 rfl)) (Or.inl (wd hw 66 rfl)) (by decide) (t := .boolean) (t' := .boolean) (by decide +kernel) (by decide +kernel)))).other Wh7 (Or.inr (slot_ne (C := "com/example/dispersa/dispersa/internal/LayoutTable") (Or.inr (wd hw 28 rfl)) (Or.inl (wd hw 72 rfl)) (by decide) (t := .boolean) (t' := .boolean) (by decide +kernel) (by decide +kernel)))).other Wh8 (Or.inr (slot_ne (C := "com/example/dispersa/dispersa/internal/LayoutTable") (Or.inr (wd hw 28 rfl)) (Or.inl (wd hw 74 rfl)) (by decide) (t := .boolean) (t' := .int) (by decide +kernel) (by decide +kernel)))).other Wh9 (Or.inr (slot_ne (C := "com/example/dispersa/dispersa/internal/LayoutTable") (Or.inr (wd hw 28 rfl)) (Or.inl (wd hw 76 rfl)) (by decide) (t := .boolean) (t' := .int) (by decide +kernel) (by decide +kernel))))
    have f23 := ((((((p13_.other Wh2 (Or.inr (slot_ne (C := "com/example/dispersa/dispersa/internal/LayoutTable") (Or.inl (wd hw 30 rfl)) (Or.inl (wd hw 54 rfl)) (by decide) (t := .boolean) (t' := .int) (by decide +kernel) (by decide +kernel)))).other Wh4 (Or.inr (slot_ne (C := "com/example/dispersa/dispersa/internal/LayoutTable") (Or.inl (wd hw 30 rfl)) (Or.inl (wd hw 63 rfl)) (by decide) (t := .boolean) (t' := .int) (by decide +kernel) (by decide +kernel)))).other Wh5 (Or.inr (slot_ne (C := "com/example/dispersa/dispersa/internal/LayoutTable") (Or.inl (wd hw 30 rfl)) (Or.inl (wd hw 66 rfl)) (by decide) (t := .boolean) (t' := .boolean) (by decide +kernel) (by decide +kernel)))).other Wh7 (Or.inr (slot_ne (C := "com/example/dispersa/dispersa/internal/LayoutTable") (Or.inl (wd hw 30 rfl)) (Or.inl (wd hw 72 rfl)) (by decide) (t := .boolean) (t' := .boolean) (by decide +kernel) (by decide +kernel)))).other Wh8 (Or.inr (slot_ne (C := "com/example/dispersa/dispersa/internal/LayoutTable") (Or.inl (wd hw 30 rfl)) (Or.inl (wd hw 74 rfl)) (by decide) (t := .boolean) (t' := .int) (by decide +kernel) (by decide +kernel)))).other Wh9 (Or.inr (slot_ne (C := "com/example/dispersa/dispersa/internal/LayoutTable") (Or.inl (wd hw 30 rfl)) (Or.inl (wd hw 76 rfl)) (by decide) (t := .boolean) (t' := .int) (by decide +kernel) (by decide +kernel))))
    have f24 := ((((((p14_.other Wh2 (Or.inr (slot_ne (C := "com/example/dispersa/dispersa/internal/LayoutTable") (Or.inl (wd hw 32 rfl)) (Or.inl (wd hw 54 rfl)) (by decide) (t := .boolean) (t' := .int) (by decide +kernel) (by decide +kernel)))).other Wh4 (Or.inr (slot_ne (C := "com/example/dispersa/dispersa/internal/LayoutTable") (Or.inl (wd hw 32 rfl)) (Or.inl (wd hw 63 rfl)) (by decide) (t := .boolean) (t' := .int) (by decide +kernel) (by decide +kernel)))).other Wh5 (Or.inr (slot_ne (C := "com/example/dispersa/dispersa/internal/LayoutTable") (Or.inl (wd hw 32 rfl)) (Or.inl (wd hw 66 rfl)) (by decide) (t := .boolean) (t' := .boolean) (by decide +kernel) (by decide +kernel)))).other Wh7 (Or.inr (slot_ne (C := "com/example/dispersa/dispersa/internal/LayoutTable") (Or.inl (wd hw 32 rfl)) (Or.inl (wd hw 72 rfl)) (by decide) (t := .boolean) (t' := .boolean) (by decide +kernel) (by decide +kernel)))).other Wh8 (Or.inr (slot_ne (C := "com/example/dispersa/dispersa/internal/LayoutTable") (Or.inl (wd hw 32 rfl)) (Or.inl (wd hw 74 rfl)) (by decide) (t := .boolean) (t' := .int) (by decide +kernel) (by decide +kernel)))).other Wh9 (Or.inr (slot_ne (C := "com/example/dispersa/dispersa/internal/LayoutTable") (Or.inl (wd hw 32 rfl)) (Or.inl (wd hw 76 rfl)) (by decide) (t := .boolean) (t' := .int) (by decide +kernel) (by decide +kernel))))
    have f25 := ((((((p15_.same Wh2).other Wh4 (Or.inr (slot_ne (C := "com/example/dispersa/dispersa/internal/LayoutTable") (Or.inl (wd hw 54 rfl)) (Or.inl (wd hw 63 rfl)) (by decide) (t := .int) (t' := .int) (by decide +kernel) (by decide +kernel)))).other Wh5 (Or.inr (slot_ne (C := "com/example/dispersa/dispersa/internal/LayoutTable") (Or.inl (wd hw 54 rfl)) (Or.inl (wd hw 66 rfl)) (by decide) (t := .int) (t' := .boolean) (by decide +kernel) (by decide +kernel)))).other Wh7 (Or.inr (slot_ne (C := "com/example/dispersa/dispersa/internal/LayoutTable") (Or.inl (wd hw 54 rfl)) (Or.inl (wd hw 72 rfl)) (by decide) (t := .int) (t' := .boolean) (by decide +kernel) (by decide +kernel)))).other Wh8 (Or.inr (slot_ne (C := "com/example/dispersa/dispersa/internal/LayoutTable") (Or.inl (wd hw 54 rfl)) (Or.inl (wd hw 74 rfl)) (by decide) (t := .int) (t' := .int) (by decide +kernel) (by decide +kernel)))).other Wh9 (Or.inr (slot_ne (C := "com/example/dispersa/dispersa/internal/LayoutTable") (Or.inl (wd hw 54 rfl)) (Or.inl (wd hw 76 rfl)) (by decide) (t := .int) (t' := .int) (by decide +kernel) (by decide +kernel))))
    have f26 := (((((f1.same Wh4).other Wh5 (Or.inr (slot_ne (C := "com/example/dispersa/dispersa/internal/LayoutTable") (Or.inl (wd hw 63 rfl)) (Or.inl (wd hw 66 rfl)) (by decide) (t := .int) (t' := .boolean) (by decide +kernel) (by decide +kernel)))).other Wh7 (Or.inr (slot_ne (C := "com/example/dispersa/dispersa/internal/LayoutTable") (Or.inl (wd hw 63 rfl)) (Or.inl (wd hw 72 rfl)) (by decide) (t := .int) (t' := .boolean) (by decide +kernel) (by decide +kernel)))).other Wh8 (Or.inr (slot_ne (C := "com/example/dispersa/dispersa/internal/LayoutTable") (Or.inl (wd hw 63 rfl)) (Or.inl (wd hw 74 rfl)) (by decide) (t := .int) (t' := .int) (by decide +kernel) (by decide +kernel)))).other Wh9 (Or.inr (slot_ne (C := "com/example/dispersa/dispersa/internal/LayoutTable") (Or.inl (wd hw 63 rfl)) (Or.inl (wd hw 76 rfl)) (by decide) (t := .int) (t' := .int) (by decide +kernel) (by decide +kernel))))
    have f27 := ((((f6.same Wh5).other Wh7 (Or.inr (slot_ne (C := "com/example/dispersa/dispersa/internal/LayoutTable") (Or.inl (wd hw 66 rfl)) (Or.inl (wd hw 72 rfl)) (by decide) (t := .boolean) (t' := .boolean) (by decide +kernel) (by decide +kernel)))).other Wh8 (Or.inr (slot_ne (C := "com/example/dispersa/dispersa/internal/LayoutTable") (Or.inl (wd hw 66 rfl)) (Or.inl (wd hw 74 rfl)) (by decide) (t := .boolean) (t' := .int) (by decide +kernel) (by decide +kernel)))).other Wh9 (Or.inr (slot_ne (C := "com/example/dispersa/dispersa/internal/LayoutTable") (Or.inl (wd hw 66 rfl)) (Or.inl (wd hw 76 rfl)) (by decide) (t := .boolean) (t' := .int) (by decide +kernel) (by decide +kernel))))
    have f28 := (((f12.same Wh7).other Wh8 (Or.inr (slot_ne (C := "com/example/dispersa/dispersa/internal/LayoutTable") (Or.inl (wd hw 72 rfl)) (Or.inl (wd hw 74 rfl)) (by decide) (t := .boolean) (t' := .int) (by decide +kernel) (by decide +kernel)))).other Wh9 (Or.inr (slot_ne (C := "com/example/dispersa/dispersa/internal/LayoutTable") (Or.inl (wd hw 72 rfl)) (Or.inl (wd hw 76 rfl)) (by decide) (t := .boolean) (t' := .int) (by decide +kernel) (by decide +kernel))))
    have f29 := ((f13.same Wh8).other Wh9 (Or.inr (slot_ne (C := "com/example/dispersa/dispersa/internal/LayoutTable") (Or.inl (wd hw 74 rfl)) (Or.inl (wd hw 76 rfl)) (by decide) (t := .int) (t' := .int) (by decide +kernel) (by decide +kernel))))
    have f30 := ((((((p21_.other Wh2 (Or.inr (slot_ne (C := "com/example/dispersa/dispersa/internal/LayoutTable") (Or.inl (wd hw 147 rfl)) (Or.inl (wd hw 54 rfl)) (by decide) (t := .long) (t' := .int) (by decide +kernel) (by decide +kernel)))).other Wh4 (Or.inr (slot_ne (C := "com/example/dispersa/dispersa/internal/LayoutTable") (Or.inl (wd hw 147 rfl)) (Or.inl (wd hw 63 rfl)) (by decide) (t := .long) (t' := .int) (by decide +kernel) (by decide +kernel)))).other Wh5 (Or.inr (slot_ne (C := "com/example/dispersa/dispersa/internal/LayoutTable") (Or.inl (wd hw 147 rfl)) (Or.inl (wd hw 66 rfl)) (by decide) (t := .long) (t' := .boolean) (by decide +kernel) (by decide +kernel)))).other Wh7 (Or.inr (slot_ne (C := "com/example/dispersa/dispersa/internal/LayoutTable") (Or.inl (wd hw 147 rfl)) (Or.inl (wd hw 72 rfl)) (by decide) (t := .long) (t' := .boolean) (by decide +kernel) (by decide +kernel)))).other Wh8 (Or.inr (slot_ne (C := "com/example/dispersa/dispersa/internal/LayoutTable") (Or.inl (wd hw 147 rfl)) (Or.inl (wd hw 74 rfl)) (by decide) (t := .long) (t' := .int) (by decide +kernel) (by decide +kernel)))).other Wh9 (Or.inr (slot_ne (C := "com/example/dispersa/dispersa/internal/LayoutTable") (Or.inl (wd hw 147 rfl)) (Or.inl (wd hw 76 rfl)) (by decide) (t := .long) (t' := .int) (by decide +kernel) (by decide +kernel))))
    have f31 := ((((((p22_.other Wh2 (Or.inr (slot_ne (C := "com/example/dispersa/dispersa/internal/LayoutTable") (Or.inl (wd hw 149 rfl)) (Or.inl (wd hw 54 rfl)) (by decide) (t := .int) (t' := .int) (by decide +kernel) (by decide +kernel)))).other Wh4 (Or.inr (slot_ne (C := "com/example/dispersa/dispersa/internal/LayoutTable") (Or.inl (wd hw 149 rfl)) (Or.inl (wd hw 63 rfl)) (by decide) (t := .int) (t' := .int) (by decide +kernel) (by decide +kernel)))).other Wh5 (Or.inr (slot_ne (C := "com/example/dispersa/dispersa/internal/LayoutTable") (Or.inl (wd hw 149 rfl)) (Or.inl (wd hw 66 rfl)) (by decide) (t := .int) (t' := .boolean) (by decide +kernel) (by decide +kernel)))).other Wh7 (Or.inr (slot_ne (C := "com/example/dispersa/dispersa/internal/LayoutTable") (Or.inl (wd hw 149 rfl)) (Or.inl (wd hw 72 rfl)) (by decide) (t := .int) (t' := .boolean) (by decide +kernel) (by decide +kernel)))).other Wh8 (Or.inr (slot_ne (C := "com/example/dispersa/dispersa/internal/LayoutTable") (Or.inl (wd hw 149 rfl)) (Or.inl (wd hw 74 rfl)) (by decide) (t := .int) (t' := .int) (by decide +kernel) (by decide +kernel)))).other Wh9 (Or.inr (slot_ne (C := "com/example/dispersa/dispersa/internal/LayoutTable") (Or.inl (wd hw 149 rfl)) (Or.inl (wd hw 76 rfl)) (by decide) (t := .int) (t' := .int) (by decide +kernel) (by decide +kernel))))
    have f32 := ((((((p23_.other Wh2 (Or.inr (slot_ne (C := "com/example/dispersa/dispersa/internal/LayoutTable") (Or.inr (wd hw 79 rfl)) (Or.inl (wd hw 54 rfl)) (by decide) (t := (.array .int)) (t' := .int) (by decide +kernel) (by decide +kernel)))).other Wh4 (Or.inr (slot_ne (C := "com/example/dispersa/dispersa/internal/LayoutTable") (Or.inr (wd hw 79 rfl)) (Or.inl (wd hw 63 rfl)) (by decide) (t := (.array .int)) (t' := .int) (by decide +kernel) (by decide +kernel)))).other Wh5 (Or.inr (slot_ne (C := "com/example/dispersa/dispersa/internal/LayoutTable") (Or.inr (wd hw 79 rfl)) (Or.inl (wd hw 66 rfl)) (by decide) (t := (.array .int)) (t' := .boolean) (by decide +kernel) (by decide +kernel)))).other Wh7 (Or.inr (slot_ne (C := "com/example/dispersa/dispersa/internal/LayoutTable") (Or.inr (wd hw 79 rfl)) (Or.inl (wd hw 72 rfl)) (by decide) (t := (.array .int)) (t' := .boolean) (by decide +kernel) (by decide +kernel)))).other Wh8 (Or.inr (slot_ne (C := "com/example/dispersa/dispersa/internal/LayoutTable") (Or.inr (wd hw 79 rfl)) (Or.inl (wd hw 74 rfl)) (by decide) (t := (.array .int)) (t' := .int) (by decide +kernel) (by decide +kernel)))).other Wh9 (Or.inr (slot_ne (C := "com/example/dispersa/dispersa/internal/LayoutTable") (Or.inr (wd hw 79 rfl)) (Or.inl (wd hw 76 rfl)) (by decide) (t := (.array .int)) (t' := .int) (by decide +kernel) (by decide +kernel))))
    have f33 := ((((((p24_.other Wh2 (Or.inr (slot_ne (C := "com/example/dispersa/dispersa/internal/LayoutTable") (Or.inl (wd hw 210 rfl)) (Or.inl (wd hw 54 rfl)) (by decide) (t := .boolean) (t' := .int) (by decide +kernel) (by decide +kernel)))).other Wh4 (Or.inr (slot_ne (C := "com/example/dispersa/dispersa/internal/LayoutTable") (Or.inl (wd hw 210 rfl)) (Or.inl (wd hw 63 rfl)) (by decide) (t := .boolean) (t' := .int) (by decide +kernel) (by decide +kernel)))).other Wh5 (Or.inr (slot_ne (C := "com/example/dispersa/dispersa/internal/LayoutTable") (Or.inl (wd hw 210 rfl)) (Or.inl (wd hw 66 rfl)) (by decide) (t := .boolean) (t' := .boolean) (by decide +kernel) (by decide +kernel)))).other Wh7 (Or.inr (slot_ne (C := "com/example/dispersa/dispersa/internal/LayoutTable") (Or.inl (wd hw 210 rfl)) (Or.inl (wd hw 72 rfl)) (by decide) (t := .boolean) (t' := .boolean) (by decide +kernel) (by decide +kernel)))).other Wh8 (Or.inr (slot_ne (C := "com/example/dispersa/dispersa/internal/LayoutTable") (Or.inl (wd hw 210 rfl)) (Or.inl (wd hw 74 rfl)) (by decide) (t := .boolean) (t' := .int) (by decide +kernel) (by decide +kernel)))).other Wh9 (Or.inr (slot_ne (C := "com/example/dispersa/dispersa/internal/LayoutTable") (Or.inl (wd hw 210 rfl)) (Or.inl (wd hw 76 rfl)) (by decide) (t := .boolean) (t' := .int) (by decide +kernel) (by decide +kernel))))
    exact ⟨(m - (1 : Int32)), rfl, f17, f18, f19, f20, f21, f22, f23, f24, f25, f26, f27, f28, f29, (f15.same Wh9), f30, f31, f32, f33, (own_bc1 hm hc43)⟩
theorem dctor5_0 : decode prog_109_method_2_code 0 = .ok (.aload_n 0, 1) := by decide +kernel
theorem dctor5_1 : decode prog_109_method_2_code 1 = .ok (.invokespecial 9, 3) := by decide +kernel
theorem dctor5_4 : decode prog_109_method_2_code 4 = .ok (.iload 4, 2) := by decide +kernel
theorem dctor5_6 : decode prog_109_method_2_code 6 = .ok (.ifCond .eq 18, 3) := by decide +kernel
theorem dctor5_9 : decode prog_109_method_2_code 9 = .ok (.iload 5, 2) := by decide +kernel
theorem dctor5_11 : decode prog_109_method_2_code 11 = .ok (.ifCond .eq 13, 3) := by decide +kernel
theorem dctor5_14 : decode prog_109_method_2_code 14 = .ok (.new 14, 3) := by decide +kernel
theorem dctor5_17 : decode prog_109_method_2_code 17 = .ok (.dup, 1) := by decide +kernel
theorem dctor5_18 : decode prog_109_method_2_code 18 = .ok (.ldc 16, 2) := by decide +kernel
theorem dctor5_20 : decode prog_109_method_2_code 20 = .ok (.invokespecial 18, 3) := by decide +kernel
theorem dctor5_23 : decode prog_109_method_2_code 23 = .ok (.athrow, 1) := by decide +kernel
theorem dctor5_24 : decode prog_109_method_2_code 24 = .ok (.aload_n 0, 1) := by decide +kernel
theorem dctor5_25 : decode prog_109_method_2_code 25 = .ok (.aload_n 1, 1) := by decide +kernel
theorem dctor5_26 : decode prog_109_method_2_code 26 = .ok (.putfield 21, 3) := by decide +kernel
theorem dctor5_29 : decode prog_109_method_2_code 29 = .ok (.aload_n 0, 1) := by decide +kernel
theorem dctor5_30 : decode prog_109_method_2_code 30 = .ok (.iload_n 3, 1) := by decide +kernel
theorem dctor5_31 : decode prog_109_method_2_code 31 = .ok (.putfield 25, 3) := by decide +kernel
theorem dctor5_34 : decode prog_109_method_2_code 34 = .ok (.aload_n 0, 1) := by decide +kernel
theorem dctor5_35 : decode prog_109_method_2_code 35 = .ok (.iload 4, 2) := by decide +kernel
theorem dctor5_37 : decode prog_109_method_2_code 37 = .ok (.putfield 29, 3) := by decide +kernel
theorem dctor5_40 : decode prog_109_method_2_code 40 = .ok (.aload_n 0, 1) := by decide +kernel
theorem dctor5_41 : decode prog_109_method_2_code 41 = .ok (.iload 5, 2) := by decide +kernel
theorem dctor5_43 : decode prog_109_method_2_code 43 = .ok (.putfield 32, 3) := by decide +kernel
theorem dctor5_46 : decode prog_109_method_2_code 46 = .ok (.aload_n 0, 1) := by decide +kernel
theorem dctor5_47 : decode prog_109_method_2_code 47 = .ok (.iload_n 3, 1) := by decide +kernel
theorem dctor5_48 : decode prog_109_method_2_code 48 = .ok (.ifCond .ne 7, 3) := by decide +kernel
theorem dctor5_51 : decode prog_109_method_2_code 51 = .ok (.iconst 1, 1) := by decide +kernel
theorem dctor5_52 : decode prog_109_method_2_code 52 = .ok (.goto 4, 3) := by decide +kernel
theorem dctor5_55 : decode prog_109_method_2_code 55 = .ok (.iconst 0, 1) := by decide +kernel
theorem dctor5_56 : decode prog_109_method_2_code 56 = .ok (.putfield 35, 3) := by decide +kernel
theorem dctor5_59 : decode prog_109_method_2_code 59 = .ok (.aload_n 0, 1) := by decide +kernel
theorem dctor5_60 : decode prog_109_method_2_code 60 = .ok (.iload_n 3, 1) := by decide +kernel
theorem dctor5_61 : decode prog_109_method_2_code 61 = .ok (.putfield 38, 3) := by decide +kernel
theorem dctor5_64 : decode prog_109_method_2_code 64 = .ok (.aload_n 0, 1) := by decide +kernel
theorem dctor5_65 : decode prog_109_method_2_code 65 = .ok (.iload_n 2, 1) := by decide +kernel
theorem dctor5_66 : decode prog_109_method_2_code 66 = .ok (.invokevirtual 41, 3) := by decide +kernel
theorem dctor5_69 : decode prog_109_method_2_code 69 = .ok (.return_, 1) := by decide +kernel
set_option maxRecDepth 65536 in
set_option maxHeartbeats 40000000 in
theorem ctor5 (l : Launch) (Z : State) (a0 : Array Value) (hw : ∀ d ∈ tables_1, d.before a0 Z = true) (t : Addr) (lin : Addr) (m : Int32) (h : Heap) (n0 : Nat) (p0_ : Old Z n0 h) (p1_ : Sta Z Z.heap "com/example/dispersa/dispersa/internal/ProbeSequence" "LINEAR" "Lcom/example/dispersa/dispersa/internal/ProbeSequence;" (.ref lin)) (p2_ : Exa Z Z.heap lin "com/example/dispersa/dispersa/internal/ProbeSequence") (p3_ : Fld Z Z.heap lin "java/lang/Enum" "ordinal" "I" (.int (0 : Int32))) (p4_ : Fld Z Z.heap lin "com/example/dispersa/dispersa/internal/ProbeSequence" "hashedStep" "Z" (.int (0 : Int32))) (p5_ : Fld Z Z.heap lin "com/example/dispersa/dispersa/internal/ProbeSequence" "growth" "I" (.int (0 : Int32))) (p6_ : Exa Z h t "com/example/dispersa/dispersa/internal/LayoutTable") (p7_ : n0 ≤ t) (hm : 2 ≤ m.toInt ∧ m.toInt ≤ 5) (p9_ : Fld Z h t "com/example/dispersa/dispersa/internal/SlotTable" "probing" "Lcom/example/dispersa/dispersa/internal/ProbeSequence;" .null) (p10_ : Fld Z h t "com/example/dispersa/dispersa/internal/SlotTable" "bounded" "Z" (.int (0 : Int32))) (p11_ : Fld Z h t "com/example/dispersa/dispersa/internal/SlotTable" "marksHomes" "Z" (.int (0 : Int32))) (p12_ : Fld Z h t "com/example/dispersa/dispersa/internal/SlotTable" "ordersRuns" "Z" (.int (0 : Int32))) (p13_ : Fld Z h t "com/example/dispersa/dispersa/internal/SlotTable" "counting" "Z" (.int (0 : Int32))) (p14_ : Fld Z h t "com/example/dispersa/dispersa/internal/SlotTable" "stopsAtReach" "Z" (.int (0 : Int32))) (p15_ : Fld Z h t "com/example/dispersa/dispersa/internal/SlotTable" "length" "I" (.int (0 : Int32))) (p16_ : Fld Z h t "com/example/dispersa/dispersa/internal/SlotTable" "mask" "I" (.int (0 : Int32))) (p17_ : Fld Z h t "com/example/dispersa/dispersa/internal/SlotTable" "linear" "Z" (.int (0 : Int32))) (p18_ : Fld Z h t "com/example/dispersa/dispersa/internal/SlotTable" "goesOn" "Z" (.int (0 : Int32))) (p19_ : Fld Z h t "com/example/dispersa/dispersa/internal/SlotTable" "markers" "I" (.int (0 : Int32))) (p20_ : Fld Z h t "com/example/dispersa/dispersa/internal/SlotTable" "reach" "I" (.int (0 : Int32))) (p21_ : Fld Z h t "com/example/dispersa/dispersa/internal/SlotTable" "probes" "J" (.long (0 : Int64))) (p22_ : Fld Z h t "com/example/dispersa/dispersa/internal/SlotTable" "position" "I" (.int (0 : Int32))) (p23_ : Fld Z h t "com/example/dispersa/dispersa/internal/LayoutTable" "keys" "[I" .null) (p24_ : Fld Z h t "com/example/dispersa/dispersa/internal/LayoutTable" "turnedAway" "Z" (.int (0 : Int32))) :
    Met l (⟨"com/example/dispersa/dispersa/internal/SlotTable", "<init>", "(Lcom/example/dispersa/dispersa/internal/ProbeSequence;IZZZ)V"⟩ : MethodName) prog_109_method_2_code 6 none [] ({ frames := 3, cells := 0, slots := 0, locals := 60 } : Room) #[(.ref t), (.ref lin), (.int m), (.int (0 : Int32)), (.int (0 : Int32)), (.int (0 : Int32))] Z h n0 (fun v h' => ∃ (mk : Int32), v = none ∧ Keep h h' [t] ∧ Exa Z h' t "com/example/dispersa/dispersa/internal/LayoutTable" ∧ Fld Z h' t "com/example/dispersa/dispersa/internal/SlotTable" "probing" "Lcom/example/dispersa/dispersa/internal/ProbeSequence;" (.ref lin) ∧ Fld Z h' t "com/example/dispersa/dispersa/internal/SlotTable" "bounded" "Z" (.int (0 : Int32)) ∧ Fld Z h' t "com/example/dispersa/dispersa/internal/SlotTable" "marksHomes" "Z" (.int (0 : Int32)) ∧ Fld Z h' t "com/example/dispersa/dispersa/internal/SlotTable" "ordersRuns" "Z" (.int (0 : Int32)) ∧ Fld Z h' t "com/example/dispersa/dispersa/internal/SlotTable" "counting" "Z" (.int (1 : Int32)) ∧ Fld Z h' t "com/example/dispersa/dispersa/internal/SlotTable" "stopsAtReach" "Z" (.int (0 : Int32)) ∧ Fld Z h' t "com/example/dispersa/dispersa/internal/SlotTable" "length" "I" (.int m) ∧ Fld Z h' t "com/example/dispersa/dispersa/internal/SlotTable" "mask" "I" (.int mk) ∧ Fld Z h' t "com/example/dispersa/dispersa/internal/SlotTable" "linear" "Z" (.int (0 : Int32)) ∧ Fld Z h' t "com/example/dispersa/dispersa/internal/SlotTable" "goesOn" "Z" (.int (0 : Int32)) ∧ Fld Z h' t "com/example/dispersa/dispersa/internal/SlotTable" "markers" "I" (.int (0 : Int32)) ∧ Fld Z h' t "com/example/dispersa/dispersa/internal/SlotTable" "reach" "I" (.int (0 : Int32)) ∧ Fld Z h' t "com/example/dispersa/dispersa/internal/SlotTable" "probes" "J" (.long (0 : Int64)) ∧ Fld Z h' t "com/example/dispersa/dispersa/internal/SlotTable" "position" "I" (.int (0 : Int32)) ∧ Fld Z h' t "com/example/dispersa/dispersa/internal/LayoutTable" "keys" "[I" .null ∧ Fld Z h' t "com/example/dispersa/dispersa/internal/LayoutTable" "turnedAway" "Z" (.int (0 : Int32)) ∧ own_mk m mk) := by
  refine Met.of (plainFor_of_name (by first | (simp [plainName, overriddenIn]; done) | decide +kernel)) ?_
  intro pP eE sS mM bB tT cC K
  refine Go.entry (ls := #[.val (.ref t), .val (.ref lin), .val (.int m), .val (.int (0 : Int32)), .val (.int (0 : Int32)), .val (.int (0 : Int32))]) (by first | (simp [argsToLocals, Value.category]; done) | rfl) ?_
  refine go_aloadN (q := 1) K dctor5_0 rfl rfl rfl ?_
  refine go_initO (q := 4) (W := 0) K (wd hw 18 rfl) (wd hw 19 rfl) (wd hw 20 rfl) dctor5_1 rfl rfl (by decide) (by decide) rfl ?_
  refine go_iload (q := 6) K dctor5_4 rfl rfl ?_
  refine go_if0 (q := 24) (q' := 9) K dctor5_6 (by decide) rfl rfl (fun _ => ?_) (fun hn => cN_no2 hn (show (0 : Int32) = (0 : Int32) from (by decide)))
  refine go_aloadN (q := 25) K dctor5_24 rfl rfl rfl ?_
  refine go_aloadN (q := 26) K dctor5_25 rfl rfl rfl ?_
  refine go_putF (q := 29) K (wd hw 21 rfl) Via.refl p9_ p6_ (Or.inr ⟨(wd hw 22 rfl), rfl, rfl⟩) (wd hw 2 rfl) (ty := (.object "com/example/dispersa/dispersa/internal/ProbeSequence")) (by decide +kernel) rfl rfl p7_ dctor5_26 rfl ?_
  intro h1 Wh1
  refine go_aloadN (q := 30) K dctor5_29 rfl rfl rfl ?_
  refine go_iloadN (q := 31) K dctor5_30 rfl rfl ?_
  have f1 := (p10_.other Wh1 (Or.inr (slot_ne (C := "com/example/dispersa/dispersa/internal/LayoutTable") (Or.inr (wd hw 24 rfl)) (Or.inr (wd hw 22 rfl)) (by decide) (t := .boolean) (t' := (.object "com/example/dispersa/dispersa/internal/ProbeSequence")) (by decide +kernel) (by decide +kernel))))
  have f2 := (p6_.wr Wh1)
  refine go_putF (q := 34) K (wd hw 23 rfl) Via.refl f1 f2 (Or.inr ⟨(wd hw 24 rfl), rfl, rfl⟩) (wd hw 2 rfl) (ty := .boolean) (by decide +kernel) rfl rfl p7_ dctor5_31 rfl ?_
  intro h2 Wh2
  refine go_aloadN (q := 35) K dctor5_34 rfl rfl rfl ?_
  refine go_iload (q := 37) K dctor5_35 rfl rfl ?_
  have f3 := ((p11_.other Wh1 (Or.inr (slot_ne (C := "com/example/dispersa/dispersa/internal/LayoutTable") (Or.inr (wd hw 26 rfl)) (Or.inr (wd hw 22 rfl)) (by decide) (t := .boolean) (t' := (.object "com/example/dispersa/dispersa/internal/ProbeSequence")) (by decide +kernel) (by decide +kernel)))).other Wh2 (Or.inr (slot_ne (C := "com/example/dispersa/dispersa/internal/LayoutTable") (Or.inr (wd hw 26 rfl)) (Or.inr (wd hw 24 rfl)) (by decide) (t := .boolean) (t' := .boolean) (by decide +kernel) (by decide +kernel))))
  have f4 := (f2.wr Wh2)
  refine go_putF (q := 40) K (wd hw 25 rfl) Via.refl f3 f4 (Or.inr ⟨(wd hw 26 rfl), rfl, rfl⟩) (wd hw 2 rfl) (ty := .boolean) (by decide +kernel) rfl rfl p7_ dctor5_37 rfl ?_
  intro h3 Wh3
  refine go_aloadN (q := 41) K dctor5_40 rfl rfl rfl ?_
  refine go_iload (q := 43) K dctor5_41 rfl rfl ?_
  have f5 := (((p12_.other Wh1 (Or.inr (slot_ne (C := "com/example/dispersa/dispersa/internal/LayoutTable") (Or.inr (wd hw 28 rfl)) (Or.inr (wd hw 22 rfl)) (by decide) (t := .boolean) (t' := (.object "com/example/dispersa/dispersa/internal/ProbeSequence")) (by decide +kernel) (by decide +kernel)))).other Wh2 (Or.inr (slot_ne (C := "com/example/dispersa/dispersa/internal/LayoutTable") (Or.inr (wd hw 28 rfl)) (Or.inr (wd hw 24 rfl)) (by decide) (t := .boolean) (t' := .boolean) (by decide +kernel) (by decide +kernel)))).other Wh3 (Or.inr (slot_ne (C := "com/example/dispersa/dispersa/internal/LayoutTable") (Or.inr (wd hw 28 rfl)) (Or.inr (wd hw 26 rfl)) (by decide) (t := .boolean) (t' := .boolean) (by decide +kernel) (by decide +kernel))))
  have f6 := (f4.wr Wh3)
  refine go_putF (q := 46) K (wd hw 27 rfl) Via.refl f5 f6 (Or.inr ⟨(wd hw 28 rfl), rfl, rfl⟩) (wd hw 2 rfl) (ty := .boolean) (by decide +kernel) rfl rfl p7_ dctor5_43 rfl ?_
  intro h4 Wh4
  refine go_aloadN (q := 47) K dctor5_46 rfl rfl rfl ?_
  refine go_iloadN (q := 48) K dctor5_47 rfl rfl ?_
  refine go_if0 (q := 55) (q' := 51) K dctor5_48 (by decide) rfl rfl (fun hn => cN_no hn (show (0 : Int32) = (0 : Int32) from (by decide))) (fun _ => ?_)
  refine go_iconst (q := 52) K dctor5_51 (1 : Int32) rfl rfl ?_
  refine go_goto (q := 56) K dctor5_52 (by decide) rfl ?_
  have f7 := ((((p13_.other Wh1 (Or.inr (slot_ne (C := "com/example/dispersa/dispersa/internal/LayoutTable") (Or.inl (wd hw 30 rfl)) (Or.inr (wd hw 22 rfl)) (by decide) (t := .boolean) (t' := (.object "com/example/dispersa/dispersa/internal/ProbeSequence")) (by decide +kernel) (by decide +kernel)))).other Wh2 (Or.inr (slot_ne (C := "com/example/dispersa/dispersa/internal/LayoutTable") (Or.inl (wd hw 30 rfl)) (Or.inr (wd hw 24 rfl)) (by decide) (t := .boolean) (t' := .boolean) (by decide +kernel) (by decide +kernel)))).other Wh3 (Or.inr (slot_ne (C := "com/example/dispersa/dispersa/internal/LayoutTable") (Or.inl (wd hw 30 rfl)) (Or.inr (wd hw 26 rfl)) (by decide) (t := .boolean) (t' := .boolean) (by decide +kernel) (by decide +kernel)))).other Wh4 (Or.inr (slot_ne (C := "com/example/dispersa/dispersa/internal/LayoutTable") (Or.inl (wd hw 30 rfl)) (Or.inr (wd hw 28 rfl)) (by decide) (t := .boolean) (t' := .boolean) (by decide +kernel) (by decide +kernel))))
  have f8 := (f6.wr Wh4)
  refine go_putF (q := 59) K (wd hw 29 rfl) Via.refl f7 f8 (Or.inl (wd hw 30 rfl)) (wd hw 2 rfl) (ty := .boolean) (by decide +kernel) rfl rfl p7_ dctor5_56 rfl ?_
  intro h5 Wh5
  refine go_aloadN (q := 60) K dctor5_59 rfl rfl rfl ?_
  refine go_iloadN (q := 61) K dctor5_60 rfl rfl ?_
  have f9 := (((((p14_.other Wh1 (Or.inr (slot_ne (C := "com/example/dispersa/dispersa/internal/LayoutTable") (Or.inl (wd hw 32 rfl)) (Or.inr (wd hw 22 rfl)) (by decide) (t := .boolean) (t' := (.object "com/example/dispersa/dispersa/internal/ProbeSequence")) (by decide +kernel) (by decide +kernel)))).other Wh2 (Or.inr (slot_ne (C := "com/example/dispersa/dispersa/internal/LayoutTable") (Or.inl (wd hw 32 rfl)) (Or.inr (wd hw 24 rfl)) (by decide) (t := .boolean) (t' := .boolean) (by decide +kernel) (by decide +kernel)))).other Wh3 (Or.inr (slot_ne (C := "com/example/dispersa/dispersa/internal/LayoutTable") (Or.inl (wd hw 32 rfl)) (Or.inr (wd hw 26 rfl)) (by decide) (t := .boolean) (t' := .boolean) (by decide +kernel) (by decide +kernel)))).other Wh4 (Or.inr (slot_ne (C := "com/example/dispersa/dispersa/internal/LayoutTable") (Or.inl (wd hw 32 rfl)) (Or.inr (wd hw 28 rfl)) (by decide) (t := .boolean) (t' := .boolean) (by decide +kernel) (by decide +kernel)))).other Wh5 (Or.inr (slot_ne (C := "com/example/dispersa/dispersa/internal/LayoutTable") (Or.inl (wd hw 32 rfl)) (Or.inl (wd hw 30 rfl)) (by decide) (t := .boolean) (t' := .boolean) (by decide +kernel) (by decide +kernel))))
  have f10 := (f8.wr Wh5)
  refine go_putF (q := 64) K (wd hw 31 rfl) Via.refl f9 f10 (Or.inl (wd hw 32 rfl)) (wd hw 2 rfl) (ty := .boolean) (by decide +kernel) rfl rfl p7_ dctor5_61 rfl ?_
  intro h6 Wh6
  refine go_aloadN (q := 65) K dctor5_64 rfl rfl rfl ?_
  refine go_iloadN (q := 66) K dctor5_65 rfl rfl ?_
  have f11 := ((((((p0_.wr Wh1 p7_).wr Wh2 p7_).wr Wh3 p7_).wr Wh4 p7_).wr Wh5 p7_).wr Wh6 p7_)
  have f12 := (f10.wr Wh6)
  have f13 := ((((((p9_.same Wh1).other Wh2 (Or.inr (slot_ne (C := "com/example/dispersa/dispersa/internal/LayoutTable") (Or.inr (wd hw 22 rfl)) (Or.inr (wd hw 24 rfl)) (by decide) (t := (.object "com/example/dispersa/dispersa/internal/ProbeSequence")) (t' := .boolean) (by decide +kernel) (by decide +kernel)))).other Wh3 (Or.inr (slot_ne (C := "com/example/dispersa/dispersa/internal/LayoutTable") (Or.inr (wd hw 22 rfl)) (Or.inr (wd hw 26 rfl)) (by decide) (t := (.object "com/example/dispersa/dispersa/internal/ProbeSequence")) (t' := .boolean) (by decide +kernel) (by decide +kernel)))).other Wh4 (Or.inr (slot_ne (C := "com/example/dispersa/dispersa/internal/LayoutTable") (Or.inr (wd hw 22 rfl)) (Or.inr (wd hw 28 rfl)) (by decide) (t := (.object "com/example/dispersa/dispersa/internal/ProbeSequence")) (t' := .boolean) (by decide +kernel) (by decide +kernel)))).other Wh5 (Or.inr (slot_ne (C := "com/example/dispersa/dispersa/internal/LayoutTable") (Or.inr (wd hw 22 rfl)) (Or.inl (wd hw 30 rfl)) (by decide) (t := (.object "com/example/dispersa/dispersa/internal/ProbeSequence")) (t' := .boolean) (by decide +kernel) (by decide +kernel)))).other Wh6 (Or.inr (slot_ne (C := "com/example/dispersa/dispersa/internal/LayoutTable") (Or.inr (wd hw 22 rfl)) (Or.inl (wd hw 32 rfl)) (by decide) (t := (.object "com/example/dispersa/dispersa/internal/ProbeSequence")) (t' := .boolean) (by decide +kernel) (by decide +kernel))))
  have f14 := (((((f1.same Wh2).other Wh3 (Or.inr (slot_ne (C := "com/example/dispersa/dispersa/internal/LayoutTable") (Or.inr (wd hw 24 rfl)) (Or.inr (wd hw 26 rfl)) (by decide) (t := .boolean) (t' := .boolean) (by decide +kernel) (by decide +kernel)))).other Wh4 (Or.inr (slot_ne (C := "com/example/dispersa/dispersa/internal/LayoutTable") (Or.inr (wd hw 24 rfl)) (Or.inr (wd hw 28 rfl)) (by decide) (t := .boolean) (t' := .boolean) (by decide +kernel) (by decide +kernel)))).other Wh5 (Or.inr (slot_ne (C := "com/example/dispersa/dispersa/internal/LayoutTable") (Or.inr (wd hw 24 rfl)) (Or.inl (wd hw 30 rfl)) (by decide) (t := .boolean) (t' := .boolean) (by decide +kernel) (by decide +kernel)))).other Wh6 (Or.inr (slot_ne (C := "com/example/dispersa/dispersa/internal/LayoutTable") (Or.inr (wd hw 24 rfl)) (Or.inl (wd hw 32 rfl)) (by decide) (t := .boolean) (t' := .boolean) (by decide +kernel) (by decide +kernel))))
  have f15 := ((((f3.same Wh3).other Wh4 (Or.inr (slot_ne (C := "com/example/dispersa/dispersa/internal/LayoutTable") (Or.inr (wd hw 26 rfl)) (Or.inr (wd hw 28 rfl)) (by decide) (t := .boolean) (t' := .boolean) (by decide +kernel) (by decide +kernel)))).other Wh5 (Or.inr (slot_ne (C := "com/example/dispersa/dispersa/internal/LayoutTable") (Or.inr (wd hw 26 rfl)) (Or.inl (wd hw 30 rfl)) (by decide) (t := .boolean) (t' := .boolean) (by decide +kernel) (by decide +kernel)))).other Wh6 (Or.inr (slot_ne (C := "com/example/dispersa/dispersa/internal/LayoutTable") (Or.inr (wd hw 26 rfl)) (Or.inl (wd hw 32 rfl)) (by decide) (t := .boolean) (t' := .boolean) (by decide +kernel) (by decide +kernel))))
  have f16 := (((f5.same Wh4).other Wh5 (Or.inr (slot_ne (C := "com/example/dispersa/dispersa/internal/LayoutTable") (Or.inr (wd hw 28 rfl)) (Or.inl (wd hw 30 rfl)) (by decide) (t := .boolean) (t' := .boolean) (by decide +kernel) (by decide +kernel)))).other Wh6 (Or.inr (slot_ne (C := "com/example/dispersa/dispersa/internal/LayoutTable") (Or.inr (wd hw 28 rfl)) (Or.inl (wd hw 32 rfl)) (by decide) (t := .boolean) (t' := .boolean) (by decide +kernel) (by decide +kernel))))
  have f17 := ((f7.same Wh5).other Wh6 (Or.inr (slot_ne (C := "com/example/dispersa/dispersa/internal/LayoutTable") (Or.inl (wd hw 30 rfl)) (Or.inl (wd hw 32 rfl)) (by decide) (t := .boolean) (t' := .boolean) (by decide +kernel) (by decide +kernel))))
  have f18 := ((((((p15_.other Wh1 (Or.inr (slot_ne (C := "com/example/dispersa/dispersa/internal/LayoutTable") (Or.inl (wd hw 54 rfl)) (Or.inr (wd hw 22 rfl)) (by decide) (t := .int) (t' := (.object "com/example/dispersa/dispersa/internal/ProbeSequence")) (by decide +kernel) (by decide +kernel)))).other Wh2 (Or.inr (slot_ne (C := "com/example/dispersa/dispersa/internal/LayoutTable") (Or.inl (wd hw 54 rfl)) (Or.inr (wd hw 24 rfl)) (by decide) (t := .int) (t' := .boolean) (by decide +kernel) (by decide +kernel)))).other Wh3 (Or.inr (slot_ne (C := "com/example/dispersa/dispersa/internal/LayoutTable") (Or.inl (wd hw 54 rfl)) (Or.inr (wd hw 26 rfl)) (by decide) (t := .int) (t' := .boolean) (by decide +kernel) (by decide +kernel)))).other Wh4 (Or.inr (slot_ne (C := "com/example/dispersa/dispersa/internal/LayoutTable") (Or.inl (wd hw 54 rfl)) (Or.inr (wd hw 28 rfl)) (by decide) (t := .int) (t' := .boolean) (by decide +kernel) (by decide +kernel)))).other Wh5 (Or.inr (slot_ne (C := "com/example/dispersa/dispersa/internal/LayoutTable") (Or.inl (wd hw 54 rfl)) (Or.inl (wd hw 30 rfl)) (by decide) (t := .int) (t' := .boolean) (by decide +kernel) (by decide +kernel)))).other Wh6 (Or.inr (slot_ne (C := "com/example/dispersa/dispersa/internal/LayoutTable") (Or.inl (wd hw 54 rfl)) (Or.inl (wd hw 32 rfl)) (by decide) (t := .int) (t' := .boolean) (by decide +kernel) (by decide +kernel))))
  have f19 := ((((((p16_.other Wh1 (Or.inr (slot_ne (C := "com/example/dispersa/dispersa/internal/LayoutTable") (Or.inl (wd hw 63 rfl)) (Or.inr (wd hw 22 rfl)) (by decide) (t := .int) (t' := (.object "com/example/dispersa/dispersa/internal/ProbeSequence")) (by decide +kernel) (by decide +kernel)))).other Wh2 (Or.inr (slot_ne (C := "com/example/dispersa/dispersa/internal/LayoutTable") (Or.inl (wd hw 63 rfl)) (Or.inr (wd hw 24 rfl)) (by decide) (t := .int) (t' := .boolean) (by decide +kernel) (by decide +kernel)))).other Wh3 (Or.inr (slot_ne (C := "com/example/dispersa/dispersa/internal/LayoutTable") (Or.inl (wd hw 63 rfl)) (Or.inr (wd hw 26 rfl)) (by decide) (t := .int) (t' := .boolean) (by decide +kernel) (by decide +kernel)))).other Wh4 (Or.inr (slot_ne (C := "com/example/dispersa/dispersa/internal/LayoutTable") (Or.inl (wd hw 63 rfl)) (Or.inr (wd hw 28 rfl)) (by decide) (t := .int) (t' := .boolean) (by decide +kernel) (by decide +kernel)))).other Wh5 (Or.inr (slot_ne (C := "com/example/dispersa/dispersa/internal/LayoutTable") (Or.inl (wd hw 63 rfl)) (Or.inl (wd hw 30 rfl)) (by decide) (t := .int) (t' := .boolean) (by decide +kernel) (by decide +kernel)))).other Wh6 (Or.inr (slot_ne (C := "com/example/dispersa/dispersa/internal/LayoutTable") (Or.inl (wd hw 63 rfl)) (Or.inl (wd hw 32 rfl)) (by decide) (t := .int) (t' := .boolean) (by decide +kernel) (by decide +kernel))))
  have f20 := ((((((p17_.other Wh1 (Or.inr (slot_ne (C := "com/example/dispersa/dispersa/internal/LayoutTable") (Or.inl (wd hw 66 rfl)) (Or.inr (wd hw 22 rfl)) (by decide) (t := .boolean) (t' := (.object "com/example/dispersa/dispersa/internal/ProbeSequence")) (by decide +kernel) (by decide +kernel)))).other Wh2 (Or.inr (slot_ne (C := "com/example/dispersa/dispersa/internal/LayoutTable") (Or.inl (wd hw 66 rfl)) (Or.inr (wd hw 24 rfl)) (by decide) (t := .boolean) (t' := .boolean) (by decide +kernel) (by decide +kernel)))).other Wh3 (Or.inr (slot_ne (C := "com/example/dispersa/dispersa/internal/LayoutTable") (Or.inl (wd hw 66 rfl)) (Or.inr (wd hw 26 rfl)) (by decide) (t := .boolean) (t' := .boolean) (by decide +kernel) (by decide +kernel)))).other Wh4 (Or.inr (slot_ne (C := "com/example/dispersa/dispersa/internal/LayoutTable") (Or.inl (wd hw 66 rfl)) (Or.inr (wd hw 28 rfl)) (by decide) (t := .boolean) (t' := .boolean) (by decide +kernel) (by decide +kernel)))).other Wh5 (Or.inr (slot_ne (C := "com/example/dispersa/dispersa/internal/LayoutTable") (Or.inl (wd hw 66 rfl)) (Or.inl (wd hw 30 rfl)) (by decide) (t := .boolean) (t' := .boolean) (by decide +kernel) (by decide +kernel)))).other Wh6 (Or.inr (slot_ne (C := "com/example/dispersa/dispersa/internal/LayoutTable") (Or.inl (wd hw 66 rfl)) (Or.inl (wd hw 32 rfl)) (by decide) (t := .boolean) (t' := .boolean) (by decide +kernel) (by decide +kernel))))
  have f21 := ((((((p18_.other Wh1 (Or.inr (slot_ne (C := "com/example/dispersa/dispersa/internal/LayoutTable") (Or.inl (wd hw 72 rfl)) (Or.inr (wd hw 22 rfl)) (by decide) (t := .boolean) (t' := (.object "com/example/dispersa/dispersa/internal/ProbeSequence")) (by decide +kernel) (by decide +kernel)))).other Wh2 (Or.inr (slot_ne (C := "com/example/dispersa/dispersa/internal/LayoutTable") (Or.inl (wd hw 72 rfl)) (Or.inr (wd hw 24 rfl)) (by decide) (t := .boolean) (t' := .boolean) (by decide +kernel) (by decide +kernel)))).other Wh3 (Or.inr (slot_ne (C := "com/example/dispersa/dispersa/internal/LayoutTable") (Or.inl (wd hw 72 rfl)) (Or.inr (wd hw 26 rfl)) (by decide) (t := .boolean) (t' := .boolean) (by decide +kernel) (by decide +kernel)))).other Wh4 (Or.inr (slot_ne (C := "com/example/dispersa/dispersa/internal/LayoutTable") (Or.inl (wd hw 72 rfl)) (Or.inr (wd hw 28 rfl)) (by decide) (t := .boolean) (t' := .boolean) (by decide +kernel) (by decide +kernel)))).other Wh5 (Or.inr (slot_ne (C := "com/example/dispersa/dispersa/internal/LayoutTable") (Or.inl (wd hw 72 rfl)) (Or.inl (wd hw 30 rfl)) (by decide) (t := .boolean) (t' := .boolean) (by decide +kernel) (by decide +kernel)))).other Wh6 (Or.inr (slot_ne (C := "com/example/dispersa/dispersa/internal/LayoutTable") (Or.inl (wd hw 72 rfl)) (Or.inl (wd hw 32 rfl)) (by decide) (t := .boolean) (t' := .boolean) (by decide +kernel) (by decide +kernel))))
  have f22 := ((((((p19_.other Wh1 (Or.inr (slot_ne (C := "com/example/dispersa/dispersa/internal/LayoutTable") (Or.inl (wd hw 74 rfl)) (Or.inr (wd hw 22 rfl)) (by decide) (t := .int) (t' := (.object "com/example/dispersa/dispersa/internal/ProbeSequence")) (by decide +kernel) (by decide +kernel)))).other Wh2 (Or.inr (slot_ne (C := "com/example/dispersa/dispersa/internal/LayoutTable") (Or.inl (wd hw 74 rfl)) (Or.inr (wd hw 24 rfl)) (by decide) (t := .int) (t' := .boolean) (by decide +kernel) (by decide +kernel)))).other Wh3 (Or.inr (slot_ne (C := "com/example/dispersa/dispersa/internal/LayoutTable") (Or.inl (wd hw 74 rfl)) (Or.inr (wd hw 26 rfl)) (by decide) (t := .int) (t' := .boolean) (by decide +kernel) (by decide +kernel)))).other Wh4 (Or.inr (slot_ne (C := "com/example/dispersa/dispersa/internal/LayoutTable") (Or.inl (wd hw 74 rfl)) (Or.inr (wd hw 28 rfl)) (by decide) (t := .int) (t' := .boolean) (by decide +kernel) (by decide +kernel)))).other Wh5 (Or.inr (slot_ne (C := "com/example/dispersa/dispersa/internal/LayoutTable") (Or.inl (wd hw 74 rfl)) (Or.inl (wd hw 30 rfl)) (by decide) (t := .int) (t' := .boolean) (by decide +kernel) (by decide +kernel)))).other Wh6 (Or.inr (slot_ne (C := "com/example/dispersa/dispersa/internal/LayoutTable") (Or.inl (wd hw 74 rfl)) (Or.inl (wd hw 32 rfl)) (by decide) (t := .int) (t' := .boolean) (by decide +kernel) (by decide +kernel))))
  have f23 := ((((((p20_.other Wh1 (Or.inr (slot_ne (C := "com/example/dispersa/dispersa/internal/LayoutTable") (Or.inl (wd hw 76 rfl)) (Or.inr (wd hw 22 rfl)) (by decide) (t := .int) (t' := (.object "com/example/dispersa/dispersa/internal/ProbeSequence")) (by decide +kernel) (by decide +kernel)))).other Wh2 (Or.inr (slot_ne (C := "com/example/dispersa/dispersa/internal/LayoutTable") (Or.inl (wd hw 76 rfl)) (Or.inr (wd hw 24 rfl)) (by decide) (t := .int) (t' := .boolean) (by decide +kernel) (by decide +kernel)))).other Wh3 (Or.inr (slot_ne (C := "com/example/dispersa/dispersa/internal/LayoutTable") (Or.inl (wd hw 76 rfl)) (Or.inr (wd hw 26 rfl)) (by decide) (t := .int) (t' := .boolean) (by decide +kernel) (by decide +kernel)))).other Wh4 (Or.inr (slot_ne (C := "com/example/dispersa/dispersa/internal/LayoutTable") (Or.inl (wd hw 76 rfl)) (Or.inr (wd hw 28 rfl)) (by decide) (t := .int) (t' := .boolean) (by decide +kernel) (by decide +kernel)))).other Wh5 (Or.inr (slot_ne (C := "com/example/dispersa/dispersa/internal/LayoutTable") (Or.inl (wd hw 76 rfl)) (Or.inl (wd hw 30 rfl)) (by decide) (t := .int) (t' := .boolean) (by decide +kernel) (by decide +kernel)))).other Wh6 (Or.inr (slot_ne (C := "com/example/dispersa/dispersa/internal/LayoutTable") (Or.inl (wd hw 76 rfl)) (Or.inl (wd hw 32 rfl)) (by decide) (t := .int) (t' := .boolean) (by decide +kernel) (by decide +kernel))))
  have f24 := ((((((p21_.other Wh1 (Or.inr (slot_ne (C := "com/example/dispersa/dispersa/internal/LayoutTable") (Or.inl (wd hw 147 rfl)) (Or.inr (wd hw 22 rfl)) (by decide) (t := .long) (t' := (.object "com/example/dispersa/dispersa/internal/ProbeSequence")) (by decide +kernel) (by decide +kernel)))).other Wh2 (Or.inr (slot_ne (C := "com/example/dispersa/dispersa/internal/LayoutTable") (Or.inl (wd hw 147 rfl)) (Or.inr (wd hw 24 rfl)) (by decide) (t := .long) (t' := .boolean) (by decide +kernel) (by decide +kernel)))).other Wh3 (Or.inr (slot_ne (C := "com/example/dispersa/dispersa/internal/LayoutTable") (Or.inl (wd hw 147 rfl)) (Or.inr (wd hw 26 rfl)) (by decide) (t := .long) (t' := .boolean) (by decide +kernel) (by decide +kernel)))).other Wh4 (Or.inr (slot_ne (C := "com/example/dispersa/dispersa/internal/LayoutTable") (Or.inl (wd hw 147 rfl)) (Or.inr (wd hw 28 rfl)) (by decide) (t := .long) (t' := .boolean) (by decide +kernel) (by decide +kernel)))).other Wh5 (Or.inr (slot_ne (C := "com/example/dispersa/dispersa/internal/LayoutTable") (Or.inl (wd hw 147 rfl)) (Or.inl (wd hw 30 rfl)) (by decide) (t := .long) (t' := .boolean) (by decide +kernel) (by decide +kernel)))).other Wh6 (Or.inr (slot_ne (C := "com/example/dispersa/dispersa/internal/LayoutTable") (Or.inl (wd hw 147 rfl)) (Or.inl (wd hw 32 rfl)) (by decide) (t := .long) (t' := .boolean) (by decide +kernel) (by decide +kernel))))
  have f25 := ((((((p22_.other Wh1 (Or.inr (slot_ne (C := "com/example/dispersa/dispersa/internal/LayoutTable") (Or.inl (wd hw 149 rfl)) (Or.inr (wd hw 22 rfl)) (by decide) (t := .int) (t' := (.object "com/example/dispersa/dispersa/internal/ProbeSequence")) (by decide +kernel) (by decide +kernel)))).other Wh2 (Or.inr (slot_ne (C := "com/example/dispersa/dispersa/internal/LayoutTable") (Or.inl (wd hw 149 rfl)) (Or.inr (wd hw 24 rfl)) (by decide) (t := .int) (t' := .boolean) (by decide +kernel) (by decide +kernel)))).other Wh3 (Or.inr (slot_ne (C := "com/example/dispersa/dispersa/internal/LayoutTable") (Or.inl (wd hw 149 rfl)) (Or.inr (wd hw 26 rfl)) (by decide) (t := .int) (t' := .boolean) (by decide +kernel) (by decide +kernel)))).other Wh4 (Or.inr (slot_ne (C := "com/example/dispersa/dispersa/internal/LayoutTable") (Or.inl (wd hw 149 rfl)) (Or.inr (wd hw 28 rfl)) (by decide) (t := .int) (t' := .boolean) (by decide +kernel) (by decide +kernel)))).other Wh5 (Or.inr (slot_ne (C := "com/example/dispersa/dispersa/internal/LayoutTable") (Or.inl (wd hw 149 rfl)) (Or.inl (wd hw 30 rfl)) (by decide) (t := .int) (t' := .boolean) (by decide +kernel) (by decide +kernel)))).other Wh6 (Or.inr (slot_ne (C := "com/example/dispersa/dispersa/internal/LayoutTable") (Or.inl (wd hw 149 rfl)) (Or.inl (wd hw 32 rfl)) (by decide) (t := .int) (t' := .boolean) (by decide +kernel) (by decide +kernel))))
  have f26 := ((((((p23_.other Wh1 (Or.inr (slot_ne (C := "com/example/dispersa/dispersa/internal/LayoutTable") (Or.inr (wd hw 79 rfl)) (Or.inr (wd hw 22 rfl)) (by decide) (t := (.array .int)) (t' := (.object "com/example/dispersa/dispersa/internal/ProbeSequence")) (by decide +kernel) (by decide +kernel)))).other Wh2 (Or.inr (slot_ne (C := "com/example/dispersa/dispersa/internal/LayoutTable") (Or.inr (wd hw 79 rfl)) (Or.inr (wd hw 24 rfl)) (by decide) (t := (.array .int)) (t' := .boolean) (by decide +kernel) (by decide +kernel)))).other Wh3 (Or.inr (slot_ne (C := "com/example/dispersa/dispersa/internal/LayoutTable") (Or.inr (wd hw 79 rfl)) (Or.inr (wd hw 26 rfl)) (by decide) (t := (.array .int)) (t' := .boolean) (by decide +kernel) (by decide +kernel)))).other Wh4 (Or.inr (slot_ne (C := "com/example/dispersa/dispersa/internal/LayoutTable") (Or.inr (wd hw 79 rfl)) (Or.inr (wd hw 28 rfl)) (by decide) (t := (.array .int)) (t' := .boolean) (by decide +kernel) (by decide +kernel)))).other Wh5 (Or.inr (slot_ne (C := "com/example/dispersa/dispersa/internal/LayoutTable") (Or.inr (wd hw 79 rfl)) (Or.inl (wd hw 30 rfl)) (by decide) (t := (.array .int)) (t' := .boolean) (by decide +kernel) (by decide +kernel)))).other Wh6 (Or.inr (slot_ne (C := "com/example/dispersa/dispersa/internal/LayoutTable") (Or.inr (wd hw 79 rfl)) (Or.inl (wd hw 32 rfl)) (by decide) (t := (.array .int)) (t' := .boolean) (by decide +kernel) (by decide +kernel))))
  have f27 := ((((((p24_.other Wh1 (Or.inr (slot_ne (C := "com/example/dispersa/dispersa/internal/LayoutTable") (Or.inl (wd hw 210 rfl)) (Or.inr (wd hw 22 rfl)) (by decide) (t := .boolean) (t' := (.object "com/example/dispersa/dispersa/internal/ProbeSequence")) (by decide +kernel) (by decide +kernel)))).other Wh2 (Or.inr (slot_ne (C := "com/example/dispersa/dispersa/internal/LayoutTable") (Or.inl (wd hw 210 rfl)) (Or.inr (wd hw 24 rfl)) (by decide) (t := .boolean) (t' := .boolean) (by decide +kernel) (by decide +kernel)))).other Wh3 (Or.inr (slot_ne (C := "com/example/dispersa/dispersa/internal/LayoutTable") (Or.inl (wd hw 210 rfl)) (Or.inr (wd hw 26 rfl)) (by decide) (t := .boolean) (t' := .boolean) (by decide +kernel) (by decide +kernel)))).other Wh4 (Or.inr (slot_ne (C := "com/example/dispersa/dispersa/internal/LayoutTable") (Or.inl (wd hw 210 rfl)) (Or.inr (wd hw 28 rfl)) (by decide) (t := .boolean) (t' := .boolean) (by decide +kernel) (by decide +kernel)))).other Wh5 (Or.inr (slot_ne (C := "com/example/dispersa/dispersa/internal/LayoutTable") (Or.inl (wd hw 210 rfl)) (Or.inl (wd hw 30 rfl)) (by decide) (t := .boolean) (t' := .boolean) (by decide +kernel) (by decide +kernel)))).other Wh6 (Or.inr (slot_ne (C := "com/example/dispersa/dispersa/internal/LayoutTable") (Or.inl (wd hw 210 rfl)) (Or.inl (wd hw 32 rfl)) (by decide) (t := .boolean) (t' := .boolean) (by decide +kernel) (by decide +kernel))))
  refine go_callV (q := 69) (W := 0) K (wd hw 33 rfl) (wd hw 34 rfl) (wd hw 36 rfl) (wd hw 35 rfl) (wd hw 13 rfl) (wd hw 37 rfl) (wd hw 36 rfl) rfl f12 [(.int m)] [] (reset l Z a0 hw _ _ _ _ n0 f11 p1_ p2_ p3_ p4_ p5_ f12 p7_ hm f13 f14 f15 f16 f17 (f9.same Wh6) f18 f19 f20 f21 f22 f23 f24 f25 f26 f27) dctor5_66 (ps := [.int]) (by decide +kernel) rfl rfl rfl (by decide) rfl (by decide) (by decide) (by decide) (by decide) rfl ?_
  rintro _ h7 ⟨mkh7, rfl, Kh7, q0h7, q1h7, q2h7, q3h7, q4h7, q5h7, q6h7, q7h7, q8h7, q9h7, q10h7, q11h7, q12h7, q13h7, q14h7, q15h7, q16h7, q17h7⟩
  show Go pP l eE _ sS mM _ bB tT cC n0 _ h7 0 0 (mkF mM 69 #[.val (.ref t), .val (.ref lin), .val (.int m), .val (.int (0 : Int32)), .val (.int (0 : Int32)), .val (.int (0 : Int32))] [])
  refine go_return K dctor5_69 rfl (by decide) (by decide) ?_
  have f28 := ((((((((Keep.refl h [t]).wr Wh1 (Or.inl (by simp))).wr Wh2 (Or.inl (by simp))).wr Wh3 (Or.inl (by simp))).wr Wh4 (Or.inl (by simp))).wr Wh5 (Or.inl (by simp))).wr Wh6 (Or.inl (by simp))).trans Kh7 (allS (Or.inl (by simp)) all0))
  exact ⟨mkh7, rfl, f28, q0h7, q1h7, q2h7, q3h7, q4h7, q5h7, q6h7, q7h7, q8h7, q9h7, q10h7, q11h7, q12h7, q13h7, q14h7, q15h7, q16h7, (by assumption)⟩
theorem dctor3_0 : decode prog_109_method_1_code 0 = .ok (.aload_n 0, 1) := by decide +kernel
theorem dctor3_1 : decode prog_109_method_1_code 1 = .ok (.aload_n 1, 1) := by decide +kernel
theorem dctor3_2 : decode prog_109_method_1_code 2 = .ok (.iload_n 2, 1) := by decide +kernel
theorem dctor3_3 : decode prog_109_method_1_code 3 = .ok (.iload_n 3, 1) := by decide +kernel
theorem dctor3_4 : decode prog_109_method_1_code 4 = .ok (.iconst 0, 1) := by decide +kernel
theorem dctor3_5 : decode prog_109_method_1_code 5 = .ok (.iconst 0, 1) := by decide +kernel
theorem dctor3_6 : decode prog_109_method_1_code 6 = .ok (.invokespecial 5, 3) := by decide +kernel
theorem dctor3_9 : decode prog_109_method_1_code 9 = .ok (.return_, 1) := by decide +kernel
set_option maxRecDepth 65536 in
set_option maxHeartbeats 40000000 in
theorem ctor3 (l : Launch) (Z : State) (a0 : Array Value) (hw : ∀ d ∈ tables_1, d.before a0 Z = true) (t : Addr) (lin : Addr) (m : Int32) (h : Heap) (n0 : Nat) (p0_ : Old Z n0 h) (p1_ : Sta Z Z.heap "com/example/dispersa/dispersa/internal/ProbeSequence" "LINEAR" "Lcom/example/dispersa/dispersa/internal/ProbeSequence;" (.ref lin)) (p2_ : Exa Z Z.heap lin "com/example/dispersa/dispersa/internal/ProbeSequence") (p3_ : Fld Z Z.heap lin "java/lang/Enum" "ordinal" "I" (.int (0 : Int32))) (p4_ : Fld Z Z.heap lin "com/example/dispersa/dispersa/internal/ProbeSequence" "hashedStep" "Z" (.int (0 : Int32))) (p5_ : Fld Z Z.heap lin "com/example/dispersa/dispersa/internal/ProbeSequence" "growth" "I" (.int (0 : Int32))) (p6_ : Exa Z h t "com/example/dispersa/dispersa/internal/LayoutTable") (p7_ : n0 ≤ t) (hm : 2 ≤ m.toInt ∧ m.toInt ≤ 5) (p9_ : Fld Z h t "com/example/dispersa/dispersa/internal/SlotTable" "probing" "Lcom/example/dispersa/dispersa/internal/ProbeSequence;" .null) (p10_ : Fld Z h t "com/example/dispersa/dispersa/internal/SlotTable" "bounded" "Z" (.int (0 : Int32))) (p11_ : Fld Z h t "com/example/dispersa/dispersa/internal/SlotTable" "marksHomes" "Z" (.int (0 : Int32))) (p12_ : Fld Z h t "com/example/dispersa/dispersa/internal/SlotTable" "ordersRuns" "Z" (.int (0 : Int32))) (p13_ : Fld Z h t "com/example/dispersa/dispersa/internal/SlotTable" "counting" "Z" (.int (0 : Int32))) (p14_ : Fld Z h t "com/example/dispersa/dispersa/internal/SlotTable" "stopsAtReach" "Z" (.int (0 : Int32))) (p15_ : Fld Z h t "com/example/dispersa/dispersa/internal/SlotTable" "length" "I" (.int (0 : Int32))) (p16_ : Fld Z h t "com/example/dispersa/dispersa/internal/SlotTable" "mask" "I" (.int (0 : Int32))) (p17_ : Fld Z h t "com/example/dispersa/dispersa/internal/SlotTable" "linear" "Z" (.int (0 : Int32))) (p18_ : Fld Z h t "com/example/dispersa/dispersa/internal/SlotTable" "goesOn" "Z" (.int (0 : Int32))) (p19_ : Fld Z h t "com/example/dispersa/dispersa/internal/SlotTable" "markers" "I" (.int (0 : Int32))) (p20_ : Fld Z h t "com/example/dispersa/dispersa/internal/SlotTable" "reach" "I" (.int (0 : Int32))) (p21_ : Fld Z h t "com/example/dispersa/dispersa/internal/SlotTable" "probes" "J" (.long (0 : Int64))) (p22_ : Fld Z h t "com/example/dispersa/dispersa/internal/SlotTable" "position" "I" (.int (0 : Int32))) (p23_ : Fld Z h t "com/example/dispersa/dispersa/internal/LayoutTable" "keys" "[I" .null) (p24_ : Fld Z h t "com/example/dispersa/dispersa/internal/LayoutTable" "turnedAway" "Z" (.int (0 : Int32))) :
    Met l (⟨"com/example/dispersa/dispersa/internal/SlotTable", "<init>", "(Lcom/example/dispersa/dispersa/internal/ProbeSequence;IZ)V"⟩ : MethodName) prog_109_method_1_code 4 none [] ({ frames := 4, cells := 0, slots := 0, locals := 80 } : Room) #[(.ref t), (.ref lin), (.int m), (.int (0 : Int32))] Z h n0 (fun v h' => ∃ (mk : Int32), v = none ∧ Keep h h' [t] ∧ Exa Z h' t "com/example/dispersa/dispersa/internal/LayoutTable" ∧ Fld Z h' t "com/example/dispersa/dispersa/internal/SlotTable" "probing" "Lcom/example/dispersa/dispersa/internal/ProbeSequence;" (.ref lin) ∧ Fld Z h' t "com/example/dispersa/dispersa/internal/SlotTable" "bounded" "Z" (.int (0 : Int32)) ∧ Fld Z h' t "com/example/dispersa/dispersa/internal/SlotTable" "marksHomes" "Z" (.int (0 : Int32)) ∧ Fld Z h' t "com/example/dispersa/dispersa/internal/SlotTable" "ordersRuns" "Z" (.int (0 : Int32)) ∧ Fld Z h' t "com/example/dispersa/dispersa/internal/SlotTable" "counting" "Z" (.int (1 : Int32)) ∧ Fld Z h' t "com/example/dispersa/dispersa/internal/SlotTable" "stopsAtReach" "Z" (.int (0 : Int32)) ∧ Fld Z h' t "com/example/dispersa/dispersa/internal/SlotTable" "length" "I" (.int m) ∧ Fld Z h' t "com/example/dispersa/dispersa/internal/SlotTable" "mask" "I" (.int mk) ∧ Fld Z h' t "com/example/dispersa/dispersa/internal/SlotTable" "linear" "Z" (.int (0 : Int32)) ∧ Fld Z h' t "com/example/dispersa/dispersa/internal/SlotTable" "goesOn" "Z" (.int (0 : Int32)) ∧ Fld Z h' t "com/example/dispersa/dispersa/internal/SlotTable" "markers" "I" (.int (0 : Int32)) ∧ Fld Z h' t "com/example/dispersa/dispersa/internal/SlotTable" "reach" "I" (.int (0 : Int32)) ∧ Fld Z h' t "com/example/dispersa/dispersa/internal/SlotTable" "probes" "J" (.long (0 : Int64)) ∧ Fld Z h' t "com/example/dispersa/dispersa/internal/SlotTable" "position" "I" (.int (0 : Int32)) ∧ Fld Z h' t "com/example/dispersa/dispersa/internal/LayoutTable" "keys" "[I" .null ∧ Fld Z h' t "com/example/dispersa/dispersa/internal/LayoutTable" "turnedAway" "Z" (.int (0 : Int32)) ∧ own_mk m mk) := by
  refine Met.of (plainFor_of_name (by first | (simp [plainName, overriddenIn]; done) | decide +kernel)) ?_
  intro pP eE sS mM bB tT cC K
  refine Go.entry (ls := #[.val (.ref t), .val (.ref lin), .val (.int m), .val (.int (0 : Int32))]) (by first | (simp [argsToLocals, Value.category]; done) | rfl) ?_
  refine go_aloadN (q := 1) K dctor3_0 rfl rfl rfl ?_
  refine go_aloadN (q := 2) K dctor3_1 rfl rfl rfl ?_
  refine go_iloadN (q := 3) K dctor3_2 rfl rfl ?_
  refine go_iloadN (q := 4) K dctor3_3 rfl rfl ?_
  refine go_iconst (q := 5) K dctor3_4 (0 : Int32) rfl rfl ?_
  refine go_iconst (q := 6) K dctor3_5 (0 : Int32) rfl rfl ?_
  refine go_callI (q := 9) (W := 0) K (wd hw 15 rfl) (wd hw 16 rfl) (wd hw 13 rfl) (wd hw 17 rfl) rfl [(.ref lin), (.int m), (.int (0 : Int32)), (.int (0 : Int32)), (.int (0 : Int32))] [] (ctor5 l Z a0 hw _ _ _ _ n0 p0_ p1_ p2_ p3_ p4_ p5_ p6_ p7_ hm p9_ p10_ p11_ p12_ p13_ p14_ p15_ p16_ p17_ p18_ p19_ p20_ p21_ p22_ p23_ p24_) dctor3_6 (ps := [(.object "com/example/dispersa/dispersa/internal/ProbeSequence"), .int, .boolean, .boolean, .boolean]) (by decide +kernel) rfl rfl rfl (by decide) rfl (by decide) (by decide) (by decide) (by decide) rfl ?_
  rintro _ h1 ⟨mkh1, rfl, Kh1, q0h1, q1h1, q2h1, q3h1, q4h1, q5h1, q6h1, q7h1, q8h1, q9h1, q10h1, q11h1, q12h1, q13h1, q14h1, q15h1, q16h1, q17h1⟩
  show Go pP l eE _ sS mM _ bB tT cC n0 _ h1 0 0 (mkF mM 9 #[.val (.ref t), .val (.ref lin), .val (.int m), .val (.int (0 : Int32))] [])
  refine go_return K dctor3_9 rfl (by decide) (by decide) ?_
  have f1 := ((Keep.refl h [t]).trans Kh1 (allS (Or.inl (by simp)) all0))
  exact ⟨mkh1, rfl, f1, q0h1, q1h1, q2h1, q3h1, q4h1, q5h1, q6h1, q7h1, q8h1, q9h1, q10h1, q11h1, q12h1, q13h1, q14h1, q15h1, q16h1, (by assumption)⟩
theorem dfill_0 : decode jdk_65_method_103_code 0 = .ok (.iconst 0, 1) := by decide +kernel
theorem dfill_1 : decode jdk_65_method_103_code 1 = .ok (.istore_n 2, 1) := by decide +kernel
theorem dfill_2 : decode jdk_65_method_103_code 2 = .ok (.aload_n 0, 1) := by decide +kernel
theorem dfill_3 : decode jdk_65_method_103_code 3 = .ok (.arraylength, 1) := by decide +kernel
theorem dfill_4 : decode jdk_65_method_103_code 4 = .ok (.istore_n 3, 1) := by decide +kernel
theorem dfill_5 : decode jdk_65_method_103_code 5 = .ok (.iload_n 2, 1) := by decide +kernel
theorem dfill_6 : decode jdk_65_method_103_code 6 = .ok (.iload_n 3, 1) := by decide +kernel
theorem dfill_7 : decode jdk_65_method_103_code 7 = .ok (.if_icmp .ge 13, 3) := by decide +kernel
theorem dfill_10 : decode jdk_65_method_103_code 10 = .ok (.aload_n 0, 1) := by decide +kernel
theorem dfill_11 : decode jdk_65_method_103_code 11 = .ok (.iload_n 2, 1) := by decide +kernel
theorem dfill_12 : decode jdk_65_method_103_code 12 = .ok (.iload_n 1, 1) := by decide +kernel
theorem dfill_13 : decode jdk_65_method_103_code 13 = .ok (.iastore, 1) := by decide +kernel
theorem dfill_14 : decode jdk_65_method_103_code 14 = .ok (.iinc 2 1, 3) := by decide +kernel
theorem dfill_17 : decode jdk_65_method_103_code 17 = .ok (.goto (-12), 3) := by decide +kernel
theorem dfill_20 : decode jdk_65_method_103_code 20 = .ok (.return_, 1) := by decide +kernel
set_option maxRecDepth 65536 in
set_option maxHeartbeats 40000000 in
theorem fill2 (l : Launch) (Z : State) (a0 : Array Value) (hw : ∀ d ∈ tables_1, d.before a0 Z = true) (ka : Addr) (kl : ClassId) (h : Heap) (n0 : Nat) (p0_ : Ary Z h ka kl .int [(.int (0 : Int32)), (.int (0 : Int32))]) (p1_ : n0 ≤ ka) :
    Met l (⟨"java/util/Arrays", "fill", "([II)V"⟩ : MethodName) jdk_65_method_103_code 4 none [] ({ frames := 0, cells := 0, slots := 0, locals := 0 } : Room) #[(.ref ka), (.int (-1 : Int32))] Z h n0 (fun v h' => v = none ∧ Keep h h' [ka] ∧ Ary Z h' ka kl .int [(.int (-1 : Int32)), (.int (-1 : Int32))]) := by
  refine Met.of (plainFor_of_name (by first | (simp [plainName, overriddenIn]; done) | decide +kernel)) ?_
  intro pP eE sS mM bB tT cC K
  refine Go.entry (ls := #[.val (.ref ka), .val (.int (-1 : Int32)), .unset, .unset]) (by first | (simp [argsToLocals, Value.category]; done) | rfl) ?_
  refine go_iconst (q := 1) K dfill_0 (0 : Int32) rfl rfl ?_
  refine go_istoreN (q := 2) K dfill_1 #[.val (.ref ka), .val (.int (-1 : Int32)), .val (.int (0 : Int32)), .unset] rfl rfl ?_
  refine go_aloadN (q := 3) K dfill_2 rfl rfl rfl ?_
  refine go_arraylength (q := 4) (z := (2 : Int32)) K p0_ rfl dfill_3 rfl ?_
  refine go_istoreN (q := 5) K dfill_4 #[.val (.ref ka), .val (.int (-1 : Int32)), .val (.int (0 : Int32)), .val (.int (2 : Int32))] rfl rfl ?_
  refine go_iloadN (q := 6) K dfill_5 rfl rfl ?_
  refine go_iloadN (q := 7) K dfill_6 rfl rfl ?_
  refine go_icmp (q := 20) (q' := 10) K dfill_7 (by decide) rfl rfl (fun hn => cN_no hn (show (0 : Int32) < (2 : Int32) from (by decide))) (fun _ => ?_)
  refine go_aloadN (q := 11) K dfill_10 rfl rfl rfl ?_
  refine go_iloadN (q := 12) K dfill_11 rfl rfl ?_
  refine go_iloadN (q := 13) K dfill_12 rfl rfl ?_
  refine go_iastore (q := 14) K p0_ (by decide) (show 0 < 2 from by decide) p1_ dfill_13 rfl ?_
  intro h1 Wh1 Yh1
  refine go_iinc (q := 17) K dfill_14 (1 : Int32) #[.val (.ref ka), .val (.int (-1 : Int32)), .val (.int (1 : Int32)), .val (.int (2 : Int32))] rfl rfl rfl rfl ?_
  refine go_goto (q := 5) K dfill_17 (by decide) rfl ?_
  refine go_iloadN (q := 6) K dfill_5 rfl rfl ?_
  refine go_iloadN (q := 7) K dfill_6 rfl rfl ?_
  refine go_icmp (q := 20) (q' := 10) K dfill_7 (by decide) rfl rfl (fun hn => cN_no hn (show (1 : Int32) < (2 : Int32) from (by decide))) (fun _ => ?_)
  refine go_aloadN (q := 11) K dfill_10 rfl rfl rfl ?_
  refine go_iloadN (q := 12) K dfill_11 rfl rfl ?_
  refine go_iloadN (q := 13) K dfill_12 rfl rfl ?_
  refine go_iastore (q := 14) K Yh1 (by decide) (show 1 < 2 from by decide) p1_ dfill_13 rfl ?_
  intro h2 Wh2 Yh2
  refine go_iinc (q := 17) K dfill_14 (1 : Int32) #[.val (.ref ka), .val (.int (-1 : Int32)), .val (.int (2 : Int32)), .val (.int (2 : Int32))] rfl rfl rfl rfl ?_
  refine go_goto (q := 5) K dfill_17 (by decide) rfl ?_
  refine go_iloadN (q := 6) K dfill_5 rfl rfl ?_
  refine go_iloadN (q := 7) K dfill_6 rfl rfl ?_
  refine go_icmp (q := 20) (q' := 10) K dfill_7 (by decide) rfl rfl (fun _ => ?_) (fun hn => cN_no2 hn (show ¬ (2 : Int32) < (2 : Int32) from (by decide)))
  refine go_return K dfill_20 rfl (by decide) (by decide) ?_
  have f1 := (((Keep.refl h [ka]).wr Wh1 (Or.inl (by simp))).wr Wh2 (Or.inl (by simp)))
  exact ⟨rfl, f1, Yh2⟩
set_option maxRecDepth 65536 in
set_option maxHeartbeats 40000000 in
theorem fill3 (l : Launch) (Z : State) (a0 : Array Value) (hw : ∀ d ∈ tables_1, d.before a0 Z = true) (ka : Addr) (kl : ClassId) (h : Heap) (n0 : Nat) (p0_ : Ary Z h ka kl .int [(.int (0 : Int32)), (.int (0 : Int32)), (.int (0 : Int32))]) (p1_ : n0 ≤ ka) :
    Met l (⟨"java/util/Arrays", "fill", "([II)V"⟩ : MethodName) jdk_65_method_103_code 4 none [] ({ frames := 0, cells := 0, slots := 0, locals := 0 } : Room) #[(.ref ka), (.int (-1 : Int32))] Z h n0 (fun v h' => v = none ∧ Keep h h' [ka] ∧ Ary Z h' ka kl .int [(.int (-1 : Int32)), (.int (-1 : Int32)), (.int (-1 : Int32))]) := by
  refine Met.of (plainFor_of_name (by first | (simp [plainName, overriddenIn]; done) | decide +kernel)) ?_
  intro pP eE sS mM bB tT cC K
  refine Go.entry (ls := #[.val (.ref ka), .val (.int (-1 : Int32)), .unset, .unset]) (by first | (simp [argsToLocals, Value.category]; done) | rfl) ?_
  refine go_iconst (q := 1) K dfill_0 (0 : Int32) rfl rfl ?_
  refine go_istoreN (q := 2) K dfill_1 #[.val (.ref ka), .val (.int (-1 : Int32)), .val (.int (0 : Int32)), .unset] rfl rfl ?_
  refine go_aloadN (q := 3) K dfill_2 rfl rfl rfl ?_
  refine go_arraylength (q := 4) (z := (3 : Int32)) K p0_ rfl dfill_3 rfl ?_
  refine go_istoreN (q := 5) K dfill_4 #[.val (.ref ka), .val (.int (-1 : Int32)), .val (.int (0 : Int32)), .val (.int (3 : Int32))] rfl rfl ?_
  refine go_iloadN (q := 6) K dfill_5 rfl rfl ?_
  refine go_iloadN (q := 7) K dfill_6 rfl rfl ?_
  refine go_icmp (q := 20) (q' := 10) K dfill_7 (by decide) rfl rfl (fun hn => cN_no hn (show (0 : Int32) < (3 : Int32) from (by decide))) (fun _ => ?_)
  refine go_aloadN (q := 11) K dfill_10 rfl rfl rfl ?_
  refine go_iloadN (q := 12) K dfill_11 rfl rfl ?_
  refine go_iloadN (q := 13) K dfill_12 rfl rfl ?_
  refine go_iastore (q := 14) K p0_ (by decide) (show 0 < 3 from by decide) p1_ dfill_13 rfl ?_
  intro h1 Wh1 Yh1
  refine go_iinc (q := 17) K dfill_14 (1 : Int32) #[.val (.ref ka), .val (.int (-1 : Int32)), .val (.int (1 : Int32)), .val (.int (3 : Int32))] rfl rfl rfl rfl ?_
  refine go_goto (q := 5) K dfill_17 (by decide) rfl ?_
  refine go_iloadN (q := 6) K dfill_5 rfl rfl ?_
  refine go_iloadN (q := 7) K dfill_6 rfl rfl ?_
  refine go_icmp (q := 20) (q' := 10) K dfill_7 (by decide) rfl rfl (fun hn => cN_no hn (show (1 : Int32) < (3 : Int32) from (by decide))) (fun _ => ?_)
  refine go_aloadN (q := 11) K dfill_10 rfl rfl rfl ?_
  refine go_iloadN (q := 12) K dfill_11 rfl rfl ?_
  refine go_iloadN (q := 13) K dfill_12 rfl rfl ?_
  refine go_iastore (q := 14) K Yh1 (by decide) (show 1 < 3 from by decide) p1_ dfill_13 rfl ?_
  intro h2 Wh2 Yh2
  refine go_iinc (q := 17) K dfill_14 (1 : Int32) #[.val (.ref ka), .val (.int (-1 : Int32)), .val (.int (2 : Int32)), .val (.int (3 : Int32))] rfl rfl rfl rfl ?_
  refine go_goto (q := 5) K dfill_17 (by decide) rfl ?_
  refine go_iloadN (q := 6) K dfill_5 rfl rfl ?_
  refine go_iloadN (q := 7) K dfill_6 rfl rfl ?_
  refine go_icmp (q := 20) (q' := 10) K dfill_7 (by decide) rfl rfl (fun hn => cN_no hn (show (2 : Int32) < (3 : Int32) from (by decide))) (fun _ => ?_)
  refine go_aloadN (q := 11) K dfill_10 rfl rfl rfl ?_
  refine go_iloadN (q := 12) K dfill_11 rfl rfl ?_
  refine go_iloadN (q := 13) K dfill_12 rfl rfl ?_
  refine go_iastore (q := 14) K Yh2 (by decide) (show 2 < 3 from by decide) p1_ dfill_13 rfl ?_
  intro h3 Wh3 Yh3
  refine go_iinc (q := 17) K dfill_14 (1 : Int32) #[.val (.ref ka), .val (.int (-1 : Int32)), .val (.int (3 : Int32)), .val (.int (3 : Int32))] rfl rfl rfl rfl ?_
  refine go_goto (q := 5) K dfill_17 (by decide) rfl ?_
  refine go_iloadN (q := 6) K dfill_5 rfl rfl ?_
  refine go_iloadN (q := 7) K dfill_6 rfl rfl ?_
  refine go_icmp (q := 20) (q' := 10) K dfill_7 (by decide) rfl rfl (fun _ => ?_) (fun hn => cN_no2 hn (show ¬ (3 : Int32) < (3 : Int32) from (by decide)))
  refine go_return K dfill_20 rfl (by decide) (by decide) ?_
  have f1 := ((((Keep.refl h [ka]).wr Wh1 (Or.inl (by simp))).wr Wh2 (Or.inl (by simp))).wr Wh3 (Or.inl (by simp)))
  exact ⟨rfl, f1, Yh3⟩
set_option maxRecDepth 65536 in
set_option maxHeartbeats 40000000 in
theorem fill4 (l : Launch) (Z : State) (a0 : Array Value) (hw : ∀ d ∈ tables_1, d.before a0 Z = true) (ka : Addr) (kl : ClassId) (h : Heap) (n0 : Nat) (p0_ : Ary Z h ka kl .int [(.int (0 : Int32)), (.int (0 : Int32)), (.int (0 : Int32)), (.int (0 : Int32))]) (p1_ : n0 ≤ ka) :
    Met l (⟨"java/util/Arrays", "fill", "([II)V"⟩ : MethodName) jdk_65_method_103_code 4 none [] ({ frames := 0, cells := 0, slots := 0, locals := 0 } : Room) #[(.ref ka), (.int (-1 : Int32))] Z h n0 (fun v h' => v = none ∧ Keep h h' [ka] ∧ Ary Z h' ka kl .int [(.int (-1 : Int32)), (.int (-1 : Int32)), (.int (-1 : Int32)), (.int (-1 : Int32))]) := by
  refine Met.of (plainFor_of_name (by first | (simp [plainName, overriddenIn]; done) | decide +kernel)) ?_
  intro pP eE sS mM bB tT cC K
  refine Go.entry (ls := #[.val (.ref ka), .val (.int (-1 : Int32)), .unset, .unset]) (by first | (simp [argsToLocals, Value.category]; done) | rfl) ?_
  refine go_iconst (q := 1) K dfill_0 (0 : Int32) rfl rfl ?_
  refine go_istoreN (q := 2) K dfill_1 #[.val (.ref ka), .val (.int (-1 : Int32)), .val (.int (0 : Int32)), .unset] rfl rfl ?_
  refine go_aloadN (q := 3) K dfill_2 rfl rfl rfl ?_
  refine go_arraylength (q := 4) (z := (4 : Int32)) K p0_ rfl dfill_3 rfl ?_
  refine go_istoreN (q := 5) K dfill_4 #[.val (.ref ka), .val (.int (-1 : Int32)), .val (.int (0 : Int32)), .val (.int (4 : Int32))] rfl rfl ?_
  refine go_iloadN (q := 6) K dfill_5 rfl rfl ?_
  refine go_iloadN (q := 7) K dfill_6 rfl rfl ?_
  refine go_icmp (q := 20) (q' := 10) K dfill_7 (by decide) rfl rfl (fun hn => cN_no hn (show (0 : Int32) < (4 : Int32) from (by decide))) (fun _ => ?_)
  refine go_aloadN (q := 11) K dfill_10 rfl rfl rfl ?_
  refine go_iloadN (q := 12) K dfill_11 rfl rfl ?_
  refine go_iloadN (q := 13) K dfill_12 rfl rfl ?_
  refine go_iastore (q := 14) K p0_ (by decide) (show 0 < 4 from by decide) p1_ dfill_13 rfl ?_
  intro h1 Wh1 Yh1
  refine go_iinc (q := 17) K dfill_14 (1 : Int32) #[.val (.ref ka), .val (.int (-1 : Int32)), .val (.int (1 : Int32)), .val (.int (4 : Int32))] rfl rfl rfl rfl ?_
  refine go_goto (q := 5) K dfill_17 (by decide) rfl ?_
  refine go_iloadN (q := 6) K dfill_5 rfl rfl ?_
  refine go_iloadN (q := 7) K dfill_6 rfl rfl ?_
  refine go_icmp (q := 20) (q' := 10) K dfill_7 (by decide) rfl rfl (fun hn => cN_no hn (show (1 : Int32) < (4 : Int32) from (by decide))) (fun _ => ?_)
  refine go_aloadN (q := 11) K dfill_10 rfl rfl rfl ?_
  refine go_iloadN (q := 12) K dfill_11 rfl rfl ?_
  refine go_iloadN (q := 13) K dfill_12 rfl rfl ?_
  refine go_iastore (q := 14) K Yh1 (by decide) (show 1 < 4 from by decide) p1_ dfill_13 rfl ?_
  intro h2 Wh2 Yh2
  refine go_iinc (q := 17) K dfill_14 (1 : Int32) #[.val (.ref ka), .val (.int (-1 : Int32)), .val (.int (2 : Int32)), .val (.int (4 : Int32))] rfl rfl rfl rfl ?_
  refine go_goto (q := 5) K dfill_17 (by decide) rfl ?_
  refine go_iloadN (q := 6) K dfill_5 rfl rfl ?_
  refine go_iloadN (q := 7) K dfill_6 rfl rfl ?_
  refine go_icmp (q := 20) (q' := 10) K dfill_7 (by decide) rfl rfl (fun hn => cN_no hn (show (2 : Int32) < (4 : Int32) from (by decide))) (fun _ => ?_)
  refine go_aloadN (q := 11) K dfill_10 rfl rfl rfl ?_
  refine go_iloadN (q := 12) K dfill_11 rfl rfl ?_
  refine go_iloadN (q := 13) K dfill_12 rfl rfl ?_
  refine go_iastore (q := 14) K Yh2 (by decide) (show 2 < 4 from by decide) p1_ dfill_13 rfl ?_
  intro h3 Wh3 Yh3
  refine go_iinc (q := 17) K dfill_14 (1 : Int32) #[.val (.ref ka), .val (.int (-1 : Int32)), .val (.int (3 : Int32)), .val (.int (4 : Int32))] rfl rfl rfl rfl ?_
  refine go_goto (q := 5) K dfill_17 (by decide) rfl ?_
  refine go_iloadN (q := 6) K dfill_5 rfl rfl ?_
  refine go_iloadN (q := 7) K dfill_6 rfl rfl ?_
  refine go_icmp (q := 20) (q' := 10) K dfill_7 (by decide) rfl rfl (fun hn => cN_no hn (show (3 : Int32) < (4 : Int32) from (by decide))) (fun _ => ?_)
  refine go_aloadN (q := 11) K dfill_10 rfl rfl rfl ?_
  refine go_iloadN (q := 12) K dfill_11 rfl rfl ?_
  refine go_iloadN (q := 13) K dfill_12 rfl rfl ?_
  refine go_iastore (q := 14) K Yh3 (by decide) (show 3 < 4 from by decide) p1_ dfill_13 rfl ?_
  intro h4 Wh4 Yh4
  refine go_iinc (q := 17) K dfill_14 (1 : Int32) #[.val (.ref ka), .val (.int (-1 : Int32)), .val (.int (4 : Int32)), .val (.int (4 : Int32))] rfl rfl rfl rfl ?_
  refine go_goto (q := 5) K dfill_17 (by decide) rfl ?_
  refine go_iloadN (q := 6) K dfill_5 rfl rfl ?_
  refine go_iloadN (q := 7) K dfill_6 rfl rfl ?_
  refine go_icmp (q := 20) (q' := 10) K dfill_7 (by decide) rfl rfl (fun _ => ?_) (fun hn => cN_no2 hn (show ¬ (4 : Int32) < (4 : Int32) from (by decide)))
  refine go_return K dfill_20 rfl (by decide) (by decide) ?_
  have f1 := (((((Keep.refl h [ka]).wr Wh1 (Or.inl (by simp))).wr Wh2 (Or.inl (by simp))).wr Wh3 (Or.inl (by simp))).wr Wh4 (Or.inl (by simp)))
  exact ⟨rfl, f1, Yh4⟩
set_option maxRecDepth 65536 in
set_option maxHeartbeats 40000000 in
theorem fill5 (l : Launch) (Z : State) (a0 : Array Value) (hw : ∀ d ∈ tables_1, d.before a0 Z = true) (ka : Addr) (kl : ClassId) (h : Heap) (n0 : Nat) (p0_ : Ary Z h ka kl .int [(.int (0 : Int32)), (.int (0 : Int32)), (.int (0 : Int32)), (.int (0 : Int32)), (.int (0 : Int32))]) (p1_ : n0 ≤ ka) :
    Met l (⟨"java/util/Arrays", "fill", "([II)V"⟩ : MethodName) jdk_65_method_103_code 4 none [] ({ frames := 0, cells := 0, slots := 0, locals := 0 } : Room) #[(.ref ka), (.int (-1 : Int32))] Z h n0 (fun v h' => v = none ∧ Keep h h' [ka] ∧ Ary Z h' ka kl .int [(.int (-1 : Int32)), (.int (-1 : Int32)), (.int (-1 : Int32)), (.int (-1 : Int32)), (.int (-1 : Int32))]) := by
  refine Met.of (plainFor_of_name (by first | (simp [plainName, overriddenIn]; done) | decide +kernel)) ?_
  intro pP eE sS mM bB tT cC K
  refine Go.entry (ls := #[.val (.ref ka), .val (.int (-1 : Int32)), .unset, .unset]) (by first | (simp [argsToLocals, Value.category]; done) | rfl) ?_
  refine go_iconst (q := 1) K dfill_0 (0 : Int32) rfl rfl ?_
  refine go_istoreN (q := 2) K dfill_1 #[.val (.ref ka), .val (.int (-1 : Int32)), .val (.int (0 : Int32)), .unset] rfl rfl ?_
  refine go_aloadN (q := 3) K dfill_2 rfl rfl rfl ?_
  refine go_arraylength (q := 4) (z := (5 : Int32)) K p0_ rfl dfill_3 rfl ?_
  refine go_istoreN (q := 5) K dfill_4 #[.val (.ref ka), .val (.int (-1 : Int32)), .val (.int (0 : Int32)), .val (.int (5 : Int32))] rfl rfl ?_
  refine go_iloadN (q := 6) K dfill_5 rfl rfl ?_
  refine go_iloadN (q := 7) K dfill_6 rfl rfl ?_
  refine go_icmp (q := 20) (q' := 10) K dfill_7 (by decide) rfl rfl (fun hn => cN_no hn (show (0 : Int32) < (5 : Int32) from (by decide))) (fun _ => ?_)
  refine go_aloadN (q := 11) K dfill_10 rfl rfl rfl ?_
  refine go_iloadN (q := 12) K dfill_11 rfl rfl ?_
  refine go_iloadN (q := 13) K dfill_12 rfl rfl ?_
  refine go_iastore (q := 14) K p0_ (by decide) (show 0 < 5 from by decide) p1_ dfill_13 rfl ?_
  intro h1 Wh1 Yh1
  refine go_iinc (q := 17) K dfill_14 (1 : Int32) #[.val (.ref ka), .val (.int (-1 : Int32)), .val (.int (1 : Int32)), .val (.int (5 : Int32))] rfl rfl rfl rfl ?_
  refine go_goto (q := 5) K dfill_17 (by decide) rfl ?_
  refine go_iloadN (q := 6) K dfill_5 rfl rfl ?_
  refine go_iloadN (q := 7) K dfill_6 rfl rfl ?_
  refine go_icmp (q := 20) (q' := 10) K dfill_7 (by decide) rfl rfl (fun hn => cN_no hn (show (1 : Int32) < (5 : Int32) from (by decide))) (fun _ => ?_)
  refine go_aloadN (q := 11) K dfill_10 rfl rfl rfl ?_
  refine go_iloadN (q := 12) K dfill_11 rfl rfl ?_
  refine go_iloadN (q := 13) K dfill_12 rfl rfl ?_
  refine go_iastore (q := 14) K Yh1 (by decide) (show 1 < 5 from by decide) p1_ dfill_13 rfl ?_
  intro h2 Wh2 Yh2
  refine go_iinc (q := 17) K dfill_14 (1 : Int32) #[.val (.ref ka), .val (.int (-1 : Int32)), .val (.int (2 : Int32)), .val (.int (5 : Int32))] rfl rfl rfl rfl ?_
  refine go_goto (q := 5) K dfill_17 (by decide) rfl ?_
  refine go_iloadN (q := 6) K dfill_5 rfl rfl ?_
  refine go_iloadN (q := 7) K dfill_6 rfl rfl ?_
  refine go_icmp (q := 20) (q' := 10) K dfill_7 (by decide) rfl rfl (fun hn => cN_no hn (show (2 : Int32) < (5 : Int32) from (by decide))) (fun _ => ?_)
  refine go_aloadN (q := 11) K dfill_10 rfl rfl rfl ?_
  refine go_iloadN (q := 12) K dfill_11 rfl rfl ?_
  refine go_iloadN (q := 13) K dfill_12 rfl rfl ?_
  refine go_iastore (q := 14) K Yh2 (by decide) (show 2 < 5 from by decide) p1_ dfill_13 rfl ?_
  intro h3 Wh3 Yh3
  refine go_iinc (q := 17) K dfill_14 (1 : Int32) #[.val (.ref ka), .val (.int (-1 : Int32)), .val (.int (3 : Int32)), .val (.int (5 : Int32))] rfl rfl rfl rfl ?_
  refine go_goto (q := 5) K dfill_17 (by decide) rfl ?_
  refine go_iloadN (q := 6) K dfill_5 rfl rfl ?_
  refine go_iloadN (q := 7) K dfill_6 rfl rfl ?_
  refine go_icmp (q := 20) (q' := 10) K dfill_7 (by decide) rfl rfl (fun hn => cN_no hn (show (3 : Int32) < (5 : Int32) from (by decide))) (fun _ => ?_)
  refine go_aloadN (q := 11) K dfill_10 rfl rfl rfl ?_
  refine go_iloadN (q := 12) K dfill_11 rfl rfl ?_
  refine go_iloadN (q := 13) K dfill_12 rfl rfl ?_
  refine go_iastore (q := 14) K Yh3 (by decide) (show 3 < 5 from by decide) p1_ dfill_13 rfl ?_
  intro h4 Wh4 Yh4
  refine go_iinc (q := 17) K dfill_14 (1 : Int32) #[.val (.ref ka), .val (.int (-1 : Int32)), .val (.int (4 : Int32)), .val (.int (5 : Int32))] rfl rfl rfl rfl ?_
  refine go_goto (q := 5) K dfill_17 (by decide) rfl ?_
  refine go_iloadN (q := 6) K dfill_5 rfl rfl ?_
  refine go_iloadN (q := 7) K dfill_6 rfl rfl ?_
  refine go_icmp (q := 20) (q' := 10) K dfill_7 (by decide) rfl rfl (fun hn => cN_no hn (show (4 : Int32) < (5 : Int32) from (by decide))) (fun _ => ?_)
  refine go_aloadN (q := 11) K dfill_10 rfl rfl rfl ?_
  refine go_iloadN (q := 12) K dfill_11 rfl rfl ?_
  refine go_iloadN (q := 13) K dfill_12 rfl rfl ?_
  refine go_iastore (q := 14) K Yh4 (by decide) (show 4 < 5 from by decide) p1_ dfill_13 rfl ?_
  intro h5 Wh5 Yh5
  refine go_iinc (q := 17) K dfill_14 (1 : Int32) #[.val (.ref ka), .val (.int (-1 : Int32)), .val (.int (5 : Int32)), .val (.int (5 : Int32))] rfl rfl rfl rfl ?_
  refine go_goto (q := 5) K dfill_17 (by decide) rfl ?_
  refine go_iloadN (q := 6) K dfill_5 rfl rfl ?_
  refine go_iloadN (q := 7) K dfill_6 rfl rfl ?_
  refine go_icmp (q := 20) (q' := 10) K dfill_7 (by decide) rfl rfl (fun _ => ?_) (fun hn => cN_no2 hn (show ¬ (5 : Int32) < (5 : Int32) from (by decide)))
  refine go_return K dfill_20 rfl (by decide) (by decide) ?_
  have f1 := ((((((Keep.refl h [ka]).wr Wh1 (Or.inl (by simp))).wr Wh2 (Or.inl (by simp))).wr Wh3 (Or.inl (by simp))).wr Wh4 (Or.inl (by simp))).wr Wh5 (Or.inl (by simp)))
  exact ⟨rfl, f1, Yh5⟩
def own_K0 (m : Int32) : List Value := List.replicate m.toNatClampNeg (.int (-1))
theorem own_K0_len (m : Int32) : (own_K0 m).length = m.toNatClampNeg := by simp [own_K0]
theorem own_K0_at {m : Int32} {i : Nat} (h : i < m.toNatClampNeg) : (own_K0 m)[i]? = some (.int (-1)) := by simp [own_K0, h]
theorem dctorL_0 : decode prog_86_method_1_code 0 = .ok (.aload_n 0, 1) := by decide +kernel
theorem dctorL_1 : decode prog_86_method_1_code 1 = .ok (.aload_n 1, 1) := by decide +kernel
theorem dctorL_2 : decode prog_86_method_1_code 2 = .ok (.iload_n 2, 1) := by decide +kernel
theorem dctorL_3 : decode prog_86_method_1_code 3 = .ok (.iconst 0, 1) := by decide +kernel
theorem dctorL_4 : decode prog_86_method_1_code 4 = .ok (.invokespecial 1, 3) := by decide +kernel
theorem dctorL_7 : decode prog_86_method_1_code 7 = .ok (.aload_n 0, 1) := by decide +kernel
theorem dctorL_8 : decode prog_86_method_1_code 8 = .ok (.iload_n 2, 1) := by decide +kernel
theorem dctorL_9 : decode prog_86_method_1_code 9 = .ok (.newarray .int, 2) := by decide +kernel
theorem dctorL_11 : decode prog_86_method_1_code 11 = .ok (.putfield 7, 3) := by decide +kernel
theorem dctorL_14 : decode prog_86_method_1_code 14 = .ok (.aload_n 0, 1) := by decide +kernel
theorem dctorL_15 : decode prog_86_method_1_code 15 = .ok (.getfield 7, 3) := by decide +kernel
theorem dctorL_18 : decode prog_86_method_1_code 18 = .ok (.iconst (-1), 1) := by decide +kernel
theorem dctorL_19 : decode prog_86_method_1_code 19 = .ok (.invokestatic 13, 3) := by decide +kernel
theorem dctorL_22 : decode prog_86_method_1_code 22 = .ok (.return_, 1) := by decide +kernel
set_option maxRecDepth 65536 in
set_option maxHeartbeats 40000000 in
theorem ctorL (l : Launch) (Z : State) (a0 : Array Value) (hw : ∀ d ∈ tables_1, d.before a0 Z = true) (t : Addr) (lin : Addr) (m : Int32) (h : Heap) (n0 : Nat) (p0_ : Old Z n0 h) (p1_ : Sta Z Z.heap "com/example/dispersa/dispersa/internal/ProbeSequence" "LINEAR" "Lcom/example/dispersa/dispersa/internal/ProbeSequence;" (.ref lin)) (p2_ : Exa Z Z.heap lin "com/example/dispersa/dispersa/internal/ProbeSequence") (p3_ : Fld Z Z.heap lin "java/lang/Enum" "ordinal" "I" (.int (0 : Int32))) (p4_ : Fld Z Z.heap lin "com/example/dispersa/dispersa/internal/ProbeSequence" "hashedStep" "Z" (.int (0 : Int32))) (p5_ : Fld Z Z.heap lin "com/example/dispersa/dispersa/internal/ProbeSequence" "growth" "I" (.int (0 : Int32))) (p6_ : Exa Z h t "com/example/dispersa/dispersa/internal/LayoutTable") (p7_ : n0 ≤ t) (hm : 2 ≤ m.toInt ∧ m.toInt ≤ 5) (p9_ : Fld Z h t "com/example/dispersa/dispersa/internal/SlotTable" "probing" "Lcom/example/dispersa/dispersa/internal/ProbeSequence;" .null) (p10_ : Fld Z h t "com/example/dispersa/dispersa/internal/SlotTable" "bounded" "Z" (.int (0 : Int32))) (p11_ : Fld Z h t "com/example/dispersa/dispersa/internal/SlotTable" "marksHomes" "Z" (.int (0 : Int32))) (p12_ : Fld Z h t "com/example/dispersa/dispersa/internal/SlotTable" "ordersRuns" "Z" (.int (0 : Int32))) (p13_ : Fld Z h t "com/example/dispersa/dispersa/internal/SlotTable" "counting" "Z" (.int (0 : Int32))) (p14_ : Fld Z h t "com/example/dispersa/dispersa/internal/SlotTable" "stopsAtReach" "Z" (.int (0 : Int32))) (p15_ : Fld Z h t "com/example/dispersa/dispersa/internal/SlotTable" "length" "I" (.int (0 : Int32))) (p16_ : Fld Z h t "com/example/dispersa/dispersa/internal/SlotTable" "mask" "I" (.int (0 : Int32))) (p17_ : Fld Z h t "com/example/dispersa/dispersa/internal/SlotTable" "linear" "Z" (.int (0 : Int32))) (p18_ : Fld Z h t "com/example/dispersa/dispersa/internal/SlotTable" "goesOn" "Z" (.int (0 : Int32))) (p19_ : Fld Z h t "com/example/dispersa/dispersa/internal/SlotTable" "markers" "I" (.int (0 : Int32))) (p20_ : Fld Z h t "com/example/dispersa/dispersa/internal/SlotTable" "reach" "I" (.int (0 : Int32))) (p21_ : Fld Z h t "com/example/dispersa/dispersa/internal/SlotTable" "probes" "J" (.long (0 : Int64))) (p22_ : Fld Z h t "com/example/dispersa/dispersa/internal/SlotTable" "position" "I" (.int (0 : Int32))) (p23_ : Fld Z h t "com/example/dispersa/dispersa/internal/LayoutTable" "keys" "[I" .null) (p24_ : Fld Z h t "com/example/dispersa/dispersa/internal/LayoutTable" "turnedAway" "Z" (.int (0 : Int32))) :
    Met l (⟨"com/example/dispersa/dispersa/internal/LayoutTable", "<init>", "(Lcom/example/dispersa/dispersa/internal/ProbeSequence;I)V"⟩ : MethodName) prog_86_method_1_code 3 none [] ({ frames := 5, cells := 1, slots := 5, locals := 100 } : Room) #[(.ref t), (.ref lin), (.int m)] Z h n0 (fun v h' => ∃ (ka : Addr) (kl : ClassId) (mk : Int32), v = none ∧ Keep h h' [t] ∧ h.size ≤ ka ∧ Exa Z h' t "com/example/dispersa/dispersa/internal/LayoutTable" ∧ Fld Z h' t "com/example/dispersa/dispersa/internal/SlotTable" "probing" "Lcom/example/dispersa/dispersa/internal/ProbeSequence;" (.ref lin) ∧ Fld Z h' t "com/example/dispersa/dispersa/internal/SlotTable" "bounded" "Z" (.int (0 : Int32)) ∧ Fld Z h' t "com/example/dispersa/dispersa/internal/SlotTable" "marksHomes" "Z" (.int (0 : Int32)) ∧ Fld Z h' t "com/example/dispersa/dispersa/internal/SlotTable" "ordersRuns" "Z" (.int (0 : Int32)) ∧ Fld Z h' t "com/example/dispersa/dispersa/internal/SlotTable" "counting" "Z" (.int (1 : Int32)) ∧ Fld Z h' t "com/example/dispersa/dispersa/internal/SlotTable" "stopsAtReach" "Z" (.int (0 : Int32)) ∧ Fld Z h' t "com/example/dispersa/dispersa/internal/SlotTable" "length" "I" (.int m) ∧ Fld Z h' t "com/example/dispersa/dispersa/internal/SlotTable" "mask" "I" (.int mk) ∧ Fld Z h' t "com/example/dispersa/dispersa/internal/SlotTable" "linear" "Z" (.int (0 : Int32)) ∧ Fld Z h' t "com/example/dispersa/dispersa/internal/SlotTable" "goesOn" "Z" (.int (0 : Int32)) ∧ Fld Z h' t "com/example/dispersa/dispersa/internal/SlotTable" "markers" "I" (.int (0 : Int32)) ∧ Fld Z h' t "com/example/dispersa/dispersa/internal/SlotTable" "reach" "I" (.int (0 : Int32)) ∧ Fld Z h' t "com/example/dispersa/dispersa/internal/SlotTable" "probes" "J" (.long (0 : Int64)) ∧ Fld Z h' t "com/example/dispersa/dispersa/internal/SlotTable" "position" "I" (.int (0 : Int32)) ∧ Fld Z h' t "com/example/dispersa/dispersa/internal/LayoutTable" "keys" "[I" (.ref ka) ∧ Fld Z h' t "com/example/dispersa/dispersa/internal/LayoutTable" "turnedAway" "Z" (.int (0 : Int32)) ∧ own_mk m mk ∧ Ary Z h' ka kl .int (own_K0 m)) := by
  refine Met.of (plainFor_of_name (by first | (simp [plainName, overriddenIn]; done) | decide +kernel)) ?_
  intro pP eE sS mM bB tT cC K
  refine Go.entry (ls := #[.val (.ref t), .val (.ref lin), .val (.int m)]) (by first | (simp [argsToLocals, Value.category]; done) | rfl) ?_
  refine go_aloadN (q := 1) K dctorL_0 rfl rfl rfl ?_
  refine go_aloadN (q := 2) K dctorL_1 rfl rfl rfl ?_
  refine go_iloadN (q := 3) K dctorL_2 rfl rfl ?_
  refine go_iconst (q := 4) K dctorL_3 (0 : Int32) rfl rfl ?_
  refine go_callI (q := 7) (W := 0) K (wd hw 10 rfl) (wd hw 11 rfl) (wd hw 13 rfl) (wd hw 14 rfl) rfl [(.ref lin), (.int m), (.int (0 : Int32))] [] (ctor3 l Z a0 hw _ _ _ _ n0 p0_ p1_ p2_ p3_ p4_ p5_ p6_ p7_ hm p9_ p10_ p11_ p12_ p13_ p14_ p15_ p16_ p17_ p18_ p19_ p20_ p21_ p22_ p23_ p24_) dctorL_4 (ps := [(.object "com/example/dispersa/dispersa/internal/ProbeSequence"), .int, .boolean]) (by decide +kernel) rfl rfl rfl (by decide) rfl (by decide) (by decide) (by decide) (by decide) rfl ?_
  rintro _ h1 ⟨mkh1, rfl, Kh1, q0h1, q1h1, q2h1, q3h1, q4h1, q5h1, q6h1, q7h1, q8h1, q9h1, q10h1, q11h1, q12h1, q13h1, q14h1, q15h1, q16h1, q17h1⟩
  show Go pP l eE _ sS mM _ bB tT cC n0 _ h1 0 0 (mkF mM 7 #[.val (.ref t), .val (.ref lin), .val (.int m)] [])
  rcases own_m4 hm with rfl | rfl | rfl | rfl
  · show Go pP l eE _ sS mM _ bB tT cC n0 _ h1 0 0 (mkF mM 7 #[.val (.ref t), .val (.ref lin), .val (.int (2 : Int32))] [])
    refine go_aloadN (q := 8) K dctorL_7 rfl rfl rfl ?_
    refine go_iloadN (q := 9) K dctorL_8 rfl rfl ?_
    have f1 := ((Keep.refl h [t]).trans Kh1 (allS (Or.inl (by simp)) all0))
    have f2 := (p0_.keep Kh1 (allS p7_ all0))
    refine go_newarray (q := 11) (num := 2) (cap := 2) K (wd hw 77 rfl) dctorL_9 (by decide) rfl (by decide) (by decide) (by decide) (by decide) rfl ?_
    intro h2 ah2 kh2 gah2 Eh2 Yh2
    have f3 := (q15h1.ext Eh2)
    have f4 := (q0h1.ext Eh2)
    refine go_putF (q := 14) K (wd hw 78 rfl) Via.refl f3 f4 (Or.inr ⟨(wd hw 79 rfl), rfl, rfl⟩) (wd hw 2 rfl) (ty := (.array .int)) (by decide +kernel) rfl rfl p7_ dctorL_11 rfl ?_
    intro h3 Wh3
    refine go_aloadN (q := 15) K dctorL_14 rfl rfl rfl ?_
    refine go_getF (q := 18) K (wd hw 78 rfl) Via.refl (f3.same Wh3) dctorL_15 rfl ?_
    refine go_iconst (q := 19) K dctorL_18 (-1 : Int32) rfl rfl ?_
    have f5 := (Yh2.other Wh3 ((own_nel (q0h1).lt (Nat.le_of_eq gah2.symm))).symm)
    refine go_callS (q := 22) (W := 0) K (wd hw 80 rfl) (wd hw 81 rfl) (wd hw 82 rfl) (wd hw 83 rfl) [(.ref ah2), (.int (-1 : Int32))] [] (fill2 l Z a0 hw _ _ _ n0 f5 (Nat.le_trans (own_ge f2) (Nat.le_of_eq gah2.symm))) dctorL_19 (ps := [(.array .int), .int]) (by decide +kernel) rfl rfl rfl (by decide) rfl (by decide) (by decide) (by decide) (by decide) rfl ?_
    rintro _ h4 ⟨rfl, Kh4, q0h4⟩
    show Go pP l eE _ sS mM _ bB tT cC n0 _ h4 1 2 (mkF mM 22 #[.val (.ref t), .val (.ref lin), .val (.int (2 : Int32))] [])
    refine go_return K dctorL_22 rfl (by decide) (by decide) ?_
    have f6 := (((f1.ext Eh2).wr Wh3 (Or.inl (by simp))).trans Kh4 (allS (Or.inr (Nat.le_trans (f1).1 (Nat.le_of_eq gah2.symm))) all0))
    have f7 := ((f4.wr Wh3).keep Kh4)
    have f8 := (((q1h1.ext Eh2).other Wh3 (Or.inr (slot_ne (C := "com/example/dispersa/dispersa/internal/LayoutTable") (Or.inr (wd hw 22 rfl)) (Or.inr (wd hw 79 rfl)) (by decide) (t := (.object "com/example/dispersa/dispersa/internal/ProbeSequence")) (t' := (.array .int)) (by decide +kernel) (by decide +kernel)))).keep Kh4 (ninS (own_nel (q0h1).lt (Nat.le_of_eq gah2.symm)) nin0))
    have f9 := (((q2h1.ext Eh2).other Wh3 (Or.inr (slot_ne (C := "com/example/dispersa/dispersa/internal/LayoutTable") (Or.inr (wd hw 24 rfl)) (Or.inr (wd hw 79 rfl)) (by decide) (t := .boolean) (t' := (.array .int)) (by decide +kernel) (by decide +kernel)))).keep Kh4 (ninS (own_nel (q0h1).lt (Nat.le_of_eq gah2.symm)) nin0))
    have f10 := (((q3h1.ext Eh2).other Wh3 (Or.inr (slot_ne (C := "com/example/dispersa/dispersa/internal/LayoutTable") (Or.inr (wd hw 26 rfl)) (Or.inr (wd hw 79 rfl)) (by decide) (t := .boolean) (t' := (.array .int)) (by decide +kernel) (by decide +kernel)))).keep Kh4 (ninS (own_nel (q0h1).lt (Nat.le_of_eq gah2.symm)) nin0))
    have f11 := (((q4h1.ext Eh2).other Wh3 (Or.inr (slot_ne (C := "com/example/dispersa/dispersa/internal/LayoutTable") (Or.inr (wd hw 28 rfl)) (Or.inr (wd hw 79 rfl)) (by decide) (t := .boolean) (t' := (.array .int)) (by decide +kernel) (by decide +kernel)))).keep Kh4 (ninS (own_nel (q0h1).lt (Nat.le_of_eq gah2.symm)) nin0))
    have f12 := (((q5h1.ext Eh2).other Wh3 (Or.inr (slot_ne (C := "com/example/dispersa/dispersa/internal/LayoutTable") (Or.inl (wd hw 30 rfl)) (Or.inr (wd hw 79 rfl)) (by decide) (t := .boolean) (t' := (.array .int)) (by decide +kernel) (by decide +kernel)))).keep Kh4 (ninS (own_nel (q0h1).lt (Nat.le_of_eq gah2.symm)) nin0))
    have f13 := (((q6h1.ext Eh2).other Wh3 (Or.inr (slot_ne (C := "com/example/dispersa/dispersa/internal/LayoutTable") (Or.inl (wd hw 32 rfl)) (Or.inr (wd hw 79 rfl)) (by decide) (t := .boolean) (t' := (.array .int)) (by decide +kernel) (by decide +kernel)))).keep Kh4 (ninS (own_nel (q0h1).lt (Nat.le_of_eq gah2.symm)) nin0))
    have f14 := (((q7h1.ext Eh2).other Wh3 (Or.inr (slot_ne (C := "com/example/dispersa/dispersa/internal/LayoutTable") (Or.inl (wd hw 54 rfl)) (Or.inr (wd hw 79 rfl)) (by decide) (t := .int) (t' := (.array .int)) (by decide +kernel) (by decide +kernel)))).keep Kh4 (ninS (own_nel (q0h1).lt (Nat.le_of_eq gah2.symm)) nin0))
    have f15 := (((q8h1.ext Eh2).other Wh3 (Or.inr (slot_ne (C := "com/example/dispersa/dispersa/internal/LayoutTable") (Or.inl (wd hw 63 rfl)) (Or.inr (wd hw 79 rfl)) (by decide) (t := .int) (t' := (.array .int)) (by decide +kernel) (by decide +kernel)))).keep Kh4 (ninS (own_nel (q0h1).lt (Nat.le_of_eq gah2.symm)) nin0))
    have f16 := (((q9h1.ext Eh2).other Wh3 (Or.inr (slot_ne (C := "com/example/dispersa/dispersa/internal/LayoutTable") (Or.inl (wd hw 66 rfl)) (Or.inr (wd hw 79 rfl)) (by decide) (t := .boolean) (t' := (.array .int)) (by decide +kernel) (by decide +kernel)))).keep Kh4 (ninS (own_nel (q0h1).lt (Nat.le_of_eq gah2.symm)) nin0))
    have f17 := (((q10h1.ext Eh2).other Wh3 (Or.inr (slot_ne (C := "com/example/dispersa/dispersa/internal/LayoutTable") (Or.inl (wd hw 72 rfl)) (Or.inr (wd hw 79 rfl)) (by decide) (t := .boolean) (t' := (.array .int)) (by decide +kernel) (by decide +kernel)))).keep Kh4 (ninS (own_nel (q0h1).lt (Nat.le_of_eq gah2.symm)) nin0))
    have f18 := (((q11h1.ext Eh2).other Wh3 (Or.inr (slot_ne (C := "com/example/dispersa/dispersa/internal/LayoutTable") (Or.inl (wd hw 74 rfl)) (Or.inr (wd hw 79 rfl)) (by decide) (t := .int) (t' := (.array .int)) (by decide +kernel) (by decide +kernel)))).keep Kh4 (ninS (own_nel (q0h1).lt (Nat.le_of_eq gah2.symm)) nin0))
    have f19 := (((q12h1.ext Eh2).other Wh3 (Or.inr (slot_ne (C := "com/example/dispersa/dispersa/internal/LayoutTable") (Or.inl (wd hw 76 rfl)) (Or.inr (wd hw 79 rfl)) (by decide) (t := .int) (t' := (.array .int)) (by decide +kernel) (by decide +kernel)))).keep Kh4 (ninS (own_nel (q0h1).lt (Nat.le_of_eq gah2.symm)) nin0))
    have f20 := (((q13h1.ext Eh2).other Wh3 (Or.inr (slot_ne (C := "com/example/dispersa/dispersa/internal/LayoutTable") (Or.inl (wd hw 147 rfl)) (Or.inr (wd hw 79 rfl)) (by decide) (t := .long) (t' := (.array .int)) (by decide +kernel) (by decide +kernel)))).keep Kh4 (ninS (own_nel (q0h1).lt (Nat.le_of_eq gah2.symm)) nin0))
    have f21 := (((q14h1.ext Eh2).other Wh3 (Or.inr (slot_ne (C := "com/example/dispersa/dispersa/internal/LayoutTable") (Or.inl (wd hw 149 rfl)) (Or.inr (wd hw 79 rfl)) (by decide) (t := .int) (t' := (.array .int)) (by decide +kernel) (by decide +kernel)))).keep Kh4 (ninS (own_nel (q0h1).lt (Nat.le_of_eq gah2.symm)) nin0))
    have f22 := ((f3.same Wh3).keep Kh4 (ninS (own_nel (q0h1).lt (Nat.le_of_eq gah2.symm)) nin0))
    have f23 := (((q16h1.ext Eh2).other Wh3 (Or.inr (slot_ne (C := "com/example/dispersa/dispersa/internal/LayoutTable") (Or.inl (wd hw 210 rfl)) (Or.inr (wd hw 79 rfl)) (by decide) (t := .boolean) (t' := (.array .int)) (by decide +kernel) (by decide +kernel)))).keep Kh4 (ninS (own_nel (q0h1).lt (Nat.le_of_eq gah2.symm)) nin0))
    exact ⟨ah2, kh2, mkh1, rfl, f6, (Nat.le_trans (f1).1 (Nat.le_of_eq gah2.symm)), f7, f8, f9, f10, f11, f12, f13, f14, f15, f16, f17, f18, f19, f20, f21, f22, f23, (by assumption), q0h4⟩
  · show Go pP l eE _ sS mM _ bB tT cC n0 _ h1 0 0 (mkF mM 7 #[.val (.ref t), .val (.ref lin), .val (.int (3 : Int32))] [])
    refine go_aloadN (q := 8) K dctorL_7 rfl rfl rfl ?_
    refine go_iloadN (q := 9) K dctorL_8 rfl rfl ?_
    have f1 := ((Keep.refl h [t]).trans Kh1 (allS (Or.inl (by simp)) all0))
    have f2 := (p0_.keep Kh1 (allS p7_ all0))
    refine go_newarray (q := 11) (num := 3) (cap := 3) K (wd hw 77 rfl) dctorL_9 (by decide) rfl (by decide) (by decide) (by decide) (by decide) rfl ?_
    intro h2 ah2 kh2 gah2 Eh2 Yh2
    have f3 := (q15h1.ext Eh2)
    have f4 := (q0h1.ext Eh2)
    refine go_putF (q := 14) K (wd hw 78 rfl) Via.refl f3 f4 (Or.inr ⟨(wd hw 79 rfl), rfl, rfl⟩) (wd hw 2 rfl) (ty := (.array .int)) (by decide +kernel) rfl rfl p7_ dctorL_11 rfl ?_
    intro h3 Wh3
    refine go_aloadN (q := 15) K dctorL_14 rfl rfl rfl ?_
    refine go_getF (q := 18) K (wd hw 78 rfl) Via.refl (f3.same Wh3) dctorL_15 rfl ?_
    refine go_iconst (q := 19) K dctorL_18 (-1 : Int32) rfl rfl ?_
    have f5 := (Yh2.other Wh3 ((own_nel (q0h1).lt (Nat.le_of_eq gah2.symm))).symm)
    refine go_callS (q := 22) (W := 0) K (wd hw 80 rfl) (wd hw 81 rfl) (wd hw 82 rfl) (wd hw 83 rfl) [(.ref ah2), (.int (-1 : Int32))] [] (fill3 l Z a0 hw _ _ _ n0 f5 (Nat.le_trans (own_ge f2) (Nat.le_of_eq gah2.symm))) dctorL_19 (ps := [(.array .int), .int]) (by decide +kernel) rfl rfl rfl (by decide) rfl (by decide) (by decide) (by decide) (by decide) rfl ?_
    rintro _ h4 ⟨rfl, Kh4, q0h4⟩
    show Go pP l eE _ sS mM _ bB tT cC n0 _ h4 1 3 (mkF mM 22 #[.val (.ref t), .val (.ref lin), .val (.int (3 : Int32))] [])
    refine go_return K dctorL_22 rfl (by decide) (by decide) ?_
    have f6 := (((f1.ext Eh2).wr Wh3 (Or.inl (by simp))).trans Kh4 (allS (Or.inr (Nat.le_trans (f1).1 (Nat.le_of_eq gah2.symm))) all0))
    have f7 := ((f4.wr Wh3).keep Kh4)
    have f8 := (((q1h1.ext Eh2).other Wh3 (Or.inr (slot_ne (C := "com/example/dispersa/dispersa/internal/LayoutTable") (Or.inr (wd hw 22 rfl)) (Or.inr (wd hw 79 rfl)) (by decide) (t := (.object "com/example/dispersa/dispersa/internal/ProbeSequence")) (t' := (.array .int)) (by decide +kernel) (by decide +kernel)))).keep Kh4 (ninS (own_nel (q0h1).lt (Nat.le_of_eq gah2.symm)) nin0))
    have f9 := (((q2h1.ext Eh2).other Wh3 (Or.inr (slot_ne (C := "com/example/dispersa/dispersa/internal/LayoutTable") (Or.inr (wd hw 24 rfl)) (Or.inr (wd hw 79 rfl)) (by decide) (t := .boolean) (t' := (.array .int)) (by decide +kernel) (by decide +kernel)))).keep Kh4 (ninS (own_nel (q0h1).lt (Nat.le_of_eq gah2.symm)) nin0))
    have f10 := (((q3h1.ext Eh2).other Wh3 (Or.inr (slot_ne (C := "com/example/dispersa/dispersa/internal/LayoutTable") (Or.inr (wd hw 26 rfl)) (Or.inr (wd hw 79 rfl)) (by decide) (t := .boolean) (t' := (.array .int)) (by decide +kernel) (by decide +kernel)))).keep Kh4 (ninS (own_nel (q0h1).lt (Nat.le_of_eq gah2.symm)) nin0))
    have f11 := (((q4h1.ext Eh2).other Wh3 (Or.inr (slot_ne (C := "com/example/dispersa/dispersa/internal/LayoutTable") (Or.inr (wd hw 28 rfl)) (Or.inr (wd hw 79 rfl)) (by decide) (t := .boolean) (t' := (.array .int)) (by decide +kernel) (by decide +kernel)))).keep Kh4 (ninS (own_nel (q0h1).lt (Nat.le_of_eq gah2.symm)) nin0))
    have f12 := (((q5h1.ext Eh2).other Wh3 (Or.inr (slot_ne (C := "com/example/dispersa/dispersa/internal/LayoutTable") (Or.inl (wd hw 30 rfl)) (Or.inr (wd hw 79 rfl)) (by decide) (t := .boolean) (t' := (.array .int)) (by decide +kernel) (by decide +kernel)))).keep Kh4 (ninS (own_nel (q0h1).lt (Nat.le_of_eq gah2.symm)) nin0))
    have f13 := (((q6h1.ext Eh2).other Wh3 (Or.inr (slot_ne (C := "com/example/dispersa/dispersa/internal/LayoutTable") (Or.inl (wd hw 32 rfl)) (Or.inr (wd hw 79 rfl)) (by decide) (t := .boolean) (t' := (.array .int)) (by decide +kernel) (by decide +kernel)))).keep Kh4 (ninS (own_nel (q0h1).lt (Nat.le_of_eq gah2.symm)) nin0))
    have f14 := (((q7h1.ext Eh2).other Wh3 (Or.inr (slot_ne (C := "com/example/dispersa/dispersa/internal/LayoutTable") (Or.inl (wd hw 54 rfl)) (Or.inr (wd hw 79 rfl)) (by decide) (t := .int) (t' := (.array .int)) (by decide +kernel) (by decide +kernel)))).keep Kh4 (ninS (own_nel (q0h1).lt (Nat.le_of_eq gah2.symm)) nin0))
    have f15 := (((q8h1.ext Eh2).other Wh3 (Or.inr (slot_ne (C := "com/example/dispersa/dispersa/internal/LayoutTable") (Or.inl (wd hw 63 rfl)) (Or.inr (wd hw 79 rfl)) (by decide) (t := .int) (t' := (.array .int)) (by decide +kernel) (by decide +kernel)))).keep Kh4 (ninS (own_nel (q0h1).lt (Nat.le_of_eq gah2.symm)) nin0))
    have f16 := (((q9h1.ext Eh2).other Wh3 (Or.inr (slot_ne (C := "com/example/dispersa/dispersa/internal/LayoutTable") (Or.inl (wd hw 66 rfl)) (Or.inr (wd hw 79 rfl)) (by decide) (t := .boolean) (t' := (.array .int)) (by decide +kernel) (by decide +kernel)))).keep Kh4 (ninS (own_nel (q0h1).lt (Nat.le_of_eq gah2.symm)) nin0))
    have f17 := (((q10h1.ext Eh2).other Wh3 (Or.inr (slot_ne (C := "com/example/dispersa/dispersa/internal/LayoutTable") (Or.inl (wd hw 72 rfl)) (Or.inr (wd hw 79 rfl)) (by decide) (t := .boolean) (t' := (.array .int)) (by decide +kernel) (by decide +kernel)))).keep Kh4 (ninS (own_nel (q0h1).lt (Nat.le_of_eq gah2.symm)) nin0))
    have f18 := (((q11h1.ext Eh2).other Wh3 (Or.inr (slot_ne (C := "com/example/dispersa/dispersa/internal/LayoutTable") (Or.inl (wd hw 74 rfl)) (Or.inr (wd hw 79 rfl)) (by decide) (t := .int) (t' := (.array .int)) (by decide +kernel) (by decide +kernel)))).keep Kh4 (ninS (own_nel (q0h1).lt (Nat.le_of_eq gah2.symm)) nin0))
    have f19 := (((q12h1.ext Eh2).other Wh3 (Or.inr (slot_ne (C := "com/example/dispersa/dispersa/internal/LayoutTable") (Or.inl (wd hw 76 rfl)) (Or.inr (wd hw 79 rfl)) (by decide) (t := .int) (t' := (.array .int)) (by decide +kernel) (by decide +kernel)))).keep Kh4 (ninS (own_nel (q0h1).lt (Nat.le_of_eq gah2.symm)) nin0))
    have f20 := (((q13h1.ext Eh2).other Wh3 (Or.inr (slot_ne (C := "com/example/dispersa/dispersa/internal/LayoutTable") (Or.inl (wd hw 147 rfl)) (Or.inr (wd hw 79 rfl)) (by decide) (t := .long) (t' := (.array .int)) (by decide +kernel) (by decide +kernel)))).keep Kh4 (ninS (own_nel (q0h1).lt (Nat.le_of_eq gah2.symm)) nin0))
    have f21 := (((q14h1.ext Eh2).other Wh3 (Or.inr (slot_ne (C := "com/example/dispersa/dispersa/internal/LayoutTable") (Or.inl (wd hw 149 rfl)) (Or.inr (wd hw 79 rfl)) (by decide) (t := .int) (t' := (.array .int)) (by decide +kernel) (by decide +kernel)))).keep Kh4 (ninS (own_nel (q0h1).lt (Nat.le_of_eq gah2.symm)) nin0))
    have f22 := ((f3.same Wh3).keep Kh4 (ninS (own_nel (q0h1).lt (Nat.le_of_eq gah2.symm)) nin0))
    have f23 := (((q16h1.ext Eh2).other Wh3 (Or.inr (slot_ne (C := "com/example/dispersa/dispersa/internal/LayoutTable") (Or.inl (wd hw 210 rfl)) (Or.inr (wd hw 79 rfl)) (by decide) (t := .boolean) (t' := (.array .int)) (by decide +kernel) (by decide +kernel)))).keep Kh4 (ninS (own_nel (q0h1).lt (Nat.le_of_eq gah2.symm)) nin0))
    exact ⟨ah2, kh2, mkh1, rfl, f6, (Nat.le_trans (f1).1 (Nat.le_of_eq gah2.symm)), f7, f8, f9, f10, f11, f12, f13, f14, f15, f16, f17, f18, f19, f20, f21, f22, f23, (by assumption), q0h4⟩
  · show Go pP l eE _ sS mM _ bB tT cC n0 _ h1 0 0 (mkF mM 7 #[.val (.ref t), .val (.ref lin), .val (.int (4 : Int32))] [])
    refine go_aloadN (q := 8) K dctorL_7 rfl rfl rfl ?_
    refine go_iloadN (q := 9) K dctorL_8 rfl rfl ?_
    have f1 := ((Keep.refl h [t]).trans Kh1 (allS (Or.inl (by simp)) all0))
    have f2 := (p0_.keep Kh1 (allS p7_ all0))
    refine go_newarray (q := 11) (num := 4) (cap := 4) K (wd hw 77 rfl) dctorL_9 (by decide) rfl (by decide) (by decide) (by decide) (by decide) rfl ?_
    intro h2 ah2 kh2 gah2 Eh2 Yh2
    have f3 := (q15h1.ext Eh2)
    have f4 := (q0h1.ext Eh2)
    refine go_putF (q := 14) K (wd hw 78 rfl) Via.refl f3 f4 (Or.inr ⟨(wd hw 79 rfl), rfl, rfl⟩) (wd hw 2 rfl) (ty := (.array .int)) (by decide +kernel) rfl rfl p7_ dctorL_11 rfl ?_
    intro h3 Wh3
    refine go_aloadN (q := 15) K dctorL_14 rfl rfl rfl ?_
    refine go_getF (q := 18) K (wd hw 78 rfl) Via.refl (f3.same Wh3) dctorL_15 rfl ?_
    refine go_iconst (q := 19) K dctorL_18 (-1 : Int32) rfl rfl ?_
    have f5 := (Yh2.other Wh3 ((own_nel (q0h1).lt (Nat.le_of_eq gah2.symm))).symm)
    refine go_callS (q := 22) (W := 0) K (wd hw 80 rfl) (wd hw 81 rfl) (wd hw 82 rfl) (wd hw 83 rfl) [(.ref ah2), (.int (-1 : Int32))] [] (fill4 l Z a0 hw _ _ _ n0 f5 (Nat.le_trans (own_ge f2) (Nat.le_of_eq gah2.symm))) dctorL_19 (ps := [(.array .int), .int]) (by decide +kernel) rfl rfl rfl (by decide) rfl (by decide) (by decide) (by decide) (by decide) rfl ?_
    rintro _ h4 ⟨rfl, Kh4, q0h4⟩
    show Go pP l eE _ sS mM _ bB tT cC n0 _ h4 1 4 (mkF mM 22 #[.val (.ref t), .val (.ref lin), .val (.int (4 : Int32))] [])
    refine go_return K dctorL_22 rfl (by decide) (by decide) ?_
    have f6 := (((f1.ext Eh2).wr Wh3 (Or.inl (by simp))).trans Kh4 (allS (Or.inr (Nat.le_trans (f1).1 (Nat.le_of_eq gah2.symm))) all0))
    have f7 := ((f4.wr Wh3).keep Kh4)
    have f8 := (((q1h1.ext Eh2).other Wh3 (Or.inr (slot_ne (C := "com/example/dispersa/dispersa/internal/LayoutTable") (Or.inr (wd hw 22 rfl)) (Or.inr (wd hw 79 rfl)) (by decide) (t := (.object "com/example/dispersa/dispersa/internal/ProbeSequence")) (t' := (.array .int)) (by decide +kernel) (by decide +kernel)))).keep Kh4 (ninS (own_nel (q0h1).lt (Nat.le_of_eq gah2.symm)) nin0))
    have f9 := (((q2h1.ext Eh2).other Wh3 (Or.inr (slot_ne (C := "com/example/dispersa/dispersa/internal/LayoutTable") (Or.inr (wd hw 24 rfl)) (Or.inr (wd hw 79 rfl)) (by decide) (t := .boolean) (t' := (.array .int)) (by decide +kernel) (by decide +kernel)))).keep Kh4 (ninS (own_nel (q0h1).lt (Nat.le_of_eq gah2.symm)) nin0))
    have f10 := (((q3h1.ext Eh2).other Wh3 (Or.inr (slot_ne (C := "com/example/dispersa/dispersa/internal/LayoutTable") (Or.inr (wd hw 26 rfl)) (Or.inr (wd hw 79 rfl)) (by decide) (t := .boolean) (t' := (.array .int)) (by decide +kernel) (by decide +kernel)))).keep Kh4 (ninS (own_nel (q0h1).lt (Nat.le_of_eq gah2.symm)) nin0))
    have f11 := (((q4h1.ext Eh2).other Wh3 (Or.inr (slot_ne (C := "com/example/dispersa/dispersa/internal/LayoutTable") (Or.inr (wd hw 28 rfl)) (Or.inr (wd hw 79 rfl)) (by decide) (t := .boolean) (t' := (.array .int)) (by decide +kernel) (by decide +kernel)))).keep Kh4 (ninS (own_nel (q0h1).lt (Nat.le_of_eq gah2.symm)) nin0))
    have f12 := (((q5h1.ext Eh2).other Wh3 (Or.inr (slot_ne (C := "com/example/dispersa/dispersa/internal/LayoutTable") (Or.inl (wd hw 30 rfl)) (Or.inr (wd hw 79 rfl)) (by decide) (t := .boolean) (t' := (.array .int)) (by decide +kernel) (by decide +kernel)))).keep Kh4 (ninS (own_nel (q0h1).lt (Nat.le_of_eq gah2.symm)) nin0))
    have f13 := (((q6h1.ext Eh2).other Wh3 (Or.inr (slot_ne (C := "com/example/dispersa/dispersa/internal/LayoutTable") (Or.inl (wd hw 32 rfl)) (Or.inr (wd hw 79 rfl)) (by decide) (t := .boolean) (t' := (.array .int)) (by decide +kernel) (by decide +kernel)))).keep Kh4 (ninS (own_nel (q0h1).lt (Nat.le_of_eq gah2.symm)) nin0))
    have f14 := (((q7h1.ext Eh2).other Wh3 (Or.inr (slot_ne (C := "com/example/dispersa/dispersa/internal/LayoutTable") (Or.inl (wd hw 54 rfl)) (Or.inr (wd hw 79 rfl)) (by decide) (t := .int) (t' := (.array .int)) (by decide +kernel) (by decide +kernel)))).keep Kh4 (ninS (own_nel (q0h1).lt (Nat.le_of_eq gah2.symm)) nin0))
    have f15 := (((q8h1.ext Eh2).other Wh3 (Or.inr (slot_ne (C := "com/example/dispersa/dispersa/internal/LayoutTable") (Or.inl (wd hw 63 rfl)) (Or.inr (wd hw 79 rfl)) (by decide) (t := .int) (t' := (.array .int)) (by decide +kernel) (by decide +kernel)))).keep Kh4 (ninS (own_nel (q0h1).lt (Nat.le_of_eq gah2.symm)) nin0))
    have f16 := (((q9h1.ext Eh2).other Wh3 (Or.inr (slot_ne (C := "com/example/dispersa/dispersa/internal/LayoutTable") (Or.inl (wd hw 66 rfl)) (Or.inr (wd hw 79 rfl)) (by decide) (t := .boolean) (t' := (.array .int)) (by decide +kernel) (by decide +kernel)))).keep Kh4 (ninS (own_nel (q0h1).lt (Nat.le_of_eq gah2.symm)) nin0))
    have f17 := (((q10h1.ext Eh2).other Wh3 (Or.inr (slot_ne (C := "com/example/dispersa/dispersa/internal/LayoutTable") (Or.inl (wd hw 72 rfl)) (Or.inr (wd hw 79 rfl)) (by decide) (t := .boolean) (t' := (.array .int)) (by decide +kernel) (by decide +kernel)))).keep Kh4 (ninS (own_nel (q0h1).lt (Nat.le_of_eq gah2.symm)) nin0))
    have f18 := (((q11h1.ext Eh2).other Wh3 (Or.inr (slot_ne (C := "com/example/dispersa/dispersa/internal/LayoutTable") (Or.inl (wd hw 74 rfl)) (Or.inr (wd hw 79 rfl)) (by decide) (t := .int) (t' := (.array .int)) (by decide +kernel) (by decide +kernel)))).keep Kh4 (ninS (own_nel (q0h1).lt (Nat.le_of_eq gah2.symm)) nin0))
    have f19 := (((q12h1.ext Eh2).other Wh3 (Or.inr (slot_ne (C := "com/example/dispersa/dispersa/internal/LayoutTable") (Or.inl (wd hw 76 rfl)) (Or.inr (wd hw 79 rfl)) (by decide) (t := .int) (t' := (.array .int)) (by decide +kernel) (by decide +kernel)))).keep Kh4 (ninS (own_nel (q0h1).lt (Nat.le_of_eq gah2.symm)) nin0))
    have f20 := (((q13h1.ext Eh2).other Wh3 (Or.inr (slot_ne (C := "com/example/dispersa/dispersa/internal/LayoutTable") (Or.inl (wd hw 147 rfl)) (Or.inr (wd hw 79 rfl)) (by decide) (t := .long) (t' := (.array .int)) (by decide +kernel) (by decide +kernel)))).keep Kh4 (ninS (own_nel (q0h1).lt (Nat.le_of_eq gah2.symm)) nin0))
    have f21 := (((q14h1.ext Eh2).other Wh3 (Or.inr (slot_ne (C := "com/example/dispersa/dispersa/internal/LayoutTable") (Or.inl (wd hw 149 rfl)) (Or.inr (wd hw 79 rfl)) (by decide) (t := .int) (t' := (.array .int)) (by decide +kernel) (by decide +kernel)))).keep Kh4 (ninS (own_nel (q0h1).lt (Nat.le_of_eq gah2.symm)) nin0))
    have f22 := ((f3.same Wh3).keep Kh4 (ninS (own_nel (q0h1).lt (Nat.le_of_eq gah2.symm)) nin0))
    have f23 := (((q16h1.ext Eh2).other Wh3 (Or.inr (slot_ne (C := "com/example/dispersa/dispersa/internal/LayoutTable") (Or.inl (wd hw 210 rfl)) (Or.inr (wd hw 79 rfl)) (by decide) (t := .boolean) (t' := (.array .int)) (by decide +kernel) (by decide +kernel)))).keep Kh4 (ninS (own_nel (q0h1).lt (Nat.le_of_eq gah2.symm)) nin0))
    exact ⟨ah2, kh2, mkh1, rfl, f6, (Nat.le_trans (f1).1 (Nat.le_of_eq gah2.symm)), f7, f8, f9, f10, f11, f12, f13, f14, f15, f16, f17, f18, f19, f20, f21, f22, f23, (by assumption), q0h4⟩
  · show Go pP l eE _ sS mM _ bB tT cC n0 _ h1 0 0 (mkF mM 7 #[.val (.ref t), .val (.ref lin), .val (.int (5 : Int32))] [])
    refine go_aloadN (q := 8) K dctorL_7 rfl rfl rfl ?_
    refine go_iloadN (q := 9) K dctorL_8 rfl rfl ?_
    have f1 := ((Keep.refl h [t]).trans Kh1 (allS (Or.inl (by simp)) all0))
    have f2 := (p0_.keep Kh1 (allS p7_ all0))
    refine go_newarray (q := 11) (num := 5) (cap := 5) K (wd hw 77 rfl) dctorL_9 (by decide) rfl (by decide) (by decide) (by decide) (by decide) rfl ?_
    intro h2 ah2 kh2 gah2 Eh2 Yh2
    have f3 := (q15h1.ext Eh2)
    have f4 := (q0h1.ext Eh2)
    refine go_putF (q := 14) K (wd hw 78 rfl) Via.refl f3 f4 (Or.inr ⟨(wd hw 79 rfl), rfl, rfl⟩) (wd hw 2 rfl) (ty := (.array .int)) (by decide +kernel) rfl rfl p7_ dctorL_11 rfl ?_
    intro h3 Wh3
    refine go_aloadN (q := 15) K dctorL_14 rfl rfl rfl ?_
    refine go_getF (q := 18) K (wd hw 78 rfl) Via.refl (f3.same Wh3) dctorL_15 rfl ?_
    refine go_iconst (q := 19) K dctorL_18 (-1 : Int32) rfl rfl ?_
    have f5 := (Yh2.other Wh3 ((own_nel (q0h1).lt (Nat.le_of_eq gah2.symm))).symm)
    refine go_callS (q := 22) (W := 0) K (wd hw 80 rfl) (wd hw 81 rfl) (wd hw 82 rfl) (wd hw 83 rfl) [(.ref ah2), (.int (-1 : Int32))] [] (fill5 l Z a0 hw _ _ _ n0 f5 (Nat.le_trans (own_ge f2) (Nat.le_of_eq gah2.symm))) dctorL_19 (ps := [(.array .int), .int]) (by decide +kernel) rfl rfl rfl (by decide) rfl (by decide) (by decide) (by decide) (by decide) rfl ?_
    rintro _ h4 ⟨rfl, Kh4, q0h4⟩
    show Go pP l eE _ sS mM _ bB tT cC n0 _ h4 1 5 (mkF mM 22 #[.val (.ref t), .val (.ref lin), .val (.int (5 : Int32))] [])
    refine go_return K dctorL_22 rfl (by decide) (by decide) ?_
    have f6 := (((f1.ext Eh2).wr Wh3 (Or.inl (by simp))).trans Kh4 (allS (Or.inr (Nat.le_trans (f1).1 (Nat.le_of_eq gah2.symm))) all0))
    have f7 := ((f4.wr Wh3).keep Kh4)
    have f8 := (((q1h1.ext Eh2).other Wh3 (Or.inr (slot_ne (C := "com/example/dispersa/dispersa/internal/LayoutTable") (Or.inr (wd hw 22 rfl)) (Or.inr (wd hw 79 rfl)) (by decide) (t := (.object "com/example/dispersa/dispersa/internal/ProbeSequence")) (t' := (.array .int)) (by decide +kernel) (by decide +kernel)))).keep Kh4 (ninS (own_nel (q0h1).lt (Nat.le_of_eq gah2.symm)) nin0))
    have f9 := (((q2h1.ext Eh2).other Wh3 (Or.inr (slot_ne (C := "com/example/dispersa/dispersa/internal/LayoutTable") (Or.inr (wd hw 24 rfl)) (Or.inr (wd hw 79 rfl)) (by decide) (t := .boolean) (t' := (.array .int)) (by decide +kernel) (by decide +kernel)))).keep Kh4 (ninS (own_nel (q0h1).lt (Nat.le_of_eq gah2.symm)) nin0))
    have f10 := (((q3h1.ext Eh2).other Wh3 (Or.inr (slot_ne (C := "com/example/dispersa/dispersa/internal/LayoutTable") (Or.inr (wd hw 26 rfl)) (Or.inr (wd hw 79 rfl)) (by decide) (t := .boolean) (t' := (.array .int)) (by decide +kernel) (by decide +kernel)))).keep Kh4 (ninS (own_nel (q0h1).lt (Nat.le_of_eq gah2.symm)) nin0))
    have f11 := (((q4h1.ext Eh2).other Wh3 (Or.inr (slot_ne (C := "com/example/dispersa/dispersa/internal/LayoutTable") (Or.inr (wd hw 28 rfl)) (Or.inr (wd hw 79 rfl)) (by decide) (t := .boolean) (t' := (.array .int)) (by decide +kernel) (by decide +kernel)))).keep Kh4 (ninS (own_nel (q0h1).lt (Nat.le_of_eq gah2.symm)) nin0))
    have f12 := (((q5h1.ext Eh2).other Wh3 (Or.inr (slot_ne (C := "com/example/dispersa/dispersa/internal/LayoutTable") (Or.inl (wd hw 30 rfl)) (Or.inr (wd hw 79 rfl)) (by decide) (t := .boolean) (t' := (.array .int)) (by decide +kernel) (by decide +kernel)))).keep Kh4 (ninS (own_nel (q0h1).lt (Nat.le_of_eq gah2.symm)) nin0))
    have f13 := (((q6h1.ext Eh2).other Wh3 (Or.inr (slot_ne (C := "com/example/dispersa/dispersa/internal/LayoutTable") (Or.inl (wd hw 32 rfl)) (Or.inr (wd hw 79 rfl)) (by decide) (t := .boolean) (t' := (.array .int)) (by decide +kernel) (by decide +kernel)))).keep Kh4 (ninS (own_nel (q0h1).lt (Nat.le_of_eq gah2.symm)) nin0))
    have f14 := (((q7h1.ext Eh2).other Wh3 (Or.inr (slot_ne (C := "com/example/dispersa/dispersa/internal/LayoutTable") (Or.inl (wd hw 54 rfl)) (Or.inr (wd hw 79 rfl)) (by decide) (t := .int) (t' := (.array .int)) (by decide +kernel) (by decide +kernel)))).keep Kh4 (ninS (own_nel (q0h1).lt (Nat.le_of_eq gah2.symm)) nin0))
    have f15 := (((q8h1.ext Eh2).other Wh3 (Or.inr (slot_ne (C := "com/example/dispersa/dispersa/internal/LayoutTable") (Or.inl (wd hw 63 rfl)) (Or.inr (wd hw 79 rfl)) (by decide) (t := .int) (t' := (.array .int)) (by decide +kernel) (by decide +kernel)))).keep Kh4 (ninS (own_nel (q0h1).lt (Nat.le_of_eq gah2.symm)) nin0))
    have f16 := (((q9h1.ext Eh2).other Wh3 (Or.inr (slot_ne (C := "com/example/dispersa/dispersa/internal/LayoutTable") (Or.inl (wd hw 66 rfl)) (Or.inr (wd hw 79 rfl)) (by decide) (t := .boolean) (t' := (.array .int)) (by decide +kernel) (by decide +kernel)))).keep Kh4 (ninS (own_nel (q0h1).lt (Nat.le_of_eq gah2.symm)) nin0))
    have f17 := (((q10h1.ext Eh2).other Wh3 (Or.inr (slot_ne (C := "com/example/dispersa/dispersa/internal/LayoutTable") (Or.inl (wd hw 72 rfl)) (Or.inr (wd hw 79 rfl)) (by decide) (t := .boolean) (t' := (.array .int)) (by decide +kernel) (by decide +kernel)))).keep Kh4 (ninS (own_nel (q0h1).lt (Nat.le_of_eq gah2.symm)) nin0))
    have f18 := (((q11h1.ext Eh2).other Wh3 (Or.inr (slot_ne (C := "com/example/dispersa/dispersa/internal/LayoutTable") (Or.inl (wd hw 74 rfl)) (Or.inr (wd hw 79 rfl)) (by decide) (t := .int) (t' := (.array .int)) (by decide +kernel) (by decide +kernel)))).keep Kh4 (ninS (own_nel (q0h1).lt (Nat.le_of_eq gah2.symm)) nin0))
    have f19 := (((q12h1.ext Eh2).other Wh3 (Or.inr (slot_ne (C := "com/example/dispersa/dispersa/internal/LayoutTable") (Or.inl (wd hw 76 rfl)) (Or.inr (wd hw 79 rfl)) (by decide) (t := .int) (t' := (.array .int)) (by decide +kernel) (by decide +kernel)))).keep Kh4 (ninS (own_nel (q0h1).lt (Nat.le_of_eq gah2.symm)) nin0))
    have f20 := (((q13h1.ext Eh2).other Wh3 (Or.inr (slot_ne (C := "com/example/dispersa/dispersa/internal/LayoutTable") (Or.inl (wd hw 147 rfl)) (Or.inr (wd hw 79 rfl)) (by decide) (t := .long) (t' := (.array .int)) (by decide +kernel) (by decide +kernel)))).keep Kh4 (ninS (own_nel (q0h1).lt (Nat.le_of_eq gah2.symm)) nin0))
    have f21 := (((q14h1.ext Eh2).other Wh3 (Or.inr (slot_ne (C := "com/example/dispersa/dispersa/internal/LayoutTable") (Or.inl (wd hw 149 rfl)) (Or.inr (wd hw 79 rfl)) (by decide) (t := .int) (t' := (.array .int)) (by decide +kernel) (by decide +kernel)))).keep Kh4 (ninS (own_nel (q0h1).lt (Nat.le_of_eq gah2.symm)) nin0))
    have f22 := ((f3.same Wh3).keep Kh4 (ninS (own_nel (q0h1).lt (Nat.le_of_eq gah2.symm)) nin0))
    have f23 := (((q16h1.ext Eh2).other Wh3 (Or.inr (slot_ne (C := "com/example/dispersa/dispersa/internal/LayoutTable") (Or.inl (wd hw 210 rfl)) (Or.inr (wd hw 79 rfl)) (by decide) (t := .boolean) (t' := (.array .int)) (by decide +kernel) (by decide +kernel)))).keep Kh4 (ninS (own_nel (q0h1).lt (Nat.le_of_eq gah2.symm)) nin0))
    exact ⟨ah2, kh2, mkh1, rfl, f6, (Nat.le_trans (f1).1 (Nat.le_of_eq gah2.symm)), f7, f8, f9, f10, f11, f12, f13, f14, f15, f16, f17, f18, f19, f20, f21, f22, f23, (by assumption), q0h4⟩
def own_hash (ky : Int32) : Int64 := (((ky.toInt64) <<< ((32 : Int32).toInt64 &&& 63)) ||| (ky.toInt64))
theorem dhash_0 : decode prog_86_method_9_code 0 = .ok (.iload_n 0, 1) := by decide +kernel
theorem dhash_1 : decode prog_86_method_9_code 1 = .ok (.i2l, 1) := by decide +kernel
theorem dhash_2 : decode prog_86_method_9_code 2 = .ok (.bipush 32, 2) := by decide +kernel
theorem dhash_4 : decode prog_86_method_9_code 4 = .ok (.lshl, 1) := by decide +kernel
theorem dhash_5 : decode prog_86_method_9_code 5 = .ok (.iload_n 0, 1) := by decide +kernel
theorem dhash_6 : decode prog_86_method_9_code 6 = .ok (.i2l, 1) := by decide +kernel
theorem dhash_7 : decode prog_86_method_9_code 7 = .ok (.lor, 1) := by decide +kernel
theorem dhash_8 : decode prog_86_method_9_code 8 = .ok (.lreturn, 1) := by decide +kernel
set_option maxRecDepth 65536 in
set_option maxHeartbeats 40000000 in
theorem hash (l : Launch) (Z : State) (a0 : Array Value) (hw : ∀ d ∈ tables_1, d.before a0 Z = true) (ky : Int32) (h : Heap) (n0 : Nat)  :
    Met l (⟨"com/example/dispersa/dispersa/internal/LayoutTable", "hashOf", "(I)J"⟩ : MethodName) prog_86_method_9_code 1 (some .long) [] ({ frames := 0, cells := 0, slots := 0, locals := 0 } : Room) #[(.int ky)] Z h n0 (fun v h' => v = some (.long (own_hash ky)) ∧ h = h') := by
  refine Met.of (plainFor_of_name (by first | (simp [plainName, overriddenIn]; done) | decide +kernel)) ?_
  intro pP eE sS mM bB tT cC K
  refine Go.entry (ls := #[.val (.int ky)]) (by first | (simp [argsToLocals, Value.category]; done) | rfl) ?_
  refine go_iloadN (q := 1) K dhash_0 rfl rfl ?_
  refine go_i2l (q := 2) K dhash_1 rfl ?_
  refine go_bipush (q := 4) K dhash_2 (32 : Int32) rfl rfl ?_
  refine go_lshl (q := 5) K dhash_4 rfl ?_
  refine go_iloadN (q := 6) K dhash_5 rfl rfl ?_
  refine go_i2l (q := 7) K dhash_6 rfl ?_
  refine go_lor (q := 8) K dhash_7 rfl ?_
  refine go_lret K dhash_8 rfl (by decide) (by decide) ?_
  exact ⟨rfl, rfl⟩
theorem own_hash_lo (ky : Int32) : (own_hash ky).toInt32 = ky := by
  apply Int32.toBitVec_inj.mp
  show ((ky.toInt64 <<< ((32 : Int32).toInt64 &&& 63)) ||| ky.toInt64).toInt32.toBitVec = ky.toBitVec
  have e : ((32 : Int32).toInt64 &&& 63) = 32 := by decide
  rw [e]
  apply BitVec.eq_of_getLsbD_eq
  intro i hi
  have h1 : ((ky.toInt64 <<< (32 : Int64)) ||| ky.toInt64).toInt32.toBitVec = (((ky.toInt64 <<< (32 : Int64)) ||| ky.toInt64).toBitVec).signExtend 32 := rfl
  have h2 : ((ky.toInt64 <<< (32 : Int64)) ||| ky.toInt64).toBitVec = (ky.toBitVec.signExtend 64 <<< 32) ||| ky.toBitVec.signExtend 64 := rfl
  rw [h1, h2]
  simp only [BitVec.getLsbD_signExtend, BitVec.getLsbD_or, BitVec.getLsbD_shiftLeft, hi, show i < 64 by omega, if_true, decide_true, Bool.true_and, Bool.not_true, Bool.false_and, Bool.false_or]
theorem own_uns {x : Int32} (h : 0 ≤ x.toInt) : (x.toInt64 &&& (4294967295 : Int64)) = x.toInt64 := by
  apply Int64.toInt_inj.mp
  rw [c_maskL x.toInt64 4294967295 32 (by decide) (by decide), c_i2l]
  have := rng32 x; omega
theorem own_remU {x m : Int32} (hx : 0 ≤ x.toInt) (hm : 2 ≤ m.toInt ∧ m.toInt ≤ 5) : (x.toInt64 % m.toInt64).toInt32 = x % m := by
  apply Int32.toInt_inj.mp
  have h1 := c_l2i (x.toInt64 % m.toInt64)
  have h2 : (x.toInt64 % m.toInt64).toInt = x.toInt % m.toInt := by rw [Int64.toInt_mod, c_i2l, c_i2l, Int.tmod_eq_emod_of_nonneg hx]
  have h3 := (c_irem x m m.toInt rfl).1 hx
  have h4 := rng32 (x.toInt64 % m.toInt64).toInt32
  have h5 := Int.emod_nonneg x.toInt (show m.toInt ≠ 0 by omega)
  have h6 := Int.emod_lt_of_pos x.toInt (show 0 < m.toInt by omega)
  omega
theorem own_home1 {ky m mk : Int32} (hk : 0 ≤ ky.toInt) (h : own_mk m mk) (hc : ¬ mk < 0) : ky &&& mk = ky % m := by
  apply Int32.toInt_inj.mp
  rcases h with ⟨rfl, rfl⟩ | ⟨rfl, rfl⟩ | ⟨rfl, -⟩
  · rw [c_mask ky 1 1 (by decide) (by decide), (c_irem ky 2 2 rfl).1 hk]; rfl
  · rw [c_mask ky 3 2 (by decide) (by decide), (c_irem ky 4 4 rfl).1 hk]; rfl
  · exact absurd (by decide) hc
theorem dtoUL_0 : decode jdk_33_method_42_code 0 = .ok (.iload_n 0, 1) := by decide +kernel
theorem dtoUL_1 : decode jdk_33_method_42_code 1 = .ok (.i2l, 1) := by decide +kernel
theorem dtoUL_2 : decode jdk_33_method_42_code 2 = .ok (.ldc2_w 262, 3) := by decide +kernel
theorem dtoUL_5 : decode jdk_33_method_42_code 5 = .ok (.land, 1) := by decide +kernel
theorem dtoUL_6 : decode jdk_33_method_42_code 6 = .ok (.lreturn, 1) := by decide +kernel
set_option maxRecDepth 65536 in
set_option maxHeartbeats 40000000 in
theorem toUL (l : Launch) (Z : State) (a0 : Array Value) (hw : ∀ d ∈ tables_1, d.before a0 Z = true) (x : Int32) (h : Heap) (n0 : Nat) (hx : 0 ≤ x.toInt) :
    Met l (⟨"java/lang/Integer", "toUnsignedLong", "(I)J"⟩ : MethodName) jdk_33_method_42_code 1 (some .long) [] ({ frames := 0, cells := 0, slots := 0, locals := 0 } : Room) #[(.int x)] Z h n0 (fun v h' => v = some (.long x.toInt64) ∧ h = h') := by
  refine Met.of (plainFor_of_name (by first | (simp [plainName, overriddenIn]; done) | decide +kernel)) ?_
  intro pP eE sS mM bB tT cC K
  refine Go.entry (ls := #[.val (.int x)]) (by first | (simp [argsToLocals, Value.category]; done) | rfl) ?_
  refine go_iloadN (q := 1) K dtoUL_0 rfl rfl ?_
  refine go_i2l (q := 2) K dtoUL_1 rfl ?_
  refine go_ldc2J (q := 5) K (wd hw 112 rfl) dtoUL_2 rfl ?_
  refine go_land (q := 6) K dtoUL_5 rfl ?_
  refine go_eqJ (y := x.toInt64) (own_uns hx) ?_
  refine go_lret K dtoUL_6 rfl (by decide) (by decide) ?_
  exact ⟨rfl, rfl⟩
theorem dremU_0 : decode jdk_33_method_44_code 0 = .ok (.iload_n 0, 1) := by decide +kernel
theorem dremU_1 : decode jdk_33_method_44_code 1 = .ok (.invokestatic 38, 3) := by decide +kernel
theorem dremU_4 : decode jdk_33_method_44_code 4 = .ok (.iload_n 1, 1) := by decide +kernel
theorem dremU_5 : decode jdk_33_method_44_code 5 = .ok (.invokestatic 38, 3) := by decide +kernel
theorem dremU_8 : decode jdk_33_method_44_code 8 = .ok (.lrem, 1) := by decide +kernel
theorem dremU_9 : decode jdk_33_method_44_code 9 = .ok (.l2i, 1) := by decide +kernel
theorem dremU_10 : decode jdk_33_method_44_code 10 = .ok (.ireturn, 1) := by decide +kernel
theorem own_l0 {m : Int32} (hm : 2 ≤ m.toInt ∧ m.toInt ≤ 5) : m.toInt64 ≠ 0 := by
  intro q; have := congrArg Int64.toInt q; rw [c_i2l] at this; have e : (0 : Int64).toInt = 0 := rfl; omega
set_option maxRecDepth 65536 in
set_option maxHeartbeats 40000000 in
theorem remU (l : Launch) (Z : State) (a0 : Array Value) (hw : ∀ d ∈ tables_1, d.before a0 Z = true) (x : Int32) (m : Int32) (h : Heap) (n0 : Nat) (hx : 0 ≤ x.toInt) (hm : 2 ≤ m.toInt ∧ m.toInt ≤ 5) :
    Met l (⟨"java/lang/Integer", "remainderUnsigned", "(II)I"⟩ : MethodName) jdk_33_method_44_code 2 (some .int) [] ({ frames := 1, cells := 0, slots := 0, locals := 14 } : Room) #[(.int x), (.int m)] Z h n0 (fun v h' => v = some (.int (x % m)) ∧ h = h') := by
  refine Met.of (plainFor_of_name (by first | (simp [plainName, overriddenIn]; done) | decide +kernel)) ?_
  intro pP eE sS mM bB tT cC K
  refine Go.entry (ls := #[.val (.int x), .val (.int m)]) (by first | (simp [argsToLocals, Value.category]; done) | rfl) ?_
  refine go_iloadN (q := 1) K dremU_0 rfl rfl ?_
  refine go_callS (q := 4) (W := 0) K (wd hw 109 rfl) (wd hw 110 rfl) (wd hw 57 rfl) (wd hw 111 rfl) [(.int x)] [] (toUL l Z a0 hw _ _ n0 hx) dremU_1 (ps := [.int]) (by decide +kernel) rfl rfl rfl (by decide) rfl (by decide) (by decide) (by decide) (by decide) rfl ?_
  rintro _ _ ⟨rfl, rfl⟩
  show Go pP l eE _ sS mM _ bB tT cC n0 _ h 0 0 (mkF mM 4 #[.val (.int x), .val (.int m)] [(.long x.toInt64)])
  refine go_iloadN (q := 5) K dremU_4 rfl rfl ?_
  refine go_callS (q := 8) (W := 2) K (wd hw 109 rfl) (wd hw 110 rfl) (wd hw 57 rfl) (wd hw 111 rfl) [(.int m)] [(.long x.toInt64)] (toUL l Z a0 hw _ _ n0 (by omega)) dremU_5 (ps := [.int]) (by decide +kernel) rfl rfl rfl (by decide) rfl (by decide) (by decide) (by decide) (by decide) rfl ?_
  rintro _ _ ⟨rfl, rfl⟩
  show Go pP l eE _ sS mM _ bB tT cC n0 _ h 0 0 (mkF mM 8 #[.val (.int x), .val (.int m)] [(.long m.toInt64), (.long x.toInt64)])
  refine go_lrem (q := 9) K dremU_8 (own_l0 hm) rfl ?_
  refine go_l2i (q := 10) K dremU_9 rfl ?_
  refine go_eqI (y := (x % m)) (own_remU hx hm) ?_
  refine go_iret K dremU_10 rfl (Or.inl rfl) rfl (by decide) (by decide) ?_
  exact ⟨rfl, rfl⟩
theorem dhomeOf_0 : decode prog_109_method_58_code 0 = .ok (.lload_n 0, 1) := by decide +kernel
theorem dhomeOf_1 : decode prog_109_method_58_code 1 = .ok (.l2i, 1) := by decide +kernel
theorem dhomeOf_2 : decode prog_109_method_58_code 2 = .ok (.iload_n 2, 1) := by decide +kernel
theorem dhomeOf_3 : decode prog_109_method_58_code 3 = .ok (.invokestatic 227, 3) := by decide +kernel
theorem dhomeOf_6 : decode prog_109_method_58_code 6 = .ok (.ireturn, 1) := by decide +kernel
set_option maxRecDepth 65536 in
set_option maxHeartbeats 40000000 in
theorem homeOf (l : Launch) (Z : State) (a0 : Array Value) (hw : ∀ d ∈ tables_1, d.before a0 Z = true) (ky : Int32) (m : Int32) (h : Heap) (n0 : Nat) (hky : 0 ≤ ky.toInt) (hm : 2 ≤ m.toInt ∧ m.toInt ≤ 5) :
    Met l (⟨"com/example/dispersa/dispersa/internal/SlotTable", "homeOf", "(JI)I"⟩ : MethodName) prog_109_method_58_code 3 (some .int) [] ({ frames := 2, cells := 0, slots := 0, locals := 30 } : Room) #[(.long (own_hash ky)), (.int m)] Z h n0 (fun v h' => v = some (.int (ky % m)) ∧ h = h') := by
  refine Met.of (plainFor_of_name (by first | (simp [plainName, overriddenIn]; done) | decide +kernel)) ?_
  intro pP eE sS mM bB tT cC K
  refine Go.entry (ls := #[.val (.long (own_hash ky)), .second, .val (.int m)]) (by first | (simp [argsToLocals, Value.category]; done) | rfl) ?_
  refine go_lloadN (q := 1) K dhomeOf_0 rfl rfl ?_
  refine go_l2i (q := 2) K dhomeOf_1 rfl ?_
  refine go_eqI (y := ky) (own_hash_lo ky) ?_
  refine go_iloadN (q := 3) K dhomeOf_2 rfl rfl ?_
  refine go_callS (q := 6) (W := 0) K (wd hw 106 rfl) (wd hw 107 rfl) (wd hw 57 rfl) (wd hw 108 rfl) [(.int ky), (.int m)] [] (remU l Z a0 hw _ _ _ n0 hky hm) dhomeOf_3 (ps := [.int, .int]) (by decide +kernel) rfl rfl rfl (by decide) rfl (by decide) (by decide) (by decide) (by decide) rfl ?_
  rintro _ _ ⟨rfl, rfl⟩
  show Go pP l eE _ sS mM _ bB tT cC n0 _ h 0 0 (mkF mM 6 #[.val (.long (own_hash ky)), .second, .val (.int m)] [(.int (ky % m))])
  refine go_iret K dhomeOf_6 rfl (Or.inl rfl) rfl (by decide) (by decide) ?_
  exact ⟨rfl, rfl⟩
theorem dhomeIn_0 : decode prog_109_method_59_code 0 = .ok (.lload_n 0, 1) := by decide +kernel
theorem dhomeIn_1 : decode prog_109_method_59_code 1 = .ok (.l2i, 1) := by decide +kernel
theorem dhomeIn_2 : decode prog_109_method_59_code 2 = .ok (.iload_n 2, 1) := by decide +kernel
theorem dhomeIn_3 : decode prog_109_method_59_code 3 = .ok (.iand, 1) := by decide +kernel
theorem dhomeIn_4 : decode prog_109_method_59_code 4 = .ok (.ireturn, 1) := by decide +kernel
set_option maxRecDepth 65536 in
set_option maxHeartbeats 40000000 in
theorem homeIn (l : Launch) (Z : State) (a0 : Array Value) (hw : ∀ d ∈ tables_1, d.before a0 Z = true) (ky : Int32) (mk : Int32) (h : Heap) (n0 : Nat)  :
    Met l (⟨"com/example/dispersa/dispersa/internal/SlotTable", "homeIn", "(JI)I"⟩ : MethodName) prog_109_method_59_code 3 (some .int) [] ({ frames := 0, cells := 0, slots := 0, locals := 0 } : Room) #[(.long (own_hash ky)), (.int mk)] Z h n0 (fun v h' => v = some (.int (ky &&& mk)) ∧ h = h') := by
  refine Met.of (plainFor_of_name (by first | (simp [plainName, overriddenIn]; done) | decide +kernel)) ?_
  intro pP eE sS mM bB tT cC K
  refine Go.entry (ls := #[.val (.long (own_hash ky)), .second, .val (.int mk)]) (by first | (simp [argsToLocals, Value.category]; done) | rfl) ?_
  refine go_lloadN (q := 1) K dhomeIn_0 rfl rfl ?_
  refine go_l2i (q := 2) K dhomeIn_1 rfl ?_
  refine go_eqI (y := ky) (own_hash_lo ky) ?_
  refine go_iloadN (q := 3) K dhomeIn_2 rfl rfl ?_
  refine go_iand (q := 4) K dhomeIn_3 rfl ?_
  refine go_iret K dhomeIn_4 rfl (Or.inl rfl) rfl (by decide) (by decide) ?_
  exact ⟨rfl, rfl⟩
theorem dhome_0 : decode prog_109_method_57_code 0 = .ok (.aload_n 0, 1) := by decide +kernel
theorem dhome_1 : decode prog_109_method_57_code 1 = .ok (.getfield 151, 3) := by decide +kernel
theorem dhome_4 : decode prog_109_method_57_code 4 = .ok (.ifCond .lt 14, 3) := by decide +kernel
theorem dhome_7 : decode prog_109_method_57_code 7 = .ok (.lload_n 1, 1) := by decide +kernel
theorem dhome_8 : decode prog_109_method_57_code 8 = .ok (.aload_n 0, 1) := by decide +kernel
theorem dhome_9 : decode prog_109_method_57_code 9 = .ok (.getfield 151, 3) := by decide +kernel
theorem dhome_12 : decode prog_109_method_57_code 12 = .ok (.invokestatic 154, 3) := by decide +kernel
theorem dhome_15 : decode prog_109_method_57_code 15 = .ok (.goto 11, 3) := by decide +kernel
theorem dhome_18 : decode prog_109_method_57_code 18 = .ok (.lload_n 1, 1) := by decide +kernel
theorem dhome_19 : decode prog_109_method_57_code 19 = .ok (.aload_n 0, 1) := by decide +kernel
theorem dhome_20 : decode prog_109_method_57_code 20 = .ok (.getfield 45, 3) := by decide +kernel
theorem dhome_23 : decode prog_109_method_57_code 23 = .ok (.invokestatic 224, 3) := by decide +kernel
theorem dhome_26 : decode prog_109_method_57_code 26 = .ok (.ireturn, 1) := by decide +kernel
set_option maxRecDepth 65536 in
set_option maxHeartbeats 40000000 in
theorem home (l : Launch) (Z : State) (a0 : Array Value) (hw : ∀ d ∈ tables_1, d.before a0 Z = true) (t : Addr) (ky : Int32) (m : Int32) (mk : Int32) (h : Heap) (n0 : Nat) (p0_ : Fld Z h t "com/example/dispersa/dispersa/internal/SlotTable" "mask" "I" (.int mk)) (p1_ : Fld Z h t "com/example/dispersa/dispersa/internal/SlotTable" "length" "I" (.int m)) (hky : 0 ≤ ky.toInt) (hm : 2 ≤ m.toInt ∧ m.toInt ≤ 5) (hmk : own_mk m mk) :
    Met l (⟨"com/example/dispersa/dispersa/internal/SlotTable", "home", "(J)I"⟩ : MethodName) prog_109_method_57_code 3 (some .int) [] ({ frames := 3, cells := 0, slots := 0, locals := 50 } : Room) #[(.ref t), (.long (own_hash ky))] Z h n0 (fun v h' => v = some (.int (ky % m)) ∧ h = h') := by
  refine Met.of (plainFor_of_name (by first | (simp [plainName, overriddenIn]; done) | decide +kernel)) ?_
  intro pP eE sS mM bB tT cC K
  refine Go.entry (ls := #[.val (.ref t), .val (.long (own_hash ky)), .second]) (by first | (simp [argsToLocals, Value.category]; done) | rfl) ?_
  refine go_aloadN (q := 1) K dhome_0 rfl rfl rfl ?_
  refine go_getF (q := 4) K (wd hw 62 rfl) Via.refl p0_ dhome_1 rfl ?_
  refine go_if0 (q := 18) (q' := 7) K dhome_4 (by decide) rfl rfl (fun hc4 => ?_) (fun hc4 => ?_)
  · have hc4 : mk < (0 : Int32) := hc4
    refine go_lloadN (q := 19) K dhome_18 rfl rfl ?_
    refine go_aloadN (q := 20) K dhome_19 rfl rfl rfl ?_
    refine go_getF (q := 23) K (wd hw 53 rfl) Via.refl p1_ dhome_20 rfl ?_
    refine go_callS (q := 26) (W := 0) K (wd hw 103 rfl) (wd hw 104 rfl) (wd hw 13 rfl) (wd hw 105 rfl) [(.long (own_hash ky)), (.int m)] [] (homeOf l Z a0 hw _ _ _ n0 hky hm) dhome_23 (ps := [.long, .int]) (by decide +kernel) rfl rfl rfl (by decide) rfl (by decide) (by decide) (by decide) (by decide) rfl ?_
    rintro _ _ ⟨rfl, rfl⟩
    show Go pP l eE _ sS mM _ bB tT cC n0 _ h 0 0 (mkF mM 26 #[.val (.ref t), .val (.long (own_hash ky)), .second] [(.int (ky % m))])
    refine go_iret K dhome_26 rfl (Or.inl rfl) rfl (by decide) (by decide) ?_
    exact ⟨rfl, rfl⟩
  · have hc4 : ¬ mk < (0 : Int32) := hc4
    refine go_lloadN (q := 8) K dhome_7 rfl rfl ?_
    refine go_aloadN (q := 9) K dhome_8 rfl rfl rfl ?_
    refine go_getF (q := 12) K (wd hw 62 rfl) Via.refl p0_ dhome_9 rfl ?_
    refine go_callS (q := 15) (W := 0) K (wd hw 201 rfl) (wd hw 202 rfl) (wd hw 13 rfl) (wd hw 203 rfl) [(.long (own_hash ky)), (.int mk)] [] (homeIn l Z a0 hw _ _ _ n0 ) dhome_12 (ps := [.long, .int]) (by decide +kernel) rfl rfl rfl (by decide) rfl (by decide) (by decide) (by decide) (by decide) rfl ?_
    rintro _ _ ⟨rfl, rfl⟩
    show Go pP l eE _ sS mM _ bB tT cC n0 _ h 0 0 (mkF mM 15 #[.val (.ref t), .val (.long (own_hash ky)), .second] [(.int (ky &&& mk))])
    refine go_eqI (y := (ky % m)) (own_home1 hky hmk hc4) ?_
    refine go_goto (q := 26) K dhome_15 (by decide) rfl ?_
    refine go_iret K dhome_26 rfl (Or.inl rfl) rfl (by decide) (by decide) ?_
    exact ⟨rfl, rfl⟩
theorem dstepP_0 : decode prog_99_method_4_code 0 = .ok (.aload_n 0, 1) := by decide +kernel
theorem dstepP_1 : decode prog_99_method_4_code 1 = .ok (.getfield 36, 3) := by decide +kernel
theorem dstepP_4 : decode prog_99_method_4_code 4 = .ok (.ifCond .eq 19, 3) := by decide +kernel
theorem dstepP_7 : decode prog_99_method_4_code 7 = .ok (.iconst 1, 1) := by decide +kernel
theorem dstepP_8 : decode prog_99_method_4_code 8 = .ok (.lload_n 1, 1) := by decide +kernel
theorem dstepP_9 : decode prog_99_method_4_code 9 = .ok (.bipush 32, 2) := by decide +kernel
theorem dstepP_11 : decode prog_99_method_4_code 11 = .ok (.lushr, 1) := by decide +kernel
theorem dstepP_12 : decode prog_99_method_4_code 12 = .ok (.l2i, 1) := by decide +kernel
theorem dstepP_13 : decode prog_99_method_4_code 13 = .ok (.iload_n 3, 1) := by decide +kernel
theorem dstepP_14 : decode prog_99_method_4_code 14 = .ok (.iconst 2, 1) := by decide +kernel
theorem dstepP_15 : decode prog_99_method_4_code 15 = .ok (.isub, 1) := by decide +kernel
theorem dstepP_16 : decode prog_99_method_4_code 16 = .ok (.invokestatic 40, 3) := by decide +kernel
theorem dstepP_19 : decode prog_99_method_4_code 19 = .ok (.iadd, 1) := by decide +kernel
theorem dstepP_20 : decode prog_99_method_4_code 20 = .ok (.goto 4, 3) := by decide +kernel
theorem dstepP_23 : decode prog_99_method_4_code 23 = .ok (.iconst 1, 1) := by decide +kernel
theorem dstepP_24 : decode prog_99_method_4_code 24 = .ok (.ireturn, 1) := by decide +kernel
set_option maxRecDepth 65536 in
set_option maxHeartbeats 40000000 in
theorem stepP (l : Launch) (Z : State) (a0 : Array Value) (hw : ∀ d ∈ tables_1, d.before a0 Z = true) (lin : Addr) (hh : Int64) (m : Int32) (h : Heap) (n0 : Nat) (p0_ : Old Z n0 h) (p1_ : Fld Z Z.heap lin "com/example/dispersa/dispersa/internal/ProbeSequence" "hashedStep" "Z" (.int (0 : Int32))) :
    Met l (⟨"com/example/dispersa/dispersa/internal/ProbeSequence", "step", "(JI)I"⟩ : MethodName) prog_99_method_4_code 4 (some .int) [] ({ frames := 0, cells := 0, slots := 0, locals := 0 } : Room) #[(.ref lin), (.long hh), (.int m)] Z h n0 (fun v h' => v = some (.int (1 : Int32)) ∧ h = h') := by
  refine Met.of (plainFor_of_name (by first | (simp [plainName, overriddenIn]; done) | decide +kernel)) ?_
  intro pP eE sS mM bB tT cC K
  refine Go.entry (ls := #[.val (.ref lin), .val (.long hh), .second, .val (.int m)]) (by first | (simp [argsToLocals, Value.category]; done) | rfl) ?_
  refine go_aloadN (q := 1) K dstepP_0 rfl rfl rfl ?_
  refine go_getF (q := 4) K (wd hw 118 rfl) Via.refl (p1_.ext p0_.2) dstepP_1 rfl ?_
  refine go_if0 (q := 23) (q' := 7) K dstepP_4 (by decide) rfl rfl (fun _ => ?_) (fun hn => cN_no2 hn (show (0 : Int32) = (0 : Int32) from (by decide)))
  refine go_iconst (q := 24) K dstepP_23 (1 : Int32) rfl rfl ?_
  refine go_iret K dstepP_24 rfl (Or.inl rfl) rfl (by decide) (by decide) ?_
  exact ⟨rfl, rfl⟩
theorem dgrowth_0 : decode prog_99_method_5_code 0 = .ok (.aload_n 0, 1) := by decide +kernel
theorem dgrowth_1 : decode prog_99_method_5_code 1 = .ok (.getfield 32, 3) := by decide +kernel
theorem dgrowth_4 : decode prog_99_method_5_code 4 = .ok (.ireturn, 1) := by decide +kernel
set_option maxRecDepth 65536 in
set_option maxHeartbeats 40000000 in
theorem growth (l : Launch) (Z : State) (a0 : Array Value) (hw : ∀ d ∈ tables_1, d.before a0 Z = true) (lin : Addr) (h : Heap) (n0 : Nat) (p0_ : Old Z n0 h) (p1_ : Fld Z Z.heap lin "com/example/dispersa/dispersa/internal/ProbeSequence" "growth" "I" (.int (0 : Int32))) :
    Met l (⟨"com/example/dispersa/dispersa/internal/ProbeSequence", "growth", "()I"⟩ : MethodName) prog_99_method_5_code 1 (some .int) [] ({ frames := 0, cells := 0, slots := 0, locals := 0 } : Room) #[(.ref lin)] Z h n0 (fun v h' => v = some (.int (0 : Int32)) ∧ h = h') := by
  refine Met.of (plainFor_of_name (by first | (simp [plainName, overriddenIn]; done) | decide +kernel)) ?_
  intro pP eE sS mM bB tT cC K
  refine Go.entry (ls := #[.val (.ref lin)]) (by first | (simp [argsToLocals, Value.category]; done) | rfl) ?_
  refine go_aloadN (q := 1) K dgrowth_0 rfl rfl rfl ?_
  refine go_getF (q := 4) K (wd hw 125 rfl) Via.refl (p1_.ext p0_.2) dgrowth_1 rfl ?_
  refine go_iret K dgrowth_4 rfl (Or.inl rfl) rfl (by decide) (by decide) ?_
  exact ⟨rfl, rfl⟩
theorem dcompd_0 : decode prog_109_method_54_code 0 = .ok (.aload_n 0, 1) := by decide +kernel
theorem dcompd_1 : decode prog_109_method_54_code 1 = .ok (.getfield 25, 3) := by decide +kernel
theorem dcompd_4 : decode prog_109_method_54_code 4 = .ok (.ifCond .eq 12, 3) := by decide +kernel
theorem dcompd_7 : decode prog_109_method_54_code 7 = .ok (.aload_n 0, 1) := by decide +kernel
theorem dcompd_8 : decode prog_109_method_54_code 8 = .ok (.getfield 70, 3) := by decide +kernel
theorem dcompd_11 : decode prog_109_method_54_code 11 = .ok (.iconst 1, 1) := by decide +kernel
theorem dcompd_12 : decode prog_109_method_54_code 12 = .ok (.iadd, 1) := by decide +kernel
theorem dcompd_13 : decode prog_109_method_54_code 13 = .ok (.goto 7, 3) := by decide +kernel
theorem dcompd_16 : decode prog_109_method_54_code 16 = .ok (.aload_n 0, 1) := by decide +kernel
theorem dcompd_17 : decode prog_109_method_54_code 17 = .ok (.getfield 45, 3) := by decide +kernel
theorem dcompd_20 : decode prog_109_method_54_code 20 = .ok (.ireturn, 1) := by decide +kernel
set_option maxRecDepth 65536 in
set_option maxHeartbeats 40000000 in
theorem compd (l : Launch) (Z : State) (a0 : Array Value) (hw : ∀ d ∈ tables_1, d.before a0 Z = true) (t : Addr) (m : Int32) (h : Heap) (n0 : Nat) (p0_ : Fld Z h t "com/example/dispersa/dispersa/internal/SlotTable" "bounded" "Z" (.int (0 : Int32))) (p1_ : Fld Z h t "com/example/dispersa/dispersa/internal/SlotTable" "length" "I" (.int m)) :
    Met l (⟨"com/example/dispersa/dispersa/internal/SlotTable", "compared", "()I"⟩ : MethodName) prog_109_method_54_code 1 (some .int) [] ({ frames := 0, cells := 0, slots := 0, locals := 0 } : Room) #[(.ref t)] Z h n0 (fun v h' => v = some (.int m) ∧ h = h') := by
  refine Met.of (plainFor_of_name (by first | (simp [plainName, overriddenIn]; done) | decide +kernel)) ?_
  intro pP eE sS mM bB tT cC K
  refine Go.entry (ls := #[.val (.ref t)]) (by first | (simp [argsToLocals, Value.category]; done) | rfl) ?_
  refine go_aloadN (q := 1) K dcompd_0 rfl rfl rfl ?_
  refine go_getF (q := 4) K (wd hw 23 rfl) Via.refl p0_ dcompd_1 rfl ?_
  refine go_if0 (q := 16) (q' := 7) K dcompd_4 (by decide) rfl rfl (fun _ => ?_) (fun hn => cN_no2 hn (show (0 : Int32) = (0 : Int32) from (by decide)))
  refine go_aloadN (q := 17) K dcompd_16 rfl rfl rfl ?_
  refine go_getF (q := 20) K (wd hw 53 rfl) Via.refl p1_ dcompd_17 rfl ?_
  refine go_iret K dcompd_20 rfl (Or.inl rfl) rfl (by decide) (by decide) ?_
  exact ⟨rfl, rfl⟩
theorem dposn_0 : decode prog_109_method_8_code 0 = .ok (.aload_n 0, 1) := by decide +kernel
theorem dposn_1 : decode prog_109_method_8_code 1 = .ok (.getfield 67, 3) := by decide +kernel
theorem dposn_4 : decode prog_109_method_8_code 4 = .ok (.ireturn, 1) := by decide +kernel
set_option maxRecDepth 65536 in
set_option maxHeartbeats 40000000 in
theorem posn (l : Launch) (Z : State) (a0 : Array Value) (hw : ∀ d ∈ tables_1, d.before a0 Z = true) (t : Addr) (po : Int32) (h : Heap) (n0 : Nat) (p0_ : Fld Z h t "com/example/dispersa/dispersa/internal/SlotTable" "position" "I" (.int po)) :
    Met l (⟨"com/example/dispersa/dispersa/internal/SlotTable", "position", "()I"⟩ : MethodName) prog_109_method_8_code 1 (some .int) [] ({ frames := 0, cells := 0, slots := 0, locals := 0 } : Room) #[(.ref t)] Z h n0 (fun v h' => v = some (.int po) ∧ h = h') := by
  refine Met.of (plainFor_of_name (by first | (simp [plainName, overriddenIn]; done) | decide +kernel)) ?_
  intro pP eE sS mM bB tT cC K
  refine Go.entry (ls := #[.val (.ref t)]) (by first | (simp [argsToLocals, Value.category]; done) | rfl) ?_
  refine go_aloadN (q := 1) K dposn_0 rfl rfl rfl ?_
  refine go_getF (q := 4) K (wd hw 148 rfl) Via.refl p0_ dposn_1 rfl ?_
  refine go_iret K dposn_4 rfl (Or.inl rfl) rfl (by decide) (by decide) ?_
  exact ⟨rfl, rfl⟩
def own_eq (kv ky : Int32) : Int32 := if kv = ky then 1 else 0
def own_st (kv : Int32) : Int32 := if kv = -2 then 1 else if kv = -1 then 0 else 2
def own_un (kv : Int32) : Int32 := if own_st kv = 0 then 1 else 0
theorem own_off1 : lookupswitch.offset #[((-2 : Int), (30 : Int)), (-1, 26)].toList 34 (-2 : Int32).toInt = 30 := rfl
theorem own_off2 : lookupswitch.offset #[((-2 : Int), (30 : Int)), (-1, 26)].toList 34 (-1 : Int32).toInt = 26 := rfl
theorem own_off3 {kv : Int32} (h1 : ¬ kv = -2) (h2 : ¬ kv = -1) : lookupswitch.offset #[((-2 : Int), (30 : Int)), (-1, 26)].toList 34 kv.toInt = 34 := by
  have e1 : ¬ (-2 : Int) = kv.toInt := fun q => h1 (Int32.toInt_inj.mp (by rw [← q]; rfl))
  have e2 : ¬ (-1 : Int) = kv.toInt := fun q => h2 (Int32.toInt_inj.mp (by rw [← q]; rfl))
  simp [lookupswitch.offset, e1, e2]
theorem dholds_0 : decode prog_86_method_8_code 0 = .ok (.aload_n 0, 1) := by decide +kernel
theorem dholds_1 : decode prog_86_method_8_code 1 = .ok (.getfield 7, 3) := by decide +kernel
theorem dholds_4 : decode prog_86_method_8_code 4 = .ok (.iload_n 1, 1) := by decide +kernel
theorem dholds_5 : decode prog_86_method_8_code 5 = .ok (.iaload, 1) := by decide +kernel
theorem dholds_6 : decode prog_86_method_8_code 6 = .ok (.lload_n 2, 1) := by decide +kernel
theorem dholds_7 : decode prog_86_method_8_code 7 = .ok (.l2i, 1) := by decide +kernel
theorem dholds_8 : decode prog_86_method_8_code 8 = .ok (.if_icmp .ne 7, 3) := by decide +kernel
theorem dholds_11 : decode prog_86_method_8_code 11 = .ok (.iconst 1, 1) := by decide +kernel
theorem dholds_12 : decode prog_86_method_8_code 12 = .ok (.goto 4, 3) := by decide +kernel
theorem dholds_15 : decode prog_86_method_8_code 15 = .ok (.iconst 0, 1) := by decide +kernel
theorem dholds_16 : decode prog_86_method_8_code 16 = .ok (.ireturn, 1) := by decide +kernel
set_option maxRecDepth 65536 in
set_option maxHeartbeats 40000000 in
theorem holds (l : Launch) (Z : State) (a0 : Array Value) (hw : ∀ d ∈ tables_1, d.before a0 Z = true) (t : Addr) (ka : Addr) (kl : ClassId) (ks : List Value) (s_ : Int32) (kv : Int32) (ky : Int32) (fl : Int32) (h : Heap) (n0 : Nat) (p0_ : Fld Z h t "com/example/dispersa/dispersa/internal/LayoutTable" "keys" "[I" (.ref ka)) (p1_ : Ary Z h ka kl .int ks) (hs0 : ¬ s_ < (0 : Int32)) (hkv : ks[s_.toNatClampNeg]? = some (.int kv)) :
    Met l (⟨"com/example/dispersa/dispersa/internal/LayoutTable", "holds", "(IJLjava/lang/Object;Z)Z"⟩ : MethodName) prog_86_method_8_code 6 (some .boolean) [] ({ frames := 0, cells := 0, slots := 0, locals := 0 } : Room) #[(.ref t), (.int s_), (.long (own_hash ky)), .null, (.int fl)] Z h n0 (fun v h' => v = some (.int (own_eq kv ky)) ∧ h = h') := by
  refine Met.of (plainFor_of_name (by first | (simp [plainName, overriddenIn]; done) | decide +kernel)) ?_
  intro pP eE sS mM bB tT cC K
  refine Go.entry (ls := #[.val (.ref t), .val (.int s_), .val (.long (own_hash ky)), .second, .val .null, .val (.int fl)]) (by first | (simp [argsToLocals, Value.category]; done) | rfl) ?_
  refine go_aloadN (q := 1) K dholds_0 rfl rfl rfl ?_
  refine go_getF (q := 4) K (wd hw 78 rfl) Via.refl p0_ dholds_1 rfl ?_
  refine go_iloadN (q := 5) K dholds_4 rfl rfl ?_
  refine go_iaload (q := 6) K p1_ hs0 hkv dholds_5 rfl ?_
  refine go_lloadN (q := 7) K dholds_6 rfl rfl ?_
  refine go_l2i (q := 8) K dholds_7 rfl ?_
  refine go_eqI (y := ky) (own_hash_lo ky) ?_
  refine go_icmp (q := 15) (q' := 11) K dholds_8 (by decide) rfl rfl (fun hc8 => ?_) (fun hc8 => ?_)
  · have hc8 : ¬ kv = ky := hc8
    refine go_iconst (q := 16) K dholds_15 (0 : Int32) rfl rfl ?_
    refine go_iret K dholds_16 rfl (Or.inr (Or.inl rfl)) rfl (by decide) (by decide) ?_
    exact ⟨by rw [own_eq, if_neg hc8], rfl⟩
  · have hc8 : kv = ky := hc8
    refine go_iconst (q := 12) K dholds_11 (1 : Int32) rfl rfl ?_
    refine go_goto (q := 16) K dholds_12 (by decide) rfl ?_
    refine go_iret K dholds_16 rfl (Or.inr (Or.inl rfl)) rfl (by decide) (by decide) ?_
    exact ⟨by rw [own_eq, if_pos hc8], rfl⟩
theorem dstate_0 : decode prog_86_method_7_code 0 = .ok (.aload_n 0, 1) := by decide +kernel
theorem dstate_1 : decode prog_86_method_7_code 1 = .ok (.getfield 7, 3) := by decide +kernel
theorem dstate_4 : decode prog_86_method_7_code 4 = .ok (.iload_n 1, 1) := by decide +kernel
theorem dstate_5 : decode prog_86_method_7_code 5 = .ok (.iaload, 1) := by decide +kernel
theorem dstate_6 : decode prog_86_method_7_code 6 = .ok (.lookupswitch 34 #[(-2, 30), (-1, 26)], 26) := by decide +kernel
theorem dstate_32 : decode prog_86_method_7_code 32 = .ok (.iconst 0, 1) := by decide +kernel
theorem dstate_33 : decode prog_86_method_7_code 33 = .ok (.goto 8, 3) := by decide +kernel
theorem dstate_36 : decode prog_86_method_7_code 36 = .ok (.iconst 1, 1) := by decide +kernel
theorem dstate_37 : decode prog_86_method_7_code 37 = .ok (.goto 4, 3) := by decide +kernel
theorem dstate_40 : decode prog_86_method_7_code 40 = .ok (.iconst 2, 1) := by decide +kernel
theorem dstate_41 : decode prog_86_method_7_code 41 = .ok (.ireturn, 1) := by decide +kernel
set_option maxRecDepth 65536 in
set_option maxHeartbeats 40000000 in
theorem state (l : Launch) (Z : State) (a0 : Array Value) (hw : ∀ d ∈ tables_1, d.before a0 Z = true) (t : Addr) (ka : Addr) (kl : ClassId) (ks : List Value) (s_ : Int32) (kv : Int32) (h : Heap) (n0 : Nat) (p0_ : Fld Z h t "com/example/dispersa/dispersa/internal/LayoutTable" "keys" "[I" (.ref ka)) (p1_ : Ary Z h ka kl .int ks) (hs0 : ¬ s_ < (0 : Int32)) (hkv : ks[s_.toNatClampNeg]? = some (.int kv)) :
    Met l (⟨"com/example/dispersa/dispersa/internal/LayoutTable", "state", "(I)I"⟩ : MethodName) prog_86_method_7_code 2 (some .int) [] ({ frames := 0, cells := 0, slots := 0, locals := 0 } : Room) #[(.ref t), (.int s_)] Z h n0 (fun v h' => v = some (.int (own_st kv)) ∧ h = h') := by
  refine Met.of (plainFor_of_name (by first | (simp [plainName, overriddenIn]; done) | decide +kernel)) ?_
  intro pP eE sS mM bB tT cC K
  refine Go.entry (ls := #[.val (.ref t), .val (.int s_)]) (by first | (simp [argsToLocals, Value.category]; done) | rfl) ?_
  refine go_aloadN (q := 1) K dstate_0 rfl rfl rfl ?_
  refine go_getF (q := 4) K (wd hw 78 rfl) Via.refl p0_ dstate_1 rfl ?_
  refine go_iloadN (q := 5) K dstate_4 rfl rfl ?_
  refine go_iaload (q := 6) K p1_ hs0 hkv dstate_5 rfl ?_
  by_cases e1 : kv = -2
  · subst e1
    refine go_lsw (q := 36) (o := 30) K dstate_6 rfl own_off1 (by decide) rfl ?_
    refine go_iconst (q := 37) K dstate_36 (1 : Int32) rfl rfl ?_
    refine go_goto (q := 41) K dstate_37 (by decide) rfl ?_
    refine go_iret K dstate_41 rfl (Or.inl rfl) rfl (by decide) (by decide) ?_
    exact ⟨rfl, rfl⟩
  · by_cases e2 : kv = -1
    · subst e2
      refine go_lsw (q := 32) (o := 26) K dstate_6 rfl own_off2 (by decide) rfl ?_
      refine go_iconst (q := 33) K dstate_32 (0 : Int32) rfl rfl ?_
      refine go_goto (q := 41) K dstate_33 (by decide) rfl ?_
      refine go_iret K dstate_41 rfl (Or.inl rfl) rfl (by decide) (by decide) ?_
      exact ⟨rfl, rfl⟩
    · refine go_lsw (q := 40) (o := 34) K dstate_6 rfl (own_off3 e1 e2) (by decide) rfl ?_
      refine go_iconst (q := 41) K dstate_40 (2 : Int32) rfl rfl ?_
      refine go_iret K dstate_41 rfl (Or.inl rfl) rfl (by decide) (by decide) ?_
      exact ⟨by rw [own_st, if_neg e1, if_neg e2], rfl⟩
theorem dunused_0 : decode prog_109_method_19_code 0 = .ok (.aload_n 0, 1) := by decide +kernel
theorem dunused_1 : decode prog_109_method_19_code 1 = .ok (.iload_n 1, 1) := by decide +kernel
theorem dunused_2 : decode prog_109_method_19_code 2 = .ok (.invokevirtual 85, 3) := by decide +kernel
theorem dunused_5 : decode prog_109_method_19_code 5 = .ok (.ifCond .ne 7, 3) := by decide +kernel
theorem dunused_8 : decode prog_109_method_19_code 8 = .ok (.iconst 1, 1) := by decide +kernel
theorem dunused_9 : decode prog_109_method_19_code 9 = .ok (.goto 4, 3) := by decide +kernel
theorem dunused_12 : decode prog_109_method_19_code 12 = .ok (.iconst 0, 1) := by decide +kernel
theorem dunused_13 : decode prog_109_method_19_code 13 = .ok (.ireturn, 1) := by decide +kernel
set_option maxRecDepth 65536 in
set_option maxHeartbeats 40000000 in
theorem unused (l : Launch) (Z : State) (a0 : Array Value) (hw : ∀ d ∈ tables_1, d.before a0 Z = true) (t : Addr) (ka : Addr) (kl : ClassId) (ks : List Value) (s_ : Int32) (kv : Int32) (h : Heap) (n0 : Nat) (p0_ : Exa Z h t "com/example/dispersa/dispersa/internal/LayoutTable") (p1_ : Fld Z h t "com/example/dispersa/dispersa/internal/LayoutTable" "keys" "[I" (.ref ka)) (p2_ : Ary Z h ka kl .int ks) (hs0 : ¬ s_ < (0 : Int32)) (hkv : ks[s_.toNatClampNeg]? = some (.int kv)) :
    Met l (⟨"com/example/dispersa/dispersa/internal/SlotTable", "unused", "(I)Z"⟩ : MethodName) prog_109_method_19_code 2 (some .boolean) [] ({ frames := 1, cells := 0, slots := 0, locals := 14 } : Room) #[(.ref t), (.int s_)] Z h n0 (fun v h' => v = some (.int (own_un kv)) ∧ h = h') := by
  refine Met.of (plainFor_of_name (by first | (simp [plainName, overriddenIn]; done) | decide +kernel)) ?_
  intro pP eE sS mM bB tT cC K
  refine Go.entry (ls := #[.val (.ref t), .val (.int s_)]) (by first | (simp [argsToLocals, Value.category]; done) | rfl) ?_
  refine go_aloadN (q := 1) K dunused_0 rfl rfl rfl ?_
  refine go_iloadN (q := 2) K dunused_1 rfl rfl ?_
  refine go_callV (q := 5) (W := 0) K (wd hw 137 rfl) (wd hw 138 rfl) (wd hw 139 rfl) (wd hw 140 rfl) (wd hw 3 rfl) (wd hw 141 rfl) (wd hw 36 rfl) rfl p0_ [(.int s_)] [] (state l Z a0 hw _ _ _ _ _ _ _ n0 p1_ p2_ hs0 hkv) dunused_2 (ps := [.int]) (by decide +kernel) rfl rfl rfl (by decide) rfl (by decide) (by decide) (by decide) (by decide) rfl ?_
  rintro _ _ ⟨rfl, rfl⟩
  show Go pP l eE _ sS mM _ bB tT cC n0 _ h 0 0 (mkF mM 5 #[.val (.ref t), .val (.int s_)] [(.int (own_st kv))])
  refine go_if0 (q := 12) (q' := 8) K dunused_5 (by decide) rfl rfl (fun hc5 => ?_) (fun hc5 => ?_)
  · have hc5 : ¬ (own_st kv) = (0 : Int32) := hc5
    refine go_iconst (q := 13) K dunused_12 (0 : Int32) rfl rfl ?_
    refine go_iret K dunused_13 rfl (Or.inr (Or.inl rfl)) rfl (by decide) (by decide) ?_
    exact ⟨by rw [own_un, if_neg hc5], rfl⟩
  · have hc5 : (own_st kv) = (0 : Int32) := hc5
    refine go_iconst (q := 9) K dunused_8 (1 : Int32) rfl rfl ?_
    refine go_goto (q := 13) K dunused_9 (by decide) rfl ?_
    refine go_iret K dunused_13 rfl (Or.inr (Or.inl rfl)) rfl (by decide) (by decide) ?_
    exact ⟨by rw [own_un, if_pos hc5], rfl⟩
theorem dstop_0 : decode prog_109_method_63_code 0 = .ok (.aload_n 0, 1) := by decide +kernel
theorem dstop_1 : decode prog_109_method_63_code 1 = .ok (.getfield 35, 3) := by decide +kernel
theorem dstop_4 : decode prog_109_method_63_code 4 = .ok (.ifCond .eq 14, 3) := by decide +kernel
theorem dstop_7 : decode prog_109_method_63_code 7 = .ok (.aload_n 0, 1) := by decide +kernel
theorem dstop_8 : decode prog_109_method_63_code 8 = .ok (.dup, 1) := by decide +kernel
theorem dstop_9 : decode prog_109_method_63_code 9 = .ok (.getfield 52, 3) := by decide +kernel
theorem dstop_12 : decode prog_109_method_63_code 12 = .ok (.iload_n 1, 1) := by decide +kernel
theorem dstop_13 : decode prog_109_method_63_code 13 = .ok (.i2l, 1) := by decide +kernel
theorem dstop_14 : decode prog_109_method_63_code 14 = .ok (.ladd, 1) := by decide +kernel
theorem dstop_15 : decode prog_109_method_63_code 15 = .ok (.putfield 52, 3) := by decide +kernel
theorem dstop_18 : decode prog_109_method_63_code 18 = .ok (.aload_n 0, 1) := by decide +kernel
theorem dstop_19 : decode prog_109_method_63_code 19 = .ok (.iload_n 2, 1) := by decide +kernel
theorem dstop_20 : decode prog_109_method_63_code 20 = .ok (.putfield 67, 3) := by decide +kernel
theorem dstop_23 : decode prog_109_method_63_code 23 = .ok (.iload_n 3, 1) := by decide +kernel
theorem dstop_24 : decode prog_109_method_63_code 24 = .ok (.ireturn, 1) := by decide +kernel
set_option maxRecDepth 65536 in
set_option maxHeartbeats 40000000 in
theorem stop (l : Launch) (Z : State) (a0 : Array Value) (hw : ∀ d ∈ tables_1, d.before a0 Z = true) (t : Addr) (lin : Addr) (m : Int32) (mk : Int32) (mu : Int32) (re : Int32) (pr : Int64) (po : Int32) (ka : Addr) (xm : Int32) (ps : Int32) (r : Int32) (h : Heap) (n0 : Nat) (p0_ : Exa Z h t "com/example/dispersa/dispersa/internal/LayoutTable") (p1_ : n0 ≤ t) (p2_ : Fld Z h t "com/example/dispersa/dispersa/internal/SlotTable" "probing" "Lcom/example/dispersa/dispersa/internal/ProbeSequence;" (.ref lin)) (p3_ : Fld Z h t "com/example/dispersa/dispersa/internal/SlotTable" "bounded" "Z" (.int (0 : Int32))) (p4_ : Fld Z h t "com/example/dispersa/dispersa/internal/SlotTable" "marksHomes" "Z" (.int (0 : Int32))) (p5_ : Fld Z h t "com/example/dispersa/dispersa/internal/SlotTable" "ordersRuns" "Z" (.int (0 : Int32))) (p6_ : Fld Z h t "com/example/dispersa/dispersa/internal/SlotTable" "counting" "Z" (.int (1 : Int32))) (p7_ : Fld Z h t "com/example/dispersa/dispersa/internal/SlotTable" "stopsAtReach" "Z" (.int (0 : Int32))) (p8_ : Fld Z h t "com/example/dispersa/dispersa/internal/SlotTable" "length" "I" (.int m)) (p9_ : Fld Z h t "com/example/dispersa/dispersa/internal/SlotTable" "mask" "I" (.int mk)) (p10_ : Fld Z h t "com/example/dispersa/dispersa/internal/SlotTable" "linear" "Z" (.int (0 : Int32))) (p11_ : Fld Z h t "com/example/dispersa/dispersa/internal/SlotTable" "goesOn" "Z" (.int (0 : Int32))) (p12_ : Fld Z h t "com/example/dispersa/dispersa/internal/SlotTable" "markers" "I" (.int mu)) (p13_ : Fld Z h t "com/example/dispersa/dispersa/internal/SlotTable" "reach" "I" (.int re)) (p14_ : Fld Z h t "com/example/dispersa/dispersa/internal/SlotTable" "probes" "J" (.long pr)) (p15_ : Fld Z h t "com/example/dispersa/dispersa/internal/SlotTable" "position" "I" (.int po)) (p16_ : Fld Z h t "com/example/dispersa/dispersa/internal/LayoutTable" "keys" "[I" (.ref ka)) (p17_ : Fld Z h t "com/example/dispersa/dispersa/internal/LayoutTable" "turnedAway" "Z" (.int (0 : Int32))) :
    Met l (⟨"com/example/dispersa/dispersa/internal/SlotTable", "stop", "(III)I"⟩ : MethodName) prog_109_method_63_code 4 (some .int) [] ({ frames := 0, cells := 0, slots := 0, locals := 0 } : Room) #[(.ref t), (.int xm), (.int ps), (.int r)] Z h n0 (fun v h' => v = some (.int r) ∧ Keep h h' [t] ∧ Exa Z h' t "com/example/dispersa/dispersa/internal/LayoutTable" ∧ Fld Z h' t "com/example/dispersa/dispersa/internal/SlotTable" "probing" "Lcom/example/dispersa/dispersa/internal/ProbeSequence;" (.ref lin) ∧ Fld Z h' t "com/example/dispersa/dispersa/internal/SlotTable" "bounded" "Z" (.int (0 : Int32)) ∧ Fld Z h' t "com/example/dispersa/dispersa/internal/SlotTable" "marksHomes" "Z" (.int (0 : Int32)) ∧ Fld Z h' t "com/example/dispersa/dispersa/internal/SlotTable" "ordersRuns" "Z" (.int (0 : Int32)) ∧ Fld Z h' t "com/example/dispersa/dispersa/internal/SlotTable" "counting" "Z" (.int (1 : Int32)) ∧ Fld Z h' t "com/example/dispersa/dispersa/internal/SlotTable" "stopsAtReach" "Z" (.int (0 : Int32)) ∧ Fld Z h' t "com/example/dispersa/dispersa/internal/SlotTable" "length" "I" (.int m) ∧ Fld Z h' t "com/example/dispersa/dispersa/internal/SlotTable" "mask" "I" (.int mk) ∧ Fld Z h' t "com/example/dispersa/dispersa/internal/SlotTable" "linear" "Z" (.int (0 : Int32)) ∧ Fld Z h' t "com/example/dispersa/dispersa/internal/SlotTable" "goesOn" "Z" (.int (0 : Int32)) ∧ Fld Z h' t "com/example/dispersa/dispersa/internal/SlotTable" "markers" "I" (.int mu) ∧ Fld Z h' t "com/example/dispersa/dispersa/internal/SlotTable" "reach" "I" (.int re) ∧ Fld Z h' t "com/example/dispersa/dispersa/internal/SlotTable" "probes" "J" (.long (pr + xm.toInt64)) ∧ Fld Z h' t "com/example/dispersa/dispersa/internal/SlotTable" "position" "I" (.int ps) ∧ Fld Z h' t "com/example/dispersa/dispersa/internal/LayoutTable" "keys" "[I" (.ref ka) ∧ Fld Z h' t "com/example/dispersa/dispersa/internal/LayoutTable" "turnedAway" "Z" (.int (0 : Int32))) := by
  refine Met.of (plainFor_of_name (by first | (simp [plainName, overriddenIn]; done) | decide +kernel)) ?_
  intro pP eE sS mM bB tT cC K
  refine Go.entry (ls := #[.val (.ref t), .val (.int xm), .val (.int ps), .val (.int r)]) (by first | (simp [argsToLocals, Value.category]; done) | rfl) ?_
  refine go_aloadN (q := 1) K dstop_0 rfl rfl rfl ?_
  refine go_getF (q := 4) K (wd hw 29 rfl) Via.refl p6_ dstop_1 rfl ?_
  refine go_if0 (q := 18) (q' := 7) K dstop_4 (by decide) rfl rfl (fun hn => cN_no hn (show ¬ (1 : Int32) = (0 : Int32) from (by decide))) (fun _ => ?_)
  refine go_aloadN (q := 8) K dstop_7 rfl rfl rfl ?_
  refine go_dup (q := 9) K dstop_8 rfl rfl ?_
  refine go_getF (q := 12) K (wd hw 146 rfl) Via.refl p14_ dstop_9 rfl ?_
  refine go_iloadN (q := 13) K dstop_12 rfl rfl ?_
  refine go_i2l (q := 14) K dstop_13 rfl ?_
  refine go_ladd (q := 15) K dstop_14 rfl ?_
  refine go_putF (q := 18) K (wd hw 146 rfl) Via.refl p14_ p0_ (Or.inl (wd hw 147 rfl)) (wd hw 2 rfl) (ty := .long) (by decide +kernel) rfl rfl p1_ dstop_15 rfl ?_
  intro h1 Wh1
  refine go_aloadN (q := 19) K dstop_18 rfl rfl rfl ?_
  refine go_iloadN (q := 20) K dstop_19 rfl rfl ?_
  have f1 := (p15_.other Wh1 (Or.inr (slot_ne (C := "com/example/dispersa/dispersa/internal/LayoutTable") (Or.inl (wd hw 149 rfl)) (Or.inl (wd hw 147 rfl)) (by decide) (t := .int) (t' := .long) (by decide +kernel) (by decide +kernel))))
  have f2 := (p0_.wr Wh1)
  refine go_putF (q := 23) K (wd hw 148 rfl) Via.refl f1 f2 (Or.inl (wd hw 149 rfl)) (wd hw 2 rfl) (ty := .int) (by decide +kernel) rfl rfl p1_ dstop_20 rfl ?_
  intro h2 Wh2
  refine go_iloadN (q := 24) K dstop_23 rfl rfl ?_
  refine go_iret K dstop_24 rfl (Or.inl rfl) rfl (by decide) (by decide) ?_
  have f3 := (((Keep.refl h [t]).wr Wh1 (Or.inl (by simp))).wr Wh2 (Or.inl (by simp)))
  have f4 := (f2.wr Wh2)
  have f5 := ((p2_.other Wh1 (Or.inr (slot_ne (C := "com/example/dispersa/dispersa/internal/LayoutTable") (Or.inr (wd hw 22 rfl)) (Or.inl (wd hw 147 rfl)) (by decide) (t := (.object "com/example/dispersa/dispersa/internal/ProbeSequence")) (t' := .long) (by decide +kernel) (by decide +kernel)))).other Wh2 (Or.inr (slot_ne (C := "com/example/dispersa/dispersa/internal/LayoutTable") (Or.inr (wd hw 22 rfl)) (Or.inl (wd hw 149 rfl)) (by decide) (t := (.object "com/example/dispersa/dispersa/internal/ProbeSequence")) (t' := .int) (by decide +kernel) (by decide +kernel))))
  have f6 := ((p3_.other Wh1 (Or.inr (slot_ne (C := "com/example/dispersa/dispersa/internal/LayoutTable") (Or.inr (wd hw 24 rfl)) (Or.inl (wd hw 147 rfl)) (by decide) (t := .boolean) (t' := .long) (by decide +kernel) (by decide +kernel)))).other Wh2 (Or.inr (slot_ne (C := "com/example/dispersa/dispersa/internal/LayoutTable") (Or.inr (wd hw 24 rfl)) (Or.inl (wd hw 149 rfl)) (by decide) (t := .boolean) (t' := .int) (by decide +kernel) (by decide +kernel))))
  have f7 := ((p4_.other Wh1 (Or.inr (slot_ne (C := "com/example/dispersa/dispersa/internal/LayoutTable") (Or.inr (wd hw 26 rfl)) (Or.inl (wd hw 147 rfl)) (by decide) (t := .boolean) (t' := .long) (by decide +kernel) (by decide +kernel)))).other Wh2 (Or.inr (slot_ne (C := "com/example/dispersa/dispersa/internal/LayoutTable") (Or.inr (wd hw 26 rfl)) (Or.inl (wd hw 149 rfl)) (by decide) (t := .boolean) (t' := .int) (by decide +kernel) (by decide +kernel))))
  have f8 := ((p5_.other Wh1 (Or.inr (slot_ne (C := "com/example/dispersa/dispersa/internal/LayoutTable") (Or.inr (wd hw 28 rfl)) (Or.inl (wd hw 147 rfl)) (by decide) (t := .boolean) (t' := .long) (by decide +kernel) (by decide +kernel)))).other Wh2 (Or.inr (slot_ne (C := "com/example/dispersa/dispersa/internal/LayoutTable") (Or.inr (wd hw 28 rfl)) (Or.inl (wd hw 149 rfl)) (by decide) (t := .boolean) (t' := .int) (by decide +kernel) (by decide +kernel))))
  have f9 := ((p6_.other Wh1 (Or.inr (slot_ne (C := "com/example/dispersa/dispersa/internal/LayoutTable") (Or.inl (wd hw 30 rfl)) (Or.inl (wd hw 147 rfl)) (by decide) (t := .boolean) (t' := .long) (by decide +kernel) (by decide +kernel)))).other Wh2 (Or.inr (slot_ne (C := "com/example/dispersa/dispersa/internal/LayoutTable") (Or.inl (wd hw 30 rfl)) (Or.inl (wd hw 149 rfl)) (by decide) (t := .boolean) (t' := .int) (by decide +kernel) (by decide +kernel))))
  have f10 := ((p7_.other Wh1 (Or.inr (slot_ne (C := "com/example/dispersa/dispersa/internal/LayoutTable") (Or.inl (wd hw 32 rfl)) (Or.inl (wd hw 147 rfl)) (by decide) (t := .boolean) (t' := .long) (by decide +kernel) (by decide +kernel)))).other Wh2 (Or.inr (slot_ne (C := "com/example/dispersa/dispersa/internal/LayoutTable") (Or.inl (wd hw 32 rfl)) (Or.inl (wd hw 149 rfl)) (by decide) (t := .boolean) (t' := .int) (by decide +kernel) (by decide +kernel))))
  have f11 := ((p8_.other Wh1 (Or.inr (slot_ne (C := "com/example/dispersa/dispersa/internal/LayoutTable") (Or.inl (wd hw 54 rfl)) (Or.inl (wd hw 147 rfl)) (by decide) (t := .int) (t' := .long) (by decide +kernel) (by decide +kernel)))).other Wh2 (Or.inr (slot_ne (C := "com/example/dispersa/dispersa/internal/LayoutTable") (Or.inl (wd hw 54 rfl)) (Or.inl (wd hw 149 rfl)) (by decide) (t := .int) (t' := .int) (by decide +kernel) (by decide +kernel))))
  have f12 := ((p9_.other Wh1 (Or.inr (slot_ne (C := "com/example/dispersa/dispersa/internal/LayoutTable") (Or.inl (wd hw 63 rfl)) (Or.inl (wd hw 147 rfl)) (by decide) (t := .int) (t' := .long) (by decide +kernel) (by decide +kernel)))).other Wh2 (Or.inr (slot_ne (C := "com/example/dispersa/dispersa/internal/LayoutTable") (Or.inl (wd hw 63 rfl)) (Or.inl (wd hw 149 rfl)) (by decide) (t := .int) (t' := .int) (by decide +kernel) (by decide +kernel))))
  have f13 := ((p10_.other Wh1 (Or.inr (slot_ne (C := "com/example/dispersa/dispersa/internal/LayoutTable") (Or.inl (wd hw 66 rfl)) (Or.inl (wd hw 147 rfl)) (by decide) (t := .boolean) (t' := .long) (by decide +kernel) (by decide +kernel)))).other Wh2 (Or.inr (slot_ne (C := "com/example/dispersa/dispersa/internal/LayoutTable") (Or.inl (wd hw 66 rfl)) (Or.inl (wd hw 149 rfl)) (by decide) (t := .boolean) (t' := .int) (by decide +kernel) (by decide +kernel))))
  have f14 := ((p11_.other Wh1 (Or.inr (slot_ne (C := "com/example/dispersa/dispersa/internal/LayoutTable") (Or.inl (wd hw 72 rfl)) (Or.inl (wd hw 147 rfl)) (by decide) (t := .boolean) (t' := .long) (by decide +kernel) (by decide +kernel)))).other Wh2 (Or.inr (slot_ne (C := "com/example/dispersa/dispersa/internal/LayoutTable") (Or.inl (wd hw 72 rfl)) (Or.inl (wd hw 149 rfl)) (by decide) (t := .boolean) (t' := .int) (by decide +kernel) (by decide +kernel))))
  have f15 := ((p12_.other Wh1 (Or.inr (slot_ne (C := "com/example/dispersa/dispersa/internal/LayoutTable") (Or.inl (wd hw 74 rfl)) (Or.inl (wd hw 147 rfl)) (by decide) (t := .int) (t' := .long) (by decide +kernel) (by decide +kernel)))).other Wh2 (Or.inr (slot_ne (C := "com/example/dispersa/dispersa/internal/LayoutTable") (Or.inl (wd hw 74 rfl)) (Or.inl (wd hw 149 rfl)) (by decide) (t := .int) (t' := .int) (by decide +kernel) (by decide +kernel))))
  have f16 := ((p13_.other Wh1 (Or.inr (slot_ne (C := "com/example/dispersa/dispersa/internal/LayoutTable") (Or.inl (wd hw 76 rfl)) (Or.inl (wd hw 147 rfl)) (by decide) (t := .int) (t' := .long) (by decide +kernel) (by decide +kernel)))).other Wh2 (Or.inr (slot_ne (C := "com/example/dispersa/dispersa/internal/LayoutTable") (Or.inl (wd hw 76 rfl)) (Or.inl (wd hw 149 rfl)) (by decide) (t := .int) (t' := .int) (by decide +kernel) (by decide +kernel))))
  have f17 := ((p14_.same Wh1).other Wh2 (Or.inr (slot_ne (C := "com/example/dispersa/dispersa/internal/LayoutTable") (Or.inl (wd hw 147 rfl)) (Or.inl (wd hw 149 rfl)) (by decide) (t := .long) (t' := .int) (by decide +kernel) (by decide +kernel))))
  have f18 := ((p16_.other Wh1 (Or.inr (slot_ne (C := "com/example/dispersa/dispersa/internal/LayoutTable") (Or.inr (wd hw 79 rfl)) (Or.inl (wd hw 147 rfl)) (by decide) (t := (.array .int)) (t' := .long) (by decide +kernel) (by decide +kernel)))).other Wh2 (Or.inr (slot_ne (C := "com/example/dispersa/dispersa/internal/LayoutTable") (Or.inr (wd hw 79 rfl)) (Or.inl (wd hw 149 rfl)) (by decide) (t := (.array .int)) (t' := .int) (by decide +kernel) (by decide +kernel))))
  have f19 := ((p17_.other Wh1 (Or.inr (slot_ne (C := "com/example/dispersa/dispersa/internal/LayoutTable") (Or.inl (wd hw 210 rfl)) (Or.inl (wd hw 147 rfl)) (by decide) (t := .boolean) (t' := .long) (by decide +kernel) (by decide +kernel)))).other Wh2 (Or.inr (slot_ne (C := "com/example/dispersa/dispersa/internal/LayoutTable") (Or.inl (wd hw 210 rfl)) (Or.inl (wd hw 149 rfl)) (by decide) (t := .boolean) (t' := .int) (by decide +kernel) (by decide +kernel))))
  exact ⟨rfl, f3, f4, f5, f6, f7, f8, f9, f10, f11, f12, f13, f14, f15, f16, f17, (f1.same Wh2), f18, f19⟩
def own_adv (s st m : Int32) : Int32 := if s + st < m then s + st else s + st - m
theorem dadv_0 : decode prog_109_method_62_code 0 = .ok (.iload_n 0, 1) := by decide +kernel
theorem dadv_1 : decode prog_109_method_62_code 1 = .ok (.iload_n 1, 1) := by decide +kernel
theorem dadv_2 : decode prog_109_method_62_code 2 = .ok (.iadd, 1) := by decide +kernel
theorem dadv_3 : decode prog_109_method_62_code 3 = .ok (.istore_n 3, 1) := by decide +kernel
theorem dadv_4 : decode prog_109_method_62_code 4 = .ok (.iload_n 3, 1) := by decide +kernel
theorem dadv_5 : decode prog_109_method_62_code 5 = .ok (.iload_n 2, 1) := by decide +kernel
theorem dadv_6 : decode prog_109_method_62_code 6 = .ok (.if_icmp .lt 9, 3) := by decide +kernel
theorem dadv_9 : decode prog_109_method_62_code 9 = .ok (.iload_n 3, 1) := by decide +kernel
theorem dadv_10 : decode prog_109_method_62_code 10 = .ok (.iload_n 2, 1) := by decide +kernel
theorem dadv_11 : decode prog_109_method_62_code 11 = .ok (.isub, 1) := by decide +kernel
theorem dadv_12 : decode prog_109_method_62_code 12 = .ok (.goto 4, 3) := by decide +kernel
theorem dadv_15 : decode prog_109_method_62_code 15 = .ok (.iload_n 3, 1) := by decide +kernel
theorem dadv_16 : decode prog_109_method_62_code 16 = .ok (.ireturn, 1) := by decide +kernel
set_option maxRecDepth 65536 in
set_option maxHeartbeats 40000000 in
theorem adv (l : Launch) (Z : State) (a0 : Array Value) (hw : ∀ d ∈ tables_1, d.before a0 Z = true) (s_ : Int32) (sp_ : Int32) (m : Int32) (h : Heap) (n0 : Nat)  :
    Met l (⟨"com/example/dispersa/dispersa/internal/SlotTable", "advance", "(III)I"⟩ : MethodName) prog_109_method_62_code 4 (some .int) [] ({ frames := 0, cells := 0, slots := 0, locals := 0 } : Room) #[(.int s_), (.int sp_), (.int m)] Z h n0 (fun v h' => v = some (.int (own_adv s_ sp_ m)) ∧ h = h') := by
  refine Met.of (plainFor_of_name (by first | (simp [plainName, overriddenIn]; done) | decide +kernel)) ?_
  intro pP eE sS mM bB tT cC K
  refine Go.entry (ls := #[.val (.int s_), .val (.int sp_), .val (.int m), .unset]) (by first | (simp [argsToLocals, Value.category]; done) | rfl) ?_
  refine go_iloadN (q := 1) K dadv_0 rfl rfl ?_
  refine go_iloadN (q := 2) K dadv_1 rfl rfl ?_
  refine go_iadd (q := 3) K dadv_2 rfl ?_
  refine go_istoreN (q := 4) K dadv_3 #[.val (.int s_), .val (.int sp_), .val (.int m), .val (.int (s_ + sp_))] rfl rfl ?_
  refine go_iloadN (q := 5) K dadv_4 rfl rfl ?_
  refine go_iloadN (q := 6) K dadv_5 rfl rfl ?_
  refine go_icmp (q := 15) (q' := 9) K dadv_6 (by decide) rfl rfl (fun hc6 => ?_) (fun hc6 => ?_)
  · have hc6 : (s_ + sp_) < m := hc6
    refine go_iloadN (q := 16) K dadv_15 rfl rfl ?_
    refine go_iret K dadv_16 rfl (Or.inl rfl) rfl (by decide) (by decide) ?_
    exact ⟨by rw [own_adv, if_pos hc6], rfl⟩
  · have hc6 : ¬ (s_ + sp_) < m := hc6
    refine go_iloadN (q := 10) K dadv_9 rfl rfl ?_
    refine go_iloadN (q := 11) K dadv_10 rfl rfl ?_
    refine go_isub (q := 12) K dadv_11 rfl ?_
    refine go_goto (q := 16) K dadv_12 (by decide) rfl ?_
    refine go_iret K dadv_16 rfl (Or.inl rfl) rfl (by decide) (by decide) ?_
    exact ⟨by rw [own_adv, if_neg hc6], rfl⟩
theorem own_eq_yes (ky : Int32) : own_eq ky ky = 1 := if_pos rfl
theorem own_eq_no {kv ky : Int32} (h : ¬ kv = ky) : own_eq kv ky = 0 := if_neg h
theorem own_neg {ky : Int32} (h : 0 ≤ ky.toInt) : ¬ (-1 : Int32) = ky ∧ ¬ (-2 : Int32) = ky := by
  constructor <;> (rintro rfl; revert h; decide)
theorem own_st2 {kv : Int32} (h : 0 ≤ kv.toInt) : own_st kv = 2 := by
  rw [own_st, if_neg (fun q => (own_neg h).2 q.symm), if_neg (fun q => (own_neg h).1 q.symm)]
theorem own_un0 {kv : Int32} (h : ¬ own_st kv = 0) : own_un kv = 0 := if_neg h
theorem own_m0 {m : Int32} (h : 2 ≤ m.toInt ∧ m.toInt ≤ 5) : ¬ (0 : Int32) = m ∧ ¬ (1 : Int32) = m ∧ (1 : Int32) < m := by
  refine ⟨?_, ?_, ?_⟩
  · rintro rfl; revert h; decide
  · rintro rfl; revert h; decide
  · rw [Int32.lt_iff_toInt_lt, own_i1]; omega
theorem dfind_0 : decode prog_109_method_29_code 0 = .ok (.aload_n 0, 1) := by decide +kernel
theorem dfind_1 : decode prog_109_method_29_code 1 = .ok (.getfield 45, 3) := by decide +kernel
theorem dfind_4 : decode prog_109_method_29_code 4 = .ok (.istore 4, 2) := by decide +kernel
theorem dfind_6 : decode prog_109_method_29_code 6 = .ok (.aload_n 0, 1) := by decide +kernel
theorem dfind_7 : decode prog_109_method_29_code 7 = .ok (.lload_n 1, 1) := by decide +kernel
theorem dfind_8 : decode prog_109_method_29_code 8 = .ok (.invokevirtual 103, 3) := by decide +kernel
theorem dfind_11 : decode prog_109_method_29_code 11 = .ok (.istore 5, 2) := by decide +kernel
theorem dfind_13 : decode prog_109_method_29_code 13 = .ok (.aload_n 0, 1) := by decide +kernel
theorem dfind_14 : decode prog_109_method_29_code 14 = .ok (.getfield 21, 3) := by decide +kernel
theorem dfind_17 : decode prog_109_method_29_code 17 = .ok (.lload_n 1, 1) := by decide +kernel
theorem dfind_18 : decode prog_109_method_29_code 18 = .ok (.iload 4, 2) := by decide +kernel
theorem dfind_20 : decode prog_109_method_29_code 20 = .ok (.invokevirtual 107, 3) := by decide +kernel
theorem dfind_23 : decode prog_109_method_29_code 23 = .ok (.istore 6, 2) := by decide +kernel
theorem dfind_25 : decode prog_109_method_29_code 25 = .ok (.aload_n 0, 1) := by decide +kernel
theorem dfind_26 : decode prog_109_method_29_code 26 = .ok (.getfield 21, 3) := by decide +kernel
theorem dfind_29 : decode prog_109_method_29_code 29 = .ok (.invokevirtual 111, 3) := by decide +kernel
theorem dfind_32 : decode prog_109_method_29_code 32 = .ok (.istore 7, 2) := by decide +kernel
theorem dfind_34 : decode prog_109_method_29_code 34 = .ok (.aload_n 0, 1) := by decide +kernel
theorem dfind_35 : decode prog_109_method_29_code 35 = .ok (.invokevirtual 115, 3) := by decide +kernel
theorem dfind_38 : decode prog_109_method_29_code 38 = .ok (.istore 8, 2) := by decide +kernel
theorem dfind_40 : decode prog_109_method_29_code 40 = .ok (.ldc 118, 2) := by decide +kernel
theorem dfind_42 : decode prog_109_method_29_code 42 = .ok (.istore 9, 2) := by decide +kernel
theorem dfind_44 : decode prog_109_method_29_code 44 = .ok (.iconst 0, 1) := by decide +kernel
theorem dfind_45 : decode prog_109_method_29_code 45 = .ok (.istore 10, 2) := by decide +kernel
theorem dfind_47 : decode prog_109_method_29_code 47 = .ok (.iconst 1, 1) := by decide +kernel
theorem dfind_48 : decode prog_109_method_29_code 48 = .ok (.istore 11, 2) := by decide +kernel
theorem dfind_50 : decode prog_109_method_29_code 50 = .ok (.aload_n 0, 1) := by decide +kernel
theorem dfind_51 : decode prog_109_method_29_code 51 = .ok (.iload 5, 2) := by decide +kernel
theorem dfind_53 : decode prog_109_method_29_code 53 = .ok (.lload_n 1, 1) := by decide +kernel
theorem dfind_54 : decode prog_109_method_29_code 54 = .ok (.aload_n 3, 1) := by decide +kernel
theorem dfind_55 : decode prog_109_method_29_code 55 = .ok (.iconst 1, 1) := by decide +kernel
theorem dfind_56 : decode prog_109_method_29_code 56 = .ok (.invokevirtual 119, 3) := by decide +kernel
theorem dfind_59 : decode prog_109_method_29_code 59 = .ok (.ifCond .eq 16, 3) := by decide +kernel
theorem dfind_62 : decode prog_109_method_29_code 62 = .ok (.aload_n 0, 1) := by decide +kernel
theorem dfind_63 : decode prog_109_method_29_code 63 = .ok (.iload 11, 2) := by decide +kernel
theorem dfind_65 : decode prog_109_method_29_code 65 = .ok (.iload 11, 2) := by decide +kernel
theorem dfind_67 : decode prog_109_method_29_code 67 = .ok (.iconst 1, 1) := by decide +kernel
theorem dfind_68 : decode prog_109_method_29_code 68 = .ok (.isub, 1) := by decide +kernel
theorem dfind_69 : decode prog_109_method_29_code 69 = .ok (.iload 5, 2) := by decide +kernel
theorem dfind_71 : decode prog_109_method_29_code 71 = .ok (.invokevirtual 123, 3) := by decide +kernel
theorem dfind_74 : decode prog_109_method_29_code 74 = .ok (.ireturn, 1) := by decide +kernel
theorem dfind_75 : decode prog_109_method_29_code 75 = .ok (.aload_n 0, 1) := by decide +kernel
theorem dfind_76 : decode prog_109_method_29_code 76 = .ok (.iload 5, 2) := by decide +kernel
theorem dfind_78 : decode prog_109_method_29_code 78 = .ok (.invokevirtual 85, 3) := by decide +kernel
theorem dfind_81 : decode prog_109_method_29_code 81 = .ok (.istore 12, 2) := by decide +kernel
theorem dfind_83 : decode prog_109_method_29_code 83 = .ok (.iload 12, 2) := by decide +kernel
theorem dfind_85 : decode prog_109_method_29_code 85 = .ok (.ifCond .ne 38, 3) := by decide +kernel
theorem dfind_88 : decode prog_109_method_29_code 88 = .ok (.iload 9, 2) := by decide +kernel
theorem dfind_90 : decode prog_109_method_29_code 90 = .ok (.ldc 118, 2) := by decide +kernel
theorem dfind_92 : decode prog_109_method_29_code 92 = .ok (.if_icmp .eq 16, 3) := by decide +kernel
theorem dfind_95 : decode prog_109_method_29_code 95 = .ok (.aload_n 0, 1) := by decide +kernel
theorem dfind_96 : decode prog_109_method_29_code 96 = .ok (.iload 11, 2) := by decide +kernel
theorem dfind_98 : decode prog_109_method_29_code 98 = .ok (.iload 10, 2) := by decide +kernel
theorem dfind_100 : decode prog_109_method_29_code 100 = .ok (.iload 9, 2) := by decide +kernel
theorem dfind_102 : decode prog_109_method_29_code 102 = .ok (.invokevirtual 123, 3) := by decide +kernel
theorem dfind_105 : decode prog_109_method_29_code 105 = .ok (.goto 17, 3) := by decide +kernel
theorem dfind_108 : decode prog_109_method_29_code 108 = .ok (.aload_n 0, 1) := by decide +kernel
theorem dfind_109 : decode prog_109_method_29_code 109 = .ok (.iload 11, 2) := by decide +kernel
theorem dfind_111 : decode prog_109_method_29_code 111 = .ok (.iload 11, 2) := by decide +kernel
theorem dfind_113 : decode prog_109_method_29_code 113 = .ok (.iconst 1, 1) := by decide +kernel
theorem dfind_114 : decode prog_109_method_29_code 114 = .ok (.isub, 1) := by decide +kernel
theorem dfind_115 : decode prog_109_method_29_code 115 = .ok (.iload 5, 2) := by decide +kernel
theorem dfind_117 : decode prog_109_method_29_code 117 = .ok (.iconst (-1), 1) := by decide +kernel
theorem dfind_118 : decode prog_109_method_29_code 118 = .ok (.ixor, 1) := by decide +kernel
theorem dfind_119 : decode prog_109_method_29_code 119 = .ok (.invokevirtual 123, 3) := by decide +kernel
theorem dfind_122 : decode prog_109_method_29_code 122 = .ok (.ireturn, 1) := by decide +kernel
theorem dfind_123 : decode prog_109_method_29_code 123 = .ok (.iload 12, 2) := by decide +kernel
theorem dfind_125 : decode prog_109_method_29_code 125 = .ok (.iconst 1, 1) := by decide +kernel
theorem dfind_126 : decode prog_109_method_29_code 126 = .ok (.if_icmp .ne 22, 3) := by decide +kernel
theorem dfind_129 : decode prog_109_method_29_code 129 = .ok (.iload 9, 2) := by decide +kernel
theorem dfind_131 : decode prog_109_method_29_code 131 = .ok (.ldc 118, 2) := by decide +kernel
theorem dfind_133 : decode prog_109_method_29_code 133 = .ok (.if_icmp .ne 15, 3) := by decide +kernel
theorem dfind_136 : decode prog_109_method_29_code 136 = .ok (.iload 5, 2) := by decide +kernel
theorem dfind_138 : decode prog_109_method_29_code 138 = .ok (.iconst (-1), 1) := by decide +kernel
theorem dfind_139 : decode prog_109_method_29_code 139 = .ok (.ixor, 1) := by decide +kernel
theorem dfind_140 : decode prog_109_method_29_code 140 = .ok (.istore 9, 2) := by decide +kernel
theorem dfind_142 : decode prog_109_method_29_code 142 = .ok (.iload 11, 2) := by decide +kernel
theorem dfind_144 : decode prog_109_method_29_code 144 = .ok (.iconst 1, 1) := by decide +kernel
theorem dfind_145 : decode prog_109_method_29_code 145 = .ok (.isub, 1) := by decide +kernel
theorem dfind_146 : decode prog_109_method_29_code 146 = .ok (.istore 10, 2) := by decide +kernel
theorem dfind_148 : decode prog_109_method_29_code 148 = .ok (.iload 11, 2) := by decide +kernel
theorem dfind_150 : decode prog_109_method_29_code 150 = .ok (.iload 8, 2) := by decide +kernel
theorem dfind_152 : decode prog_109_method_29_code 152 = .ok (.if_icmp .lt 57, 3) := by decide +kernel
theorem dfind_155 : decode prog_109_method_29_code 155 = .ok (.iload 9, 2) := by decide +kernel
theorem dfind_157 : decode prog_109_method_29_code 157 = .ok (.ldc 118, 2) := by decide +kernel
theorem dfind_159 : decode prog_109_method_29_code 159 = .ok (.if_icmp .ne 10, 3) := by decide +kernel
theorem dfind_162 : decode prog_109_method_29_code 162 = .ok (.iload 11, 2) := by decide +kernel
theorem dfind_164 : decode prog_109_method_29_code 164 = .ok (.iload 4, 2) := by decide +kernel
theorem dfind_166 : decode prog_109_method_29_code 166 = .ok (.if_icmp .ne 14, 3) := by decide +kernel
theorem dfind_169 : decode prog_109_method_29_code 169 = .ok (.aload_n 0, 1) := by decide +kernel
theorem dfind_170 : decode prog_109_method_29_code 170 = .ok (.iload 11, 2) := by decide +kernel
theorem dfind_172 : decode prog_109_method_29_code 172 = .ok (.iload 10, 2) := by decide +kernel
theorem dfind_174 : decode prog_109_method_29_code 174 = .ok (.iload 9, 2) := by decide +kernel
theorem dfind_176 : decode prog_109_method_29_code 176 = .ok (.invokevirtual 123, 3) := by decide +kernel
theorem dfind_179 : decode prog_109_method_29_code 179 = .ok (.ireturn, 1) := by decide +kernel
theorem dfind_180 : decode prog_109_method_29_code 180 = .ok (.aload_n 0, 1) := by decide +kernel
theorem dfind_181 : decode prog_109_method_29_code 181 = .ok (.aload_n 0, 1) := by decide +kernel
theorem dfind_182 : decode prog_109_method_29_code 182 = .ok (.iload 5, 2) := by decide +kernel
theorem dfind_184 : decode prog_109_method_29_code 184 = .ok (.iload 6, 2) := by decide +kernel
theorem dfind_186 : decode prog_109_method_29_code 186 = .ok (.iload 4, 2) := by decide +kernel
theorem dfind_188 : decode prog_109_method_29_code 188 = .ok (.invokestatic 127, 3) := by decide +kernel
theorem dfind_191 : decode prog_109_method_29_code 191 = .ok (.iload 6, 2) := by decide +kernel
theorem dfind_193 : decode prog_109_method_29_code 193 = .ok (.iload 7, 2) := by decide +kernel
theorem dfind_195 : decode prog_109_method_29_code 195 = .ok (.iload 4, 2) := by decide +kernel
theorem dfind_197 : decode prog_109_method_29_code 197 = .ok (.invokestatic 127, 3) := by decide +kernel
theorem dfind_200 : decode prog_109_method_29_code 200 = .ok (.iload 11, 2) := by decide +kernel
theorem dfind_202 : decode prog_109_method_29_code 202 = .ok (.invokevirtual 130, 3) := by decide +kernel
theorem dfind_205 : decode prog_109_method_29_code 205 = .ok (.invokevirtual 134, 3) := by decide +kernel
theorem dfind_208 : decode prog_109_method_29_code 208 = .ok (.ireturn, 1) := by decide +kernel
theorem dfind_209 : decode prog_109_method_29_code 209 = .ok (.iload 5, 2) := by decide +kernel
theorem dfind_211 : decode prog_109_method_29_code 211 = .ok (.iload 6, 2) := by decide +kernel
theorem dfind_213 : decode prog_109_method_29_code 213 = .ok (.iload 4, 2) := by decide +kernel
theorem dfind_215 : decode prog_109_method_29_code 215 = .ok (.invokestatic 127, 3) := by decide +kernel
theorem dfind_218 : decode prog_109_method_29_code 218 = .ok (.istore 5, 2) := by decide +kernel
theorem dfind_220 : decode prog_109_method_29_code 220 = .ok (.iload 6, 2) := by decide +kernel
theorem dfind_222 : decode prog_109_method_29_code 222 = .ok (.iload 7, 2) := by decide +kernel
theorem dfind_224 : decode prog_109_method_29_code 224 = .ok (.iload 4, 2) := by decide +kernel
theorem dfind_226 : decode prog_109_method_29_code 226 = .ok (.invokestatic 127, 3) := by decide +kernel
theorem dfind_229 : decode prog_109_method_29_code 229 = .ok (.istore 6, 2) := by decide +kernel
theorem dfind_231 : decode prog_109_method_29_code 231 = .ok (.iinc 11 1, 3) := by decide +kernel
theorem dfind_234 : decode prog_109_method_29_code 234 = .ok (.goto (-184), 3) := by decide +kernel
set_option maxRecDepth 65536 in
set_option maxHeartbeats 40000000 in
theorem findU (l : Launch) (Z : State) (a0 : Array Value) (hw : ∀ d ∈ tables_1, d.before a0 Z = true) (t : Addr) (lin : Addr) (m : Int32) (mk : Int32) (mu : Int32) (re : Int32) (pr : Int64) (po : Int32) (ka : Addr) (kl : ClassId) (ks : List Value) (ky : Int32) (h : Heap) (n0 : Nat) (p0_ : Old Z n0 h) (p1_ : Sta Z Z.heap "com/example/dispersa/dispersa/internal/ProbeSequence" "LINEAR" "Lcom/example/dispersa/dispersa/internal/ProbeSequence;" (.ref lin)) (p2_ : Exa Z Z.heap lin "com/example/dispersa/dispersa/internal/ProbeSequence") (p3_ : Fld Z Z.heap lin "java/lang/Enum" "ordinal" "I" (.int (0 : Int32))) (p4_ : Fld Z Z.heap lin "com/example/dispersa/dispersa/internal/ProbeSequence" "hashedStep" "Z" (.int (0 : Int32))) (p5_ : Fld Z Z.heap lin "com/example/dispersa/dispersa/internal/ProbeSequence" "growth" "I" (.int (0 : Int32))) (p6_ : Exa Z h t "com/example/dispersa/dispersa/internal/LayoutTable") (p7_ : n0 ≤ t) (hm : 2 ≤ m.toInt ∧ m.toInt ≤ 5) (hmk : own_mk m mk) (hky : 0 ≤ ky.toInt) (p11_ : Fld Z h t "com/example/dispersa/dispersa/internal/SlotTable" "probing" "Lcom/example/dispersa/dispersa/internal/ProbeSequence;" (.ref lin)) (p12_ : Fld Z h t "com/example/dispersa/dispersa/internal/SlotTable" "bounded" "Z" (.int (0 : Int32))) (p13_ : Fld Z h t "com/example/dispersa/dispersa/internal/SlotTable" "marksHomes" "Z" (.int (0 : Int32))) (p14_ : Fld Z h t "com/example/dispersa/dispersa/internal/SlotTable" "ordersRuns" "Z" (.int (0 : Int32))) (p15_ : Fld Z h t "com/example/dispersa/dispersa/internal/SlotTable" "counting" "Z" (.int (1 : Int32))) (p16_ : Fld Z h t "com/example/dispersa/dispersa/internal/SlotTable" "stopsAtReach" "Z" (.int (0 : Int32))) (p17_ : Fld Z h t "com/example/dispersa/dispersa/internal/SlotTable" "length" "I" (.int m)) (p18_ : Fld Z h t "com/example/dispersa/dispersa/internal/SlotTable" "mask" "I" (.int mk)) (p19_ : Fld Z h t "com/example/dispersa/dispersa/internal/SlotTable" "linear" "Z" (.int (0 : Int32))) (p20_ : Fld Z h t "com/example/dispersa/dispersa/internal/SlotTable" "goesOn" "Z" (.int (0 : Int32))) (p21_ : Fld Z h t "com/example/dispersa/dispersa/internal/SlotTable" "markers" "I" (.int mu)) (p22_ : Fld Z h t "com/example/dispersa/dispersa/internal/SlotTable" "reach" "I" (.int re)) (p23_ : Fld Z h t "com/example/dispersa/dispersa/internal/SlotTable" "probes" "J" (.long pr)) (p24_ : Fld Z h t "com/example/dispersa/dispersa/internal/SlotTable" "position" "I" (.int po)) (p25_ : Fld Z h t "com/example/dispersa/dispersa/internal/LayoutTable" "keys" "[I" (.ref ka)) (p26_ : Fld Z h t "com/example/dispersa/dispersa/internal/LayoutTable" "turnedAway" "Z" (.int (0 : Int32))) (p27_ : Ary Z h ka kl .int ks) (hh0 : ¬ (ky % m) < (0 : Int32)) (hkv : ks[(ky % m).toNatClampNeg]? = some (.int (-1))) (hne : ¬ (-1 : Int32) = ky) :
    Met l (⟨"com/example/dispersa/dispersa/internal/SlotTable", "find", "(JLjava/lang/Object;)I"⟩ : MethodName) prog_109_method_29_code 13 (some .int) [] ({ frames := 4, cells := 0, slots := 0, locals := 80 } : Room) #[(.ref t), (.long (own_hash ky)), .null] Z h n0 (fun v h' => ∃ (pr2 : Int64) (po2 : Int32), v = some (.int ((ky % m) ^^^ (-1 : Int32))) ∧ Keep h h' [t] ∧ Exa Z h' t "com/example/dispersa/dispersa/internal/LayoutTable" ∧ Fld Z h' t "com/example/dispersa/dispersa/internal/SlotTable" "probing" "Lcom/example/dispersa/dispersa/internal/ProbeSequence;" (.ref lin) ∧ Fld Z h' t "com/example/dispersa/dispersa/internal/SlotTable" "bounded" "Z" (.int (0 : Int32)) ∧ Fld Z h' t "com/example/dispersa/dispersa/internal/SlotTable" "marksHomes" "Z" (.int (0 : Int32)) ∧ Fld Z h' t "com/example/dispersa/dispersa/internal/SlotTable" "ordersRuns" "Z" (.int (0 : Int32)) ∧ Fld Z h' t "com/example/dispersa/dispersa/internal/SlotTable" "counting" "Z" (.int (1 : Int32)) ∧ Fld Z h' t "com/example/dispersa/dispersa/internal/SlotTable" "stopsAtReach" "Z" (.int (0 : Int32)) ∧ Fld Z h' t "com/example/dispersa/dispersa/internal/SlotTable" "length" "I" (.int m) ∧ Fld Z h' t "com/example/dispersa/dispersa/internal/SlotTable" "mask" "I" (.int mk) ∧ Fld Z h' t "com/example/dispersa/dispersa/internal/SlotTable" "linear" "Z" (.int (0 : Int32)) ∧ Fld Z h' t "com/example/dispersa/dispersa/internal/SlotTable" "goesOn" "Z" (.int (0 : Int32)) ∧ Fld Z h' t "com/example/dispersa/dispersa/internal/SlotTable" "markers" "I" (.int mu) ∧ Fld Z h' t "com/example/dispersa/dispersa/internal/SlotTable" "reach" "I" (.int re) ∧ Fld Z h' t "com/example/dispersa/dispersa/internal/SlotTable" "probes" "J" (.long pr2) ∧ Fld Z h' t "com/example/dispersa/dispersa/internal/SlotTable" "position" "I" (.int po2) ∧ Fld Z h' t "com/example/dispersa/dispersa/internal/LayoutTable" "keys" "[I" (.ref ka) ∧ Fld Z h' t "com/example/dispersa/dispersa/internal/LayoutTable" "turnedAway" "Z" (.int (0 : Int32))) := by
  refine Met.of (plainFor_of_name (by first | (simp [plainName, overriddenIn]; done) | decide +kernel)) ?_
  intro pP eE sS mM bB tT cC K
  refine Go.entry (ls := #[.val (.ref t), .val (.long (own_hash ky)), .second, .val .null, .unset, .unset, .unset, .unset, .unset, .unset, .unset, .unset, .unset]) (by first | (simp [argsToLocals, Value.category]; done) | rfl) ?_
  refine go_aloadN (q := 1) K dfind_0 rfl rfl rfl ?_
  refine go_getF (q := 4) K (wd hw 53 rfl) Via.refl p17_ dfind_1 rfl ?_
  refine go_istore (q := 6) K dfind_4 #[.val (.ref t), .val (.long (own_hash ky)), .second, .val .null, .val (.int m), .unset, .unset, .unset, .unset, .unset, .unset, .unset, .unset] rfl rfl ?_
  refine go_aloadN (q := 7) K dfind_6 rfl rfl rfl ?_
  refine go_lloadN (q := 8) K dfind_7 rfl rfl ?_
  refine go_callV (q := 11) (W := 0) K (wd hw 98 rfl) (wd hw 99 rfl) (wd hw 101 rfl) (wd hw 100 rfl) (wd hw 13 rfl) (wd hw 102 rfl) (wd hw 36 rfl) rfl p6_ [(.long (own_hash ky))] [] (home l Z a0 hw _ _ _ _ _ n0 p18_ p17_ hky hm hmk) dfind_8 (ps := [.long]) (by decide +kernel) rfl rfl rfl (by decide) rfl (by decide) (by decide) (by decide) (by decide) rfl ?_
  rintro _ _ ⟨rfl, rfl⟩
  show Go pP l eE _ sS mM _ bB tT cC n0 _ h 0 0 (mkF mM 11 #[.val (.ref t), .val (.long (own_hash ky)), .second, .val .null, .val (.int m), .unset, .unset, .unset, .unset, .unset, .unset, .unset, .unset] [(.int (ky % m))])
  refine go_istore (q := 13) K dfind_11 #[.val (.ref t), .val (.long (own_hash ky)), .second, .val .null, .val (.int m), .val (.int (ky % m)), .unset, .unset, .unset, .unset, .unset, .unset, .unset] rfl rfl ?_
  refine go_aloadN (q := 14) K dfind_13 rfl rfl rfl ?_
  refine go_getF (q := 17) K (wd hw 21 rfl) Via.refl p11_ dfind_14 rfl ?_
  refine go_lloadN (q := 18) K dfind_17 rfl rfl ?_
  refine go_iload (q := 20) K dfind_18 rfl rfl ?_
  refine go_callV (q := 23) (W := 0) K (wd hw 113 rfl) (wd hw 114 rfl) (wd hw 116 rfl) (wd hw 115 rfl) (wd hw 5 rfl) (wd hw 117 rfl) (wd hw 41 rfl) rfl (p2_.ext p0_.2) [(.long (own_hash ky)), (.int m)] [] (stepP l Z a0 hw _ _ _ _ n0 p0_ p4_) dfind_20 (ps := [.long, .int]) (by decide +kernel) rfl rfl rfl (by decide) rfl (by decide) (by decide) (by decide) (by decide) rfl ?_
  rintro _ _ ⟨rfl, rfl⟩
  show Go pP l eE _ sS mM _ bB tT cC n0 _ h 0 0 (mkF mM 23 #[.val (.ref t), .val (.long (own_hash ky)), .second, .val .null, .val (.int m), .val (.int (ky % m)), .unset, .unset, .unset, .unset, .unset, .unset, .unset] [(.int (1 : Int32))])
  refine go_istore (q := 25) K dfind_23 #[.val (.ref t), .val (.long (own_hash ky)), .second, .val .null, .val (.int m), .val (.int (ky % m)), .val (.int (1 : Int32)), .unset, .unset, .unset, .unset, .unset, .unset] rfl rfl ?_
  refine go_aloadN (q := 26) K dfind_25 rfl rfl rfl ?_
  refine go_getF (q := 29) K (wd hw 21 rfl) Via.refl p11_ dfind_26 rfl ?_
  refine go_callV (q := 32) (W := 0) K (wd hw 120 rfl) (wd hw 121 rfl) (wd hw 123 rfl) (wd hw 122 rfl) (wd hw 5 rfl) (wd hw 124 rfl) (wd hw 41 rfl) rfl (p2_.ext p0_.2) [] [] (growth l Z a0 hw _ _ n0 p0_ p5_) dfind_29 (ps := []) (by decide +kernel) rfl rfl rfl (by decide) rfl (by decide) (by decide) (by decide) (by decide) rfl ?_
  rintro _ _ ⟨rfl, rfl⟩
  show Go pP l eE _ sS mM _ bB tT cC n0 _ h 0 0 (mkF mM 32 #[.val (.ref t), .val (.long (own_hash ky)), .second, .val .null, .val (.int m), .val (.int (ky % m)), .val (.int (1 : Int32)), .unset, .unset, .unset, .unset, .unset, .unset] [(.int (0 : Int32))])
  refine go_istore (q := 34) K dfind_32 #[.val (.ref t), .val (.long (own_hash ky)), .second, .val .null, .val (.int m), .val (.int (ky % m)), .val (.int (1 : Int32)), .val (.int (0 : Int32)), .unset, .unset, .unset, .unset, .unset] rfl rfl ?_
  refine go_aloadN (q := 35) K dfind_34 rfl rfl rfl ?_
  refine go_callP (q := 38) (W := 0) K (wd hw 127 rfl) (wd hw 129 rfl) (wd hw 36 rfl) rfl (wd hw 128 rfl) (wd hw 13 rfl) (wd hw 130 rfl) p6_ [] [] (compd l Z a0 hw _ _ _ n0 p12_ p17_) dfind_35 (ps := []) (by decide +kernel) rfl rfl rfl (by decide) rfl (by decide) (by decide) (by decide) (by decide) rfl ?_
  rintro _ _ ⟨rfl, rfl⟩
  show Go pP l eE _ sS mM _ bB tT cC n0 _ h 0 0 (mkF mM 38 #[.val (.ref t), .val (.long (own_hash ky)), .second, .val .null, .val (.int m), .val (.int (ky % m)), .val (.int (1 : Int32)), .val (.int (0 : Int32)), .unset, .unset, .unset, .unset, .unset] [(.int m)])
  refine go_istore (q := 40) K dfind_38 #[.val (.ref t), .val (.long (own_hash ky)), .second, .val .null, .val (.int m), .val (.int (ky % m)), .val (.int (1 : Int32)), .val (.int (0 : Int32)), .val (.int m), .unset, .unset, .unset, .unset] rfl rfl ?_
  refine go_ldcI (q := 42) K (wd hw 131 rfl) dfind_40 rfl ?_
  refine go_istore (q := 44) K dfind_42 #[.val (.ref t), .val (.long (own_hash ky)), .second, .val .null, .val (.int m), .val (.int (ky % m)), .val (.int (1 : Int32)), .val (.int (0 : Int32)), .val (.int m), .val (.int (-2147483648 : Int32)), .unset, .unset, .unset] rfl rfl ?_
  refine go_iconst (q := 45) K dfind_44 (0 : Int32) rfl rfl ?_
  refine go_istore (q := 47) K dfind_45 #[.val (.ref t), .val (.long (own_hash ky)), .second, .val .null, .val (.int m), .val (.int (ky % m)), .val (.int (1 : Int32)), .val (.int (0 : Int32)), .val (.int m), .val (.int (-2147483648 : Int32)), .val (.int (0 : Int32)), .unset, .unset] rfl rfl ?_
  refine go_iconst (q := 48) K dfind_47 (1 : Int32) rfl rfl ?_
  refine go_istore (q := 50) K dfind_48 #[.val (.ref t), .val (.long (own_hash ky)), .second, .val .null, .val (.int m), .val (.int (ky % m)), .val (.int (1 : Int32)), .val (.int (0 : Int32)), .val (.int m), .val (.int (-2147483648 : Int32)), .val (.int (0 : Int32)), .val (.int (1 : Int32)), .unset] rfl rfl ?_
  refine go_aloadN (q := 51) K dfind_50 rfl rfl rfl ?_
  refine go_iload (q := 53) K dfind_51 rfl rfl ?_
  refine go_lloadN (q := 54) K dfind_53 rfl rfl ?_
  refine go_aloadN (q := 55) K dfind_54 rfl rfl rfl ?_
  refine go_iconst (q := 56) K dfind_55 (1 : Int32) rfl rfl ?_
  refine go_callV (q := 59) (W := 0) K (wd hw 132 rfl) (wd hw 133 rfl) (wd hw 134 rfl) (wd hw 135 rfl) (wd hw 3 rfl) (wd hw 136 rfl) (wd hw 36 rfl) rfl p6_ [(.int (ky % m)), (.long (own_hash ky)), .null, (.int (1 : Int32))] [] (holds l Z a0 hw _ _ _ _ _ _ _ _ _ n0 p25_ p27_ hh0 hkv) dfind_56 (ps := [.int, .long, (.object "java/lang/Object"), .boolean]) (by decide +kernel) rfl rfl rfl (by decide) rfl (by decide) (by decide) (by decide) (by decide) rfl ?_
  rintro _ _ ⟨rfl, rfl⟩
  show Go pP l eE _ sS mM _ bB tT cC n0 _ h 0 0 (mkF mM 59 #[.val (.ref t), .val (.long (own_hash ky)), .second, .val .null, .val (.int m), .val (.int (ky % m)), .val (.int (1 : Int32)), .val (.int (0 : Int32)), .val (.int m), .val (.int (-2147483648 : Int32)), .val (.int (0 : Int32)), .val (.int (1 : Int32)), .unset] [(.int (own_eq (-1 : Int32) ky))])
  refine go_eqI (y := (0 : Int32)) (own_eq_no hne) ?_
  refine go_if0 (q := 75) (q' := 62) K dfind_59 (by decide) rfl rfl (fun _ => ?_) (fun hn => cN_no2 hn (show (0 : Int32) = (0 : Int32) from (by decide)))
  refine go_aloadN (q := 76) K dfind_75 rfl rfl rfl ?_
  refine go_iload (q := 78) K dfind_76 rfl rfl ?_
  refine go_callV (q := 81) (W := 0) K (wd hw 137 rfl) (wd hw 138 rfl) (wd hw 139 rfl) (wd hw 140 rfl) (wd hw 3 rfl) (wd hw 141 rfl) (wd hw 36 rfl) rfl p6_ [(.int (ky % m))] [] (state l Z a0 hw _ _ _ _ _ _ _ n0 p25_ p27_ hh0 hkv) dfind_78 (ps := [.int]) (by decide +kernel) rfl rfl rfl (by decide) rfl (by decide) (by decide) (by decide) (by decide) rfl ?_
  rintro _ _ ⟨rfl, rfl⟩
  show Go pP l eE _ sS mM _ bB tT cC n0 _ h 0 0 (mkF mM 81 #[.val (.ref t), .val (.long (own_hash ky)), .second, .val .null, .val (.int m), .val (.int (ky % m)), .val (.int (1 : Int32)), .val (.int (0 : Int32)), .val (.int m), .val (.int (-2147483648 : Int32)), .val (.int (0 : Int32)), .val (.int (1 : Int32)), .unset] [(.int (own_st (-1 : Int32)))])
  refine go_eqI (y := (0 : Int32)) (by decide) ?_
  refine go_istore (q := 83) K dfind_81 #[.val (.ref t), .val (.long (own_hash ky)), .second, .val .null, .val (.int m), .val (.int (ky % m)), .val (.int (1 : Int32)), .val (.int (0 : Int32)), .val (.int m), .val (.int (-2147483648 : Int32)), .val (.int (0 : Int32)), .val (.int (1 : Int32)), .val (.int (0 : Int32))] rfl rfl ?_
  refine go_iload (q := 85) K dfind_83 rfl rfl ?_
  refine go_if0 (q := 123) (q' := 88) K dfind_85 (by decide) rfl rfl (fun hn => cN_no hn (show (0 : Int32) = (0 : Int32) from (by decide))) (fun _ => ?_)
  refine go_iload (q := 90) K dfind_88 rfl rfl ?_
  refine go_ldcI (q := 92) K (wd hw 131 rfl) dfind_90 rfl ?_
  refine go_icmp (q := 108) (q' := 95) K dfind_92 (by decide) rfl rfl (fun _ => ?_) (fun hn => cN_no2 hn (show (-2147483648 : Int32) = (-2147483648 : Int32) from (by decide)))
  refine go_aloadN (q := 109) K dfind_108 rfl rfl rfl ?_
  refine go_iload (q := 111) K dfind_109 rfl rfl ?_
  refine go_iload (q := 113) K dfind_111 rfl rfl ?_
  refine go_iconst (q := 114) K dfind_113 (1 : Int32) rfl rfl ?_
  refine go_isub (q := 115) K dfind_114 rfl ?_
  refine go_eqI (y := (0 : Int32)) (by decide) ?_
  refine go_iload (q := 117) K dfind_115 rfl rfl ?_
  refine go_iconst (q := 118) K dfind_117 (-1 : Int32) rfl rfl ?_
  refine go_ixor (q := 119) K dfind_118 rfl ?_
  refine go_callP (q := 122) (W := 0) K (wd hw 142 rfl) (wd hw 144 rfl) (wd hw 36 rfl) rfl (wd hw 143 rfl) (wd hw 13 rfl) (wd hw 145 rfl) p6_ [(.int (1 : Int32)), (.int (0 : Int32)), (.int ((ky % m) ^^^ (-1 : Int32)))] [] (stop l Z a0 hw _ _ _ _ _ _ _ _ _ _ _ _ _ n0 p6_ p7_ p11_ p12_ p13_ p14_ p15_ p16_ p17_ p18_ p19_ p20_ p21_ p22_ p23_ p24_ p25_ p26_) dfind_119 (ps := [.int, .int, .int]) (by decide +kernel) rfl rfl rfl (by decide) rfl (by decide) (by decide) (by decide) (by decide) rfl ?_
  rintro _ h7 ⟨rfl, Kh7, q0h7, q1h7, q2h7, q3h7, q4h7, q5h7, q6h7, q7h7, q8h7, q9h7, q10h7, q11h7, q12h7, q13h7, q14h7, q15h7, q16h7⟩
  show Go pP l eE _ sS mM _ bB tT cC n0 _ h7 0 0 (mkF mM 122 #[.val (.ref t), .val (.long (own_hash ky)), .second, .val .null, .val (.int m), .val (.int (ky % m)), .val (.int (1 : Int32)), .val (.int (0 : Int32)), .val (.int m), .val (.int (-2147483648 : Int32)), .val (.int (0 : Int32)), .val (.int (1 : Int32)), .val (.int (0 : Int32))] [(.int ((ky % m) ^^^ (-1 : Int32)))])
  refine go_iret K dfind_122 rfl (Or.inl rfl) rfl (by decide) (by decide) ?_
  have f1 := ((Keep.refl h [t]).trans Kh7 (allS (Or.inl (by simp)) all0))
  exact ⟨(pr + (1 : Int32).toInt64), (0 : Int32), rfl, f1, q0h7, q1h7, q2h7, q3h7, q4h7, q5h7, q6h7, q7h7, q8h7, q9h7, q10h7, q11h7, q12h7, q13h7, q14h7, q15h7, q16h7⟩
set_option maxRecDepth 65536 in
set_option maxHeartbeats 40000000 in
theorem findH (l : Launch) (Z : State) (a0 : Array Value) (hw : ∀ d ∈ tables_1, d.before a0 Z = true) (t : Addr) (lin : Addr) (m : Int32) (mk : Int32) (mu : Int32) (re : Int32) (pr : Int64) (po : Int32) (ka : Addr) (kl : ClassId) (ks : List Value) (ky : Int32) (h : Heap) (n0 : Nat) (p0_ : Old Z n0 h) (p1_ : Sta Z Z.heap "com/example/dispersa/dispersa/internal/ProbeSequence" "LINEAR" "Lcom/example/dispersa/dispersa/internal/ProbeSequence;" (.ref lin)) (p2_ : Exa Z Z.heap lin "com/example/dispersa/dispersa/internal/ProbeSequence") (p3_ : Fld Z Z.heap lin "java/lang/Enum" "ordinal" "I" (.int (0 : Int32))) (p4_ : Fld Z Z.heap lin "com/example/dispersa/dispersa/internal/ProbeSequence" "hashedStep" "Z" (.int (0 : Int32))) (p5_ : Fld Z Z.heap lin "com/example/dispersa/dispersa/internal/ProbeSequence" "growth" "I" (.int (0 : Int32))) (p6_ : Exa Z h t "com/example/dispersa/dispersa/internal/LayoutTable") (p7_ : n0 ≤ t) (hm : 2 ≤ m.toInt ∧ m.toInt ≤ 5) (hmk : own_mk m mk) (hky : 0 ≤ ky.toInt) (p11_ : Fld Z h t "com/example/dispersa/dispersa/internal/SlotTable" "probing" "Lcom/example/dispersa/dispersa/internal/ProbeSequence;" (.ref lin)) (p12_ : Fld Z h t "com/example/dispersa/dispersa/internal/SlotTable" "bounded" "Z" (.int (0 : Int32))) (p13_ : Fld Z h t "com/example/dispersa/dispersa/internal/SlotTable" "marksHomes" "Z" (.int (0 : Int32))) (p14_ : Fld Z h t "com/example/dispersa/dispersa/internal/SlotTable" "ordersRuns" "Z" (.int (0 : Int32))) (p15_ : Fld Z h t "com/example/dispersa/dispersa/internal/SlotTable" "counting" "Z" (.int (1 : Int32))) (p16_ : Fld Z h t "com/example/dispersa/dispersa/internal/SlotTable" "stopsAtReach" "Z" (.int (0 : Int32))) (p17_ : Fld Z h t "com/example/dispersa/dispersa/internal/SlotTable" "length" "I" (.int m)) (p18_ : Fld Z h t "com/example/dispersa/dispersa/internal/SlotTable" "mask" "I" (.int mk)) (p19_ : Fld Z h t "com/example/dispersa/dispersa/internal/SlotTable" "linear" "Z" (.int (0 : Int32))) (p20_ : Fld Z h t "com/example/dispersa/dispersa/internal/SlotTable" "goesOn" "Z" (.int (0 : Int32))) (p21_ : Fld Z h t "com/example/dispersa/dispersa/internal/SlotTable" "markers" "I" (.int mu)) (p22_ : Fld Z h t "com/example/dispersa/dispersa/internal/SlotTable" "reach" "I" (.int re)) (p23_ : Fld Z h t "com/example/dispersa/dispersa/internal/SlotTable" "probes" "J" (.long pr)) (p24_ : Fld Z h t "com/example/dispersa/dispersa/internal/SlotTable" "position" "I" (.int po)) (p25_ : Fld Z h t "com/example/dispersa/dispersa/internal/LayoutTable" "keys" "[I" (.ref ka)) (p26_ : Fld Z h t "com/example/dispersa/dispersa/internal/LayoutTable" "turnedAway" "Z" (.int (0 : Int32))) (p27_ : Ary Z h ka kl .int ks) (hh0 : ¬ (ky % m) < (0 : Int32)) (hkv : ks[(ky % m).toNatClampNeg]? = some (.int ky)) :
    Met l (⟨"com/example/dispersa/dispersa/internal/SlotTable", "find", "(JLjava/lang/Object;)I"⟩ : MethodName) prog_109_method_29_code 13 (some .int) [] ({ frames := 4, cells := 0, slots := 0, locals := 80 } : Room) #[(.ref t), (.long (own_hash ky)), .null] Z h n0 (fun v h' => ∃ (pr2 : Int64) (po2 : Int32), v = some (.int (ky % m)) ∧ Keep h h' [t] ∧ Exa Z h' t "com/example/dispersa/dispersa/internal/LayoutTable" ∧ Fld Z h' t "com/example/dispersa/dispersa/internal/SlotTable" "probing" "Lcom/example/dispersa/dispersa/internal/ProbeSequence;" (.ref lin) ∧ Fld Z h' t "com/example/dispersa/dispersa/internal/SlotTable" "bounded" "Z" (.int (0 : Int32)) ∧ Fld Z h' t "com/example/dispersa/dispersa/internal/SlotTable" "marksHomes" "Z" (.int (0 : Int32)) ∧ Fld Z h' t "com/example/dispersa/dispersa/internal/SlotTable" "ordersRuns" "Z" (.int (0 : Int32)) ∧ Fld Z h' t "com/example/dispersa/dispersa/internal/SlotTable" "counting" "Z" (.int (1 : Int32)) ∧ Fld Z h' t "com/example/dispersa/dispersa/internal/SlotTable" "stopsAtReach" "Z" (.int (0 : Int32)) ∧ Fld Z h' t "com/example/dispersa/dispersa/internal/SlotTable" "length" "I" (.int m) ∧ Fld Z h' t "com/example/dispersa/dispersa/internal/SlotTable" "mask" "I" (.int mk) ∧ Fld Z h' t "com/example/dispersa/dispersa/internal/SlotTable" "linear" "Z" (.int (0 : Int32)) ∧ Fld Z h' t "com/example/dispersa/dispersa/internal/SlotTable" "goesOn" "Z" (.int (0 : Int32)) ∧ Fld Z h' t "com/example/dispersa/dispersa/internal/SlotTable" "markers" "I" (.int mu) ∧ Fld Z h' t "com/example/dispersa/dispersa/internal/SlotTable" "reach" "I" (.int re) ∧ Fld Z h' t "com/example/dispersa/dispersa/internal/SlotTable" "probes" "J" (.long pr2) ∧ Fld Z h' t "com/example/dispersa/dispersa/internal/SlotTable" "position" "I" (.int po2) ∧ Fld Z h' t "com/example/dispersa/dispersa/internal/LayoutTable" "keys" "[I" (.ref ka) ∧ Fld Z h' t "com/example/dispersa/dispersa/internal/LayoutTable" "turnedAway" "Z" (.int (0 : Int32))) := by
  refine Met.of (plainFor_of_name (by first | (simp [plainName, overriddenIn]; done) | decide +kernel)) ?_
  intro pP eE sS mM bB tT cC K
  refine Go.entry (ls := #[.val (.ref t), .val (.long (own_hash ky)), .second, .val .null, .unset, .unset, .unset, .unset, .unset, .unset, .unset, .unset, .unset]) (by first | (simp [argsToLocals, Value.category]; done) | rfl) ?_
  refine go_aloadN (q := 1) K dfind_0 rfl rfl rfl ?_
  refine go_getF (q := 4) K (wd hw 53 rfl) Via.refl p17_ dfind_1 rfl ?_
  refine go_istore (q := 6) K dfind_4 #[.val (.ref t), .val (.long (own_hash ky)), .second, .val .null, .val (.int m), .unset, .unset, .unset, .unset, .unset, .unset, .unset, .unset] rfl rfl ?_
  refine go_aloadN (q := 7) K dfind_6 rfl rfl rfl ?_
  refine go_lloadN (q := 8) K dfind_7 rfl rfl ?_
  refine go_callV (q := 11) (W := 0) K (wd hw 98 rfl) (wd hw 99 rfl) (wd hw 101 rfl) (wd hw 100 rfl) (wd hw 13 rfl) (wd hw 102 rfl) (wd hw 36 rfl) rfl p6_ [(.long (own_hash ky))] [] (home l Z a0 hw _ _ _ _ _ n0 p18_ p17_ hky hm hmk) dfind_8 (ps := [.long]) (by decide +kernel) rfl rfl rfl (by decide) rfl (by decide) (by decide) (by decide) (by decide) rfl ?_
  rintro _ _ ⟨rfl, rfl⟩
  show Go pP l eE _ sS mM _ bB tT cC n0 _ h 0 0 (mkF mM 11 #[.val (.ref t), .val (.long (own_hash ky)), .second, .val .null, .val (.int m), .unset, .unset, .unset, .unset, .unset, .unset, .unset, .unset] [(.int (ky % m))])
  refine go_istore (q := 13) K dfind_11 #[.val (.ref t), .val (.long (own_hash ky)), .second, .val .null, .val (.int m), .val (.int (ky % m)), .unset, .unset, .unset, .unset, .unset, .unset, .unset] rfl rfl ?_
  refine go_aloadN (q := 14) K dfind_13 rfl rfl rfl ?_
  refine go_getF (q := 17) K (wd hw 21 rfl) Via.refl p11_ dfind_14 rfl ?_
  refine go_lloadN (q := 18) K dfind_17 rfl rfl ?_
  refine go_iload (q := 20) K dfind_18 rfl rfl ?_
  refine go_callV (q := 23) (W := 0) K (wd hw 113 rfl) (wd hw 114 rfl) (wd hw 116 rfl) (wd hw 115 rfl) (wd hw 5 rfl) (wd hw 117 rfl) (wd hw 41 rfl) rfl (p2_.ext p0_.2) [(.long (own_hash ky)), (.int m)] [] (stepP l Z a0 hw _ _ _ _ n0 p0_ p4_) dfind_20 (ps := [.long, .int]) (by decide +kernel) rfl rfl rfl (by decide) rfl (by decide) (by decide) (by decide) (by decide) rfl ?_
  rintro _ _ ⟨rfl, rfl⟩
  show Go pP l eE _ sS mM _ bB tT cC n0 _ h 0 0 (mkF mM 23 #[.val (.ref t), .val (.long (own_hash ky)), .second, .val .null, .val (.int m), .val (.int (ky % m)), .unset, .unset, .unset, .unset, .unset, .unset, .unset] [(.int (1 : Int32))])
  refine go_istore (q := 25) K dfind_23 #[.val (.ref t), .val (.long (own_hash ky)), .second, .val .null, .val (.int m), .val (.int (ky % m)), .val (.int (1 : Int32)), .unset, .unset, .unset, .unset, .unset, .unset] rfl rfl ?_
  refine go_aloadN (q := 26) K dfind_25 rfl rfl rfl ?_
  refine go_getF (q := 29) K (wd hw 21 rfl) Via.refl p11_ dfind_26 rfl ?_
  refine go_callV (q := 32) (W := 0) K (wd hw 120 rfl) (wd hw 121 rfl) (wd hw 123 rfl) (wd hw 122 rfl) (wd hw 5 rfl) (wd hw 124 rfl) (wd hw 41 rfl) rfl (p2_.ext p0_.2) [] [] (growth l Z a0 hw _ _ n0 p0_ p5_) dfind_29 (ps := []) (by decide +kernel) rfl rfl rfl (by decide) rfl (by decide) (by decide) (by decide) (by decide) rfl ?_
  rintro _ _ ⟨rfl, rfl⟩
  show Go pP l eE _ sS mM _ bB tT cC n0 _ h 0 0 (mkF mM 32 #[.val (.ref t), .val (.long (own_hash ky)), .second, .val .null, .val (.int m), .val (.int (ky % m)), .val (.int (1 : Int32)), .unset, .unset, .unset, .unset, .unset, .unset] [(.int (0 : Int32))])
  refine go_istore (q := 34) K dfind_32 #[.val (.ref t), .val (.long (own_hash ky)), .second, .val .null, .val (.int m), .val (.int (ky % m)), .val (.int (1 : Int32)), .val (.int (0 : Int32)), .unset, .unset, .unset, .unset, .unset] rfl rfl ?_
  refine go_aloadN (q := 35) K dfind_34 rfl rfl rfl ?_
  refine go_callP (q := 38) (W := 0) K (wd hw 127 rfl) (wd hw 129 rfl) (wd hw 36 rfl) rfl (wd hw 128 rfl) (wd hw 13 rfl) (wd hw 130 rfl) p6_ [] [] (compd l Z a0 hw _ _ _ n0 p12_ p17_) dfind_35 (ps := []) (by decide +kernel) rfl rfl rfl (by decide) rfl (by decide) (by decide) (by decide) (by decide) rfl ?_
  rintro _ _ ⟨rfl, rfl⟩
  show Go pP l eE _ sS mM _ bB tT cC n0 _ h 0 0 (mkF mM 38 #[.val (.ref t), .val (.long (own_hash ky)), .second, .val .null, .val (.int m), .val (.int (ky % m)), .val (.int (1 : Int32)), .val (.int (0 : Int32)), .unset, .unset, .unset, .unset, .unset] [(.int m)])
  refine go_istore (q := 40) K dfind_38 #[.val (.ref t), .val (.long (own_hash ky)), .second, .val .null, .val (.int m), .val (.int (ky % m)), .val (.int (1 : Int32)), .val (.int (0 : Int32)), .val (.int m), .unset, .unset, .unset, .unset] rfl rfl ?_
  refine go_ldcI (q := 42) K (wd hw 131 rfl) dfind_40 rfl ?_
  refine go_istore (q := 44) K dfind_42 #[.val (.ref t), .val (.long (own_hash ky)), .second, .val .null, .val (.int m), .val (.int (ky % m)), .val (.int (1 : Int32)), .val (.int (0 : Int32)), .val (.int m), .val (.int (-2147483648 : Int32)), .unset, .unset, .unset] rfl rfl ?_
  refine go_iconst (q := 45) K dfind_44 (0 : Int32) rfl rfl ?_
  refine go_istore (q := 47) K dfind_45 #[.val (.ref t), .val (.long (own_hash ky)), .second, .val .null, .val (.int m), .val (.int (ky % m)), .val (.int (1 : Int32)), .val (.int (0 : Int32)), .val (.int m), .val (.int (-2147483648 : Int32)), .val (.int (0 : Int32)), .unset, .unset] rfl rfl ?_
  refine go_iconst (q := 48) K dfind_47 (1 : Int32) rfl rfl ?_
  refine go_istore (q := 50) K dfind_48 #[.val (.ref t), .val (.long (own_hash ky)), .second, .val .null, .val (.int m), .val (.int (ky % m)), .val (.int (1 : Int32)), .val (.int (0 : Int32)), .val (.int m), .val (.int (-2147483648 : Int32)), .val (.int (0 : Int32)), .val (.int (1 : Int32)), .unset] rfl rfl ?_
  refine go_aloadN (q := 51) K dfind_50 rfl rfl rfl ?_
  refine go_iload (q := 53) K dfind_51 rfl rfl ?_
  refine go_lloadN (q := 54) K dfind_53 rfl rfl ?_
  refine go_aloadN (q := 55) K dfind_54 rfl rfl rfl ?_
  refine go_iconst (q := 56) K dfind_55 (1 : Int32) rfl rfl ?_
  refine go_callV (q := 59) (W := 0) K (wd hw 132 rfl) (wd hw 133 rfl) (wd hw 134 rfl) (wd hw 135 rfl) (wd hw 3 rfl) (wd hw 136 rfl) (wd hw 36 rfl) rfl p6_ [(.int (ky % m)), (.long (own_hash ky)), .null, (.int (1 : Int32))] [] (holds l Z a0 hw _ _ _ _ _ _ _ _ _ n0 p25_ p27_ hh0 hkv) dfind_56 (ps := [.int, .long, (.object "java/lang/Object"), .boolean]) (by decide +kernel) rfl rfl rfl (by decide) rfl (by decide) (by decide) (by decide) (by decide) rfl ?_
  rintro _ _ ⟨rfl, rfl⟩
  show Go pP l eE _ sS mM _ bB tT cC n0 _ h 0 0 (mkF mM 59 #[.val (.ref t), .val (.long (own_hash ky)), .second, .val .null, .val (.int m), .val (.int (ky % m)), .val (.int (1 : Int32)), .val (.int (0 : Int32)), .val (.int m), .val (.int (-2147483648 : Int32)), .val (.int (0 : Int32)), .val (.int (1 : Int32)), .unset] [(.int (own_eq ky ky))])
  refine go_eqI (y := (1 : Int32)) (own_eq_yes ky) ?_
  refine go_if0 (q := 75) (q' := 62) K dfind_59 (by decide) rfl rfl (fun hn => cN_no hn (show ¬ (1 : Int32) = (0 : Int32) from (by decide))) (fun _ => ?_)
  refine go_aloadN (q := 63) K dfind_62 rfl rfl rfl ?_
  refine go_iload (q := 65) K dfind_63 rfl rfl ?_
  refine go_iload (q := 67) K dfind_65 rfl rfl ?_
  refine go_iconst (q := 68) K dfind_67 (1 : Int32) rfl rfl ?_
  refine go_isub (q := 69) K dfind_68 rfl ?_
  refine go_eqI (y := (0 : Int32)) (by decide) ?_
  refine go_iload (q := 71) K dfind_69 rfl rfl ?_
  refine go_callP (q := 74) (W := 0) K (wd hw 142 rfl) (wd hw 144 rfl) (wd hw 36 rfl) rfl (wd hw 143 rfl) (wd hw 13 rfl) (wd hw 145 rfl) p6_ [(.int (1 : Int32)), (.int (0 : Int32)), (.int (ky % m))] [] (stop l Z a0 hw _ _ _ _ _ _ _ _ _ _ _ _ _ n0 p6_ p7_ p11_ p12_ p13_ p14_ p15_ p16_ p17_ p18_ p19_ p20_ p21_ p22_ p23_ p24_ p25_ p26_) dfind_71 (ps := [.int, .int, .int]) (by decide +kernel) rfl rfl rfl (by decide) rfl (by decide) (by decide) (by decide) (by decide) rfl ?_
  rintro _ h6 ⟨rfl, Kh6, q0h6, q1h6, q2h6, q3h6, q4h6, q5h6, q6h6, q7h6, q8h6, q9h6, q10h6, q11h6, q12h6, q13h6, q14h6, q15h6, q16h6⟩
  show Go pP l eE _ sS mM _ bB tT cC n0 _ h6 0 0 (mkF mM 74 #[.val (.ref t), .val (.long (own_hash ky)), .second, .val .null, .val (.int m), .val (.int (ky % m)), .val (.int (1 : Int32)), .val (.int (0 : Int32)), .val (.int m), .val (.int (-2147483648 : Int32)), .val (.int (0 : Int32)), .val (.int (1 : Int32)), .unset] [(.int (ky % m))])
  refine go_iret K dfind_74 rfl (Or.inl rfl) rfl (by decide) (by decide) ?_
  have f1 := ((Keep.refl h [t]).trans Kh6 (allS (Or.inl (by simp)) all0))
  exact ⟨(pr + (1 : Int32).toInt64), (0 : Int32), rfl, f1, q0h6, q1h6, q2h6, q3h6, q4h6, q5h6, q6h6, q7h6, q8h6, q9h6, q10h6, q11h6, q12h6, q13h6, q14h6, q15h6, q16h6⟩
set_option maxRecDepth 65536 in
set_option maxHeartbeats 40000000 in
theorem findN (l : Launch) (Z : State) (a0 : Array Value) (hw : ∀ d ∈ tables_1, d.before a0 Z = true) (t : Addr) (lin : Addr) (m : Int32) (mk : Int32) (mu : Int32) (re : Int32) (pr : Int64) (po : Int32) (ka : Addr) (kl : ClassId) (ks : List Value) (ky : Int32) (kv : Int32) (h : Heap) (n0 : Nat) (p0_ : Old Z n0 h) (p1_ : Sta Z Z.heap "com/example/dispersa/dispersa/internal/ProbeSequence" "LINEAR" "Lcom/example/dispersa/dispersa/internal/ProbeSequence;" (.ref lin)) (p2_ : Exa Z Z.heap lin "com/example/dispersa/dispersa/internal/ProbeSequence") (p3_ : Fld Z Z.heap lin "java/lang/Enum" "ordinal" "I" (.int (0 : Int32))) (p4_ : Fld Z Z.heap lin "com/example/dispersa/dispersa/internal/ProbeSequence" "hashedStep" "Z" (.int (0 : Int32))) (p5_ : Fld Z Z.heap lin "com/example/dispersa/dispersa/internal/ProbeSequence" "growth" "I" (.int (0 : Int32))) (p6_ : Exa Z h t "com/example/dispersa/dispersa/internal/LayoutTable") (p7_ : n0 ≤ t) (hm : 2 ≤ m.toInt ∧ m.toInt ≤ 5) (hmk : own_mk m mk) (hky : 0 ≤ ky.toInt) (p11_ : Fld Z h t "com/example/dispersa/dispersa/internal/SlotTable" "probing" "Lcom/example/dispersa/dispersa/internal/ProbeSequence;" (.ref lin)) (p12_ : Fld Z h t "com/example/dispersa/dispersa/internal/SlotTable" "bounded" "Z" (.int (0 : Int32))) (p13_ : Fld Z h t "com/example/dispersa/dispersa/internal/SlotTable" "marksHomes" "Z" (.int (0 : Int32))) (p14_ : Fld Z h t "com/example/dispersa/dispersa/internal/SlotTable" "ordersRuns" "Z" (.int (0 : Int32))) (p15_ : Fld Z h t "com/example/dispersa/dispersa/internal/SlotTable" "counting" "Z" (.int (1 : Int32))) (p16_ : Fld Z h t "com/example/dispersa/dispersa/internal/SlotTable" "stopsAtReach" "Z" (.int (0 : Int32))) (p17_ : Fld Z h t "com/example/dispersa/dispersa/internal/SlotTable" "length" "I" (.int m)) (p18_ : Fld Z h t "com/example/dispersa/dispersa/internal/SlotTable" "mask" "I" (.int mk)) (p19_ : Fld Z h t "com/example/dispersa/dispersa/internal/SlotTable" "linear" "Z" (.int (0 : Int32))) (p20_ : Fld Z h t "com/example/dispersa/dispersa/internal/SlotTable" "goesOn" "Z" (.int (0 : Int32))) (p21_ : Fld Z h t "com/example/dispersa/dispersa/internal/SlotTable" "markers" "I" (.int mu)) (p22_ : Fld Z h t "com/example/dispersa/dispersa/internal/SlotTable" "reach" "I" (.int re)) (p23_ : Fld Z h t "com/example/dispersa/dispersa/internal/SlotTable" "probes" "J" (.long pr)) (p24_ : Fld Z h t "com/example/dispersa/dispersa/internal/SlotTable" "position" "I" (.int po)) (p25_ : Fld Z h t "com/example/dispersa/dispersa/internal/LayoutTable" "keys" "[I" (.ref ka)) (p26_ : Fld Z h t "com/example/dispersa/dispersa/internal/LayoutTable" "turnedAway" "Z" (.int (0 : Int32))) (p27_ : Ary Z h ka kl .int ks) (hh0 : ¬ (ky % m) < (0 : Int32)) (hkv : ks[(ky % m).toNatClampNeg]? = some (.int kv)) (hkv0 : 0 ≤ kv.toInt) (hne : ¬ kv = ky) (hn0 : ¬ (own_adv (ky % m) (1 : Int32) m) < (0 : Int32)) (hnv : ks[(own_adv (ky % m) (1 : Int32) m).toNatClampNeg]? = some (.int (-1))) (hnne : ¬ (-1 : Int32) = ky) :
    Met l (⟨"com/example/dispersa/dispersa/internal/SlotTable", "find", "(JLjava/lang/Object;)I"⟩ : MethodName) prog_109_method_29_code 13 (some .int) [] ({ frames := 4, cells := 0, slots := 0, locals := 80 } : Room) #[(.ref t), (.long (own_hash ky)), .null] Z h n0 (fun v h' => ∃ (pr2 : Int64) (po2 : Int32), v = some (.int ((own_adv (ky % m) (1 : Int32) m) ^^^ (-1 : Int32))) ∧ Keep h h' [t] ∧ Exa Z h' t "com/example/dispersa/dispersa/internal/LayoutTable" ∧ Fld Z h' t "com/example/dispersa/dispersa/internal/SlotTable" "probing" "Lcom/example/dispersa/dispersa/internal/ProbeSequence;" (.ref lin) ∧ Fld Z h' t "com/example/dispersa/dispersa/internal/SlotTable" "bounded" "Z" (.int (0 : Int32)) ∧ Fld Z h' t "com/example/dispersa/dispersa/internal/SlotTable" "marksHomes" "Z" (.int (0 : Int32)) ∧ Fld Z h' t "com/example/dispersa/dispersa/internal/SlotTable" "ordersRuns" "Z" (.int (0 : Int32)) ∧ Fld Z h' t "com/example/dispersa/dispersa/internal/SlotTable" "counting" "Z" (.int (1 : Int32)) ∧ Fld Z h' t "com/example/dispersa/dispersa/internal/SlotTable" "stopsAtReach" "Z" (.int (0 : Int32)) ∧ Fld Z h' t "com/example/dispersa/dispersa/internal/SlotTable" "length" "I" (.int m) ∧ Fld Z h' t "com/example/dispersa/dispersa/internal/SlotTable" "mask" "I" (.int mk) ∧ Fld Z h' t "com/example/dispersa/dispersa/internal/SlotTable" "linear" "Z" (.int (0 : Int32)) ∧ Fld Z h' t "com/example/dispersa/dispersa/internal/SlotTable" "goesOn" "Z" (.int (0 : Int32)) ∧ Fld Z h' t "com/example/dispersa/dispersa/internal/SlotTable" "markers" "I" (.int mu) ∧ Fld Z h' t "com/example/dispersa/dispersa/internal/SlotTable" "reach" "I" (.int re) ∧ Fld Z h' t "com/example/dispersa/dispersa/internal/SlotTable" "probes" "J" (.long pr2) ∧ Fld Z h' t "com/example/dispersa/dispersa/internal/SlotTable" "position" "I" (.int po2) ∧ Fld Z h' t "com/example/dispersa/dispersa/internal/LayoutTable" "keys" "[I" (.ref ka) ∧ Fld Z h' t "com/example/dispersa/dispersa/internal/LayoutTable" "turnedAway" "Z" (.int (0 : Int32))) := by
  refine Met.of (plainFor_of_name (by first | (simp [plainName, overriddenIn]; done) | decide +kernel)) ?_
  intro pP eE sS mM bB tT cC K
  refine Go.entry (ls := #[.val (.ref t), .val (.long (own_hash ky)), .second, .val .null, .unset, .unset, .unset, .unset, .unset, .unset, .unset, .unset, .unset]) (by first | (simp [argsToLocals, Value.category]; done) | rfl) ?_
  refine go_aloadN (q := 1) K dfind_0 rfl rfl rfl ?_
  refine go_getF (q := 4) K (wd hw 53 rfl) Via.refl p17_ dfind_1 rfl ?_
  refine go_istore (q := 6) K dfind_4 #[.val (.ref t), .val (.long (own_hash ky)), .second, .val .null, .val (.int m), .unset, .unset, .unset, .unset, .unset, .unset, .unset, .unset] rfl rfl ?_
  refine go_aloadN (q := 7) K dfind_6 rfl rfl rfl ?_
  refine go_lloadN (q := 8) K dfind_7 rfl rfl ?_
  refine go_callV (q := 11) (W := 0) K (wd hw 98 rfl) (wd hw 99 rfl) (wd hw 101 rfl) (wd hw 100 rfl) (wd hw 13 rfl) (wd hw 102 rfl) (wd hw 36 rfl) rfl p6_ [(.long (own_hash ky))] [] (home l Z a0 hw _ _ _ _ _ n0 p18_ p17_ hky hm hmk) dfind_8 (ps := [.long]) (by decide +kernel) rfl rfl rfl (by decide) rfl (by decide) (by decide) (by decide) (by decide) rfl ?_
  rintro _ _ ⟨rfl, rfl⟩
  show Go pP l eE _ sS mM _ bB tT cC n0 _ h 0 0 (mkF mM 11 #[.val (.ref t), .val (.long (own_hash ky)), .second, .val .null, .val (.int m), .unset, .unset, .unset, .unset, .unset, .unset, .unset, .unset] [(.int (ky % m))])
  refine go_istore (q := 13) K dfind_11 #[.val (.ref t), .val (.long (own_hash ky)), .second, .val .null, .val (.int m), .val (.int (ky % m)), .unset, .unset, .unset, .unset, .unset, .unset, .unset] rfl rfl ?_
  refine go_aloadN (q := 14) K dfind_13 rfl rfl rfl ?_
  refine go_getF (q := 17) K (wd hw 21 rfl) Via.refl p11_ dfind_14 rfl ?_
  refine go_lloadN (q := 18) K dfind_17 rfl rfl ?_
  refine go_iload (q := 20) K dfind_18 rfl rfl ?_
  refine go_callV (q := 23) (W := 0) K (wd hw 113 rfl) (wd hw 114 rfl) (wd hw 116 rfl) (wd hw 115 rfl) (wd hw 5 rfl) (wd hw 117 rfl) (wd hw 41 rfl) rfl (p2_.ext p0_.2) [(.long (own_hash ky)), (.int m)] [] (stepP l Z a0 hw _ _ _ _ n0 p0_ p4_) dfind_20 (ps := [.long, .int]) (by decide +kernel) rfl rfl rfl (by decide) rfl (by decide) (by decide) (by decide) (by decide) rfl ?_
  rintro _ _ ⟨rfl, rfl⟩
  show Go pP l eE _ sS mM _ bB tT cC n0 _ h 0 0 (mkF mM 23 #[.val (.ref t), .val (.long (own_hash ky)), .second, .val .null, .val (.int m), .val (.int (ky % m)), .unset, .unset, .unset, .unset, .unset, .unset, .unset] [(.int (1 : Int32))])
  refine go_istore (q := 25) K dfind_23 #[.val (.ref t), .val (.long (own_hash ky)), .second, .val .null, .val (.int m), .val (.int (ky % m)), .val (.int (1 : Int32)), .unset, .unset, .unset, .unset, .unset, .unset] rfl rfl ?_
  refine go_aloadN (q := 26) K dfind_25 rfl rfl rfl ?_
  refine go_getF (q := 29) K (wd hw 21 rfl) Via.refl p11_ dfind_26 rfl ?_
  refine go_callV (q := 32) (W := 0) K (wd hw 120 rfl) (wd hw 121 rfl) (wd hw 123 rfl) (wd hw 122 rfl) (wd hw 5 rfl) (wd hw 124 rfl) (wd hw 41 rfl) rfl (p2_.ext p0_.2) [] [] (growth l Z a0 hw _ _ n0 p0_ p5_) dfind_29 (ps := []) (by decide +kernel) rfl rfl rfl (by decide) rfl (by decide) (by decide) (by decide) (by decide) rfl ?_
  rintro _ _ ⟨rfl, rfl⟩
  show Go pP l eE _ sS mM _ bB tT cC n0 _ h 0 0 (mkF mM 32 #[.val (.ref t), .val (.long (own_hash ky)), .second, .val .null, .val (.int m), .val (.int (ky % m)), .val (.int (1 : Int32)), .unset, .unset, .unset, .unset, .unset, .unset] [(.int (0 : Int32))])
  refine go_istore (q := 34) K dfind_32 #[.val (.ref t), .val (.long (own_hash ky)), .second, .val .null, .val (.int m), .val (.int (ky % m)), .val (.int (1 : Int32)), .val (.int (0 : Int32)), .unset, .unset, .unset, .unset, .unset] rfl rfl ?_
  refine go_aloadN (q := 35) K dfind_34 rfl rfl rfl ?_
  refine go_callP (q := 38) (W := 0) K (wd hw 127 rfl) (wd hw 129 rfl) (wd hw 36 rfl) rfl (wd hw 128 rfl) (wd hw 13 rfl) (wd hw 130 rfl) p6_ [] [] (compd l Z a0 hw _ _ _ n0 p12_ p17_) dfind_35 (ps := []) (by decide +kernel) rfl rfl rfl (by decide) rfl (by decide) (by decide) (by decide) (by decide) rfl ?_
  rintro _ _ ⟨rfl, rfl⟩
  show Go pP l eE _ sS mM _ bB tT cC n0 _ h 0 0 (mkF mM 38 #[.val (.ref t), .val (.long (own_hash ky)), .second, .val .null, .val (.int m), .val (.int (ky % m)), .val (.int (1 : Int32)), .val (.int (0 : Int32)), .unset, .unset, .unset, .unset, .unset] [(.int m)])
  refine go_istore (q := 40) K dfind_38 #[.val (.ref t), .val (.long (own_hash ky)), .second, .val .null, .val (.int m), .val (.int (ky % m)), .val (.int (1 : Int32)), .val (.int (0 : Int32)), .val (.int m), .unset, .unset, .unset, .unset] rfl rfl ?_
  refine go_ldcI (q := 42) K (wd hw 131 rfl) dfind_40 rfl ?_
  refine go_istore (q := 44) K dfind_42 #[.val (.ref t), .val (.long (own_hash ky)), .second, .val .null, .val (.int m), .val (.int (ky % m)), .val (.int (1 : Int32)), .val (.int (0 : Int32)), .val (.int m), .val (.int (-2147483648 : Int32)), .unset, .unset, .unset] rfl rfl ?_
  refine go_iconst (q := 45) K dfind_44 (0 : Int32) rfl rfl ?_
  refine go_istore (q := 47) K dfind_45 #[.val (.ref t), .val (.long (own_hash ky)), .second, .val .null, .val (.int m), .val (.int (ky % m)), .val (.int (1 : Int32)), .val (.int (0 : Int32)), .val (.int m), .val (.int (-2147483648 : Int32)), .val (.int (0 : Int32)), .unset, .unset] rfl rfl ?_
  refine go_iconst (q := 48) K dfind_47 (1 : Int32) rfl rfl ?_
  refine go_istore (q := 50) K dfind_48 #[.val (.ref t), .val (.long (own_hash ky)), .second, .val .null, .val (.int m), .val (.int (ky % m)), .val (.int (1 : Int32)), .val (.int (0 : Int32)), .val (.int m), .val (.int (-2147483648 : Int32)), .val (.int (0 : Int32)), .val (.int (1 : Int32)), .unset] rfl rfl ?_
  refine go_aloadN (q := 51) K dfind_50 rfl rfl rfl ?_
  refine go_iload (q := 53) K dfind_51 rfl rfl ?_
  refine go_lloadN (q := 54) K dfind_53 rfl rfl ?_
  refine go_aloadN (q := 55) K dfind_54 rfl rfl rfl ?_
  refine go_iconst (q := 56) K dfind_55 (1 : Int32) rfl rfl ?_
  refine go_callV (q := 59) (W := 0) K (wd hw 132 rfl) (wd hw 133 rfl) (wd hw 134 rfl) (wd hw 135 rfl) (wd hw 3 rfl) (wd hw 136 rfl) (wd hw 36 rfl) rfl p6_ [(.int (ky % m)), (.long (own_hash ky)), .null, (.int (1 : Int32))] [] (holds l Z a0 hw _ _ _ _ _ _ _ _ _ n0 p25_ p27_ hh0 hkv) dfind_56 (ps := [.int, .long, (.object "java/lang/Object"), .boolean]) (by decide +kernel) rfl rfl rfl (by decide) rfl (by decide) (by decide) (by decide) (by decide) rfl ?_
  rintro _ _ ⟨rfl, rfl⟩
  show Go pP l eE _ sS mM _ bB tT cC n0 _ h 0 0 (mkF mM 59 #[.val (.ref t), .val (.long (own_hash ky)), .second, .val .null, .val (.int m), .val (.int (ky % m)), .val (.int (1 : Int32)), .val (.int (0 : Int32)), .val (.int m), .val (.int (-2147483648 : Int32)), .val (.int (0 : Int32)), .val (.int (1 : Int32)), .unset] [(.int (own_eq kv ky))])
  refine go_eqI (y := (0 : Int32)) (own_eq_no hne) ?_
  refine go_if0 (q := 75) (q' := 62) K dfind_59 (by decide) rfl rfl (fun _ => ?_) (fun hn => cN_no2 hn (show (0 : Int32) = (0 : Int32) from (by decide)))
  refine go_aloadN (q := 76) K dfind_75 rfl rfl rfl ?_
  refine go_iload (q := 78) K dfind_76 rfl rfl ?_
  refine go_callV (q := 81) (W := 0) K (wd hw 137 rfl) (wd hw 138 rfl) (wd hw 139 rfl) (wd hw 140 rfl) (wd hw 3 rfl) (wd hw 141 rfl) (wd hw 36 rfl) rfl p6_ [(.int (ky % m))] [] (state l Z a0 hw _ _ _ _ _ _ _ n0 p25_ p27_ hh0 hkv) dfind_78 (ps := [.int]) (by decide +kernel) rfl rfl rfl (by decide) rfl (by decide) (by decide) (by decide) (by decide) rfl ?_
  rintro _ _ ⟨rfl, rfl⟩
  show Go pP l eE _ sS mM _ bB tT cC n0 _ h 0 0 (mkF mM 81 #[.val (.ref t), .val (.long (own_hash ky)), .second, .val .null, .val (.int m), .val (.int (ky % m)), .val (.int (1 : Int32)), .val (.int (0 : Int32)), .val (.int m), .val (.int (-2147483648 : Int32)), .val (.int (0 : Int32)), .val (.int (1 : Int32)), .unset] [(.int (own_st kv))])
  refine go_eqI (y := (2 : Int32)) (own_st2 hkv0) ?_
  refine go_istore (q := 83) K dfind_81 #[.val (.ref t), .val (.long (own_hash ky)), .second, .val .null, .val (.int m), .val (.int (ky % m)), .val (.int (1 : Int32)), .val (.int (0 : Int32)), .val (.int m), .val (.int (-2147483648 : Int32)), .val (.int (0 : Int32)), .val (.int (1 : Int32)), .val (.int (2 : Int32))] rfl rfl ?_
  refine go_iload (q := 85) K dfind_83 rfl rfl ?_
  refine go_if0 (q := 123) (q' := 88) K dfind_85 (by decide) rfl rfl (fun _ => ?_) (fun hn => cN_no2 hn (show ¬ (2 : Int32) = (0 : Int32) from (by decide)))
  refine go_iload (q := 125) K dfind_123 rfl rfl ?_
  refine go_iconst (q := 126) K dfind_125 (1 : Int32) rfl rfl ?_
  refine go_icmp (q := 148) (q' := 129) K dfind_126 (by decide) rfl rfl (fun _ => ?_) (fun hn => cN_no2 hn (show ¬ (2 : Int32) = (1 : Int32) from (by decide)))
  refine go_iload (q := 150) K dfind_148 rfl rfl ?_
  refine go_iload (q := 152) K dfind_150 rfl rfl ?_
  refine go_icmp (q := 209) (q' := 155) K dfind_152 (by decide) rfl rfl (fun _ => ?_) (fun hn => cN_no2 hn (show (1 : Int32) < m from (own_m0 hm).2.2))
  refine go_iload (q := 211) K dfind_209 rfl rfl ?_
  refine go_iload (q := 213) K dfind_211 rfl rfl ?_
  refine go_iload (q := 215) K dfind_213 rfl rfl ?_
  refine go_callS (q := 218) (W := 0) K (wd hw 167 rfl) (wd hw 168 rfl) (wd hw 13 rfl) (wd hw 169 rfl) [(.int (ky % m)), (.int (1 : Int32)), (.int m)] [] (adv l Z a0 hw _ _ _ _ n0 ) dfind_215 (ps := [.int, .int, .int]) (by decide +kernel) rfl rfl rfl (by decide) rfl (by decide) (by decide) (by decide) (by decide) rfl ?_
  rintro _ _ ⟨rfl, rfl⟩
  show Go pP l eE _ sS mM _ bB tT cC n0 _ h 0 0 (mkF mM 218 #[.val (.ref t), .val (.long (own_hash ky)), .second, .val .null, .val (.int m), .val (.int (ky % m)), .val (.int (1 : Int32)), .val (.int (0 : Int32)), .val (.int m), .val (.int (-2147483648 : Int32)), .val (.int (0 : Int32)), .val (.int (1 : Int32)), .val (.int (2 : Int32))] [(.int (own_adv (ky % m) (1 : Int32) m))])
  refine go_istore (q := 220) K dfind_218 #[.val (.ref t), .val (.long (own_hash ky)), .second, .val .null, .val (.int m), .val (.int (own_adv (ky % m) (1 : Int32) m)), .val (.int (1 : Int32)), .val (.int (0 : Int32)), .val (.int m), .val (.int (-2147483648 : Int32)), .val (.int (0 : Int32)), .val (.int (1 : Int32)), .val (.int (2 : Int32))] rfl rfl ?_
  refine go_iload (q := 222) K dfind_220 rfl rfl ?_
  refine go_iload (q := 224) K dfind_222 rfl rfl ?_
  refine go_iload (q := 226) K dfind_224 rfl rfl ?_
  refine go_callS (q := 229) (W := 0) K (wd hw 167 rfl) (wd hw 168 rfl) (wd hw 13 rfl) (wd hw 169 rfl) [(.int (1 : Int32)), (.int (0 : Int32)), (.int m)] [] (adv l Z a0 hw _ _ _ _ n0 ) dfind_226 (ps := [.int, .int, .int]) (by decide +kernel) rfl rfl rfl (by decide) rfl (by decide) (by decide) (by decide) (by decide) rfl ?_
  rintro _ _ ⟨rfl, rfl⟩
  show Go pP l eE _ sS mM _ bB tT cC n0 _ h 0 0 (mkF mM 229 #[.val (.ref t), .val (.long (own_hash ky)), .second, .val .null, .val (.int m), .val (.int (own_adv (ky % m) (1 : Int32) m)), .val (.int (1 : Int32)), .val (.int (0 : Int32)), .val (.int m), .val (.int (-2147483648 : Int32)), .val (.int (0 : Int32)), .val (.int (1 : Int32)), .val (.int (2 : Int32))] [(.int (own_adv (1 : Int32) (0 : Int32) m))])
  refine go_istore (q := 231) K dfind_229 #[.val (.ref t), .val (.long (own_hash ky)), .second, .val .null, .val (.int m), .val (.int (own_adv (ky % m) (1 : Int32) m)), .val (.int (own_adv (1 : Int32) (0 : Int32) m)), .val (.int (0 : Int32)), .val (.int m), .val (.int (-2147483648 : Int32)), .val (.int (0 : Int32)), .val (.int (1 : Int32)), .val (.int (2 : Int32))] rfl rfl ?_
  refine go_iinc (q := 234) K dfind_231 (1 : Int32) #[.val (.ref t), .val (.long (own_hash ky)), .second, .val .null, .val (.int m), .val (.int (own_adv (ky % m) (1 : Int32) m)), .val (.int (own_adv (1 : Int32) (0 : Int32) m)), .val (.int (0 : Int32)), .val (.int m), .val (.int (-2147483648 : Int32)), .val (.int (0 : Int32)), .val (.int (2 : Int32)), .val (.int (2 : Int32))] rfl rfl rfl rfl ?_
  refine go_goto (q := 50) K dfind_234 (by decide) rfl ?_
  refine go_aloadN (q := 51) K dfind_50 rfl rfl rfl ?_
  refine go_iload (q := 53) K dfind_51 rfl rfl ?_
  refine go_lloadN (q := 54) K dfind_53 rfl rfl ?_
  refine go_aloadN (q := 55) K dfind_54 rfl rfl rfl ?_
  refine go_iconst (q := 56) K dfind_55 (1 : Int32) rfl rfl ?_
  refine go_callV (q := 59) (W := 0) K (wd hw 132 rfl) (wd hw 133 rfl) (wd hw 134 rfl) (wd hw 135 rfl) (wd hw 3 rfl) (wd hw 136 rfl) (wd hw 36 rfl) rfl p6_ [(.int (own_adv (ky % m) (1 : Int32) m)), (.long (own_hash ky)), .null, (.int (1 : Int32))] [] (holds l Z a0 hw _ _ _ _ _ _ _ _ _ n0 p25_ p27_ hn0 hnv) dfind_56 (ps := [.int, .long, (.object "java/lang/Object"), .boolean]) (by decide +kernel) rfl rfl rfl (by decide) rfl (by decide) (by decide) (by decide) (by decide) rfl ?_
  rintro _ _ ⟨rfl, rfl⟩
  show Go pP l eE _ sS mM _ bB tT cC n0 _ h 0 0 (mkF mM 59 #[.val (.ref t), .val (.long (own_hash ky)), .second, .val .null, .val (.int m), .val (.int (own_adv (ky % m) (1 : Int32) m)), .val (.int (own_adv (1 : Int32) (0 : Int32) m)), .val (.int (0 : Int32)), .val (.int m), .val (.int (-2147483648 : Int32)), .val (.int (0 : Int32)), .val (.int (2 : Int32)), .val (.int (2 : Int32))] [(.int (own_eq (-1 : Int32) ky))])
  refine go_eqI (y := (0 : Int32)) (own_eq_no hnne) ?_
  refine go_if0 (q := 75) (q' := 62) K dfind_59 (by decide) rfl rfl (fun _ => ?_) (fun hn => cN_no2 hn (show (0 : Int32) = (0 : Int32) from (by decide)))
  refine go_aloadN (q := 76) K dfind_75 rfl rfl rfl ?_
  refine go_iload (q := 78) K dfind_76 rfl rfl ?_
  refine go_callV (q := 81) (W := 0) K (wd hw 137 rfl) (wd hw 138 rfl) (wd hw 139 rfl) (wd hw 140 rfl) (wd hw 3 rfl) (wd hw 141 rfl) (wd hw 36 rfl) rfl p6_ [(.int (own_adv (ky % m) (1 : Int32) m))] [] (state l Z a0 hw _ _ _ _ _ _ _ n0 p25_ p27_ hn0 hnv) dfind_78 (ps := [.int]) (by decide +kernel) rfl rfl rfl (by decide) rfl (by decide) (by decide) (by decide) (by decide) rfl ?_
  rintro _ _ ⟨rfl, rfl⟩
  show Go pP l eE _ sS mM _ bB tT cC n0 _ h 0 0 (mkF mM 81 #[.val (.ref t), .val (.long (own_hash ky)), .second, .val .null, .val (.int m), .val (.int (own_adv (ky % m) (1 : Int32) m)), .val (.int (own_adv (1 : Int32) (0 : Int32) m)), .val (.int (0 : Int32)), .val (.int m), .val (.int (-2147483648 : Int32)), .val (.int (0 : Int32)), .val (.int (2 : Int32)), .val (.int (2 : Int32))] [(.int (own_st (-1 : Int32)))])
  refine go_eqI (y := (0 : Int32)) (by decide) ?_
  refine go_istore (q := 83) K dfind_81 #[.val (.ref t), .val (.long (own_hash ky)), .second, .val .null, .val (.int m), .val (.int (own_adv (ky % m) (1 : Int32) m)), .val (.int (own_adv (1 : Int32) (0 : Int32) m)), .val (.int (0 : Int32)), .val (.int m), .val (.int (-2147483648 : Int32)), .val (.int (0 : Int32)), .val (.int (2 : Int32)), .val (.int (0 : Int32))] rfl rfl ?_
  refine go_iload (q := 85) K dfind_83 rfl rfl ?_
  refine go_if0 (q := 123) (q' := 88) K dfind_85 (by decide) rfl rfl (fun hn => cN_no hn (show (0 : Int32) = (0 : Int32) from (by decide))) (fun _ => ?_)
  refine go_iload (q := 90) K dfind_88 rfl rfl ?_
  refine go_ldcI (q := 92) K (wd hw 131 rfl) dfind_90 rfl ?_
  refine go_icmp (q := 108) (q' := 95) K dfind_92 (by decide) rfl rfl (fun _ => ?_) (fun hn => cN_no2 hn (show (-2147483648 : Int32) = (-2147483648 : Int32) from (by decide)))
  refine go_aloadN (q := 109) K dfind_108 rfl rfl rfl ?_
  refine go_iload (q := 111) K dfind_109 rfl rfl ?_
  refine go_iload (q := 113) K dfind_111 rfl rfl ?_
  refine go_iconst (q := 114) K dfind_113 (1 : Int32) rfl rfl ?_
  refine go_isub (q := 115) K dfind_114 rfl ?_
  refine go_eqI (y := (1 : Int32)) (by decide) ?_
  refine go_iload (q := 117) K dfind_115 rfl rfl ?_
  refine go_iconst (q := 118) K dfind_117 (-1 : Int32) rfl rfl ?_
  refine go_ixor (q := 119) K dfind_118 rfl ?_
  refine go_callP (q := 122) (W := 0) K (wd hw 142 rfl) (wd hw 144 rfl) (wd hw 36 rfl) rfl (wd hw 143 rfl) (wd hw 13 rfl) (wd hw 145 rfl) p6_ [(.int (2 : Int32)), (.int (1 : Int32)), (.int ((own_adv (ky % m) (1 : Int32) m) ^^^ (-1 : Int32)))] [] (stop l Z a0 hw _ _ _ _ _ _ _ _ _ _ _ _ _ n0 p6_ p7_ p11_ p12_ p13_ p14_ p15_ p16_ p17_ p18_ p19_ p20_ p21_ p22_ p23_ p24_ p25_ p26_) dfind_119 (ps := [.int, .int, .int]) (by decide +kernel) rfl rfl rfl (by decide) rfl (by decide) (by decide) (by decide) (by decide) rfl ?_
  rintro _ h11 ⟨rfl, Kh11, q0h11, q1h11, q2h11, q3h11, q4h11, q5h11, q6h11, q7h11, q8h11, q9h11, q10h11, q11h11, q12h11, q13h11, q14h11, q15h11, q16h11⟩
  show Go pP l eE _ sS mM _ bB tT cC n0 _ h11 0 0 (mkF mM 122 #[.val (.ref t), .val (.long (own_hash ky)), .second, .val .null, .val (.int m), .val (.int (own_adv (ky % m) (1 : Int32) m)), .val (.int (own_adv (1 : Int32) (0 : Int32) m)), .val (.int (0 : Int32)), .val (.int m), .val (.int (-2147483648 : Int32)), .val (.int (0 : Int32)), .val (.int (2 : Int32)), .val (.int (0 : Int32))] [(.int ((own_adv (ky % m) (1 : Int32) m) ^^^ (-1 : Int32)))])
  refine go_iret K dfind_122 rfl (Or.inl rfl) rfl (by decide) (by decide) ?_
  have f1 := ((Keep.refl h [t]).trans Kh11 (allS (Or.inl (by simp)) all0))
  exact ⟨(pr + (2 : Int32).toInt64), (1 : Int32), rfl, f1, q0h11, q1h11, q2h11, q3h11, q4h11, q5h11, q6h11, q7h11, q8h11, q9h11, q10h11, q11h11, q12h11, q13h11, q14h11, q15h11, q16h11⟩
theorem dentered_0 : decode prog_109_method_55_code 0 = .ok (.iload_n 3, 1) := by decide +kernel
theorem dentered_1 : decode prog_109_method_55_code 1 = .ok (.aload_n 0, 1) := by decide +kernel
theorem dentered_2 : decode prog_109_method_55_code 2 = .ok (.getfield 70, 3) := by decide +kernel
theorem dentered_5 : decode prog_109_method_55_code 5 = .ok (.if_icmp .le 8, 3) := by decide +kernel
theorem dentered_8 : decode prog_109_method_55_code 8 = .ok (.aload_n 0, 1) := by decide +kernel
theorem dentered_9 : decode prog_109_method_55_code 9 = .ok (.iload_n 3, 1) := by decide +kernel
theorem dentered_10 : decode prog_109_method_55_code 10 = .ok (.putfield 70, 3) := by decide +kernel
theorem dentered_13 : decode prog_109_method_55_code 13 = .ok (.aload_n 0, 1) := by decide +kernel
theorem dentered_14 : decode prog_109_method_55_code 14 = .ok (.getfield 29, 3) := by decide +kernel
theorem dentered_17 : decode prog_109_method_55_code 17 = .ok (.ifCond .eq 21, 3) := by decide +kernel
theorem dentered_20 : decode prog_109_method_55_code 20 = .ok (.iload_n 3, 1) := by decide +kernel
theorem dentered_21 : decode prog_109_method_55_code 21 = .ok (.ifCond .le 17, 3) := by decide +kernel
theorem dentered_24 : decode prog_109_method_55_code 24 = .ok (.aload_n 0, 1) := by decide +kernel
theorem dentered_25 : decode prog_109_method_55_code 25 = .ok (.aload_n 0, 1) := by decide +kernel
theorem dentered_26 : decode prog_109_method_55_code 26 = .ok (.lload_n 1, 1) := by decide +kernel
theorem dentered_27 : decode prog_109_method_55_code 27 = .ok (.invokevirtual 103, 3) := by decide +kernel
theorem dentered_30 : decode prog_109_method_55_code 30 = .ok (.iload_n 3, 1) := by decide +kernel
theorem dentered_31 : decode prog_109_method_55_code 31 = .ok (.invokestatic 217, 3) := by decide +kernel
theorem dentered_34 : decode prog_109_method_55_code 34 = .ok (.lload_n 1, 1) := by decide +kernel
theorem dentered_35 : decode prog_109_method_55_code 35 = .ok (.invokevirtual 220, 3) := by decide +kernel
theorem dentered_38 : decode prog_109_method_55_code 38 = .ok (.return_, 1) := by decide +kernel
set_option maxRecDepth 65536 in
set_option maxHeartbeats 40000000 in
theorem entered (l : Launch) (Z : State) (a0 : Array Value) (hw : ∀ d ∈ tables_1, d.before a0 Z = true) (t : Addr) (lin : Addr) (m : Int32) (mk : Int32) (mu : Int32) (re : Int32) (pr : Int64) (po : Int32) (ka : Addr) (hh : Int64) (ps : Int32) (h : Heap) (n0 : Nat) (p0_ : Exa Z h t "com/example/dispersa/dispersa/internal/LayoutTable") (p1_ : n0 ≤ t) (p2_ : Fld Z h t "com/example/dispersa/dispersa/internal/SlotTable" "probing" "Lcom/example/dispersa/dispersa/internal/ProbeSequence;" (.ref lin)) (p3_ : Fld Z h t "com/example/dispersa/dispersa/internal/SlotTable" "bounded" "Z" (.int (0 : Int32))) (p4_ : Fld Z h t "com/example/dispersa/dispersa/internal/SlotTable" "marksHomes" "Z" (.int (0 : Int32))) (p5_ : Fld Z h t "com/example/dispersa/dispersa/internal/SlotTable" "ordersRuns" "Z" (.int (0 : Int32))) (p6_ : Fld Z h t "com/example/dispersa/dispersa/internal/SlotTable" "counting" "Z" (.int (1 : Int32))) (p7_ : Fld Z h t "com/example/dispersa/dispersa/internal/SlotTable" "stopsAtReach" "Z" (.int (0 : Int32))) (p8_ : Fld Z h t "com/example/dispersa/dispersa/internal/SlotTable" "length" "I" (.int m)) (p9_ : Fld Z h t "com/example/dispersa/dispersa/internal/SlotTable" "mask" "I" (.int mk)) (p10_ : Fld Z h t "com/example/dispersa/dispersa/internal/SlotTable" "linear" "Z" (.int (0 : Int32))) (p11_ : Fld Z h t "com/example/dispersa/dispersa/internal/SlotTable" "goesOn" "Z" (.int (0 : Int32))) (p12_ : Fld Z h t "com/example/dispersa/dispersa/internal/SlotTable" "markers" "I" (.int mu)) (p13_ : Fld Z h t "com/example/dispersa/dispersa/internal/SlotTable" "reach" "I" (.int re)) (p14_ : Fld Z h t "com/example/dispersa/dispersa/internal/SlotTable" "probes" "J" (.long pr)) (p15_ : Fld Z h t "com/example/dispersa/dispersa/internal/SlotTable" "position" "I" (.int po)) (p16_ : Fld Z h t "com/example/dispersa/dispersa/internal/LayoutTable" "keys" "[I" (.ref ka)) (p17_ : Fld Z h t "com/example/dispersa/dispersa/internal/LayoutTable" "turnedAway" "Z" (.int (0 : Int32))) :
    Met l (⟨"com/example/dispersa/dispersa/internal/SlotTable", "entered", "(JI)V"⟩ : MethodName) prog_109_method_55_code 4 none [] ({ frames := 0, cells := 0, slots := 0, locals := 0 } : Room) #[(.ref t), (.long hh), (.int ps)] Z h n0 (fun v h' => ∃ (re2 : Int32), v = none ∧ Keep h h' [t] ∧ Exa Z h' t "com/example/dispersa/dispersa/internal/LayoutTable" ∧ Fld Z h' t "com/example/dispersa/dispersa/internal/SlotTable" "probing" "Lcom/example/dispersa/dispersa/internal/ProbeSequence;" (.ref lin) ∧ Fld Z h' t "com/example/dispersa/dispersa/internal/SlotTable" "bounded" "Z" (.int (0 : Int32)) ∧ Fld Z h' t "com/example/dispersa/dispersa/internal/SlotTable" "marksHomes" "Z" (.int (0 : Int32)) ∧ Fld Z h' t "com/example/dispersa/dispersa/internal/SlotTable" "ordersRuns" "Z" (.int (0 : Int32)) ∧ Fld Z h' t "com/example/dispersa/dispersa/internal/SlotTable" "counting" "Z" (.int (1 : Int32)) ∧ Fld Z h' t "com/example/dispersa/dispersa/internal/SlotTable" "stopsAtReach" "Z" (.int (0 : Int32)) ∧ Fld Z h' t "com/example/dispersa/dispersa/internal/SlotTable" "length" "I" (.int m) ∧ Fld Z h' t "com/example/dispersa/dispersa/internal/SlotTable" "mask" "I" (.int mk) ∧ Fld Z h' t "com/example/dispersa/dispersa/internal/SlotTable" "linear" "Z" (.int (0 : Int32)) ∧ Fld Z h' t "com/example/dispersa/dispersa/internal/SlotTable" "goesOn" "Z" (.int (0 : Int32)) ∧ Fld Z h' t "com/example/dispersa/dispersa/internal/SlotTable" "markers" "I" (.int mu) ∧ Fld Z h' t "com/example/dispersa/dispersa/internal/SlotTable" "reach" "I" (.int re2) ∧ Fld Z h' t "com/example/dispersa/dispersa/internal/SlotTable" "probes" "J" (.long pr) ∧ Fld Z h' t "com/example/dispersa/dispersa/internal/SlotTable" "position" "I" (.int po) ∧ Fld Z h' t "com/example/dispersa/dispersa/internal/LayoutTable" "keys" "[I" (.ref ka) ∧ Fld Z h' t "com/example/dispersa/dispersa/internal/LayoutTable" "turnedAway" "Z" (.int (0 : Int32))) := by
  refine Met.of (plainFor_of_name (by first | (simp [plainName, overriddenIn]; done) | decide +kernel)) ?_
  intro pP eE sS mM bB tT cC K
  refine Go.entry (ls := #[.val (.ref t), .val (.long hh), .second, .val (.int ps)]) (by first | (simp [argsToLocals, Value.category]; done) | rfl) ?_
  refine go_iloadN (q := 1) K dentered_0 rfl rfl ?_
  refine go_aloadN (q := 2) K dentered_1 rfl rfl rfl ?_
  refine go_getF (q := 5) K (wd hw 75 rfl) Via.refl p13_ dentered_2 rfl ?_
  refine go_icmp (q := 13) (q' := 8) K dentered_5 (by decide) rfl rfl (fun hc5 => ?_) (fun hc5 => ?_)
  · have hc5 : ¬ re < ps := hc5
    refine go_aloadN (q := 14) K dentered_13 rfl rfl rfl ?_
    refine go_getF (q := 17) K (wd hw 25 rfl) Via.refl p4_ dentered_14 rfl ?_
    refine go_if0 (q := 38) (q' := 20) K dentered_17 (by decide) rfl rfl (fun _ => ?_) (fun hn => cN_no2 hn (show (0 : Int32) = (0 : Int32) from (by decide)))
    refine go_return K dentered_38 rfl (by decide) (by decide) ?_
    exact ⟨re, rfl, (Keep.refl h [t]), p0_, p2_, p3_, p4_, p5_, p6_, p7_, p8_, p9_, p10_, p11_, p12_, p13_, p14_, p15_, p16_, p17_⟩
  · have hc5 : re < ps := hc5
    refine go_aloadN (q := 9) K dentered_8 rfl rfl rfl ?_
    refine go_iloadN (q := 10) K dentered_9 rfl rfl ?_
    refine go_putF (q := 13) K (wd hw 75 rfl) Via.refl p13_ p0_ (Or.inl (wd hw 76 rfl)) (wd hw 2 rfl) (ty := .int) (by decide +kernel) rfl rfl p1_ dentered_10 rfl ?_
    intro h1 Wh1
    refine go_aloadN (q := 14) K dentered_13 rfl rfl rfl ?_
    have f1 := (p4_.other Wh1 (Or.inr (slot_ne (C := "com/example/dispersa/dispersa/internal/LayoutTable") (Or.inr (wd hw 26 rfl)) (Or.inl (wd hw 76 rfl)) (by decide) (t := .boolean) (t' := .int) (by decide +kernel) (by decide +kernel))))
    refine go_getF (q := 17) K (wd hw 25 rfl) Via.refl f1 dentered_14 rfl ?_
    refine go_if0 (q := 38) (q' := 20) K dentered_17 (by decide) rfl rfl (fun _ => ?_) (fun hn => cN_no2 hn (show (0 : Int32) = (0 : Int32) from (by decide)))
    refine go_return K dentered_38 rfl (by decide) (by decide) ?_
    have f2 := ((Keep.refl h [t]).wr Wh1 (Or.inl (by simp)))
    have f3 := (p0_.wr Wh1)
    have f4 := (p2_.other Wh1 (Or.inr (slot_ne (C := "com/example/dispersa/dispersa/internal/LayoutTable") (Or.inr (wd hw 22 rfl)) (Or.inl (wd hw 76 rfl)) (by decide) (t := (.object "com/example/dispersa/dispersa/internal/ProbeSequence")) (t' := .int) (by decide +kernel) (by decide +kernel))))
    have f5 := (p3_.other Wh1 (Or.inr (slot_ne (C := "com/example/dispersa/dispersa/internal/LayoutTable") (Or.inr (wd hw 24 rfl)) (Or.inl (wd hw 76 rfl)) (by decide) (t := .boolean) (t' := .int) (by decide +kernel) (by decide +kernel))))
    have f6 := (p5_.other Wh1 (Or.inr (slot_ne (C := "com/example/dispersa/dispersa/internal/LayoutTable") (Or.inr (wd hw 28 rfl)) (Or.inl (wd hw 76 rfl)) (by decide) (t := .boolean) (t' := .int) (by decide +kernel) (by decide +kernel))))
    have f7 := (p6_.other Wh1 (Or.inr (slot_ne (C := "com/example/dispersa/dispersa/internal/LayoutTable") (Or.inl (wd hw 30 rfl)) (Or.inl (wd hw 76 rfl)) (by decide) (t := .boolean) (t' := .int) (by decide +kernel) (by decide +kernel))))
    have f8 := (p7_.other Wh1 (Or.inr (slot_ne (C := "com/example/dispersa/dispersa/internal/LayoutTable") (Or.inl (wd hw 32 rfl)) (Or.inl (wd hw 76 rfl)) (by decide) (t := .boolean) (t' := .int) (by decide +kernel) (by decide +kernel))))
    have f9 := (p8_.other Wh1 (Or.inr (slot_ne (C := "com/example/dispersa/dispersa/internal/LayoutTable") (Or.inl (wd hw 54 rfl)) (Or.inl (wd hw 76 rfl)) (by decide) (t := .int) (t' := .int) (by decide +kernel) (by decide +kernel))))
    have f10 := (p9_.other Wh1 (Or.inr (slot_ne (C := "com/example/dispersa/dispersa/internal/LayoutTable") (Or.inl (wd hw 63 rfl)) (Or.inl (wd hw 76 rfl)) (by decide) (t := .int) (t' := .int) (by decide +kernel) (by decide +kernel))))
    have f11 := (p10_.other Wh1 (Or.inr (slot_ne (C := "com/example/dispersa/dispersa/internal/LayoutTable") (Or.inl (wd hw 66 rfl)) (Or.inl (wd hw 76 rfl)) (by decide) (t := .boolean) (t' := .int) (by decide +kernel) (by decide +kernel))))
    have f12 := (p11_.other Wh1 (Or.inr (slot_ne (C := "com/example/dispersa/dispersa/internal/LayoutTable") (Or.inl (wd hw 72 rfl)) (Or.inl (wd hw 76 rfl)) (by decide) (t := .boolean) (t' := .int) (by decide +kernel) (by decide +kernel))))
    have f13 := (p12_.other Wh1 (Or.inr (slot_ne (C := "com/example/dispersa/dispersa/internal/LayoutTable") (Or.inl (wd hw 74 rfl)) (Or.inl (wd hw 76 rfl)) (by decide) (t := .int) (t' := .int) (by decide +kernel) (by decide +kernel))))
    have f14 := (p14_.other Wh1 (Or.inr (slot_ne (C := "com/example/dispersa/dispersa/internal/LayoutTable") (Or.inl (wd hw 147 rfl)) (Or.inl (wd hw 76 rfl)) (by decide) (t := .long) (t' := .int) (by decide +kernel) (by decide +kernel))))
    have f15 := (p15_.other Wh1 (Or.inr (slot_ne (C := "com/example/dispersa/dispersa/internal/LayoutTable") (Or.inl (wd hw 149 rfl)) (Or.inl (wd hw 76 rfl)) (by decide) (t := .int) (t' := .int) (by decide +kernel) (by decide +kernel))))
    have f16 := (p16_.other Wh1 (Or.inr (slot_ne (C := "com/example/dispersa/dispersa/internal/LayoutTable") (Or.inr (wd hw 79 rfl)) (Or.inl (wd hw 76 rfl)) (by decide) (t := (.array .int)) (t' := .int) (by decide +kernel) (by decide +kernel))))
    have f17 := (p17_.other Wh1 (Or.inr (slot_ne (C := "com/example/dispersa/dispersa/internal/LayoutTable") (Or.inl (wd hw 210 rfl)) (Or.inl (wd hw 76 rfl)) (by decide) (t := .boolean) (t' := .int) (by decide +kernel) (by decide +kernel))))
    exact ⟨ps, rfl, f2, f3, f4, f5, f1, f6, f7, f8, f9, f10, f11, f12, f13, (p13_.same Wh1), f14, f15, f16, f17⟩
theorem doccupy_0 : decode prog_109_method_64_code 0 = .ok (.aload_n 0, 1) := by decide +kernel
theorem doccupy_1 : decode prog_109_method_64_code 1 = .ok (.iload_n 1, 1) := by decide +kernel
theorem doccupy_2 : decode prog_109_method_64_code 2 = .ok (.invokevirtual 85, 3) := by decide +kernel
theorem doccupy_5 : decode prog_109_method_64_code 5 = .ok (.iconst 1, 1) := by decide +kernel
theorem doccupy_6 : decode prog_109_method_64_code 6 = .ok (.if_icmp .ne 13, 3) := by decide +kernel
theorem doccupy_9 : decode prog_109_method_64_code 9 = .ok (.aload_n 0, 1) := by decide +kernel
theorem doccupy_10 : decode prog_109_method_64_code 10 = .ok (.dup, 1) := by decide +kernel
theorem doccupy_11 : decode prog_109_method_64_code 11 = .ok (.getfield 49, 3) := by decide +kernel
theorem doccupy_14 : decode prog_109_method_64_code 14 = .ok (.iconst 1, 1) := by decide +kernel
theorem doccupy_15 : decode prog_109_method_64_code 15 = .ok (.isub, 1) := by decide +kernel
theorem doccupy_16 : decode prog_109_method_64_code 16 = .ok (.putfield 49, 3) := by decide +kernel
theorem doccupy_19 : decode prog_109_method_64_code 19 = .ok (.aload_n 0, 1) := by decide +kernel
theorem doccupy_20 : decode prog_109_method_64_code 20 = .ok (.lload_n 2, 1) := by decide +kernel
theorem doccupy_21 : decode prog_109_method_64_code 21 = .ok (.iload 4, 2) := by decide +kernel
theorem doccupy_23 : decode prog_109_method_64_code 23 = .ok (.invokevirtual 184, 3) := by decide +kernel
theorem doccupy_26 : decode prog_109_method_64_code 26 = .ok (.return_, 1) := by decide +kernel
set_option maxRecDepth 65536 in
set_option maxHeartbeats 40000000 in
theorem occupy (l : Launch) (Z : State) (a0 : Array Value) (hw : ∀ d ∈ tables_1, d.before a0 Z = true) (t : Addr) (lin : Addr) (m : Int32) (mk : Int32) (mu : Int32) (re : Int32) (pr : Int64) (po : Int32) (ka : Addr) (kl : ClassId) (ks : List Value) (s_ : Int32) (hh : Int64) (ps : Int32) (h : Heap) (n0 : Nat) (p0_ : Exa Z h t "com/example/dispersa/dispersa/internal/LayoutTable") (p1_ : n0 ≤ t) (p2_ : Fld Z h t "com/example/dispersa/dispersa/internal/SlotTable" "probing" "Lcom/example/dispersa/dispersa/internal/ProbeSequence;" (.ref lin)) (p3_ : Fld Z h t "com/example/dispersa/dispersa/internal/SlotTable" "bounded" "Z" (.int (0 : Int32))) (p4_ : Fld Z h t "com/example/dispersa/dispersa/internal/SlotTable" "marksHomes" "Z" (.int (0 : Int32))) (p5_ : Fld Z h t "com/example/dispersa/dispersa/internal/SlotTable" "ordersRuns" "Z" (.int (0 : Int32))) (p6_ : Fld Z h t "com/example/dispersa/dispersa/internal/SlotTable" "counting" "Z" (.int (1 : Int32))) (p7_ : Fld Z h t "com/example/dispersa/dispersa/internal/SlotTable" "stopsAtReach" "Z" (.int (0 : Int32))) (p8_ : Fld Z h t "com/example/dispersa/dispersa/internal/SlotTable" "length" "I" (.int m)) (p9_ : Fld Z h t "com/example/dispersa/dispersa/internal/SlotTable" "mask" "I" (.int mk)) (p10_ : Fld Z h t "com/example/dispersa/dispersa/internal/SlotTable" "linear" "Z" (.int (0 : Int32))) (p11_ : Fld Z h t "com/example/dispersa/dispersa/internal/SlotTable" "goesOn" "Z" (.int (0 : Int32))) (p12_ : Fld Z h t "com/example/dispersa/dispersa/internal/SlotTable" "markers" "I" (.int mu)) (p13_ : Fld Z h t "com/example/dispersa/dispersa/internal/SlotTable" "reach" "I" (.int re)) (p14_ : Fld Z h t "com/example/dispersa/dispersa/internal/SlotTable" "probes" "J" (.long pr)) (p15_ : Fld Z h t "com/example/dispersa/dispersa/internal/SlotTable" "position" "I" (.int po)) (p16_ : Fld Z h t "com/example/dispersa/dispersa/internal/LayoutTable" "keys" "[I" (.ref ka)) (p17_ : Fld Z h t "com/example/dispersa/dispersa/internal/LayoutTable" "turnedAway" "Z" (.int (0 : Int32))) (p18_ : Ary Z h ka kl .int ks) (hs0 : ¬ s_ < (0 : Int32)) (hkv : ks[s_.toNatClampNeg]? = some (.int (-1))) :
    Met l (⟨"com/example/dispersa/dispersa/internal/SlotTable", "occupy", "(IJI)V"⟩ : MethodName) prog_109_method_64_code 5 none [] ({ frames := 1, cells := 0, slots := 0, locals := 16 } : Room) #[(.ref t), (.int s_), (.long hh), (.int ps)] Z h n0 (fun v h' => ∃ (re2 : Int32), v = none ∧ Keep h h' [t] ∧ Exa Z h' t "com/example/dispersa/dispersa/internal/LayoutTable" ∧ Fld Z h' t "com/example/dispersa/dispersa/internal/SlotTable" "probing" "Lcom/example/dispersa/dispersa/internal/ProbeSequence;" (.ref lin) ∧ Fld Z h' t "com/example/dispersa/dispersa/internal/SlotTable" "bounded" "Z" (.int (0 : Int32)) ∧ Fld Z h' t "com/example/dispersa/dispersa/internal/SlotTable" "marksHomes" "Z" (.int (0 : Int32)) ∧ Fld Z h' t "com/example/dispersa/dispersa/internal/SlotTable" "ordersRuns" "Z" (.int (0 : Int32)) ∧ Fld Z h' t "com/example/dispersa/dispersa/internal/SlotTable" "counting" "Z" (.int (1 : Int32)) ∧ Fld Z h' t "com/example/dispersa/dispersa/internal/SlotTable" "stopsAtReach" "Z" (.int (0 : Int32)) ∧ Fld Z h' t "com/example/dispersa/dispersa/internal/SlotTable" "length" "I" (.int m) ∧ Fld Z h' t "com/example/dispersa/dispersa/internal/SlotTable" "mask" "I" (.int mk) ∧ Fld Z h' t "com/example/dispersa/dispersa/internal/SlotTable" "linear" "Z" (.int (0 : Int32)) ∧ Fld Z h' t "com/example/dispersa/dispersa/internal/SlotTable" "goesOn" "Z" (.int (0 : Int32)) ∧ Fld Z h' t "com/example/dispersa/dispersa/internal/SlotTable" "markers" "I" (.int mu) ∧ Fld Z h' t "com/example/dispersa/dispersa/internal/SlotTable" "reach" "I" (.int re2) ∧ Fld Z h' t "com/example/dispersa/dispersa/internal/SlotTable" "probes" "J" (.long pr) ∧ Fld Z h' t "com/example/dispersa/dispersa/internal/SlotTable" "position" "I" (.int po) ∧ Fld Z h' t "com/example/dispersa/dispersa/internal/LayoutTable" "keys" "[I" (.ref ka) ∧ Fld Z h' t "com/example/dispersa/dispersa/internal/LayoutTable" "turnedAway" "Z" (.int (0 : Int32))) := by
  refine Met.of (plainFor_of_name (by first | (simp [plainName, overriddenIn]; done) | decide +kernel)) ?_
  intro pP eE sS mM bB tT cC K
  refine Go.entry (ls := #[.val (.ref t), .val (.int s_), .val (.long hh), .second, .val (.int ps)]) (by first | (simp [argsToLocals, Value.category]; done) | rfl) ?_
  refine go_aloadN (q := 1) K doccupy_0 rfl rfl rfl ?_
  refine go_iloadN (q := 2) K doccupy_1 rfl rfl ?_
  refine go_callV (q := 5) (W := 0) K (wd hw 137 rfl) (wd hw 138 rfl) (wd hw 139 rfl) (wd hw 140 rfl) (wd hw 3 rfl) (wd hw 141 rfl) (wd hw 36 rfl) rfl p0_ [(.int s_)] [] (state l Z a0 hw _ _ _ _ _ _ _ n0 p16_ p18_ hs0 hkv) doccupy_2 (ps := [.int]) (by decide +kernel) rfl rfl rfl (by decide) rfl (by decide) (by decide) (by decide) (by decide) rfl ?_
  rintro _ _ ⟨rfl, rfl⟩
  show Go pP l eE _ sS mM _ bB tT cC n0 _ h 0 0 (mkF mM 5 #[.val (.ref t), .val (.int s_), .val (.long hh), .second, .val (.int ps)] [(.int (own_st (-1 : Int32)))])
  refine go_eqI (y := (0 : Int32)) (by decide) ?_
  refine go_iconst (q := 6) K doccupy_5 (1 : Int32) rfl rfl ?_
  refine go_icmp (q := 19) (q' := 9) K doccupy_6 (by decide) rfl rfl (fun _ => ?_) (fun hn => cN_no2 hn (show ¬ (0 : Int32) = (1 : Int32) from (by decide)))
  refine go_aloadN (q := 20) K doccupy_19 rfl rfl rfl ?_
  refine go_lloadN (q := 21) K doccupy_20 rfl rfl ?_
  refine go_iload (q := 23) K doccupy_21 rfl rfl ?_
  refine go_callP (q := 26) (W := 0) K (wd hw 163 rfl) (wd hw 165 rfl) (wd hw 36 rfl) rfl (wd hw 164 rfl) (wd hw 13 rfl) (wd hw 166 rfl) p0_ [(.long hh), (.int ps)] [] (entered l Z a0 hw _ _ _ _ _ _ _ _ _ _ _ _ n0 p0_ p1_ p2_ p3_ p4_ p5_ p6_ p7_ p8_ p9_ p10_ p11_ p12_ p13_ p14_ p15_ p16_ p17_) doccupy_23 (ps := [.long, .int]) (by decide +kernel) rfl rfl rfl (by decide) rfl (by decide) (by decide) (by decide) (by decide) rfl ?_
  rintro _ h2 ⟨re2h2, rfl, Kh2, q0h2, q1h2, q2h2, q3h2, q4h2, q5h2, q6h2, q7h2, q8h2, q9h2, q10h2, q11h2, q12h2, q13h2, q14h2, q15h2, q16h2⟩
  show Go pP l eE _ sS mM _ bB tT cC n0 _ h2 0 0 (mkF mM 26 #[.val (.ref t), .val (.int s_), .val (.long hh), .second, .val (.int ps)] [])
  refine go_return K doccupy_26 rfl (by decide) (by decide) ?_
  have f1 := ((Keep.refl h [t]).trans Kh2 (allS (Or.inl (by simp)) all0))
  exact ⟨re2h2, rfl, f1, q0h2, q1h2, q2h2, q3h2, q4h2, q5h2, q6h2, q7h2, q8h2, q9h2, q10h2, q11h2, q12h2, q13h2, q14h2, q15h2, q16h2⟩
theorem own_not_not (x : Int32) : (x ^^^ (-1 : Int32)) ^^^ (-1 : Int32) = x := by
  rw [Int32.xor_assoc, show ((-1 : Int32) ^^^ (-1 : Int32)) = 0 from by decide, Int32.xor_zero]
theorem own_inv_neg {x : Int32} (h : ¬ x < (0 : Int32)) : (x ^^^ (-1 : Int32)) < (0 : Int32) ∧ (¬ x = 2147483647 → ¬ (x ^^^ (-1 : Int32)) = (-2147483648 : Int32)) := by
  rw [Int32.lt_iff_toInt_lt, own_i0] at h
  constructor
  · rw [Int32.lt_iff_toInt_lt, own_i0]; exact (c_xorS x (-1)).2.2.1 (by omega) (by decide)
  · intro hx q
    apply hx
    have := congrArg (fun y => y ^^^ (-1 : Int32)) q
    simp only [own_not_not] at this
    rw [this]; decide
theorem dput_0 : decode prog_86_method_2_code 0 = .ok (.iload_n 1, 1) := by decide +kernel
theorem dput_1 : decode prog_86_method_2_code 1 = .ok (.invokestatic 19, 3) := by decide +kernel
theorem dput_4 : decode prog_86_method_2_code 4 = .ok (.lstore_n 2, 1) := by decide +kernel
theorem dput_5 : decode prog_86_method_2_code 5 = .ok (.aload_n 0, 1) := by decide +kernel
theorem dput_6 : decode prog_86_method_2_code 6 = .ok (.lload_n 2, 1) := by decide +kernel
theorem dput_7 : decode prog_86_method_2_code 7 = .ok (.aconst_null, 1) := by decide +kernel
theorem dput_8 : decode prog_86_method_2_code 8 = .ok (.invokevirtual 23, 3) := by decide +kernel
theorem dput_11 : decode prog_86_method_2_code 11 = .ok (.istore 4, 2) := by decide +kernel
theorem dput_13 : decode prog_86_method_2_code 13 = .ok (.iload 4, 2) := by decide +kernel
theorem dput_15 : decode prog_86_method_2_code 15 = .ok (.ldc 27, 2) := by decide +kernel
theorem dput_17 : decode prog_86_method_2_code 17 = .ok (.if_icmp .ne 10, 3) := by decide +kernel
theorem dput_20 : decode prog_86_method_2_code 20 = .ok (.aload_n 0, 1) := by decide +kernel
theorem dput_21 : decode prog_86_method_2_code 21 = .ok (.iconst 1, 1) := by decide +kernel
theorem dput_22 : decode prog_86_method_2_code 22 = .ok (.putfield 28, 3) := by decide +kernel
theorem dput_25 : decode prog_86_method_2_code 25 = .ok (.iconst (-1), 1) := by decide +kernel
theorem dput_26 : decode prog_86_method_2_code 26 = .ok (.ireturn, 1) := by decide +kernel
theorem dput_27 : decode prog_86_method_2_code 27 = .ok (.iload 4, 2) := by decide +kernel
theorem dput_29 : decode prog_86_method_2_code 29 = .ok (.ifCond .ge 28, 3) := by decide +kernel
theorem dput_32 : decode prog_86_method_2_code 32 = .ok (.iload 4, 2) := by decide +kernel
theorem dput_34 : decode prog_86_method_2_code 34 = .ok (.iconst (-1), 1) := by decide +kernel
theorem dput_35 : decode prog_86_method_2_code 35 = .ok (.ixor, 1) := by decide +kernel
theorem dput_36 : decode prog_86_method_2_code 36 = .ok (.istore 4, 2) := by decide +kernel
theorem dput_38 : decode prog_86_method_2_code 38 = .ok (.aload_n 0, 1) := by decide +kernel
theorem dput_39 : decode prog_86_method_2_code 39 = .ok (.iload 4, 2) := by decide +kernel
theorem dput_41 : decode prog_86_method_2_code 41 = .ok (.lload_n 2, 1) := by decide +kernel
theorem dput_42 : decode prog_86_method_2_code 42 = .ok (.aload_n 0, 1) := by decide +kernel
theorem dput_43 : decode prog_86_method_2_code 43 = .ok (.invokevirtual 32, 3) := by decide +kernel
theorem dput_46 : decode prog_86_method_2_code 46 = .ok (.invokevirtual 36, 3) := by decide +kernel
theorem dput_49 : decode prog_86_method_2_code 49 = .ok (.aload_n 0, 1) := by decide +kernel
theorem dput_50 : decode prog_86_method_2_code 50 = .ok (.getfield 7, 3) := by decide +kernel
theorem dput_53 : decode prog_86_method_2_code 53 = .ok (.iload 4, 2) := by decide +kernel
theorem dput_55 : decode prog_86_method_2_code 55 = .ok (.iload_n 1, 1) := by decide +kernel
theorem dput_56 : decode prog_86_method_2_code 56 = .ok (.iastore, 1) := by decide +kernel
theorem dput_57 : decode prog_86_method_2_code 57 = .ok (.iload 4, 2) := by decide +kernel
theorem dput_59 : decode prog_86_method_2_code 59 = .ok (.ireturn, 1) := by decide +kernel
set_option maxRecDepth 65536 in
set_option maxHeartbeats 40000000 in
theorem putU (l : Launch) (Z : State) (a0 : Array Value) (hw : ∀ d ∈ tables_1, d.before a0 Z = true) (t : Addr) (lin : Addr) (m : Int32) (mk : Int32) (mu : Int32) (re : Int32) (pr : Int64) (po : Int32) (ka : Addr) (kl : ClassId) (ks : List Value) (ky : Int32) (h : Heap) (n0 : Nat) (p0_ : Old Z n0 h) (p1_ : Sta Z Z.heap "com/example/dispersa/dispersa/internal/ProbeSequence" "LINEAR" "Lcom/example/dispersa/dispersa/internal/ProbeSequence;" (.ref lin)) (p2_ : Exa Z Z.heap lin "com/example/dispersa/dispersa/internal/ProbeSequence") (p3_ : Fld Z Z.heap lin "java/lang/Enum" "ordinal" "I" (.int (0 : Int32))) (p4_ : Fld Z Z.heap lin "com/example/dispersa/dispersa/internal/ProbeSequence" "hashedStep" "Z" (.int (0 : Int32))) (p5_ : Fld Z Z.heap lin "com/example/dispersa/dispersa/internal/ProbeSequence" "growth" "I" (.int (0 : Int32))) (p6_ : Exa Z h t "com/example/dispersa/dispersa/internal/LayoutTable") (p7_ : n0 ≤ t) (hm : 2 ≤ m.toInt ∧ m.toInt ≤ 5) (hmk : own_mk m mk) (hky : 0 ≤ ky.toInt) (p11_ : Fld Z h t "com/example/dispersa/dispersa/internal/SlotTable" "probing" "Lcom/example/dispersa/dispersa/internal/ProbeSequence;" (.ref lin)) (p12_ : Fld Z h t "com/example/dispersa/dispersa/internal/SlotTable" "bounded" "Z" (.int (0 : Int32))) (p13_ : Fld Z h t "com/example/dispersa/dispersa/internal/SlotTable" "marksHomes" "Z" (.int (0 : Int32))) (p14_ : Fld Z h t "com/example/dispersa/dispersa/internal/SlotTable" "ordersRuns" "Z" (.int (0 : Int32))) (p15_ : Fld Z h t "com/example/dispersa/dispersa/internal/SlotTable" "counting" "Z" (.int (1 : Int32))) (p16_ : Fld Z h t "com/example/dispersa/dispersa/internal/SlotTable" "stopsAtReach" "Z" (.int (0 : Int32))) (p17_ : Fld Z h t "com/example/dispersa/dispersa/internal/SlotTable" "length" "I" (.int m)) (p18_ : Fld Z h t "com/example/dispersa/dispersa/internal/SlotTable" "mask" "I" (.int mk)) (p19_ : Fld Z h t "com/example/dispersa/dispersa/internal/SlotTable" "linear" "Z" (.int (0 : Int32))) (p20_ : Fld Z h t "com/example/dispersa/dispersa/internal/SlotTable" "goesOn" "Z" (.int (0 : Int32))) (p21_ : Fld Z h t "com/example/dispersa/dispersa/internal/SlotTable" "markers" "I" (.int mu)) (p22_ : Fld Z h t "com/example/dispersa/dispersa/internal/SlotTable" "reach" "I" (.int re)) (p23_ : Fld Z h t "com/example/dispersa/dispersa/internal/SlotTable" "probes" "J" (.long pr)) (p24_ : Fld Z h t "com/example/dispersa/dispersa/internal/SlotTable" "position" "I" (.int po)) (p25_ : Fld Z h t "com/example/dispersa/dispersa/internal/LayoutTable" "keys" "[I" (.ref ka)) (p26_ : Fld Z h t "com/example/dispersa/dispersa/internal/LayoutTable" "turnedAway" "Z" (.int (0 : Int32))) (p27_ : Ary Z h ka kl .int ks) (hh0 : ¬ (ky % m) < (0 : Int32)) (p29_ : n0 ≤ ka) (p30_ : t ≠ ka) (hlen : ks.length = m.toNatClampNeg) (hkv : ks[(ky % m).toNatClampNeg]? = some (.int (-1))) (hne : ¬ (-1 : Int32) = ky) (hbig : ¬ (ky % m) = (2147483647 : Int32)) :
    Met l (⟨"com/example/dispersa/dispersa/internal/LayoutTable", "put", "(I)I"⟩ : MethodName) prog_86_method_2_code 5 (some .int) [] ({ frames := 5, cells := 0, slots := 0, locals := 110 } : Room) #[(.ref t), (.int ky)] Z h n0 (fun v h' => ∃ (pr2 : Int64) (po2 : Int32) (re2 : Int32), v = some (.int (ky % m)) ∧ Keep h h' [t, ka] ∧ Exa Z h' t "com/example/dispersa/dispersa/internal/LayoutTable" ∧ Fld Z h' t "com/example/dispersa/dispersa/internal/SlotTable" "probing" "Lcom/example/dispersa/dispersa/internal/ProbeSequence;" (.ref lin) ∧ Fld Z h' t "com/example/dispersa/dispersa/internal/SlotTable" "bounded" "Z" (.int (0 : Int32)) ∧ Fld Z h' t "com/example/dispersa/dispersa/internal/SlotTable" "marksHomes" "Z" (.int (0 : Int32)) ∧ Fld Z h' t "com/example/dispersa/dispersa/internal/SlotTable" "ordersRuns" "Z" (.int (0 : Int32)) ∧ Fld Z h' t "com/example/dispersa/dispersa/internal/SlotTable" "counting" "Z" (.int (1 : Int32)) ∧ Fld Z h' t "com/example/dispersa/dispersa/internal/SlotTable" "stopsAtReach" "Z" (.int (0 : Int32)) ∧ Fld Z h' t "com/example/dispersa/dispersa/internal/SlotTable" "length" "I" (.int m) ∧ Fld Z h' t "com/example/dispersa/dispersa/internal/SlotTable" "mask" "I" (.int mk) ∧ Fld Z h' t "com/example/dispersa/dispersa/internal/SlotTable" "linear" "Z" (.int (0 : Int32)) ∧ Fld Z h' t "com/example/dispersa/dispersa/internal/SlotTable" "goesOn" "Z" (.int (0 : Int32)) ∧ Fld Z h' t "com/example/dispersa/dispersa/internal/SlotTable" "markers" "I" (.int mu) ∧ Fld Z h' t "com/example/dispersa/dispersa/internal/SlotTable" "reach" "I" (.int re2) ∧ Fld Z h' t "com/example/dispersa/dispersa/internal/SlotTable" "probes" "J" (.long pr2) ∧ Fld Z h' t "com/example/dispersa/dispersa/internal/SlotTable" "position" "I" (.int po2) ∧ Fld Z h' t "com/example/dispersa/dispersa/internal/LayoutTable" "keys" "[I" (.ref ka) ∧ Fld Z h' t "com/example/dispersa/dispersa/internal/LayoutTable" "turnedAway" "Z" (.int (0 : Int32)) ∧ Ary Z h' ka kl .int (ks.set (ky % m).toNatClampNeg (.int ky))) := by
  refine Met.of (plainFor_of_name (by first | (simp [plainName, overriddenIn]; done) | decide +kernel)) ?_
  intro pP eE sS mM bB tT cC K
  refine Go.entry (ls := #[.val (.ref t), .val (.int ky), .unset, .unset, .unset]) (by first | (simp [argsToLocals, Value.category]; done) | rfl) ?_
  refine go_iloadN (q := 1) K dput_0 rfl rfl ?_
  refine go_callS (q := 4) (W := 0) K (wd hw 89 rfl) (wd hw 90 rfl) (wd hw 3 rfl) (wd hw 91 rfl) [(.int ky)] [] (hash l Z a0 hw _ _ n0 ) dput_1 (ps := [.int]) (by decide +kernel) rfl rfl rfl (by decide) rfl (by decide) (by decide) (by decide) (by decide) rfl ?_
  rintro _ _ ⟨rfl, rfl⟩
  show Go pP l eE _ sS mM _ bB tT cC n0 _ h 0 0 (mkF mM 4 #[.val (.ref t), .val (.int ky), .unset, .unset, .unset] [(.long (own_hash ky))])
  refine go_lstoreN (q := 5) K dput_4 #[.val (.ref t), .val (.int ky), .val (.long (own_hash ky)), .second, .unset] rfl rfl ?_
  refine go_aloadN (q := 6) K dput_5 rfl rfl rfl ?_
  refine go_lloadN (q := 7) K dput_6 rfl rfl ?_
  refine go_aconst_null (q := 8) K dput_7 rfl ?_
  refine go_callU (q := 11) (W := 0) (ow := "com/example/dispersa/dispersa/internal/SlotTable") K (wd hw 92 rfl) (wd hw 94 rfl) (wd hw 96 rfl) (wd hw 95 rfl) (wd hw 13 rfl) (wd hw 97 rfl) (wd hw 93 rfl) p6_ [(.long (own_hash ky)), .null] [] (findU l Z a0 hw _ _ _ _ _ _ _ _ _ _ _ _ _ n0 p0_ p1_ p2_ p3_ p4_ p5_ p6_ p7_ hm hmk hky p11_ p12_ p13_ p14_ p15_ p16_ p17_ p18_ p19_ p20_ p21_ p22_ p23_ p24_ p25_ p26_ p27_ hh0 hkv hne) dput_8 (ps := [.long, (.object "java/lang/Object")]) (by decide +kernel) rfl rfl rfl (by decide) rfl (by decide) (by decide) (by decide) (by decide) rfl ?_
  rintro _ h2 ⟨pr2h2, po2h2, rfl, Kh2, q0h2, q1h2, q2h2, q3h2, q4h2, q5h2, q6h2, q7h2, q8h2, q9h2, q10h2, q11h2, q12h2, q13h2, q14h2, q15h2, q16h2⟩
  show Go pP l eE _ sS mM _ bB tT cC n0 _ h2 0 0 (mkF mM 11 #[.val (.ref t), .val (.int ky), .val (.long (own_hash ky)), .second, .unset] [(.int ((ky % m) ^^^ (-1 : Int32)))])
  refine go_istore (q := 13) K dput_11 #[.val (.ref t), .val (.int ky), .val (.long (own_hash ky)), .second, .val (.int ((ky % m) ^^^ (-1 : Int32)))] rfl rfl ?_
  refine go_iload (q := 15) K dput_13 rfl rfl ?_
  refine go_ldcI (q := 17) K (wd hw 150 rfl) dput_15 rfl ?_
  refine go_icmp (q := 27) (q' := 20) K dput_17 (by decide) rfl rfl (fun _ => ?_) (fun hn => cN_no2 hn (show ¬ ((ky % m) ^^^ (-1 : Int32)) = (-2147483648 : Int32) from ((own_inv_neg hh0).2 hbig)))
  refine go_iload (q := 29) K dput_27 rfl rfl ?_
  refine go_if0 (q := 57) (q' := 32) K dput_29 (by decide) rfl rfl (fun hn => cN_no hn (show ((ky % m) ^^^ (-1 : Int32)) < (0 : Int32) from (own_inv_neg hh0).1)) (fun _ => ?_)
  refine go_iload (q := 34) K dput_32 rfl rfl ?_
  refine go_iconst (q := 35) K dput_34 (-1 : Int32) rfl rfl ?_
  refine go_ixor (q := 36) K dput_35 rfl ?_
  refine go_eqI (y := (ky % m)) (own_not_not _) ?_
  refine go_istore (q := 38) K dput_36 #[.val (.ref t), .val (.int ky), .val (.long (own_hash ky)), .second, .val (.int (ky % m))] rfl rfl ?_
  refine go_aloadN (q := 39) K dput_38 rfl rfl rfl ?_
  refine go_iload (q := 41) K dput_39 rfl rfl ?_
  refine go_lloadN (q := 42) K dput_41 rfl rfl ?_
  refine go_aloadN (q := 43) K dput_42 rfl rfl rfl ?_
  refine go_callU (q := 46) (W := 4) (ow := "com/example/dispersa/dispersa/internal/SlotTable") K (wd hw 151 rfl) (wd hw 153 rfl) (wd hw 155 rfl) (wd hw 154 rfl) (wd hw 13 rfl) (wd hw 156 rfl) (wd hw 152 rfl) q0h2 [] [(.long (own_hash ky)), (.int (ky % m)), (.ref t)] (posn l Z a0 hw _ _ _ n0 q14h2) dput_43 (ps := []) (by decide +kernel) rfl rfl rfl (by decide) rfl (by decide) (by decide) (by decide) (by decide) rfl ?_
  rintro _ _ ⟨rfl, rfl⟩
  show Go pP l eE _ sS mM _ bB tT cC n0 _ h2 0 0 (mkF mM 46 #[.val (.ref t), .val (.int ky), .val (.long (own_hash ky)), .second, .val (.int (ky % m))] [(.int po2h2), (.long (own_hash ky)), (.int (ky % m)), (.ref t)])
  have f1 := (p27_.keep Kh2 (ninS (p30_).symm nin0))
  refine go_callU (q := 49) (W := 0) (ow := "com/example/dispersa/dispersa/internal/SlotTable") K (wd hw 157 rfl) (wd hw 159 rfl) (wd hw 161 rfl) (wd hw 160 rfl) (wd hw 13 rfl) (wd hw 162 rfl) (wd hw 158 rfl) q0h2 [(.int (ky % m)), (.long (own_hash ky)), (.int po2h2)] [] (occupy l Z a0 hw _ _ _ _ _ _ _ _ _ _ _ _ _ _ _ n0 q0h2 p7_ q1h2 q2h2 q3h2 q4h2 q5h2 q6h2 q7h2 q8h2 q9h2 q10h2 q11h2 q12h2 q13h2 q14h2 q15h2 q16h2 f1 hh0 hkv) dput_46 (ps := [.int, .long, .int]) (by decide +kernel) rfl rfl rfl (by decide) rfl (by decide) (by decide) (by decide) (by decide) rfl ?_
  rintro _ h4 ⟨re2h4, rfl, Kh4, q0h4, q1h4, q2h4, q3h4, q4h4, q5h4, q6h4, q7h4, q8h4, q9h4, q10h4, q11h4, q12h4, q13h4, q14h4, q15h4, q16h4⟩
  show Go pP l eE _ sS mM _ bB tT cC n0 _ h4 0 0 (mkF mM 49 #[.val (.ref t), .val (.int ky), .val (.long (own_hash ky)), .second, .val (.int (ky % m))] [])
  refine go_aloadN (q := 50) K dput_49 rfl rfl rfl ?_
  refine go_getF (q := 53) K (wd hw 78 rfl) Via.refl q15h4 dput_50 rfl ?_
  refine go_iload (q := 55) K dput_53 rfl rfl ?_
  refine go_iloadN (q := 56) K dput_55 rfl rfl ?_
  have f2 := (f1.keep Kh4 (ninS (p30_).symm nin0))
  refine go_iastore (q := 57) K f2 hh0 (List.getElem?_eq_some_iff.mp hkv).1 p29_ dput_56 rfl ?_
  intro h5 Wh5 Yh5
  refine go_iload (q := 59) K dput_57 rfl rfl ?_
  refine go_iret K dput_59 rfl (Or.inl rfl) rfl (by decide) (by decide) ?_
  have f3 := ((((Keep.refl h [t, ka]).trans Kh2 (allS (Or.inl (by simp)) all0)).trans Kh4 (allS (Or.inl (by simp)) all0)).wr Wh5 (Or.inl (by simp)))
  have f4 := (q0h4.wr Wh5)
  have f5 := (q1h4.other Wh5 (Or.inl p30_))
  have f6 := (q2h4.other Wh5 (Or.inl p30_))
  have f7 := (q3h4.other Wh5 (Or.inl p30_))
  have f8 := (q4h4.other Wh5 (Or.inl p30_))
  have f9 := (q5h4.other Wh5 (Or.inl p30_))
  have f10 := (q6h4.other Wh5 (Or.inl p30_))
  have f11 := (q7h4.other Wh5 (Or.inl p30_))
  have f12 := (q8h4.other Wh5 (Or.inl p30_))
  have f13 := (q9h4.other Wh5 (Or.inl p30_))
  have f14 := (q10h4.other Wh5 (Or.inl p30_))
  have f15 := (q11h4.other Wh5 (Or.inl p30_))
  have f16 := (q12h4.other Wh5 (Or.inl p30_))
  have f17 := (q13h4.other Wh5 (Or.inl p30_))
  have f18 := (q14h4.other Wh5 (Or.inl p30_))
  have f19 := (q15h4.other Wh5 (Or.inl p30_))
  have f20 := (q16h4.other Wh5 (Or.inl p30_))
  exact ⟨pr2h2, po2h2, re2h4, rfl, f3, f4, f5, f6, f7, f8, f9, f10, f11, f12, f13, f14, f15, f16, f17, f18, f19, f20, Yh5⟩
set_option maxRecDepth 65536 in
set_option maxHeartbeats 40000000 in
theorem putX (l : Launch) (Z : State) (a0 : Array Value) (hw : ∀ d ∈ tables_1, d.before a0 Z = true) (t : Addr) (lin : Addr) (m : Int32) (mk : Int32) (mu : Int32) (re : Int32) (pr : Int64) (po : Int32) (ka : Addr) (kl : ClassId) (ks : List Value) (ky : Int32) (kv : Int32) (h : Heap) (n0 : Nat) (p0_ : Old Z n0 h) (p1_ : Sta Z Z.heap "com/example/dispersa/dispersa/internal/ProbeSequence" "LINEAR" "Lcom/example/dispersa/dispersa/internal/ProbeSequence;" (.ref lin)) (p2_ : Exa Z Z.heap lin "com/example/dispersa/dispersa/internal/ProbeSequence") (p3_ : Fld Z Z.heap lin "java/lang/Enum" "ordinal" "I" (.int (0 : Int32))) (p4_ : Fld Z Z.heap lin "com/example/dispersa/dispersa/internal/ProbeSequence" "hashedStep" "Z" (.int (0 : Int32))) (p5_ : Fld Z Z.heap lin "com/example/dispersa/dispersa/internal/ProbeSequence" "growth" "I" (.int (0 : Int32))) (p6_ : Exa Z h t "com/example/dispersa/dispersa/internal/LayoutTable") (p7_ : n0 ≤ t) (hm : 2 ≤ m.toInt ∧ m.toInt ≤ 5) (hmk : own_mk m mk) (hky : 0 ≤ ky.toInt) (p11_ : Fld Z h t "com/example/dispersa/dispersa/internal/SlotTable" "probing" "Lcom/example/dispersa/dispersa/internal/ProbeSequence;" (.ref lin)) (p12_ : Fld Z h t "com/example/dispersa/dispersa/internal/SlotTable" "bounded" "Z" (.int (0 : Int32))) (p13_ : Fld Z h t "com/example/dispersa/dispersa/internal/SlotTable" "marksHomes" "Z" (.int (0 : Int32))) (p14_ : Fld Z h t "com/example/dispersa/dispersa/internal/SlotTable" "ordersRuns" "Z" (.int (0 : Int32))) (p15_ : Fld Z h t "com/example/dispersa/dispersa/internal/SlotTable" "counting" "Z" (.int (1 : Int32))) (p16_ : Fld Z h t "com/example/dispersa/dispersa/internal/SlotTable" "stopsAtReach" "Z" (.int (0 : Int32))) (p17_ : Fld Z h t "com/example/dispersa/dispersa/internal/SlotTable" "length" "I" (.int m)) (p18_ : Fld Z h t "com/example/dispersa/dispersa/internal/SlotTable" "mask" "I" (.int mk)) (p19_ : Fld Z h t "com/example/dispersa/dispersa/internal/SlotTable" "linear" "Z" (.int (0 : Int32))) (p20_ : Fld Z h t "com/example/dispersa/dispersa/internal/SlotTable" "goesOn" "Z" (.int (0 : Int32))) (p21_ : Fld Z h t "com/example/dispersa/dispersa/internal/SlotTable" "markers" "I" (.int mu)) (p22_ : Fld Z h t "com/example/dispersa/dispersa/internal/SlotTable" "reach" "I" (.int re)) (p23_ : Fld Z h t "com/example/dispersa/dispersa/internal/SlotTable" "probes" "J" (.long pr)) (p24_ : Fld Z h t "com/example/dispersa/dispersa/internal/SlotTable" "position" "I" (.int po)) (p25_ : Fld Z h t "com/example/dispersa/dispersa/internal/LayoutTable" "keys" "[I" (.ref ka)) (p26_ : Fld Z h t "com/example/dispersa/dispersa/internal/LayoutTable" "turnedAway" "Z" (.int (0 : Int32))) (p27_ : Ary Z h ka kl .int ks) (hh0 : ¬ (ky % m) < (0 : Int32)) (p29_ : n0 ≤ ka) (p30_ : t ≠ ka) (hlen : ks.length = m.toNatClampNeg) (hkv : ks[(ky % m).toNatClampNeg]? = some (.int kv)) (hkv0 : 0 ≤ kv.toInt) (hne : ¬ kv = ky) (hn0 : ¬ (own_adv (ky % m) (1 : Int32) m) < (0 : Int32)) (hnv : ks[(own_adv (ky % m) (1 : Int32) m).toNatClampNeg]? = some (.int (-1))) (hnne : ¬ (-1 : Int32) = ky) (hbig : ¬ (own_adv (ky % m) (1 : Int32) m) = (2147483647 : Int32)) :
    Met l (⟨"com/example/dispersa/dispersa/internal/LayoutTable", "put", "(I)I"⟩ : MethodName) prog_86_method_2_code 5 (some .int) [] ({ frames := 5, cells := 0, slots := 0, locals := 110 } : Room) #[(.ref t), (.int ky)] Z h n0 (fun v h' => ∃ (pr2 : Int64) (po2 : Int32) (re2 : Int32), v = some (.int (own_adv (ky % m) (1 : Int32) m)) ∧ Keep h h' [t, ka] ∧ Exa Z h' t "com/example/dispersa/dispersa/internal/LayoutTable" ∧ Fld Z h' t "com/example/dispersa/dispersa/internal/SlotTable" "probing" "Lcom/example/dispersa/dispersa/internal/ProbeSequence;" (.ref lin) ∧ Fld Z h' t "com/example/dispersa/dispersa/internal/SlotTable" "bounded" "Z" (.int (0 : Int32)) ∧ Fld Z h' t "com/example/dispersa/dispersa/internal/SlotTable" "marksHomes" "Z" (.int (0 : Int32)) ∧ Fld Z h' t "com/example/dispersa/dispersa/internal/SlotTable" "ordersRuns" "Z" (.int (0 : Int32)) ∧ Fld Z h' t "com/example/dispersa/dispersa/internal/SlotTable" "counting" "Z" (.int (1 : Int32)) ∧ Fld Z h' t "com/example/dispersa/dispersa/internal/SlotTable" "stopsAtReach" "Z" (.int (0 : Int32)) ∧ Fld Z h' t "com/example/dispersa/dispersa/internal/SlotTable" "length" "I" (.int m) ∧ Fld Z h' t "com/example/dispersa/dispersa/internal/SlotTable" "mask" "I" (.int mk) ∧ Fld Z h' t "com/example/dispersa/dispersa/internal/SlotTable" "linear" "Z" (.int (0 : Int32)) ∧ Fld Z h' t "com/example/dispersa/dispersa/internal/SlotTable" "goesOn" "Z" (.int (0 : Int32)) ∧ Fld Z h' t "com/example/dispersa/dispersa/internal/SlotTable" "markers" "I" (.int mu) ∧ Fld Z h' t "com/example/dispersa/dispersa/internal/SlotTable" "reach" "I" (.int re2) ∧ Fld Z h' t "com/example/dispersa/dispersa/internal/SlotTable" "probes" "J" (.long pr2) ∧ Fld Z h' t "com/example/dispersa/dispersa/internal/SlotTable" "position" "I" (.int po2) ∧ Fld Z h' t "com/example/dispersa/dispersa/internal/LayoutTable" "keys" "[I" (.ref ka) ∧ Fld Z h' t "com/example/dispersa/dispersa/internal/LayoutTable" "turnedAway" "Z" (.int (0 : Int32)) ∧ Ary Z h' ka kl .int (ks.set (own_adv (ky % m) (1 : Int32) m).toNatClampNeg (.int ky))) := by
  refine Met.of (plainFor_of_name (by first | (simp [plainName, overriddenIn]; done) | decide +kernel)) ?_
  intro pP eE sS mM bB tT cC K
  refine Go.entry (ls := #[.val (.ref t), .val (.int ky), .unset, .unset, .unset]) (by first | (simp [argsToLocals, Value.category]; done) | rfl) ?_
  refine go_iloadN (q := 1) K dput_0 rfl rfl ?_
  refine go_callS (q := 4) (W := 0) K (wd hw 89 rfl) (wd hw 90 rfl) (wd hw 3 rfl) (wd hw 91 rfl) [(.int ky)] [] (hash l Z a0 hw _ _ n0 ) dput_1 (ps := [.int]) (by decide +kernel) rfl rfl rfl (by decide) rfl (by decide) (by decide) (by decide) (by decide) rfl ?_
  rintro _ _ ⟨rfl, rfl⟩
  show Go pP l eE _ sS mM _ bB tT cC n0 _ h 0 0 (mkF mM 4 #[.val (.ref t), .val (.int ky), .unset, .unset, .unset] [(.long (own_hash ky))])
  refine go_lstoreN (q := 5) K dput_4 #[.val (.ref t), .val (.int ky), .val (.long (own_hash ky)), .second, .unset] rfl rfl ?_
  refine go_aloadN (q := 6) K dput_5 rfl rfl rfl ?_
  refine go_lloadN (q := 7) K dput_6 rfl rfl ?_
  refine go_aconst_null (q := 8) K dput_7 rfl ?_
  refine go_callU (q := 11) (W := 0) (ow := "com/example/dispersa/dispersa/internal/SlotTable") K (wd hw 92 rfl) (wd hw 94 rfl) (wd hw 96 rfl) (wd hw 95 rfl) (wd hw 13 rfl) (wd hw 97 rfl) (wd hw 93 rfl) p6_ [(.long (own_hash ky)), .null] [] (findN l Z a0 hw _ _ _ _ _ _ _ _ _ _ _ _ _ _ n0 p0_ p1_ p2_ p3_ p4_ p5_ p6_ p7_ hm hmk hky p11_ p12_ p13_ p14_ p15_ p16_ p17_ p18_ p19_ p20_ p21_ p22_ p23_ p24_ p25_ p26_ p27_ hh0 hkv hkv0 hne hn0 hnv hnne) dput_8 (ps := [.long, (.object "java/lang/Object")]) (by decide +kernel) rfl rfl rfl (by decide) rfl (by decide) (by decide) (by decide) (by decide) rfl ?_
  rintro _ h2 ⟨pr2h2, po2h2, rfl, Kh2, q0h2, q1h2, q2h2, q3h2, q4h2, q5h2, q6h2, q7h2, q8h2, q9h2, q10h2, q11h2, q12h2, q13h2, q14h2, q15h2, q16h2⟩
  show Go pP l eE _ sS mM _ bB tT cC n0 _ h2 0 0 (mkF mM 11 #[.val (.ref t), .val (.int ky), .val (.long (own_hash ky)), .second, .unset] [(.int ((own_adv (ky % m) (1 : Int32) m) ^^^ (-1 : Int32)))])
  refine go_istore (q := 13) K dput_11 #[.val (.ref t), .val (.int ky), .val (.long (own_hash ky)), .second, .val (.int ((own_adv (ky % m) (1 : Int32) m) ^^^ (-1 : Int32)))] rfl rfl ?_
  refine go_iload (q := 15) K dput_13 rfl rfl ?_
  refine go_ldcI (q := 17) K (wd hw 150 rfl) dput_15 rfl ?_
  refine go_icmp (q := 27) (q' := 20) K dput_17 (by decide) rfl rfl (fun _ => ?_) (fun hn => cN_no2 hn (show ¬ ((own_adv (ky % m) (1 : Int32) m) ^^^ (-1 : Int32)) = (-2147483648 : Int32) from ((own_inv_neg hn0).2 hbig)))
  refine go_iload (q := 29) K dput_27 rfl rfl ?_
  refine go_if0 (q := 57) (q' := 32) K dput_29 (by decide) rfl rfl (fun hn => cN_no hn (show ((own_adv (ky % m) (1 : Int32) m) ^^^ (-1 : Int32)) < (0 : Int32) from (own_inv_neg hn0).1)) (fun _ => ?_)
  refine go_iload (q := 34) K dput_32 rfl rfl ?_
  refine go_iconst (q := 35) K dput_34 (-1 : Int32) rfl rfl ?_
  refine go_ixor (q := 36) K dput_35 rfl ?_
  refine go_eqI (y := (own_adv (ky % m) (1 : Int32) m)) (own_not_not _) ?_
  refine go_istore (q := 38) K dput_36 #[.val (.ref t), .val (.int ky), .val (.long (own_hash ky)), .second, .val (.int (own_adv (ky % m) (1 : Int32) m))] rfl rfl ?_
  refine go_aloadN (q := 39) K dput_38 rfl rfl rfl ?_
  refine go_iload (q := 41) K dput_39 rfl rfl ?_
  refine go_lloadN (q := 42) K dput_41 rfl rfl ?_
  refine go_aloadN (q := 43) K dput_42 rfl rfl rfl ?_
  refine go_callU (q := 46) (W := 4) (ow := "com/example/dispersa/dispersa/internal/SlotTable") K (wd hw 151 rfl) (wd hw 153 rfl) (wd hw 155 rfl) (wd hw 154 rfl) (wd hw 13 rfl) (wd hw 156 rfl) (wd hw 152 rfl) q0h2 [] [(.long (own_hash ky)), (.int (own_adv (ky % m) (1 : Int32) m)), (.ref t)] (posn l Z a0 hw _ _ _ n0 q14h2) dput_43 (ps := []) (by decide +kernel) rfl rfl rfl (by decide) rfl (by decide) (by decide) (by decide) (by decide) rfl ?_
  rintro _ _ ⟨rfl, rfl⟩
  show Go pP l eE _ sS mM _ bB tT cC n0 _ h2 0 0 (mkF mM 46 #[.val (.ref t), .val (.int ky), .val (.long (own_hash ky)), .second, .val (.int (own_adv (ky % m) (1 : Int32) m))] [(.int po2h2), (.long (own_hash ky)), (.int (own_adv (ky % m) (1 : Int32) m)), (.ref t)])
  have f1 := (p27_.keep Kh2 (ninS (p30_).symm nin0))
  refine go_callU (q := 49) (W := 0) (ow := "com/example/dispersa/dispersa/internal/SlotTable") K (wd hw 157 rfl) (wd hw 159 rfl) (wd hw 161 rfl) (wd hw 160 rfl) (wd hw 13 rfl) (wd hw 162 rfl) (wd hw 158 rfl) q0h2 [(.int (own_adv (ky % m) (1 : Int32) m)), (.long (own_hash ky)), (.int po2h2)] [] (occupy l Z a0 hw _ _ _ _ _ _ _ _ _ _ _ _ _ _ _ n0 q0h2 p7_ q1h2 q2h2 q3h2 q4h2 q5h2 q6h2 q7h2 q8h2 q9h2 q10h2 q11h2 q12h2 q13h2 q14h2 q15h2 q16h2 f1 hn0 hnv) dput_46 (ps := [.int, .long, .int]) (by decide +kernel) rfl rfl rfl (by decide) rfl (by decide) (by decide) (by decide) (by decide) rfl ?_
  rintro _ h4 ⟨re2h4, rfl, Kh4, q0h4, q1h4, q2h4, q3h4, q4h4, q5h4, q6h4, q7h4, q8h4, q9h4, q10h4, q11h4, q12h4, q13h4, q14h4, q15h4, q16h4⟩
  show Go pP l eE _ sS mM _ bB tT cC n0 _ h4 0 0 (mkF mM 49 #[.val (.ref t), .val (.int ky), .val (.long (own_hash ky)), .second, .val (.int (own_adv (ky % m) (1 : Int32) m))] [])
  refine go_aloadN (q := 50) K dput_49 rfl rfl rfl ?_
  refine go_getF (q := 53) K (wd hw 78 rfl) Via.refl q15h4 dput_50 rfl ?_
  refine go_iload (q := 55) K dput_53 rfl rfl ?_
  refine go_iloadN (q := 56) K dput_55 rfl rfl ?_
  have f2 := (f1.keep Kh4 (ninS (p30_).symm nin0))
  refine go_iastore (q := 57) K f2 hn0 (List.getElem?_eq_some_iff.mp hnv).1 p29_ dput_56 rfl ?_
  intro h5 Wh5 Yh5
  refine go_iload (q := 59) K dput_57 rfl rfl ?_
  refine go_iret K dput_59 rfl (Or.inl rfl) rfl (by decide) (by decide) ?_
  have f3 := ((((Keep.refl h [t, ka]).trans Kh2 (allS (Or.inl (by simp)) all0)).trans Kh4 (allS (Or.inl (by simp)) all0)).wr Wh5 (Or.inl (by simp)))
  have f4 := (q0h4.wr Wh5)
  have f5 := (q1h4.other Wh5 (Or.inl p30_))
  have f6 := (q2h4.other Wh5 (Or.inl p30_))
  have f7 := (q3h4.other Wh5 (Or.inl p30_))
  have f8 := (q4h4.other Wh5 (Or.inl p30_))
  have f9 := (q5h4.other Wh5 (Or.inl p30_))
  have f10 := (q6h4.other Wh5 (Or.inl p30_))
  have f11 := (q7h4.other Wh5 (Or.inl p30_))
  have f12 := (q8h4.other Wh5 (Or.inl p30_))
  have f13 := (q9h4.other Wh5 (Or.inl p30_))
  have f14 := (q10h4.other Wh5 (Or.inl p30_))
  have f15 := (q11h4.other Wh5 (Or.inl p30_))
  have f16 := (q12h4.other Wh5 (Or.inl p30_))
  have f17 := (q13h4.other Wh5 (Or.inl p30_))
  have f18 := (q14h4.other Wh5 (Or.inl p30_))
  have f19 := (q15h4.other Wh5 (Or.inl p30_))
  have f20 := (q16h4.other Wh5 (Or.inl p30_))
  exact ⟨pr2h2, po2h2, re2h4, rfl, f3, f4, f5, f6, f7, f8, f9, f10, f11, f12, f13, f14, f15, f16, f17, f18, f19, f20, Yh5⟩
theorem own_nmin {x : Int32} (h : ¬ x < (0 : Int32)) : ¬ x = (-2147483648 : Int32) := by rintro rfl; exact h (by decide)
set_option maxRecDepth 65536 in
set_option maxHeartbeats 40000000 in
theorem putH (l : Launch) (Z : State) (a0 : Array Value) (hw : ∀ d ∈ tables_1, d.before a0 Z = true) (t : Addr) (lin : Addr) (m : Int32) (mk : Int32) (mu : Int32) (re : Int32) (pr : Int64) (po : Int32) (ka : Addr) (kl : ClassId) (ks : List Value) (ky : Int32) (h : Heap) (n0 : Nat) (p0_ : Old Z n0 h) (p1_ : Sta Z Z.heap "com/example/dispersa/dispersa/internal/ProbeSequence" "LINEAR" "Lcom/example/dispersa/dispersa/internal/ProbeSequence;" (.ref lin)) (p2_ : Exa Z Z.heap lin "com/example/dispersa/dispersa/internal/ProbeSequence") (p3_ : Fld Z Z.heap lin "java/lang/Enum" "ordinal" "I" (.int (0 : Int32))) (p4_ : Fld Z Z.heap lin "com/example/dispersa/dispersa/internal/ProbeSequence" "hashedStep" "Z" (.int (0 : Int32))) (p5_ : Fld Z Z.heap lin "com/example/dispersa/dispersa/internal/ProbeSequence" "growth" "I" (.int (0 : Int32))) (p6_ : Exa Z h t "com/example/dispersa/dispersa/internal/LayoutTable") (p7_ : n0 ≤ t) (hm : 2 ≤ m.toInt ∧ m.toInt ≤ 5) (hmk : own_mk m mk) (hky : 0 ≤ ky.toInt) (p11_ : Fld Z h t "com/example/dispersa/dispersa/internal/SlotTable" "probing" "Lcom/example/dispersa/dispersa/internal/ProbeSequence;" (.ref lin)) (p12_ : Fld Z h t "com/example/dispersa/dispersa/internal/SlotTable" "bounded" "Z" (.int (0 : Int32))) (p13_ : Fld Z h t "com/example/dispersa/dispersa/internal/SlotTable" "marksHomes" "Z" (.int (0 : Int32))) (p14_ : Fld Z h t "com/example/dispersa/dispersa/internal/SlotTable" "ordersRuns" "Z" (.int (0 : Int32))) (p15_ : Fld Z h t "com/example/dispersa/dispersa/internal/SlotTable" "counting" "Z" (.int (1 : Int32))) (p16_ : Fld Z h t "com/example/dispersa/dispersa/internal/SlotTable" "stopsAtReach" "Z" (.int (0 : Int32))) (p17_ : Fld Z h t "com/example/dispersa/dispersa/internal/SlotTable" "length" "I" (.int m)) (p18_ : Fld Z h t "com/example/dispersa/dispersa/internal/SlotTable" "mask" "I" (.int mk)) (p19_ : Fld Z h t "com/example/dispersa/dispersa/internal/SlotTable" "linear" "Z" (.int (0 : Int32))) (p20_ : Fld Z h t "com/example/dispersa/dispersa/internal/SlotTable" "goesOn" "Z" (.int (0 : Int32))) (p21_ : Fld Z h t "com/example/dispersa/dispersa/internal/SlotTable" "markers" "I" (.int mu)) (p22_ : Fld Z h t "com/example/dispersa/dispersa/internal/SlotTable" "reach" "I" (.int re)) (p23_ : Fld Z h t "com/example/dispersa/dispersa/internal/SlotTable" "probes" "J" (.long pr)) (p24_ : Fld Z h t "com/example/dispersa/dispersa/internal/SlotTable" "position" "I" (.int po)) (p25_ : Fld Z h t "com/example/dispersa/dispersa/internal/LayoutTable" "keys" "[I" (.ref ka)) (p26_ : Fld Z h t "com/example/dispersa/dispersa/internal/LayoutTable" "turnedAway" "Z" (.int (0 : Int32))) (p27_ : Ary Z h ka kl .int ks) (hh0 : ¬ (ky % m) < (0 : Int32)) (p29_ : n0 ≤ ka) (p30_ : t ≠ ka) (hlen : ks.length = m.toNatClampNeg) (hkv : ks[(ky % m).toNatClampNeg]? = some (.int ky)) :
    Met l (⟨"com/example/dispersa/dispersa/internal/LayoutTable", "put", "(I)I"⟩ : MethodName) prog_86_method_2_code 5 (some .int) [] ({ frames := 5, cells := 0, slots := 0, locals := 110 } : Room) #[(.ref t), (.int ky)] Z h n0 (fun v h' => ∃ (pr2 : Int64) (po2 : Int32), v = some (.int (ky % m)) ∧ Keep h h' [t] ∧ Exa Z h' t "com/example/dispersa/dispersa/internal/LayoutTable" ∧ Fld Z h' t "com/example/dispersa/dispersa/internal/SlotTable" "probing" "Lcom/example/dispersa/dispersa/internal/ProbeSequence;" (.ref lin) ∧ Fld Z h' t "com/example/dispersa/dispersa/internal/SlotTable" "bounded" "Z" (.int (0 : Int32)) ∧ Fld Z h' t "com/example/dispersa/dispersa/internal/SlotTable" "marksHomes" "Z" (.int (0 : Int32)) ∧ Fld Z h' t "com/example/dispersa/dispersa/internal/SlotTable" "ordersRuns" "Z" (.int (0 : Int32)) ∧ Fld Z h' t "com/example/dispersa/dispersa/internal/SlotTable" "counting" "Z" (.int (1 : Int32)) ∧ Fld Z h' t "com/example/dispersa/dispersa/internal/SlotTable" "stopsAtReach" "Z" (.int (0 : Int32)) ∧ Fld Z h' t "com/example/dispersa/dispersa/internal/SlotTable" "length" "I" (.int m) ∧ Fld Z h' t "com/example/dispersa/dispersa/internal/SlotTable" "mask" "I" (.int mk) ∧ Fld Z h' t "com/example/dispersa/dispersa/internal/SlotTable" "linear" "Z" (.int (0 : Int32)) ∧ Fld Z h' t "com/example/dispersa/dispersa/internal/SlotTable" "goesOn" "Z" (.int (0 : Int32)) ∧ Fld Z h' t "com/example/dispersa/dispersa/internal/SlotTable" "markers" "I" (.int mu) ∧ Fld Z h' t "com/example/dispersa/dispersa/internal/SlotTable" "reach" "I" (.int re) ∧ Fld Z h' t "com/example/dispersa/dispersa/internal/SlotTable" "probes" "J" (.long pr2) ∧ Fld Z h' t "com/example/dispersa/dispersa/internal/SlotTable" "position" "I" (.int po2) ∧ Fld Z h' t "com/example/dispersa/dispersa/internal/LayoutTable" "keys" "[I" (.ref ka) ∧ Fld Z h' t "com/example/dispersa/dispersa/internal/LayoutTable" "turnedAway" "Z" (.int (0 : Int32))) := by
  refine Met.of (plainFor_of_name (by first | (simp [plainName, overriddenIn]; done) | decide +kernel)) ?_
  intro pP eE sS mM bB tT cC K
  refine Go.entry (ls := #[.val (.ref t), .val (.int ky), .unset, .unset, .unset]) (by first | (simp [argsToLocals, Value.category]; done) | rfl) ?_
  refine go_iloadN (q := 1) K dput_0 rfl rfl ?_
  refine go_callS (q := 4) (W := 0) K (wd hw 89 rfl) (wd hw 90 rfl) (wd hw 3 rfl) (wd hw 91 rfl) [(.int ky)] [] (hash l Z a0 hw _ _ n0 ) dput_1 (ps := [.int]) (by decide +kernel) rfl rfl rfl (by decide) rfl (by decide) (by decide) (by decide) (by decide) rfl ?_
  rintro _ _ ⟨rfl, rfl⟩
  show Go pP l eE _ sS mM _ bB tT cC n0 _ h 0 0 (mkF mM 4 #[.val (.ref t), .val (.int ky), .unset, .unset, .unset] [(.long (own_hash ky))])
  refine go_lstoreN (q := 5) K dput_4 #[.val (.ref t), .val (.int ky), .val (.long (own_hash ky)), .second, .unset] rfl rfl ?_
  refine go_aloadN (q := 6) K dput_5 rfl rfl rfl ?_
  refine go_lloadN (q := 7) K dput_6 rfl rfl ?_
  refine go_aconst_null (q := 8) K dput_7 rfl ?_
  refine go_callU (q := 11) (W := 0) (ow := "com/example/dispersa/dispersa/internal/SlotTable") K (wd hw 92 rfl) (wd hw 94 rfl) (wd hw 96 rfl) (wd hw 95 rfl) (wd hw 13 rfl) (wd hw 97 rfl) (wd hw 93 rfl) p6_ [(.long (own_hash ky)), .null] [] (findH l Z a0 hw _ _ _ _ _ _ _ _ _ _ _ _ _ n0 p0_ p1_ p2_ p3_ p4_ p5_ p6_ p7_ hm hmk hky p11_ p12_ p13_ p14_ p15_ p16_ p17_ p18_ p19_ p20_ p21_ p22_ p23_ p24_ p25_ p26_ p27_ hh0 hkv) dput_8 (ps := [.long, (.object "java/lang/Object")]) (by decide +kernel) rfl rfl rfl (by decide) rfl (by decide) (by decide) (by decide) (by decide) rfl ?_
  rintro _ h2 ⟨pr2h2, po2h2, rfl, Kh2, q0h2, q1h2, q2h2, q3h2, q4h2, q5h2, q6h2, q7h2, q8h2, q9h2, q10h2, q11h2, q12h2, q13h2, q14h2, q15h2, q16h2⟩
  show Go pP l eE _ sS mM _ bB tT cC n0 _ h2 0 0 (mkF mM 11 #[.val (.ref t), .val (.int ky), .val (.long (own_hash ky)), .second, .unset] [(.int (ky % m))])
  refine go_istore (q := 13) K dput_11 #[.val (.ref t), .val (.int ky), .val (.long (own_hash ky)), .second, .val (.int (ky % m))] rfl rfl ?_
  refine go_iload (q := 15) K dput_13 rfl rfl ?_
  refine go_ldcI (q := 17) K (wd hw 150 rfl) dput_15 rfl ?_
  refine go_icmp (q := 27) (q' := 20) K dput_17 (by decide) rfl rfl (fun _ => ?_) (fun hn => cN_no2 hn (show ¬ (ky % m) = (-2147483648 : Int32) from (own_nmin hh0)))
  refine go_iload (q := 29) K dput_27 rfl rfl ?_
  refine go_if0 (q := 57) (q' := 32) K dput_29 (by decide) rfl rfl (fun _ => ?_) (fun hn => cN_no2 hn (show ¬ (ky % m) < (0 : Int32) from hh0))
  refine go_iload (q := 59) K dput_57 rfl rfl ?_
  refine go_iret K dput_59 rfl (Or.inl rfl) rfl (by decide) (by decide) ?_
  have f1 := ((Keep.refl h [t]).trans Kh2 (allS (Or.inl (by simp)) all0))
  exact ⟨pr2h2, po2h2, rfl, f1, q0h2, q1h2, q2h2, q3h2, q4h2, q5h2, q6h2, q7h2, q8h2, q9h2, q10h2, q11h2, q12h2, q13h2, q14h2, q15h2, q16h2⟩
theorem dla_0 : decode prog_109_method_31_code 0 = .ok (.aload_n 0, 1) := by decide +kernel
theorem dla_1 : decode prog_109_method_31_code 1 = .ok (.getfield 45, 3) := by decide +kernel
theorem dla_4 : decode prog_109_method_31_code 4 = .ok (.istore 4, 2) := by decide +kernel
theorem dla_6 : decode prog_109_method_31_code 6 = .ok (.aload_n 0, 1) := by decide +kernel
theorem dla_7 : decode prog_109_method_31_code 7 = .ok (.lload_n 1, 1) := by decide +kernel
theorem dla_8 : decode prog_109_method_31_code 8 = .ok (.invokevirtual 103, 3) := by decide +kernel
theorem dla_11 : decode prog_109_method_31_code 11 = .ok (.istore 5, 2) := by decide +kernel
theorem dla_13 : decode prog_109_method_31_code 13 = .ok (.aload_n 0, 1) := by decide +kernel
theorem dla_14 : decode prog_109_method_31_code 14 = .ok (.getfield 21, 3) := by decide +kernel
theorem dla_17 : decode prog_109_method_31_code 17 = .ok (.lload_n 1, 1) := by decide +kernel
theorem dla_18 : decode prog_109_method_31_code 18 = .ok (.iload 4, 2) := by decide +kernel
theorem dla_20 : decode prog_109_method_31_code 20 = .ok (.invokevirtual 107, 3) := by decide +kernel
theorem dla_23 : decode prog_109_method_31_code 23 = .ok (.istore 6, 2) := by decide +kernel
theorem dla_25 : decode prog_109_method_31_code 25 = .ok (.aload_n 0, 1) := by decide +kernel
theorem dla_26 : decode prog_109_method_31_code 26 = .ok (.getfield 21, 3) := by decide +kernel
theorem dla_29 : decode prog_109_method_31_code 29 = .ok (.invokevirtual 111, 3) := by decide +kernel
theorem dla_32 : decode prog_109_method_31_code 32 = .ok (.istore 7, 2) := by decide +kernel
theorem dla_34 : decode prog_109_method_31_code 34 = .ok (.aload_n 0, 1) := by decide +kernel
theorem dla_35 : decode prog_109_method_31_code 35 = .ok (.invokevirtual 115, 3) := by decide +kernel
theorem dla_38 : decode prog_109_method_31_code 38 = .ok (.istore 8, 2) := by decide +kernel
theorem dla_40 : decode prog_109_method_31_code 40 = .ok (.iconst 0, 1) := by decide +kernel
theorem dla_41 : decode prog_109_method_31_code 41 = .ok (.istore 9, 2) := by decide +kernel
theorem dla_43 : decode prog_109_method_31_code 43 = .ok (.iload 9, 2) := by decide +kernel
theorem dla_45 : decode prog_109_method_31_code 45 = .ok (.iload 8, 2) := by decide +kernel
theorem dla_47 : decode prog_109_method_31_code 47 = .ok (.if_icmp .ne 9, 3) := by decide +kernel
theorem dla_50 : decode prog_109_method_31_code 50 = .ok (.iconst (-1), 1) := by decide +kernel
theorem dla_51 : decode prog_109_method_31_code 51 = .ok (.istore 5, 2) := by decide +kernel
theorem dla_53 : decode prog_109_method_31_code 53 = .ok (.goto 61, 3) := by decide +kernel
theorem dla_56 : decode prog_109_method_31_code 56 = .ok (.iinc 9 1, 3) := by decide +kernel
theorem dla_59 : decode prog_109_method_31_code 59 = .ok (.aload_n 0, 1) := by decide +kernel
theorem dla_60 : decode prog_109_method_31_code 60 = .ok (.iload 5, 2) := by decide +kernel
theorem dla_62 : decode prog_109_method_31_code 62 = .ok (.lload_n 1, 1) := by decide +kernel
theorem dla_63 : decode prog_109_method_31_code 63 = .ok (.aload_n 3, 1) := by decide +kernel
theorem dla_64 : decode prog_109_method_31_code 64 = .ok (.iconst 0, 1) := by decide +kernel
theorem dla_65 : decode prog_109_method_31_code 65 = .ok (.invokevirtual 119, 3) := by decide +kernel
theorem dla_68 : decode prog_109_method_31_code 68 = .ok (.ifCond .eq 6, 3) := by decide +kernel
theorem dla_71 : decode prog_109_method_31_code 71 = .ok (.goto 43, 3) := by decide +kernel
theorem dla_74 : decode prog_109_method_31_code 74 = .ok (.aload_n 0, 1) := by decide +kernel
theorem dla_75 : decode prog_109_method_31_code 75 = .ok (.iload 5, 2) := by decide +kernel
theorem dla_77 : decode prog_109_method_31_code 77 = .ok (.invokevirtual 147, 3) := by decide +kernel
theorem dla_80 : decode prog_109_method_31_code 80 = .ok (.ifCond .eq 9, 3) := by decide +kernel
theorem dla_83 : decode prog_109_method_31_code 83 = .ok (.iconst (-1), 1) := by decide +kernel
theorem dla_84 : decode prog_109_method_31_code 84 = .ok (.istore 5, 2) := by decide +kernel
theorem dla_86 : decode prog_109_method_31_code 86 = .ok (.goto 28, 3) := by decide +kernel
theorem dla_89 : decode prog_109_method_31_code 89 = .ok (.iload 5, 2) := by decide +kernel
theorem dla_91 : decode prog_109_method_31_code 91 = .ok (.iload 6, 2) := by decide +kernel
theorem dla_93 : decode prog_109_method_31_code 93 = .ok (.iload 4, 2) := by decide +kernel
theorem dla_95 : decode prog_109_method_31_code 95 = .ok (.invokestatic 127, 3) := by decide +kernel
theorem dla_98 : decode prog_109_method_31_code 98 = .ok (.istore 5, 2) := by decide +kernel
theorem dla_100 : decode prog_109_method_31_code 100 = .ok (.iload 6, 2) := by decide +kernel
theorem dla_102 : decode prog_109_method_31_code 102 = .ok (.iload 7, 2) := by decide +kernel
theorem dla_104 : decode prog_109_method_31_code 104 = .ok (.iload 4, 2) := by decide +kernel
theorem dla_106 : decode prog_109_method_31_code 106 = .ok (.invokestatic 127, 3) := by decide +kernel
theorem dla_109 : decode prog_109_method_31_code 109 = .ok (.istore 6, 2) := by decide +kernel
theorem dla_111 : decode prog_109_method_31_code 111 = .ok (.goto (-68), 3) := by decide +kernel
theorem dla_114 : decode prog_109_method_31_code 114 = .ok (.aload_n 0, 1) := by decide +kernel
theorem dla_115 : decode prog_109_method_31_code 115 = .ok (.getfield 35, 3) := by decide +kernel
theorem dla_118 : decode prog_109_method_31_code 118 = .ok (.ifCond .eq 15, 3) := by decide +kernel
theorem dla_121 : decode prog_109_method_31_code 121 = .ok (.aload_n 0, 1) := by decide +kernel
theorem dla_122 : decode prog_109_method_31_code 122 = .ok (.dup, 1) := by decide +kernel
theorem dla_123 : decode prog_109_method_31_code 123 = .ok (.getfield 52, 3) := by decide +kernel
theorem dla_126 : decode prog_109_method_31_code 126 = .ok (.iload 9, 2) := by decide +kernel
theorem dla_128 : decode prog_109_method_31_code 128 = .ok (.i2l, 1) := by decide +kernel
theorem dla_129 : decode prog_109_method_31_code 129 = .ok (.ladd, 1) := by decide +kernel
theorem dla_130 : decode prog_109_method_31_code 130 = .ok (.putfield 52, 3) := by decide +kernel
theorem dla_133 : decode prog_109_method_31_code 133 = .ok (.iload 5, 2) := by decide +kernel
theorem dla_135 : decode prog_109_method_31_code 135 = .ok (.ireturn, 1) := by decide +kernel
set_option maxRecDepth 65536 in
set_option maxHeartbeats 40000000 in
theorem laH (l : Launch) (Z : State) (a0 : Array Value) (hw : ∀ d ∈ tables_1, d.before a0 Z = true) (t : Addr) (lin : Addr) (m : Int32) (mk : Int32) (mu : Int32) (re : Int32) (pr : Int64) (po : Int32) (ka : Addr) (kl : ClassId) (ks : List Value) (ky : Int32) (h : Heap) (n0 : Nat) (p0_ : Old Z n0 h) (p1_ : Sta Z Z.heap "com/example/dispersa/dispersa/internal/ProbeSequence" "LINEAR" "Lcom/example/dispersa/dispersa/internal/ProbeSequence;" (.ref lin)) (p2_ : Exa Z Z.heap lin "com/example/dispersa/dispersa/internal/ProbeSequence") (p3_ : Fld Z Z.heap lin "java/lang/Enum" "ordinal" "I" (.int (0 : Int32))) (p4_ : Fld Z Z.heap lin "com/example/dispersa/dispersa/internal/ProbeSequence" "hashedStep" "Z" (.int (0 : Int32))) (p5_ : Fld Z Z.heap lin "com/example/dispersa/dispersa/internal/ProbeSequence" "growth" "I" (.int (0 : Int32))) (p6_ : Exa Z h t "com/example/dispersa/dispersa/internal/LayoutTable") (p7_ : n0 ≤ t) (hm : 2 ≤ m.toInt ∧ m.toInt ≤ 5) (hmk : own_mk m mk) (hky : 0 ≤ ky.toInt) (p11_ : Fld Z h t "com/example/dispersa/dispersa/internal/SlotTable" "probing" "Lcom/example/dispersa/dispersa/internal/ProbeSequence;" (.ref lin)) (p12_ : Fld Z h t "com/example/dispersa/dispersa/internal/SlotTable" "bounded" "Z" (.int (0 : Int32))) (p13_ : Fld Z h t "com/example/dispersa/dispersa/internal/SlotTable" "marksHomes" "Z" (.int (0 : Int32))) (p14_ : Fld Z h t "com/example/dispersa/dispersa/internal/SlotTable" "ordersRuns" "Z" (.int (0 : Int32))) (p15_ : Fld Z h t "com/example/dispersa/dispersa/internal/SlotTable" "counting" "Z" (.int (1 : Int32))) (p16_ : Fld Z h t "com/example/dispersa/dispersa/internal/SlotTable" "stopsAtReach" "Z" (.int (0 : Int32))) (p17_ : Fld Z h t "com/example/dispersa/dispersa/internal/SlotTable" "length" "I" (.int m)) (p18_ : Fld Z h t "com/example/dispersa/dispersa/internal/SlotTable" "mask" "I" (.int mk)) (p19_ : Fld Z h t "com/example/dispersa/dispersa/internal/SlotTable" "linear" "Z" (.int (0 : Int32))) (p20_ : Fld Z h t "com/example/dispersa/dispersa/internal/SlotTable" "goesOn" "Z" (.int (0 : Int32))) (p21_ : Fld Z h t "com/example/dispersa/dispersa/internal/SlotTable" "markers" "I" (.int mu)) (p22_ : Fld Z h t "com/example/dispersa/dispersa/internal/SlotTable" "reach" "I" (.int re)) (p23_ : Fld Z h t "com/example/dispersa/dispersa/internal/SlotTable" "probes" "J" (.long pr)) (p24_ : Fld Z h t "com/example/dispersa/dispersa/internal/SlotTable" "position" "I" (.int po)) (p25_ : Fld Z h t "com/example/dispersa/dispersa/internal/LayoutTable" "keys" "[I" (.ref ka)) (p26_ : Fld Z h t "com/example/dispersa/dispersa/internal/LayoutTable" "turnedAway" "Z" (.int (0 : Int32))) (p27_ : Ary Z h ka kl .int ks) (hh0 : ¬ (ky % m) < (0 : Int32)) (hkv : ks[(ky % m).toNatClampNeg]? = some (.int ky)) :
    Met l (⟨"com/example/dispersa/dispersa/internal/SlotTable", "locateAlong", "(JLjava/lang/Object;)I"⟩ : MethodName) prog_109_method_31_code 10 (some .int) [] ({ frames := 4, cells := 0, slots := 0, locals := 80 } : Room) #[(.ref t), (.long (own_hash ky)), .null] Z h n0 (fun v h' => ∃ (pr2 : Int64), v = some (.int (ky % m)) ∧ Keep h h' [t] ∧ Exa Z h' t "com/example/dispersa/dispersa/internal/LayoutTable" ∧ Fld Z h' t "com/example/dispersa/dispersa/internal/SlotTable" "probing" "Lcom/example/dispersa/dispersa/internal/ProbeSequence;" (.ref lin) ∧ Fld Z h' t "com/example/dispersa/dispersa/internal/SlotTable" "bounded" "Z" (.int (0 : Int32)) ∧ Fld Z h' t "com/example/dispersa/dispersa/internal/SlotTable" "marksHomes" "Z" (.int (0 : Int32)) ∧ Fld Z h' t "com/example/dispersa/dispersa/internal/SlotTable" "ordersRuns" "Z" (.int (0 : Int32)) ∧ Fld Z h' t "com/example/dispersa/dispersa/internal/SlotTable" "counting" "Z" (.int (1 : Int32)) ∧ Fld Z h' t "com/example/dispersa/dispersa/internal/SlotTable" "stopsAtReach" "Z" (.int (0 : Int32)) ∧ Fld Z h' t "com/example/dispersa/dispersa/internal/SlotTable" "length" "I" (.int m) ∧ Fld Z h' t "com/example/dispersa/dispersa/internal/SlotTable" "mask" "I" (.int mk) ∧ Fld Z h' t "com/example/dispersa/dispersa/internal/SlotTable" "linear" "Z" (.int (0 : Int32)) ∧ Fld Z h' t "com/example/dispersa/dispersa/internal/SlotTable" "goesOn" "Z" (.int (0 : Int32)) ∧ Fld Z h' t "com/example/dispersa/dispersa/internal/SlotTable" "markers" "I" (.int mu) ∧ Fld Z h' t "com/example/dispersa/dispersa/internal/SlotTable" "reach" "I" (.int re) ∧ Fld Z h' t "com/example/dispersa/dispersa/internal/SlotTable" "probes" "J" (.long pr2) ∧ Fld Z h' t "com/example/dispersa/dispersa/internal/SlotTable" "position" "I" (.int po) ∧ Fld Z h' t "com/example/dispersa/dispersa/internal/LayoutTable" "keys" "[I" (.ref ka) ∧ Fld Z h' t "com/example/dispersa/dispersa/internal/LayoutTable" "turnedAway" "Z" (.int (0 : Int32))) := by
  refine Met.of (plainFor_of_name (by first | (simp [plainName, overriddenIn]; done) | decide +kernel)) ?_
  intro pP eE sS mM bB tT cC K
  refine Go.entry (ls := #[.val (.ref t), .val (.long (own_hash ky)), .second, .val .null, .unset, .unset, .unset, .unset, .unset, .unset]) (by first | (simp [argsToLocals, Value.category]; done) | rfl) ?_
  refine go_aloadN (q := 1) K dla_0 rfl rfl rfl ?_
  refine go_getF (q := 4) K (wd hw 53 rfl) Via.refl p17_ dla_1 rfl ?_
  refine go_istore (q := 6) K dla_4 #[.val (.ref t), .val (.long (own_hash ky)), .second, .val .null, .val (.int m), .unset, .unset, .unset, .unset, .unset] rfl rfl ?_
  refine go_aloadN (q := 7) K dla_6 rfl rfl rfl ?_
  refine go_lloadN (q := 8) K dla_7 rfl rfl ?_
  refine go_callV (q := 11) (W := 0) K (wd hw 98 rfl) (wd hw 99 rfl) (wd hw 101 rfl) (wd hw 100 rfl) (wd hw 13 rfl) (wd hw 102 rfl) (wd hw 36 rfl) rfl p6_ [(.long (own_hash ky))] [] (home l Z a0 hw _ _ _ _ _ n0 p18_ p17_ hky hm hmk) dla_8 (ps := [.long]) (by decide +kernel) rfl rfl rfl (by decide) rfl (by decide) (by decide) (by decide) (by decide) rfl ?_
  rintro _ _ ⟨rfl, rfl⟩
  show Go pP l eE _ sS mM _ bB tT cC n0 _ h 0 0 (mkF mM 11 #[.val (.ref t), .val (.long (own_hash ky)), .second, .val .null, .val (.int m), .unset, .unset, .unset, .unset, .unset] [(.int (ky % m))])
  refine go_istore (q := 13) K dla_11 #[.val (.ref t), .val (.long (own_hash ky)), .second, .val .null, .val (.int m), .val (.int (ky % m)), .unset, .unset, .unset, .unset] rfl rfl ?_
  refine go_aloadN (q := 14) K dla_13 rfl rfl rfl ?_
  refine go_getF (q := 17) K (wd hw 21 rfl) Via.refl p11_ dla_14 rfl ?_
  refine go_lloadN (q := 18) K dla_17 rfl rfl ?_
  refine go_iload (q := 20) K dla_18 rfl rfl ?_
  refine go_callV (q := 23) (W := 0) K (wd hw 113 rfl) (wd hw 114 rfl) (wd hw 116 rfl) (wd hw 115 rfl) (wd hw 5 rfl) (wd hw 117 rfl) (wd hw 41 rfl) rfl (p2_.ext p0_.2) [(.long (own_hash ky)), (.int m)] [] (stepP l Z a0 hw _ _ _ _ n0 p0_ p4_) dla_20 (ps := [.long, .int]) (by decide +kernel) rfl rfl rfl (by decide) rfl (by decide) (by decide) (by decide) (by decide) rfl ?_
  rintro _ _ ⟨rfl, rfl⟩
  show Go pP l eE _ sS mM _ bB tT cC n0 _ h 0 0 (mkF mM 23 #[.val (.ref t), .val (.long (own_hash ky)), .second, .val .null, .val (.int m), .val (.int (ky % m)), .unset, .unset, .unset, .unset] [(.int (1 : Int32))])
  refine go_istore (q := 25) K dla_23 #[.val (.ref t), .val (.long (own_hash ky)), .second, .val .null, .val (.int m), .val (.int (ky % m)), .val (.int (1 : Int32)), .unset, .unset, .unset] rfl rfl ?_
  refine go_aloadN (q := 26) K dla_25 rfl rfl rfl ?_
  refine go_getF (q := 29) K (wd hw 21 rfl) Via.refl p11_ dla_26 rfl ?_
  refine go_callV (q := 32) (W := 0) K (wd hw 120 rfl) (wd hw 121 rfl) (wd hw 123 rfl) (wd hw 122 rfl) (wd hw 5 rfl) (wd hw 124 rfl) (wd hw 41 rfl) rfl (p2_.ext p0_.2) [] [] (growth l Z a0 hw _ _ n0 p0_ p5_) dla_29 (ps := []) (by decide +kernel) rfl rfl rfl (by decide) rfl (by decide) (by decide) (by decide) (by decide) rfl ?_
  rintro _ _ ⟨rfl, rfl⟩
  show Go pP l eE _ sS mM _ bB tT cC n0 _ h 0 0 (mkF mM 32 #[.val (.ref t), .val (.long (own_hash ky)), .second, .val .null, .val (.int m), .val (.int (ky % m)), .val (.int (1 : Int32)), .unset, .unset, .unset] [(.int (0 : Int32))])
  refine go_istore (q := 34) K dla_32 #[.val (.ref t), .val (.long (own_hash ky)), .second, .val .null, .val (.int m), .val (.int (ky % m)), .val (.int (1 : Int32)), .val (.int (0 : Int32)), .unset, .unset] rfl rfl ?_
  refine go_aloadN (q := 35) K dla_34 rfl rfl rfl ?_
  refine go_callP (q := 38) (W := 0) K (wd hw 127 rfl) (wd hw 129 rfl) (wd hw 36 rfl) rfl (wd hw 128 rfl) (wd hw 13 rfl) (wd hw 130 rfl) p6_ [] [] (compd l Z a0 hw _ _ _ n0 p12_ p17_) dla_35 (ps := []) (by decide +kernel) rfl rfl rfl (by decide) rfl (by decide) (by decide) (by decide) (by decide) rfl ?_
  rintro _ _ ⟨rfl, rfl⟩
  show Go pP l eE _ sS mM _ bB tT cC n0 _ h 0 0 (mkF mM 38 #[.val (.ref t), .val (.long (own_hash ky)), .second, .val .null, .val (.int m), .val (.int (ky % m)), .val (.int (1 : Int32)), .val (.int (0 : Int32)), .unset, .unset] [(.int m)])
  refine go_istore (q := 40) K dla_38 #[.val (.ref t), .val (.long (own_hash ky)), .second, .val .null, .val (.int m), .val (.int (ky % m)), .val (.int (1 : Int32)), .val (.int (0 : Int32)), .val (.int m), .unset] rfl rfl ?_
  refine go_iconst (q := 41) K dla_40 (0 : Int32) rfl rfl ?_
  refine go_istore (q := 43) K dla_41 #[.val (.ref t), .val (.long (own_hash ky)), .second, .val .null, .val (.int m), .val (.int (ky % m)), .val (.int (1 : Int32)), .val (.int (0 : Int32)), .val (.int m), .val (.int (0 : Int32))] rfl rfl ?_
  refine go_iload (q := 45) K dla_43 rfl rfl ?_
  refine go_iload (q := 47) K dla_45 rfl rfl ?_
  refine go_icmp (q := 56) (q' := 50) K dla_47 (by decide) rfl rfl (fun _ => ?_) (fun hn => cN_no2 hn (show ¬ (0 : Int32) = m from (own_m0 hm).1))
  refine go_iinc (q := 59) K dla_56 (1 : Int32) #[.val (.ref t), .val (.long (own_hash ky)), .second, .val .null, .val (.int m), .val (.int (ky % m)), .val (.int (1 : Int32)), .val (.int (0 : Int32)), .val (.int m), .val (.int (1 : Int32))] rfl rfl rfl rfl ?_
  refine go_aloadN (q := 60) K dla_59 rfl rfl rfl ?_
  refine go_iload (q := 62) K dla_60 rfl rfl ?_
  refine go_lloadN (q := 63) K dla_62 rfl rfl ?_
  refine go_aloadN (q := 64) K dla_63 rfl rfl rfl ?_
  refine go_iconst (q := 65) K dla_64 (0 : Int32) rfl rfl ?_
  refine go_callV (q := 68) (W := 0) K (wd hw 132 rfl) (wd hw 133 rfl) (wd hw 134 rfl) (wd hw 135 rfl) (wd hw 3 rfl) (wd hw 136 rfl) (wd hw 36 rfl) rfl p6_ [(.int (ky % m)), (.long (own_hash ky)), .null, (.int (0 : Int32))] [] (holds l Z a0 hw _ _ _ _ _ _ _ _ _ n0 p25_ p27_ hh0 hkv) dla_65 (ps := [.int, .long, (.object "java/lang/Object"), .boolean]) (by decide +kernel) rfl rfl rfl (by decide) rfl (by decide) (by decide) (by decide) (by decide) rfl ?_
  rintro _ _ ⟨rfl, rfl⟩
  show Go pP l eE _ sS mM _ bB tT cC n0 _ h 0 0 (mkF mM 68 #[.val (.ref t), .val (.long (own_hash ky)), .second, .val .null, .val (.int m), .val (.int (ky % m)), .val (.int (1 : Int32)), .val (.int (0 : Int32)), .val (.int m), .val (.int (1 : Int32))] [(.int (own_eq ky ky))])
  refine go_eqI (y := (1 : Int32)) (own_eq_yes ky) ?_
  refine go_if0 (q := 74) (q' := 71) K dla_68 (by decide) rfl rfl (fun hn => cN_no hn (show ¬ (1 : Int32) = (0 : Int32) from (by decide))) (fun _ => ?_)
  refine go_goto (q := 114) K dla_71 (by decide) rfl ?_
  refine go_aloadN (q := 115) K dla_114 rfl rfl rfl ?_
  refine go_getF (q := 118) K (wd hw 29 rfl) Via.refl p15_ dla_115 rfl ?_
  refine go_if0 (q := 133) (q' := 121) K dla_118 (by decide) rfl rfl (fun hn => cN_no hn (show ¬ (1 : Int32) = (0 : Int32) from (by decide))) (fun _ => ?_)
  refine go_aloadN (q := 122) K dla_121 rfl rfl rfl ?_
  refine go_dup (q := 123) K dla_122 rfl rfl ?_
  refine go_getF (q := 126) K (wd hw 146 rfl) Via.refl p23_ dla_123 rfl ?_
  refine go_iload (q := 128) K dla_126 rfl rfl ?_
  refine go_i2l (q := 129) K dla_128 rfl ?_
  refine go_ladd (q := 130) K dla_129 rfl ?_
  refine go_putF (q := 133) K (wd hw 146 rfl) Via.refl p23_ p6_ (Or.inl (wd hw 147 rfl)) (wd hw 2 rfl) (ty := .long) (by decide +kernel) rfl rfl p7_ dla_130 rfl ?_
  intro h6 Wh6
  refine go_iload (q := 135) K dla_133 rfl rfl ?_
  refine go_iret K dla_135 rfl (Or.inl rfl) rfl (by decide) (by decide) ?_
  have f1 := ((Keep.refl h [t]).wr Wh6 (Or.inl (by simp)))
  have f2 := (p6_.wr Wh6)
  have f3 := (p11_.other Wh6 (Or.inr (slot_ne (C := "com/example/dispersa/dispersa/internal/LayoutTable") (Or.inr (wd hw 22 rfl)) (Or.inl (wd hw 147 rfl)) (by decide) (t := (.object "com/example/dispersa/dispersa/internal/ProbeSequence")) (t' := .long) (by decide +kernel) (by decide +kernel))))
  have f4 := (p12_.other Wh6 (Or.inr (slot_ne (C := "com/example/dispersa/dispersa/internal/LayoutTable") (Or.inr (wd hw 24 rfl)) (Or.inl (wd hw 147 rfl)) (by decide) (t := .boolean) (t' := .long) (by decide +kernel) (by decide +kernel))))
  have f5 := (p13_.other Wh6 (Or.inr (slot_ne (C := "com/example/dispersa/dispersa/internal/LayoutTable") (Or.inr (wd hw 26 rfl)) (Or.inl (wd hw 147 rfl)) (by decide) (t := .boolean) (t' := .long) (by decide +kernel) (by decide +kernel))))
  have f6 := (p14_.other Wh6 (Or.inr (slot_ne (C := "com/example/dispersa/dispersa/internal/LayoutTable") (Or.inr (wd hw 28 rfl)) (Or.inl (wd hw 147 rfl)) (by decide) (t := .boolean) (t' := .long) (by decide +kernel) (by decide +kernel))))
  have f7 := (p15_.other Wh6 (Or.inr (slot_ne (C := "com/example/dispersa/dispersa/internal/LayoutTable") (Or.inl (wd hw 30 rfl)) (Or.inl (wd hw 147 rfl)) (by decide) (t := .boolean) (t' := .long) (by decide +kernel) (by decide +kernel))))
  have f8 := (p16_.other Wh6 (Or.inr (slot_ne (C := "com/example/dispersa/dispersa/internal/LayoutTable") (Or.inl (wd hw 32 rfl)) (Or.inl (wd hw 147 rfl)) (by decide) (t := .boolean) (t' := .long) (by decide +kernel) (by decide +kernel))))
  have f9 := (p17_.other Wh6 (Or.inr (slot_ne (C := "com/example/dispersa/dispersa/internal/LayoutTable") (Or.inl (wd hw 54 rfl)) (Or.inl (wd hw 147 rfl)) (by decide) (t := .int) (t' := .long) (by decide +kernel) (by decide +kernel))))
  have f10 := (p18_.other Wh6 (Or.inr (slot_ne (C := "com/example/dispersa/dispersa/internal/LayoutTable") (Or.inl (wd hw 63 rfl)) (Or.inl (wd hw 147 rfl)) (by decide) (t := .int) (t' := .long) (by decide +kernel) (by decide +kernel))))
  have f11 := (p19_.other Wh6 (Or.inr (slot_ne (C := "com/example/dispersa/dispersa/internal/LayoutTable") (Or.inl (wd hw 66 rfl)) (Or.inl (wd hw 147 rfl)) (by decide) (t := .boolean) (t' := .long) (by decide +kernel) (by decide +kernel))))
  have f12 := (p20_.other Wh6 (Or.inr (slot_ne (C := "com/example/dispersa/dispersa/internal/LayoutTable") (Or.inl (wd hw 72 rfl)) (Or.inl (wd hw 147 rfl)) (by decide) (t := .boolean) (t' := .long) (by decide +kernel) (by decide +kernel))))
  have f13 := (p21_.other Wh6 (Or.inr (slot_ne (C := "com/example/dispersa/dispersa/internal/LayoutTable") (Or.inl (wd hw 74 rfl)) (Or.inl (wd hw 147 rfl)) (by decide) (t := .int) (t' := .long) (by decide +kernel) (by decide +kernel))))
  have f14 := (p22_.other Wh6 (Or.inr (slot_ne (C := "com/example/dispersa/dispersa/internal/LayoutTable") (Or.inl (wd hw 76 rfl)) (Or.inl (wd hw 147 rfl)) (by decide) (t := .int) (t' := .long) (by decide +kernel) (by decide +kernel))))
  have f15 := (p24_.other Wh6 (Or.inr (slot_ne (C := "com/example/dispersa/dispersa/internal/LayoutTable") (Or.inl (wd hw 149 rfl)) (Or.inl (wd hw 147 rfl)) (by decide) (t := .int) (t' := .long) (by decide +kernel) (by decide +kernel))))
  have f16 := (p25_.other Wh6 (Or.inr (slot_ne (C := "com/example/dispersa/dispersa/internal/LayoutTable") (Or.inr (wd hw 79 rfl)) (Or.inl (wd hw 147 rfl)) (by decide) (t := (.array .int)) (t' := .long) (by decide +kernel) (by decide +kernel))))
  have f17 := (p26_.other Wh6 (Or.inr (slot_ne (C := "com/example/dispersa/dispersa/internal/LayoutTable") (Or.inl (wd hw 210 rfl)) (Or.inl (wd hw 147 rfl)) (by decide) (t := .boolean) (t' := .long) (by decide +kernel) (by decide +kernel))))
  exact ⟨(pr + ((1 : Int32).toInt64)), rfl, f1, f2, f3, f4, f5, f6, f7, f8, f9, f10, f11, f12, f13, f14, (p23_.same Wh6), f15, f16, f17⟩
theorem dloc_0 : decode prog_109_method_30_code 0 = .ok (.aload_n 0, 1) := by decide +kernel
theorem dloc_1 : decode prog_109_method_30_code 1 = .ok (.getfield 64, 3) := by decide +kernel
theorem dloc_4 : decode prog_109_method_30_code 4 = .ok (.ifCond .eq 26, 3) := by decide +kernel
theorem dloc_7 : decode prog_109_method_30_code 7 = .ok (.aload_n 0, 1) := by decide +kernel
theorem dloc_8 : decode prog_109_method_30_code 8 = .ok (.getfield 29, 3) := by decide +kernel
theorem dloc_11 : decode prog_109_method_30_code 11 = .ok (.ifCond .eq 12, 3) := by decide +kernel
theorem dloc_14 : decode prog_109_method_30_code 14 = .ok (.aload_n 0, 1) := by decide +kernel
theorem dloc_15 : decode prog_109_method_30_code 15 = .ok (.lload_n 1, 1) := by decide +kernel
theorem dloc_16 : decode prog_109_method_30_code 16 = .ok (.aload_n 3, 1) := by decide +kernel
theorem dloc_17 : decode prog_109_method_30_code 17 = .ok (.invokevirtual 137, 3) := by decide +kernel
theorem dloc_20 : decode prog_109_method_30_code 20 = .ok (.goto 9, 3) := by decide +kernel
theorem dloc_23 : decode prog_109_method_30_code 23 = .ok (.aload_n 0, 1) := by decide +kernel
theorem dloc_24 : decode prog_109_method_30_code 24 = .ok (.lload_n 1, 1) := by decide +kernel
theorem dloc_25 : decode prog_109_method_30_code 25 = .ok (.aload_n 3, 1) := by decide +kernel
theorem dloc_26 : decode prog_109_method_30_code 26 = .ok (.invokevirtual 141, 3) := by decide +kernel
theorem dloc_29 : decode prog_109_method_30_code 29 = .ok (.ireturn, 1) := by decide +kernel
theorem dloc_30 : decode prog_109_method_30_code 30 = .ok (.aload_n 0, 1) := by decide +kernel
theorem dloc_31 : decode prog_109_method_30_code 31 = .ok (.lload_n 1, 1) := by decide +kernel
theorem dloc_32 : decode prog_109_method_30_code 32 = .ok (.aload_n 3, 1) := by decide +kernel
theorem dloc_33 : decode prog_109_method_30_code 33 = .ok (.invokevirtual 144, 3) := by decide +kernel
theorem dloc_36 : decode prog_109_method_30_code 36 = .ok (.ireturn, 1) := by decide +kernel
set_option maxRecDepth 65536 in
set_option maxHeartbeats 40000000 in
theorem loH (l : Launch) (Z : State) (a0 : Array Value) (hw : ∀ d ∈ tables_1, d.before a0 Z = true) (t : Addr) (lin : Addr) (m : Int32) (mk : Int32) (mu : Int32) (re : Int32) (pr : Int64) (po : Int32) (ka : Addr) (kl : ClassId) (ks : List Value) (ky : Int32) (h : Heap) (n0 : Nat) (p0_ : Old Z n0 h) (p1_ : Sta Z Z.heap "com/example/dispersa/dispersa/internal/ProbeSequence" "LINEAR" "Lcom/example/dispersa/dispersa/internal/ProbeSequence;" (.ref lin)) (p2_ : Exa Z Z.heap lin "com/example/dispersa/dispersa/internal/ProbeSequence") (p3_ : Fld Z Z.heap lin "java/lang/Enum" "ordinal" "I" (.int (0 : Int32))) (p4_ : Fld Z Z.heap lin "com/example/dispersa/dispersa/internal/ProbeSequence" "hashedStep" "Z" (.int (0 : Int32))) (p5_ : Fld Z Z.heap lin "com/example/dispersa/dispersa/internal/ProbeSequence" "growth" "I" (.int (0 : Int32))) (p6_ : Exa Z h t "com/example/dispersa/dispersa/internal/LayoutTable") (p7_ : n0 ≤ t) (hm : 2 ≤ m.toInt ∧ m.toInt ≤ 5) (hmk : own_mk m mk) (hky : 0 ≤ ky.toInt) (p11_ : Fld Z h t "com/example/dispersa/dispersa/internal/SlotTable" "probing" "Lcom/example/dispersa/dispersa/internal/ProbeSequence;" (.ref lin)) (p12_ : Fld Z h t "com/example/dispersa/dispersa/internal/SlotTable" "bounded" "Z" (.int (0 : Int32))) (p13_ : Fld Z h t "com/example/dispersa/dispersa/internal/SlotTable" "marksHomes" "Z" (.int (0 : Int32))) (p14_ : Fld Z h t "com/example/dispersa/dispersa/internal/SlotTable" "ordersRuns" "Z" (.int (0 : Int32))) (p15_ : Fld Z h t "com/example/dispersa/dispersa/internal/SlotTable" "counting" "Z" (.int (1 : Int32))) (p16_ : Fld Z h t "com/example/dispersa/dispersa/internal/SlotTable" "stopsAtReach" "Z" (.int (0 : Int32))) (p17_ : Fld Z h t "com/example/dispersa/dispersa/internal/SlotTable" "length" "I" (.int m)) (p18_ : Fld Z h t "com/example/dispersa/dispersa/internal/SlotTable" "mask" "I" (.int mk)) (p19_ : Fld Z h t "com/example/dispersa/dispersa/internal/SlotTable" "linear" "Z" (.int (0 : Int32))) (p20_ : Fld Z h t "com/example/dispersa/dispersa/internal/SlotTable" "goesOn" "Z" (.int (0 : Int32))) (p21_ : Fld Z h t "com/example/dispersa/dispersa/internal/SlotTable" "markers" "I" (.int mu)) (p22_ : Fld Z h t "com/example/dispersa/dispersa/internal/SlotTable" "reach" "I" (.int re)) (p23_ : Fld Z h t "com/example/dispersa/dispersa/internal/SlotTable" "probes" "J" (.long pr)) (p24_ : Fld Z h t "com/example/dispersa/dispersa/internal/SlotTable" "position" "I" (.int po)) (p25_ : Fld Z h t "com/example/dispersa/dispersa/internal/LayoutTable" "keys" "[I" (.ref ka)) (p26_ : Fld Z h t "com/example/dispersa/dispersa/internal/LayoutTable" "turnedAway" "Z" (.int (0 : Int32))) (p27_ : Ary Z h ka kl .int ks) (hh0 : ¬ (ky % m) < (0 : Int32)) (hkv : ks[(ky % m).toNatClampNeg]? = some (.int ky)) :
    Met l (⟨"com/example/dispersa/dispersa/internal/SlotTable", "locate", "(JLjava/lang/Object;)I"⟩ : MethodName) prog_109_method_30_code 4 (some .int) [] ({ frames := 5, cells := 0, slots := 0, locals := 110 } : Room) #[(.ref t), (.long (own_hash ky)), .null] Z h n0 (fun v h' => ∃ (pr2 : Int64), v = some (.int (ky % m)) ∧ Keep h h' [t] ∧ Exa Z h' t "com/example/dispersa/dispersa/internal/LayoutTable" ∧ Fld Z h' t "com/example/dispersa/dispersa/internal/SlotTable" "probing" "Lcom/example/dispersa/dispersa/internal/ProbeSequence;" (.ref lin) ∧ Fld Z h' t "com/example/dispersa/dispersa/internal/SlotTable" "bounded" "Z" (.int (0 : Int32)) ∧ Fld Z h' t "com/example/dispersa/dispersa/internal/SlotTable" "marksHomes" "Z" (.int (0 : Int32)) ∧ Fld Z h' t "com/example/dispersa/dispersa/internal/SlotTable" "ordersRuns" "Z" (.int (0 : Int32)) ∧ Fld Z h' t "com/example/dispersa/dispersa/internal/SlotTable" "counting" "Z" (.int (1 : Int32)) ∧ Fld Z h' t "com/example/dispersa/dispersa/internal/SlotTable" "stopsAtReach" "Z" (.int (0 : Int32)) ∧ Fld Z h' t "com/example/dispersa/dispersa/internal/SlotTable" "length" "I" (.int m) ∧ Fld Z h' t "com/example/dispersa/dispersa/internal/SlotTable" "mask" "I" (.int mk) ∧ Fld Z h' t "com/example/dispersa/dispersa/internal/SlotTable" "linear" "Z" (.int (0 : Int32)) ∧ Fld Z h' t "com/example/dispersa/dispersa/internal/SlotTable" "goesOn" "Z" (.int (0 : Int32)) ∧ Fld Z h' t "com/example/dispersa/dispersa/internal/SlotTable" "markers" "I" (.int mu) ∧ Fld Z h' t "com/example/dispersa/dispersa/internal/SlotTable" "reach" "I" (.int re) ∧ Fld Z h' t "com/example/dispersa/dispersa/internal/SlotTable" "probes" "J" (.long pr2) ∧ Fld Z h' t "com/example/dispersa/dispersa/internal/SlotTable" "position" "I" (.int po) ∧ Fld Z h' t "com/example/dispersa/dispersa/internal/LayoutTable" "keys" "[I" (.ref ka) ∧ Fld Z h' t "com/example/dispersa/dispersa/internal/LayoutTable" "turnedAway" "Z" (.int (0 : Int32))) := by
  refine Met.of (plainFor_of_name (by first | (simp [plainName, overriddenIn]; done) | decide +kernel)) ?_
  intro pP eE sS mM bB tT cC K
  refine Go.entry (ls := #[.val (.ref t), .val (.long (own_hash ky)), .second, .val .null]) (by first | (simp [argsToLocals, Value.category]; done) | rfl) ?_
  refine go_aloadN (q := 1) K dloc_0 rfl rfl rfl ?_
  refine go_getF (q := 4) K (wd hw 65 rfl) Via.refl p19_ dloc_1 rfl ?_
  refine go_if0 (q := 30) (q' := 7) K dloc_4 (by decide) rfl rfl (fun _ => ?_) (fun hn => cN_no2 hn (show (0 : Int32) = (0 : Int32) from (by decide)))
  refine go_aloadN (q := 31) K dloc_30 rfl rfl rfl ?_
  refine go_lloadN (q := 32) K dloc_31 rfl rfl ?_
  refine go_aloadN (q := 33) K dloc_32 rfl rfl rfl ?_
  refine go_callP (q := 36) (W := 0) K (wd hw 189 rfl) (wd hw 191 rfl) (wd hw 36 rfl) rfl (wd hw 190 rfl) (wd hw 13 rfl) (wd hw 192 rfl) p6_ [(.long (own_hash ky)), .null] [] (laH l Z a0 hw _ _ _ _ _ _ _ _ _ _ _ _ _ n0 p0_ p1_ p2_ p3_ p4_ p5_ p6_ p7_ hm hmk hky p11_ p12_ p13_ p14_ p15_ p16_ p17_ p18_ p19_ p20_ p21_ p22_ p23_ p24_ p25_ p26_ p27_ hh0 hkv) dloc_33 (ps := [.long, (.object "java/lang/Object")]) (by decide +kernel) rfl rfl rfl (by decide) rfl (by decide) (by decide) (by decide) (by decide) rfl ?_
  rintro _ h1 ⟨pr2h1, rfl, Kh1, q0h1, q1h1, q2h1, q3h1, q4h1, q5h1, q6h1, q7h1, q8h1, q9h1, q10h1, q11h1, q12h1, q13h1, q14h1, q15h1, q16h1⟩
  show Go pP l eE _ sS mM _ bB tT cC n0 _ h1 0 0 (mkF mM 36 #[.val (.ref t), .val (.long (own_hash ky)), .second, .val .null] [(.int (ky % m))])
  refine go_iret K dloc_36 rfl (Or.inl rfl) rfl (by decide) (by decide) ?_
  have f1 := ((Keep.refl h [t]).trans Kh1 (allS (Or.inl (by simp)) all0))
  exact ⟨pr2h1, rfl, f1, q0h1, q1h1, q2h1, q3h1, q4h1, q5h1, q6h1, q7h1, q8h1, q9h1, q10h1, q11h1, q12h1, q13h1, q14h1, q15h1, q16h1⟩
theorem dsea_0 : decode prog_86_method_4_code 0 = .ok (.aload_n 0, 1) := by decide +kernel
theorem dsea_1 : decode prog_86_method_4_code 1 = .ok (.iload_n 1, 1) := by decide +kernel
theorem dsea_2 : decode prog_86_method_4_code 2 = .ok (.invokestatic 19, 3) := by decide +kernel
theorem dsea_5 : decode prog_86_method_4_code 5 = .ok (.aconst_null, 1) := by decide +kernel
theorem dsea_6 : decode prog_86_method_4_code 6 = .ok (.invokevirtual 48, 3) := by decide +kernel
theorem dsea_9 : decode prog_86_method_4_code 9 = .ok (.istore_n 2, 1) := by decide +kernel
theorem dsea_10 : decode prog_86_method_4_code 10 = .ok (.iload_n 2, 1) := by decide +kernel
theorem dsea_11 : decode prog_86_method_4_code 11 = .ok (.ifCond .lt 7, 3) := by decide +kernel
theorem dsea_14 : decode prog_86_method_4_code 14 = .ok (.iload_n 2, 1) := by decide +kernel
theorem dsea_15 : decode prog_86_method_4_code 15 = .ok (.goto 4, 3) := by decide +kernel
theorem dsea_18 : decode prog_86_method_4_code 18 = .ok (.iconst (-1), 1) := by decide +kernel
theorem dsea_19 : decode prog_86_method_4_code 19 = .ok (.ireturn, 1) := by decide +kernel
set_option maxRecDepth 65536 in
set_option maxHeartbeats 40000000 in
theorem seH (l : Launch) (Z : State) (a0 : Array Value) (hw : ∀ d ∈ tables_1, d.before a0 Z = true) (t : Addr) (lin : Addr) (m : Int32) (mk : Int32) (mu : Int32) (re : Int32) (pr : Int64) (po : Int32) (ka : Addr) (kl : ClassId) (ks : List Value) (ky : Int32) (h : Heap) (n0 : Nat) (p0_ : Old Z n0 h) (p1_ : Sta Z Z.heap "com/example/dispersa/dispersa/internal/ProbeSequence" "LINEAR" "Lcom/example/dispersa/dispersa/internal/ProbeSequence;" (.ref lin)) (p2_ : Exa Z Z.heap lin "com/example/dispersa/dispersa/internal/ProbeSequence") (p3_ : Fld Z Z.heap lin "java/lang/Enum" "ordinal" "I" (.int (0 : Int32))) (p4_ : Fld Z Z.heap lin "com/example/dispersa/dispersa/internal/ProbeSequence" "hashedStep" "Z" (.int (0 : Int32))) (p5_ : Fld Z Z.heap lin "com/example/dispersa/dispersa/internal/ProbeSequence" "growth" "I" (.int (0 : Int32))) (p6_ : Exa Z h t "com/example/dispersa/dispersa/internal/LayoutTable") (p7_ : n0 ≤ t) (hm : 2 ≤ m.toInt ∧ m.toInt ≤ 5) (hmk : own_mk m mk) (hky : 0 ≤ ky.toInt) (p11_ : Fld Z h t "com/example/dispersa/dispersa/internal/SlotTable" "probing" "Lcom/example/dispersa/dispersa/internal/ProbeSequence;" (.ref lin)) (p12_ : Fld Z h t "com/example/dispersa/dispersa/internal/SlotTable" "bounded" "Z" (.int (0 : Int32))) (p13_ : Fld Z h t "com/example/dispersa/dispersa/internal/SlotTable" "marksHomes" "Z" (.int (0 : Int32))) (p14_ : Fld Z h t "com/example/dispersa/dispersa/internal/SlotTable" "ordersRuns" "Z" (.int (0 : Int32))) (p15_ : Fld Z h t "com/example/dispersa/dispersa/internal/SlotTable" "counting" "Z" (.int (1 : Int32))) (p16_ : Fld Z h t "com/example/dispersa/dispersa/internal/SlotTable" "stopsAtReach" "Z" (.int (0 : Int32))) (p17_ : Fld Z h t "com/example/dispersa/dispersa/internal/SlotTable" "length" "I" (.int m)) (p18_ : Fld Z h t "com/example/dispersa/dispersa/internal/SlotTable" "mask" "I" (.int mk)) (p19_ : Fld Z h t "com/example/dispersa/dispersa/internal/SlotTable" "linear" "Z" (.int (0 : Int32))) (p20_ : Fld Z h t "com/example/dispersa/dispersa/internal/SlotTable" "goesOn" "Z" (.int (0 : Int32))) (p21_ : Fld Z h t "com/example/dispersa/dispersa/internal/SlotTable" "markers" "I" (.int mu)) (p22_ : Fld Z h t "com/example/dispersa/dispersa/internal/SlotTable" "reach" "I" (.int re)) (p23_ : Fld Z h t "com/example/dispersa/dispersa/internal/SlotTable" "probes" "J" (.long pr)) (p24_ : Fld Z h t "com/example/dispersa/dispersa/internal/SlotTable" "position" "I" (.int po)) (p25_ : Fld Z h t "com/example/dispersa/dispersa/internal/LayoutTable" "keys" "[I" (.ref ka)) (p26_ : Fld Z h t "com/example/dispersa/dispersa/internal/LayoutTable" "turnedAway" "Z" (.int (0 : Int32))) (p27_ : Ary Z h ka kl .int ks) (hh0 : ¬ (ky % m) < (0 : Int32)) (hkv : ks[(ky % m).toNatClampNeg]? = some (.int ky)) :
    Met l (⟨"com/example/dispersa/dispersa/internal/LayoutTable", "search", "(I)I"⟩ : MethodName) prog_86_method_4_code 3 (some .int) [] ({ frames := 6, cells := 0, slots := 0, locals := 140 } : Room) #[(.ref t), (.int ky)] Z h n0 (fun v h' => ∃ (pr2 : Int64), v = some (.int (ky % m)) ∧ Keep h h' [t] ∧ Exa Z h' t "com/example/dispersa/dispersa/internal/LayoutTable" ∧ Fld Z h' t "com/example/dispersa/dispersa/internal/SlotTable" "probing" "Lcom/example/dispersa/dispersa/internal/ProbeSequence;" (.ref lin) ∧ Fld Z h' t "com/example/dispersa/dispersa/internal/SlotTable" "bounded" "Z" (.int (0 : Int32)) ∧ Fld Z h' t "com/example/dispersa/dispersa/internal/SlotTable" "marksHomes" "Z" (.int (0 : Int32)) ∧ Fld Z h' t "com/example/dispersa/dispersa/internal/SlotTable" "ordersRuns" "Z" (.int (0 : Int32)) ∧ Fld Z h' t "com/example/dispersa/dispersa/internal/SlotTable" "counting" "Z" (.int (1 : Int32)) ∧ Fld Z h' t "com/example/dispersa/dispersa/internal/SlotTable" "stopsAtReach" "Z" (.int (0 : Int32)) ∧ Fld Z h' t "com/example/dispersa/dispersa/internal/SlotTable" "length" "I" (.int m) ∧ Fld Z h' t "com/example/dispersa/dispersa/internal/SlotTable" "mask" "I" (.int mk) ∧ Fld Z h' t "com/example/dispersa/dispersa/internal/SlotTable" "linear" "Z" (.int (0 : Int32)) ∧ Fld Z h' t "com/example/dispersa/dispersa/internal/SlotTable" "goesOn" "Z" (.int (0 : Int32)) ∧ Fld Z h' t "com/example/dispersa/dispersa/internal/SlotTable" "markers" "I" (.int mu) ∧ Fld Z h' t "com/example/dispersa/dispersa/internal/SlotTable" "reach" "I" (.int re) ∧ Fld Z h' t "com/example/dispersa/dispersa/internal/SlotTable" "probes" "J" (.long pr2) ∧ Fld Z h' t "com/example/dispersa/dispersa/internal/SlotTable" "position" "I" (.int po) ∧ Fld Z h' t "com/example/dispersa/dispersa/internal/LayoutTable" "keys" "[I" (.ref ka) ∧ Fld Z h' t "com/example/dispersa/dispersa/internal/LayoutTable" "turnedAway" "Z" (.int (0 : Int32))) := by
  refine Met.of (plainFor_of_name (by first | (simp [plainName, overriddenIn]; done) | decide +kernel)) ?_
  intro pP eE sS mM bB tT cC K
  refine Go.entry (ls := #[.val (.ref t), .val (.int ky), .unset]) (by first | (simp [argsToLocals, Value.category]; done) | rfl) ?_
  refine go_aloadN (q := 1) K dsea_0 rfl rfl rfl ?_
  refine go_iloadN (q := 2) K dsea_1 rfl rfl ?_
  refine go_callS (q := 5) (W := 1) K (wd hw 89 rfl) (wd hw 90 rfl) (wd hw 3 rfl) (wd hw 91 rfl) [(.int ky)] [(.ref t)] (hash l Z a0 hw _ _ n0 ) dsea_2 (ps := [.int]) (by decide +kernel) rfl rfl rfl (by decide) rfl (by decide) (by decide) (by decide) (by decide) rfl ?_
  rintro _ _ ⟨rfl, rfl⟩
  show Go pP l eE _ sS mM _ bB tT cC n0 _ h 0 0 (mkF mM 5 #[.val (.ref t), .val (.int ky), .unset] [(.long (own_hash ky)), (.ref t)])
  refine go_aconst_null (q := 6) K dsea_5 rfl ?_
  refine go_callU (q := 9) (W := 0) (ow := "com/example/dispersa/dispersa/internal/SlotTable") K (wd hw 183 rfl) (wd hw 185 rfl) (wd hw 187 rfl) (wd hw 186 rfl) (wd hw 13 rfl) (wd hw 188 rfl) (wd hw 184 rfl) p6_ [(.long (own_hash ky)), .null] [] (loH l Z a0 hw _ _ _ _ _ _ _ _ _ _ _ _ _ n0 p0_ p1_ p2_ p3_ p4_ p5_ p6_ p7_ hm hmk hky p11_ p12_ p13_ p14_ p15_ p16_ p17_ p18_ p19_ p20_ p21_ p22_ p23_ p24_ p25_ p26_ p27_ hh0 hkv) dsea_6 (ps := [.long, (.object "java/lang/Object")]) (by decide +kernel) rfl rfl rfl (by decide) rfl (by decide) (by decide) (by decide) (by decide) rfl ?_
  rintro _ h2 ⟨pr2h2, rfl, Kh2, q0h2, q1h2, q2h2, q3h2, q4h2, q5h2, q6h2, q7h2, q8h2, q9h2, q10h2, q11h2, q12h2, q13h2, q14h2, q15h2, q16h2⟩
  show Go pP l eE _ sS mM _ bB tT cC n0 _ h2 0 0 (mkF mM 9 #[.val (.ref t), .val (.int ky), .unset] [(.int (ky % m))])
  refine go_istoreN (q := 10) K dsea_9 #[.val (.ref t), .val (.int ky), .val (.int (ky % m))] rfl rfl ?_
  refine go_iloadN (q := 11) K dsea_10 rfl rfl ?_
  refine go_if0 (q := 18) (q' := 14) K dsea_11 (by decide) rfl rfl (fun hn => cN_no hn (show ¬ (ky % m) < (0 : Int32) from hh0)) (fun _ => ?_)
  refine go_iloadN (q := 15) K dsea_14 rfl rfl ?_
  refine go_goto (q := 19) K dsea_15 (by decide) rfl ?_
  refine go_iret K dsea_19 rfl (Or.inl rfl) rfl (by decide) (by decide) ?_
  have f1 := ((Keep.refl h [t]).trans Kh2 (allS (Or.inl (by simp)) all0))
  exact ⟨pr2h2, rfl, f1, q0h2, q1h2, q2h2, q3h2, q4h2, q5h2, q6h2, q7h2, q8h2, q9h2, q10h2, q11h2, q12h2, q13h2, q14h2, q15h2, q16h2⟩
set_option maxRecDepth 65536 in
set_option maxHeartbeats 40000000 in
theorem laN (l : Launch) (Z : State) (a0 : Array Value) (hw : ∀ d ∈ tables_1, d.before a0 Z = true) (t : Addr) (lin : Addr) (m : Int32) (mk : Int32) (mu : Int32) (re : Int32) (pr : Int64) (po : Int32) (ka : Addr) (kl : ClassId) (ks : List Value) (ky : Int32) (kv : Int32) (h : Heap) (n0 : Nat) (p0_ : Old Z n0 h) (p1_ : Sta Z Z.heap "com/example/dispersa/dispersa/internal/ProbeSequence" "LINEAR" "Lcom/example/dispersa/dispersa/internal/ProbeSequence;" (.ref lin)) (p2_ : Exa Z Z.heap lin "com/example/dispersa/dispersa/internal/ProbeSequence") (p3_ : Fld Z Z.heap lin "java/lang/Enum" "ordinal" "I" (.int (0 : Int32))) (p4_ : Fld Z Z.heap lin "com/example/dispersa/dispersa/internal/ProbeSequence" "hashedStep" "Z" (.int (0 : Int32))) (p5_ : Fld Z Z.heap lin "com/example/dispersa/dispersa/internal/ProbeSequence" "growth" "I" (.int (0 : Int32))) (p6_ : Exa Z h t "com/example/dispersa/dispersa/internal/LayoutTable") (p7_ : n0 ≤ t) (hm : 2 ≤ m.toInt ∧ m.toInt ≤ 5) (hmk : own_mk m mk) (hky : 0 ≤ ky.toInt) (p11_ : Fld Z h t "com/example/dispersa/dispersa/internal/SlotTable" "probing" "Lcom/example/dispersa/dispersa/internal/ProbeSequence;" (.ref lin)) (p12_ : Fld Z h t "com/example/dispersa/dispersa/internal/SlotTable" "bounded" "Z" (.int (0 : Int32))) (p13_ : Fld Z h t "com/example/dispersa/dispersa/internal/SlotTable" "marksHomes" "Z" (.int (0 : Int32))) (p14_ : Fld Z h t "com/example/dispersa/dispersa/internal/SlotTable" "ordersRuns" "Z" (.int (0 : Int32))) (p15_ : Fld Z h t "com/example/dispersa/dispersa/internal/SlotTable" "counting" "Z" (.int (1 : Int32))) (p16_ : Fld Z h t "com/example/dispersa/dispersa/internal/SlotTable" "stopsAtReach" "Z" (.int (0 : Int32))) (p17_ : Fld Z h t "com/example/dispersa/dispersa/internal/SlotTable" "length" "I" (.int m)) (p18_ : Fld Z h t "com/example/dispersa/dispersa/internal/SlotTable" "mask" "I" (.int mk)) (p19_ : Fld Z h t "com/example/dispersa/dispersa/internal/SlotTable" "linear" "Z" (.int (0 : Int32))) (p20_ : Fld Z h t "com/example/dispersa/dispersa/internal/SlotTable" "goesOn" "Z" (.int (0 : Int32))) (p21_ : Fld Z h t "com/example/dispersa/dispersa/internal/SlotTable" "markers" "I" (.int mu)) (p22_ : Fld Z h t "com/example/dispersa/dispersa/internal/SlotTable" "reach" "I" (.int re)) (p23_ : Fld Z h t "com/example/dispersa/dispersa/internal/SlotTable" "probes" "J" (.long pr)) (p24_ : Fld Z h t "com/example/dispersa/dispersa/internal/SlotTable" "position" "I" (.int po)) (p25_ : Fld Z h t "com/example/dispersa/dispersa/internal/LayoutTable" "keys" "[I" (.ref ka)) (p26_ : Fld Z h t "com/example/dispersa/dispersa/internal/LayoutTable" "turnedAway" "Z" (.int (0 : Int32))) (p27_ : Ary Z h ka kl .int ks) (hh0 : ¬ (ky % m) < (0 : Int32)) (hkv : ks[(ky % m).toNatClampNeg]? = some (.int kv)) (hkv0 : 0 ≤ kv.toInt) (hne : ¬ kv = ky) (hn0 : ¬ (own_adv (ky % m) (1 : Int32) m) < (0 : Int32)) (hnv : ks[(own_adv (ky % m) (1 : Int32) m).toNatClampNeg]? = some (.int ky)) :
    Met l (⟨"com/example/dispersa/dispersa/internal/SlotTable", "locateAlong", "(JLjava/lang/Object;)I"⟩ : MethodName) prog_109_method_31_code 10 (some .int) [] ({ frames := 4, cells := 0, slots := 0, locals := 80 } : Room) #[(.ref t), (.long (own_hash ky)), .null] Z h n0 (fun v h' => ∃ (pr2 : Int64), v = some (.int (own_adv (ky % m) (1 : Int32) m)) ∧ Keep h h' [t] ∧ Exa Z h' t "com/example/dispersa/dispersa/internal/LayoutTable" ∧ Fld Z h' t "com/example/dispersa/dispersa/internal/SlotTable" "probing" "Lcom/example/dispersa/dispersa/internal/ProbeSequence;" (.ref lin) ∧ Fld Z h' t "com/example/dispersa/dispersa/internal/SlotTable" "bounded" "Z" (.int (0 : Int32)) ∧ Fld Z h' t "com/example/dispersa/dispersa/internal/SlotTable" "marksHomes" "Z" (.int (0 : Int32)) ∧ Fld Z h' t "com/example/dispersa/dispersa/internal/SlotTable" "ordersRuns" "Z" (.int (0 : Int32)) ∧ Fld Z h' t "com/example/dispersa/dispersa/internal/SlotTable" "counting" "Z" (.int (1 : Int32)) ∧ Fld Z h' t "com/example/dispersa/dispersa/internal/SlotTable" "stopsAtReach" "Z" (.int (0 : Int32)) ∧ Fld Z h' t "com/example/dispersa/dispersa/internal/SlotTable" "length" "I" (.int m) ∧ Fld Z h' t "com/example/dispersa/dispersa/internal/SlotTable" "mask" "I" (.int mk) ∧ Fld Z h' t "com/example/dispersa/dispersa/internal/SlotTable" "linear" "Z" (.int (0 : Int32)) ∧ Fld Z h' t "com/example/dispersa/dispersa/internal/SlotTable" "goesOn" "Z" (.int (0 : Int32)) ∧ Fld Z h' t "com/example/dispersa/dispersa/internal/SlotTable" "markers" "I" (.int mu) ∧ Fld Z h' t "com/example/dispersa/dispersa/internal/SlotTable" "reach" "I" (.int re) ∧ Fld Z h' t "com/example/dispersa/dispersa/internal/SlotTable" "probes" "J" (.long pr2) ∧ Fld Z h' t "com/example/dispersa/dispersa/internal/SlotTable" "position" "I" (.int po) ∧ Fld Z h' t "com/example/dispersa/dispersa/internal/LayoutTable" "keys" "[I" (.ref ka) ∧ Fld Z h' t "com/example/dispersa/dispersa/internal/LayoutTable" "turnedAway" "Z" (.int (0 : Int32))) := by
  refine Met.of (plainFor_of_name (by first | (simp [plainName, overriddenIn]; done) | decide +kernel)) ?_
  intro pP eE sS mM bB tT cC K
  refine Go.entry (ls := #[.val (.ref t), .val (.long (own_hash ky)), .second, .val .null, .unset, .unset, .unset, .unset, .unset, .unset]) (by first | (simp [argsToLocals, Value.category]; done) | rfl) ?_
  refine go_aloadN (q := 1) K dla_0 rfl rfl rfl ?_
  refine go_getF (q := 4) K (wd hw 53 rfl) Via.refl p17_ dla_1 rfl ?_
  refine go_istore (q := 6) K dla_4 #[.val (.ref t), .val (.long (own_hash ky)), .second, .val .null, .val (.int m), .unset, .unset, .unset, .unset, .unset] rfl rfl ?_
  refine go_aloadN (q := 7) K dla_6 rfl rfl rfl ?_
  refine go_lloadN (q := 8) K dla_7 rfl rfl ?_
  refine go_callV (q := 11) (W := 0) K (wd hw 98 rfl) (wd hw 99 rfl) (wd hw 101 rfl) (wd hw 100 rfl) (wd hw 13 rfl) (wd hw 102 rfl) (wd hw 36 rfl) rfl p6_ [(.long (own_hash ky))] [] (home l Z a0 hw _ _ _ _ _ n0 p18_ p17_ hky hm hmk) dla_8 (ps := [.long]) (by decide +kernel) rfl rfl rfl (by decide) rfl (by decide) (by decide) (by decide) (by decide) rfl ?_
  rintro _ _ ⟨rfl, rfl⟩
  show Go pP l eE _ sS mM _ bB tT cC n0 _ h 0 0 (mkF mM 11 #[.val (.ref t), .val (.long (own_hash ky)), .second, .val .null, .val (.int m), .unset, .unset, .unset, .unset, .unset] [(.int (ky % m))])
  refine go_istore (q := 13) K dla_11 #[.val (.ref t), .val (.long (own_hash ky)), .second, .val .null, .val (.int m), .val (.int (ky % m)), .unset, .unset, .unset, .unset] rfl rfl ?_
  refine go_aloadN (q := 14) K dla_13 rfl rfl rfl ?_
  refine go_getF (q := 17) K (wd hw 21 rfl) Via.refl p11_ dla_14 rfl ?_
  refine go_lloadN (q := 18) K dla_17 rfl rfl ?_
  refine go_iload (q := 20) K dla_18 rfl rfl ?_
  refine go_callV (q := 23) (W := 0) K (wd hw 113 rfl) (wd hw 114 rfl) (wd hw 116 rfl) (wd hw 115 rfl) (wd hw 5 rfl) (wd hw 117 rfl) (wd hw 41 rfl) rfl (p2_.ext p0_.2) [(.long (own_hash ky)), (.int m)] [] (stepP l Z a0 hw _ _ _ _ n0 p0_ p4_) dla_20 (ps := [.long, .int]) (by decide +kernel) rfl rfl rfl (by decide) rfl (by decide) (by decide) (by decide) (by decide) rfl ?_
  rintro _ _ ⟨rfl, rfl⟩
  show Go pP l eE _ sS mM _ bB tT cC n0 _ h 0 0 (mkF mM 23 #[.val (.ref t), .val (.long (own_hash ky)), .second, .val .null, .val (.int m), .val (.int (ky % m)), .unset, .unset, .unset, .unset] [(.int (1 : Int32))])
  refine go_istore (q := 25) K dla_23 #[.val (.ref t), .val (.long (own_hash ky)), .second, .val .null, .val (.int m), .val (.int (ky % m)), .val (.int (1 : Int32)), .unset, .unset, .unset] rfl rfl ?_
  refine go_aloadN (q := 26) K dla_25 rfl rfl rfl ?_
  refine go_getF (q := 29) K (wd hw 21 rfl) Via.refl p11_ dla_26 rfl ?_
  refine go_callV (q := 32) (W := 0) K (wd hw 120 rfl) (wd hw 121 rfl) (wd hw 123 rfl) (wd hw 122 rfl) (wd hw 5 rfl) (wd hw 124 rfl) (wd hw 41 rfl) rfl (p2_.ext p0_.2) [] [] (growth l Z a0 hw _ _ n0 p0_ p5_) dla_29 (ps := []) (by decide +kernel) rfl rfl rfl (by decide) rfl (by decide) (by decide) (by decide) (by decide) rfl ?_
  rintro _ _ ⟨rfl, rfl⟩
  show Go pP l eE _ sS mM _ bB tT cC n0 _ h 0 0 (mkF mM 32 #[.val (.ref t), .val (.long (own_hash ky)), .second, .val .null, .val (.int m), .val (.int (ky % m)), .val (.int (1 : Int32)), .unset, .unset, .unset] [(.int (0 : Int32))])
  refine go_istore (q := 34) K dla_32 #[.val (.ref t), .val (.long (own_hash ky)), .second, .val .null, .val (.int m), .val (.int (ky % m)), .val (.int (1 : Int32)), .val (.int (0 : Int32)), .unset, .unset] rfl rfl ?_
  refine go_aloadN (q := 35) K dla_34 rfl rfl rfl ?_
  refine go_callP (q := 38) (W := 0) K (wd hw 127 rfl) (wd hw 129 rfl) (wd hw 36 rfl) rfl (wd hw 128 rfl) (wd hw 13 rfl) (wd hw 130 rfl) p6_ [] [] (compd l Z a0 hw _ _ _ n0 p12_ p17_) dla_35 (ps := []) (by decide +kernel) rfl rfl rfl (by decide) rfl (by decide) (by decide) (by decide) (by decide) rfl ?_
  rintro _ _ ⟨rfl, rfl⟩
  show Go pP l eE _ sS mM _ bB tT cC n0 _ h 0 0 (mkF mM 38 #[.val (.ref t), .val (.long (own_hash ky)), .second, .val .null, .val (.int m), .val (.int (ky % m)), .val (.int (1 : Int32)), .val (.int (0 : Int32)), .unset, .unset] [(.int m)])
  refine go_istore (q := 40) K dla_38 #[.val (.ref t), .val (.long (own_hash ky)), .second, .val .null, .val (.int m), .val (.int (ky % m)), .val (.int (1 : Int32)), .val (.int (0 : Int32)), .val (.int m), .unset] rfl rfl ?_
  refine go_iconst (q := 41) K dla_40 (0 : Int32) rfl rfl ?_
  refine go_istore (q := 43) K dla_41 #[.val (.ref t), .val (.long (own_hash ky)), .second, .val .null, .val (.int m), .val (.int (ky % m)), .val (.int (1 : Int32)), .val (.int (0 : Int32)), .val (.int m), .val (.int (0 : Int32))] rfl rfl ?_
  refine go_iload (q := 45) K dla_43 rfl rfl ?_
  refine go_iload (q := 47) K dla_45 rfl rfl ?_
  refine go_icmp (q := 56) (q' := 50) K dla_47 (by decide) rfl rfl (fun _ => ?_) (fun hn => cN_no2 hn (show ¬ (0 : Int32) = m from (own_m0 hm).1))
  refine go_iinc (q := 59) K dla_56 (1 : Int32) #[.val (.ref t), .val (.long (own_hash ky)), .second, .val .null, .val (.int m), .val (.int (ky % m)), .val (.int (1 : Int32)), .val (.int (0 : Int32)), .val (.int m), .val (.int (1 : Int32))] rfl rfl rfl rfl ?_
  refine go_aloadN (q := 60) K dla_59 rfl rfl rfl ?_
  refine go_iload (q := 62) K dla_60 rfl rfl ?_
  refine go_lloadN (q := 63) K dla_62 rfl rfl ?_
  refine go_aloadN (q := 64) K dla_63 rfl rfl rfl ?_
  refine go_iconst (q := 65) K dla_64 (0 : Int32) rfl rfl ?_
  refine go_callV (q := 68) (W := 0) K (wd hw 132 rfl) (wd hw 133 rfl) (wd hw 134 rfl) (wd hw 135 rfl) (wd hw 3 rfl) (wd hw 136 rfl) (wd hw 36 rfl) rfl p6_ [(.int (ky % m)), (.long (own_hash ky)), .null, (.int (0 : Int32))] [] (holds l Z a0 hw _ _ _ _ _ _ _ _ _ n0 p25_ p27_ hh0 hkv) dla_65 (ps := [.int, .long, (.object "java/lang/Object"), .boolean]) (by decide +kernel) rfl rfl rfl (by decide) rfl (by decide) (by decide) (by decide) (by decide) rfl ?_
  rintro _ _ ⟨rfl, rfl⟩
  show Go pP l eE _ sS mM _ bB tT cC n0 _ h 0 0 (mkF mM 68 #[.val (.ref t), .val (.long (own_hash ky)), .second, .val .null, .val (.int m), .val (.int (ky % m)), .val (.int (1 : Int32)), .val (.int (0 : Int32)), .val (.int m), .val (.int (1 : Int32))] [(.int (own_eq kv ky))])
  refine go_eqI (y := (0 : Int32)) (own_eq_no hne) ?_
  refine go_if0 (q := 74) (q' := 71) K dla_68 (by decide) rfl rfl (fun _ => ?_) (fun hn => cN_no2 hn (show (0 : Int32) = (0 : Int32) from (by decide)))
  refine go_aloadN (q := 75) K dla_74 rfl rfl rfl ?_
  refine go_iload (q := 77) K dla_75 rfl rfl ?_
  refine go_callV (q := 80) (W := 0) K (wd hw 204 rfl) (wd hw 205 rfl) (wd hw 207 rfl) (wd hw 206 rfl) (wd hw 13 rfl) (wd hw 208 rfl) (wd hw 36 rfl) rfl p6_ [(.int (ky % m))] [] (unused l Z a0 hw _ _ _ _ _ _ _ n0 p6_ p25_ p27_ hh0 hkv) dla_77 (ps := [.int]) (by decide +kernel) rfl rfl rfl (by decide) rfl (by decide) (by decide) (by decide) (by decide) rfl ?_
  rintro _ _ ⟨rfl, rfl⟩
  show Go pP l eE _ sS mM _ bB tT cC n0 _ h 0 0 (mkF mM 80 #[.val (.ref t), .val (.long (own_hash ky)), .second, .val .null, .val (.int m), .val (.int (ky % m)), .val (.int (1 : Int32)), .val (.int (0 : Int32)), .val (.int m), .val (.int (1 : Int32))] [(.int (own_un kv))])
  refine go_eqI (y := (0 : Int32)) (own_un0 (by rw [own_st2 hkv0]; decide)) ?_
  refine go_if0 (q := 89) (q' := 83) K dla_80 (by decide) rfl rfl (fun _ => ?_) (fun hn => cN_no2 hn (show (0 : Int32) = (0 : Int32) from (by decide)))
  refine go_iload (q := 91) K dla_89 rfl rfl ?_
  refine go_iload (q := 93) K dla_91 rfl rfl ?_
  refine go_iload (q := 95) K dla_93 rfl rfl ?_
  refine go_callS (q := 98) (W := 0) K (wd hw 167 rfl) (wd hw 168 rfl) (wd hw 13 rfl) (wd hw 169 rfl) [(.int (ky % m)), (.int (1 : Int32)), (.int m)] [] (adv l Z a0 hw _ _ _ _ n0 ) dla_95 (ps := [.int, .int, .int]) (by decide +kernel) rfl rfl rfl (by decide) rfl (by decide) (by decide) (by decide) (by decide) rfl ?_
  rintro _ _ ⟨rfl, rfl⟩
  show Go pP l eE _ sS mM _ bB tT cC n0 _ h 0 0 (mkF mM 98 #[.val (.ref t), .val (.long (own_hash ky)), .second, .val .null, .val (.int m), .val (.int (ky % m)), .val (.int (1 : Int32)), .val (.int (0 : Int32)), .val (.int m), .val (.int (1 : Int32))] [(.int (own_adv (ky % m) (1 : Int32) m))])
  refine go_istore (q := 100) K dla_98 #[.val (.ref t), .val (.long (own_hash ky)), .second, .val .null, .val (.int m), .val (.int (own_adv (ky % m) (1 : Int32) m)), .val (.int (1 : Int32)), .val (.int (0 : Int32)), .val (.int m), .val (.int (1 : Int32))] rfl rfl ?_
  refine go_iload (q := 102) K dla_100 rfl rfl ?_
  refine go_iload (q := 104) K dla_102 rfl rfl ?_
  refine go_iload (q := 106) K dla_104 rfl rfl ?_
  refine go_callS (q := 109) (W := 0) K (wd hw 167 rfl) (wd hw 168 rfl) (wd hw 13 rfl) (wd hw 169 rfl) [(.int (1 : Int32)), (.int (0 : Int32)), (.int m)] [] (adv l Z a0 hw _ _ _ _ n0 ) dla_106 (ps := [.int, .int, .int]) (by decide +kernel) rfl rfl rfl (by decide) rfl (by decide) (by decide) (by decide) (by decide) rfl ?_
  rintro _ _ ⟨rfl, rfl⟩
  show Go pP l eE _ sS mM _ bB tT cC n0 _ h 0 0 (mkF mM 109 #[.val (.ref t), .val (.long (own_hash ky)), .second, .val .null, .val (.int m), .val (.int (own_adv (ky % m) (1 : Int32) m)), .val (.int (1 : Int32)), .val (.int (0 : Int32)), .val (.int m), .val (.int (1 : Int32))] [(.int (own_adv (1 : Int32) (0 : Int32) m))])
  refine go_istore (q := 111) K dla_109 #[.val (.ref t), .val (.long (own_hash ky)), .second, .val .null, .val (.int m), .val (.int (own_adv (ky % m) (1 : Int32) m)), .val (.int (own_adv (1 : Int32) (0 : Int32) m)), .val (.int (0 : Int32)), .val (.int m), .val (.int (1 : Int32))] rfl rfl ?_
  refine go_goto (q := 43) K dla_111 (by decide) rfl ?_
  refine go_iload (q := 45) K dla_43 rfl rfl ?_
  refine go_iload (q := 47) K dla_45 rfl rfl ?_
  refine go_icmp (q := 56) (q' := 50) K dla_47 (by decide) rfl rfl (fun _ => ?_) (fun hn => cN_no2 hn (show ¬ (1 : Int32) = m from (own_m0 hm).2.1))
  refine go_iinc (q := 59) K dla_56 (1 : Int32) #[.val (.ref t), .val (.long (own_hash ky)), .second, .val .null, .val (.int m), .val (.int (own_adv (ky % m) (1 : Int32) m)), .val (.int (own_adv (1 : Int32) (0 : Int32) m)), .val (.int (0 : Int32)), .val (.int m), .val (.int (2 : Int32))] rfl rfl rfl rfl ?_
  refine go_aloadN (q := 60) K dla_59 rfl rfl rfl ?_
  refine go_iload (q := 62) K dla_60 rfl rfl ?_
  refine go_lloadN (q := 63) K dla_62 rfl rfl ?_
  refine go_aloadN (q := 64) K dla_63 rfl rfl rfl ?_
  refine go_iconst (q := 65) K dla_64 (0 : Int32) rfl rfl ?_
  refine go_callV (q := 68) (W := 0) K (wd hw 132 rfl) (wd hw 133 rfl) (wd hw 134 rfl) (wd hw 135 rfl) (wd hw 3 rfl) (wd hw 136 rfl) (wd hw 36 rfl) rfl p6_ [(.int (own_adv (ky % m) (1 : Int32) m)), (.long (own_hash ky)), .null, (.int (0 : Int32))] [] (holds l Z a0 hw _ _ _ _ _ _ _ _ _ n0 p25_ p27_ hn0 hnv) dla_65 (ps := [.int, .long, (.object "java/lang/Object"), .boolean]) (by decide +kernel) rfl rfl rfl (by decide) rfl (by decide) (by decide) (by decide) (by decide) rfl ?_
  rintro _ _ ⟨rfl, rfl⟩
  show Go pP l eE _ sS mM _ bB tT cC n0 _ h 0 0 (mkF mM 68 #[.val (.ref t), .val (.long (own_hash ky)), .second, .val .null, .val (.int m), .val (.int (own_adv (ky % m) (1 : Int32) m)), .val (.int (own_adv (1 : Int32) (0 : Int32) m)), .val (.int (0 : Int32)), .val (.int m), .val (.int (2 : Int32))] [(.int (own_eq ky ky))])
  refine go_eqI (y := (1 : Int32)) (own_eq_yes ky) ?_
  refine go_if0 (q := 74) (q' := 71) K dla_68 (by decide) rfl rfl (fun hn => cN_no hn (show ¬ (1 : Int32) = (0 : Int32) from (by decide))) (fun _ => ?_)
  refine go_goto (q := 114) K dla_71 (by decide) rfl ?_
  refine go_aloadN (q := 115) K dla_114 rfl rfl rfl ?_
  refine go_getF (q := 118) K (wd hw 29 rfl) Via.refl p15_ dla_115 rfl ?_
  refine go_if0 (q := 133) (q' := 121) K dla_118 (by decide) rfl rfl (fun hn => cN_no hn (show ¬ (1 : Int32) = (0 : Int32) from (by decide))) (fun _ => ?_)
  refine go_aloadN (q := 122) K dla_121 rfl rfl rfl ?_
  refine go_dup (q := 123) K dla_122 rfl rfl ?_
  refine go_getF (q := 126) K (wd hw 146 rfl) Via.refl p23_ dla_123 rfl ?_
  refine go_iload (q := 128) K dla_126 rfl rfl ?_
  refine go_i2l (q := 129) K dla_128 rfl ?_
  refine go_ladd (q := 130) K dla_129 rfl ?_
  refine go_putF (q := 133) K (wd hw 146 rfl) Via.refl p23_ p6_ (Or.inl (wd hw 147 rfl)) (wd hw 2 rfl) (ty := .long) (by decide +kernel) rfl rfl p7_ dla_130 rfl ?_
  intro h10 Wh10
  refine go_iload (q := 135) K dla_133 rfl rfl ?_
  refine go_iret K dla_135 rfl (Or.inl rfl) rfl (by decide) (by decide) ?_
  have f1 := ((Keep.refl h [t]).wr Wh10 (Or.inl (by simp)))
  have f2 := (p6_.wr Wh10)
  have f3 := (p11_.other Wh10 (Or.inr (slot_ne (C := "com/example/dispersa/dispersa/internal/LayoutTable") (Or.inr (wd hw 22 rfl)) (Or.inl (wd hw 147 rfl)) (by decide) (t := (.object "com/example/dispersa/dispersa/internal/ProbeSequence")) (t' := .long) (by decide +kernel) (by decide +kernel))))
  have f4 := (p12_.other Wh10 (Or.inr (slot_ne (C := "com/example/dispersa/dispersa/internal/LayoutTable") (Or.inr (wd hw 24 rfl)) (Or.inl (wd hw 147 rfl)) (by decide) (t := .boolean) (t' := .long) (by decide +kernel) (by decide +kernel))))
  have f5 := (p13_.other Wh10 (Or.inr (slot_ne (C := "com/example/dispersa/dispersa/internal/LayoutTable") (Or.inr (wd hw 26 rfl)) (Or.inl (wd hw 147 rfl)) (by decide) (t := .boolean) (t' := .long) (by decide +kernel) (by decide +kernel))))
  have f6 := (p14_.other Wh10 (Or.inr (slot_ne (C := "com/example/dispersa/dispersa/internal/LayoutTable") (Or.inr (wd hw 28 rfl)) (Or.inl (wd hw 147 rfl)) (by decide) (t := .boolean) (t' := .long) (by decide +kernel) (by decide +kernel))))
  have f7 := (p15_.other Wh10 (Or.inr (slot_ne (C := "com/example/dispersa/dispersa/internal/LayoutTable") (Or.inl (wd hw 30 rfl)) (Or.inl (wd hw 147 rfl)) (by decide) (t := .boolean) (t' := .long) (by decide +kernel) (by decide +kernel))))
  have f8 := (p16_.other Wh10 (Or.inr (slot_ne (C := "com/example/dispersa/dispersa/internal/LayoutTable") (Or.inl (wd hw 32 rfl)) (Or.inl (wd hw 147 rfl)) (by decide) (t := .boolean) (t' := .long) (by decide +kernel) (by decide +kernel))))
  have f9 := (p17_.other Wh10 (Or.inr (slot_ne (C := "com/example/dispersa/dispersa/internal/LayoutTable") (Or.inl (wd hw 54 rfl)) (Or.inl (wd hw 147 rfl)) (by decide) (t := .int) (t' := .long) (by decide +kernel) (by decide +kernel))))
  have f10 := (p18_.other Wh10 (Or.inr (slot_ne (C := "com/example/dispersa/dispersa/internal/LayoutTable") (Or.inl (wd hw 63 rfl)) (Or.inl (wd hw 147 rfl)) (by decide) (t := .int) (t' := .long) (by decide +kernel) (by decide +kernel))))
  have f11 := (p19_.other Wh10 (Or.inr (slot_ne (C := "com/example/dispersa/dispersa/internal/LayoutTable") (Or.inl (wd hw 66 rfl)) (Or.inl (wd hw 147 rfl)) (by decide) (t := .boolean) (t' := .long) (by decide +kernel) (by decide +kernel))))
  have f12 := (p20_.other Wh10 (Or.inr (slot_ne (C := "com/example/dispersa/dispersa/internal/LayoutTable") (Or.inl (wd hw 72 rfl)) (Or.inl (wd hw 147 rfl)) (by decide) (t := .boolean) (t' := .long) (by decide +kernel) (by decide +kernel))))
  have f13 := (p21_.other Wh10 (Or.inr (slot_ne (C := "com/example/dispersa/dispersa/internal/LayoutTable") (Or.inl (wd hw 74 rfl)) (Or.inl (wd hw 147 rfl)) (by decide) (t := .int) (t' := .long) (by decide +kernel) (by decide +kernel))))
  have f14 := (p22_.other Wh10 (Or.inr (slot_ne (C := "com/example/dispersa/dispersa/internal/LayoutTable") (Or.inl (wd hw 76 rfl)) (Or.inl (wd hw 147 rfl)) (by decide) (t := .int) (t' := .long) (by decide +kernel) (by decide +kernel))))
  have f15 := (p24_.other Wh10 (Or.inr (slot_ne (C := "com/example/dispersa/dispersa/internal/LayoutTable") (Or.inl (wd hw 149 rfl)) (Or.inl (wd hw 147 rfl)) (by decide) (t := .int) (t' := .long) (by decide +kernel) (by decide +kernel))))
  have f16 := (p25_.other Wh10 (Or.inr (slot_ne (C := "com/example/dispersa/dispersa/internal/LayoutTable") (Or.inr (wd hw 79 rfl)) (Or.inl (wd hw 147 rfl)) (by decide) (t := (.array .int)) (t' := .long) (by decide +kernel) (by decide +kernel))))
  have f17 := (p26_.other Wh10 (Or.inr (slot_ne (C := "com/example/dispersa/dispersa/internal/LayoutTable") (Or.inl (wd hw 210 rfl)) (Or.inl (wd hw 147 rfl)) (by decide) (t := .boolean) (t' := .long) (by decide +kernel) (by decide +kernel))))
  exact ⟨(pr + ((2 : Int32).toInt64)), rfl, f1, f2, f3, f4, f5, f6, f7, f8, f9, f10, f11, f12, f13, f14, (p23_.same Wh10), f15, f16, f17⟩
set_option maxRecDepth 65536 in
set_option maxHeartbeats 40000000 in
theorem loN (l : Launch) (Z : State) (a0 : Array Value) (hw : ∀ d ∈ tables_1, d.before a0 Z = true) (t : Addr) (lin : Addr) (m : Int32) (mk : Int32) (mu : Int32) (re : Int32) (pr : Int64) (po : Int32) (ka : Addr) (kl : ClassId) (ks : List Value) (ky : Int32) (kv : Int32) (h : Heap) (n0 : Nat) (p0_ : Old Z n0 h) (p1_ : Sta Z Z.heap "com/example/dispersa/dispersa/internal/ProbeSequence" "LINEAR" "Lcom/example/dispersa/dispersa/internal/ProbeSequence;" (.ref lin)) (p2_ : Exa Z Z.heap lin "com/example/dispersa/dispersa/internal/ProbeSequence") (p3_ : Fld Z Z.heap lin "java/lang/Enum" "ordinal" "I" (.int (0 : Int32))) (p4_ : Fld Z Z.heap lin "com/example/dispersa/dispersa/internal/ProbeSequence" "hashedStep" "Z" (.int (0 : Int32))) (p5_ : Fld Z Z.heap lin "com/example/dispersa/dispersa/internal/ProbeSequence" "growth" "I" (.int (0 : Int32))) (p6_ : Exa Z h t "com/example/dispersa/dispersa/internal/LayoutTable") (p7_ : n0 ≤ t) (hm : 2 ≤ m.toInt ∧ m.toInt ≤ 5) (hmk : own_mk m mk) (hky : 0 ≤ ky.toInt) (p11_ : Fld Z h t "com/example/dispersa/dispersa/internal/SlotTable" "probing" "Lcom/example/dispersa/dispersa/internal/ProbeSequence;" (.ref lin)) (p12_ : Fld Z h t "com/example/dispersa/dispersa/internal/SlotTable" "bounded" "Z" (.int (0 : Int32))) (p13_ : Fld Z h t "com/example/dispersa/dispersa/internal/SlotTable" "marksHomes" "Z" (.int (0 : Int32))) (p14_ : Fld Z h t "com/example/dispersa/dispersa/internal/SlotTable" "ordersRuns" "Z" (.int (0 : Int32))) (p15_ : Fld Z h t "com/example/dispersa/dispersa/internal/SlotTable" "counting" "Z" (.int (1 : Int32))) (p16_ : Fld Z h t "com/example/dispersa/dispersa/internal/SlotTable" "stopsAtReach" "Z" (.int (0 : Int32))) (p17_ : Fld Z h t "com/example/dispersa/dispersa/internal/SlotTable" "length" "I" (.int m)) (p18_ : Fld Z h t "com/example/dispersa/dispersa/internal/SlotTable" "mask" "I" (.int mk)) (p19_ : Fld Z h t "com/example/dispersa/dispersa/internal/SlotTable" "linear" "Z" (.int (0 : Int32))) (p20_ : Fld Z h t "com/example/dispersa/dispersa/internal/SlotTable" "goesOn" "Z" (.int (0 : Int32))) (p21_ : Fld Z h t "com/example/dispersa/dispersa/internal/SlotTable" "markers" "I" (.int mu)) (p22_ : Fld Z h t "com/example/dispersa/dispersa/internal/SlotTable" "reach" "I" (.int re)) (p23_ : Fld Z h t "com/example/dispersa/dispersa/internal/SlotTable" "probes" "J" (.long pr)) (p24_ : Fld Z h t "com/example/dispersa/dispersa/internal/SlotTable" "position" "I" (.int po)) (p25_ : Fld Z h t "com/example/dispersa/dispersa/internal/LayoutTable" "keys" "[I" (.ref ka)) (p26_ : Fld Z h t "com/example/dispersa/dispersa/internal/LayoutTable" "turnedAway" "Z" (.int (0 : Int32))) (p27_ : Ary Z h ka kl .int ks) (hh0 : ¬ (ky % m) < (0 : Int32)) (hkv : ks[(ky % m).toNatClampNeg]? = some (.int kv)) (hkv0 : 0 ≤ kv.toInt) (hne : ¬ kv = ky) (hn0 : ¬ (own_adv (ky % m) (1 : Int32) m) < (0 : Int32)) (hnv : ks[(own_adv (ky % m) (1 : Int32) m).toNatClampNeg]? = some (.int ky)) :
    Met l (⟨"com/example/dispersa/dispersa/internal/SlotTable", "locate", "(JLjava/lang/Object;)I"⟩ : MethodName) prog_109_method_30_code 4 (some .int) [] ({ frames := 5, cells := 0, slots := 0, locals := 110 } : Room) #[(.ref t), (.long (own_hash ky)), .null] Z h n0 (fun v h' => ∃ (pr2 : Int64), v = some (.int (own_adv (ky % m) (1 : Int32) m)) ∧ Keep h h' [t] ∧ Exa Z h' t "com/example/dispersa/dispersa/internal/LayoutTable" ∧ Fld Z h' t "com/example/dispersa/dispersa/internal/SlotTable" "probing" "Lcom/example/dispersa/dispersa/internal/ProbeSequence;" (.ref lin) ∧ Fld Z h' t "com/example/dispersa/dispersa/internal/SlotTable" "bounded" "Z" (.int (0 : Int32)) ∧ Fld Z h' t "com/example/dispersa/dispersa/internal/SlotTable" "marksHomes" "Z" (.int (0 : Int32)) ∧ Fld Z h' t "com/example/dispersa/dispersa/internal/SlotTable" "ordersRuns" "Z" (.int (0 : Int32)) ∧ Fld Z h' t "com/example/dispersa/dispersa/internal/SlotTable" "counting" "Z" (.int (1 : Int32)) ∧ Fld Z h' t "com/example/dispersa/dispersa/internal/SlotTable" "stopsAtReach" "Z" (.int (0 : Int32)) ∧ Fld Z h' t "com/example/dispersa/dispersa/internal/SlotTable" "length" "I" (.int m) ∧ Fld Z h' t "com/example/dispersa/dispersa/internal/SlotTable" "mask" "I" (.int mk) ∧ Fld Z h' t "com/example/dispersa/dispersa/internal/SlotTable" "linear" "Z" (.int (0 : Int32)) ∧ Fld Z h' t "com/example/dispersa/dispersa/internal/SlotTable" "goesOn" "Z" (.int (0 : Int32)) ∧ Fld Z h' t "com/example/dispersa/dispersa/internal/SlotTable" "markers" "I" (.int mu) ∧ Fld Z h' t "com/example/dispersa/dispersa/internal/SlotTable" "reach" "I" (.int re) ∧ Fld Z h' t "com/example/dispersa/dispersa/internal/SlotTable" "probes" "J" (.long pr2) ∧ Fld Z h' t "com/example/dispersa/dispersa/internal/SlotTable" "position" "I" (.int po) ∧ Fld Z h' t "com/example/dispersa/dispersa/internal/LayoutTable" "keys" "[I" (.ref ka) ∧ Fld Z h' t "com/example/dispersa/dispersa/internal/LayoutTable" "turnedAway" "Z" (.int (0 : Int32))) := by
  refine Met.of (plainFor_of_name (by first | (simp [plainName, overriddenIn]; done) | decide +kernel)) ?_
  intro pP eE sS mM bB tT cC K
  refine Go.entry (ls := #[.val (.ref t), .val (.long (own_hash ky)), .second, .val .null]) (by first | (simp [argsToLocals, Value.category]; done) | rfl) ?_
  refine go_aloadN (q := 1) K dloc_0 rfl rfl rfl ?_
  refine go_getF (q := 4) K (wd hw 65 rfl) Via.refl p19_ dloc_1 rfl ?_
  refine go_if0 (q := 30) (q' := 7) K dloc_4 (by decide) rfl rfl (fun _ => ?_) (fun hn => cN_no2 hn (show (0 : Int32) = (0 : Int32) from (by decide)))
  refine go_aloadN (q := 31) K dloc_30 rfl rfl rfl ?_
  refine go_lloadN (q := 32) K dloc_31 rfl rfl ?_
  refine go_aloadN (q := 33) K dloc_32 rfl rfl rfl ?_
  refine go_callP (q := 36) (W := 0) K (wd hw 189 rfl) (wd hw 191 rfl) (wd hw 36 rfl) rfl (wd hw 190 rfl) (wd hw 13 rfl) (wd hw 192 rfl) p6_ [(.long (own_hash ky)), .null] [] (laN l Z a0 hw _ _ _ _ _ _ _ _ _ _ _ _ _ _ n0 p0_ p1_ p2_ p3_ p4_ p5_ p6_ p7_ hm hmk hky p11_ p12_ p13_ p14_ p15_ p16_ p17_ p18_ p19_ p20_ p21_ p22_ p23_ p24_ p25_ p26_ p27_ hh0 hkv hkv0 hne hn0 hnv) dloc_33 (ps := [.long, (.object "java/lang/Object")]) (by decide +kernel) rfl rfl rfl (by decide) rfl (by decide) (by decide) (by decide) (by decide) rfl ?_
  rintro _ h1 ⟨pr2h1, rfl, Kh1, q0h1, q1h1, q2h1, q3h1, q4h1, q5h1, q6h1, q7h1, q8h1, q9h1, q10h1, q11h1, q12h1, q13h1, q14h1, q15h1, q16h1⟩
  show Go pP l eE _ sS mM _ bB tT cC n0 _ h1 0 0 (mkF mM 36 #[.val (.ref t), .val (.long (own_hash ky)), .second, .val .null] [(.int (own_adv (ky % m) (1 : Int32) m))])
  refine go_iret K dloc_36 rfl (Or.inl rfl) rfl (by decide) (by decide) ?_
  have f1 := ((Keep.refl h [t]).trans Kh1 (allS (Or.inl (by simp)) all0))
  exact ⟨pr2h1, rfl, f1, q0h1, q1h1, q2h1, q3h1, q4h1, q5h1, q6h1, q7h1, q8h1, q9h1, q10h1, q11h1, q12h1, q13h1, q14h1, q15h1, q16h1⟩
set_option maxRecDepth 65536 in
set_option maxHeartbeats 40000000 in
theorem seN (l : Launch) (Z : State) (a0 : Array Value) (hw : ∀ d ∈ tables_1, d.before a0 Z = true) (t : Addr) (lin : Addr) (m : Int32) (mk : Int32) (mu : Int32) (re : Int32) (pr : Int64) (po : Int32) (ka : Addr) (kl : ClassId) (ks : List Value) (ky : Int32) (kv : Int32) (h : Heap) (n0 : Nat) (p0_ : Old Z n0 h) (p1_ : Sta Z Z.heap "com/example/dispersa/dispersa/internal/ProbeSequence" "LINEAR" "Lcom/example/dispersa/dispersa/internal/ProbeSequence;" (.ref lin)) (p2_ : Exa Z Z.heap lin "com/example/dispersa/dispersa/internal/ProbeSequence") (p3_ : Fld Z Z.heap lin "java/lang/Enum" "ordinal" "I" (.int (0 : Int32))) (p4_ : Fld Z Z.heap lin "com/example/dispersa/dispersa/internal/ProbeSequence" "hashedStep" "Z" (.int (0 : Int32))) (p5_ : Fld Z Z.heap lin "com/example/dispersa/dispersa/internal/ProbeSequence" "growth" "I" (.int (0 : Int32))) (p6_ : Exa Z h t "com/example/dispersa/dispersa/internal/LayoutTable") (p7_ : n0 ≤ t) (hm : 2 ≤ m.toInt ∧ m.toInt ≤ 5) (hmk : own_mk m mk) (hky : 0 ≤ ky.toInt) (p11_ : Fld Z h t "com/example/dispersa/dispersa/internal/SlotTable" "probing" "Lcom/example/dispersa/dispersa/internal/ProbeSequence;" (.ref lin)) (p12_ : Fld Z h t "com/example/dispersa/dispersa/internal/SlotTable" "bounded" "Z" (.int (0 : Int32))) (p13_ : Fld Z h t "com/example/dispersa/dispersa/internal/SlotTable" "marksHomes" "Z" (.int (0 : Int32))) (p14_ : Fld Z h t "com/example/dispersa/dispersa/internal/SlotTable" "ordersRuns" "Z" (.int (0 : Int32))) (p15_ : Fld Z h t "com/example/dispersa/dispersa/internal/SlotTable" "counting" "Z" (.int (1 : Int32))) (p16_ : Fld Z h t "com/example/dispersa/dispersa/internal/SlotTable" "stopsAtReach" "Z" (.int (0 : Int32))) (p17_ : Fld Z h t "com/example/dispersa/dispersa/internal/SlotTable" "length" "I" (.int m)) (p18_ : Fld Z h t "com/example/dispersa/dispersa/internal/SlotTable" "mask" "I" (.int mk)) (p19_ : Fld Z h t "com/example/dispersa/dispersa/internal/SlotTable" "linear" "Z" (.int (0 : Int32))) (p20_ : Fld Z h t "com/example/dispersa/dispersa/internal/SlotTable" "goesOn" "Z" (.int (0 : Int32))) (p21_ : Fld Z h t "com/example/dispersa/dispersa/internal/SlotTable" "markers" "I" (.int mu)) (p22_ : Fld Z h t "com/example/dispersa/dispersa/internal/SlotTable" "reach" "I" (.int re)) (p23_ : Fld Z h t "com/example/dispersa/dispersa/internal/SlotTable" "probes" "J" (.long pr)) (p24_ : Fld Z h t "com/example/dispersa/dispersa/internal/SlotTable" "position" "I" (.int po)) (p25_ : Fld Z h t "com/example/dispersa/dispersa/internal/LayoutTable" "keys" "[I" (.ref ka)) (p26_ : Fld Z h t "com/example/dispersa/dispersa/internal/LayoutTable" "turnedAway" "Z" (.int (0 : Int32))) (p27_ : Ary Z h ka kl .int ks) (hh0 : ¬ (ky % m) < (0 : Int32)) (hkv : ks[(ky % m).toNatClampNeg]? = some (.int kv)) (hkv0 : 0 ≤ kv.toInt) (hne : ¬ kv = ky) (hn0 : ¬ (own_adv (ky % m) (1 : Int32) m) < (0 : Int32)) (hnv : ks[(own_adv (ky % m) (1 : Int32) m).toNatClampNeg]? = some (.int ky)) :
    Met l (⟨"com/example/dispersa/dispersa/internal/LayoutTable", "search", "(I)I"⟩ : MethodName) prog_86_method_4_code 3 (some .int) [] ({ frames := 6, cells := 0, slots := 0, locals := 140 } : Room) #[(.ref t), (.int ky)] Z h n0 (fun v h' => ∃ (pr2 : Int64), v = some (.int (own_adv (ky % m) (1 : Int32) m)) ∧ Keep h h' [t] ∧ Exa Z h' t "com/example/dispersa/dispersa/internal/LayoutTable" ∧ Fld Z h' t "com/example/dispersa/dispersa/internal/SlotTable" "probing" "Lcom/example/dispersa/dispersa/internal/ProbeSequence;" (.ref lin) ∧ Fld Z h' t "com/example/dispersa/dispersa/internal/SlotTable" "bounded" "Z" (.int (0 : Int32)) ∧ Fld Z h' t "com/example/dispersa/dispersa/internal/SlotTable" "marksHomes" "Z" (.int (0 : Int32)) ∧ Fld Z h' t "com/example/dispersa/dispersa/internal/SlotTable" "ordersRuns" "Z" (.int (0 : Int32)) ∧ Fld Z h' t "com/example/dispersa/dispersa/internal/SlotTable" "counting" "Z" (.int (1 : Int32)) ∧ Fld Z h' t "com/example/dispersa/dispersa/internal/SlotTable" "stopsAtReach" "Z" (.int (0 : Int32)) ∧ Fld Z h' t "com/example/dispersa/dispersa/internal/SlotTable" "length" "I" (.int m) ∧ Fld Z h' t "com/example/dispersa/dispersa/internal/SlotTable" "mask" "I" (.int mk) ∧ Fld Z h' t "com/example/dispersa/dispersa/internal/SlotTable" "linear" "Z" (.int (0 : Int32)) ∧ Fld Z h' t "com/example/dispersa/dispersa/internal/SlotTable" "goesOn" "Z" (.int (0 : Int32)) ∧ Fld Z h' t "com/example/dispersa/dispersa/internal/SlotTable" "markers" "I" (.int mu) ∧ Fld Z h' t "com/example/dispersa/dispersa/internal/SlotTable" "reach" "I" (.int re) ∧ Fld Z h' t "com/example/dispersa/dispersa/internal/SlotTable" "probes" "J" (.long pr2) ∧ Fld Z h' t "com/example/dispersa/dispersa/internal/SlotTable" "position" "I" (.int po) ∧ Fld Z h' t "com/example/dispersa/dispersa/internal/LayoutTable" "keys" "[I" (.ref ka) ∧ Fld Z h' t "com/example/dispersa/dispersa/internal/LayoutTable" "turnedAway" "Z" (.int (0 : Int32))) := by
  refine Met.of (plainFor_of_name (by first | (simp [plainName, overriddenIn]; done) | decide +kernel)) ?_
  intro pP eE sS mM bB tT cC K
  refine Go.entry (ls := #[.val (.ref t), .val (.int ky), .unset]) (by first | (simp [argsToLocals, Value.category]; done) | rfl) ?_
  refine go_aloadN (q := 1) K dsea_0 rfl rfl rfl ?_
  refine go_iloadN (q := 2) K dsea_1 rfl rfl ?_
  refine go_callS (q := 5) (W := 1) K (wd hw 89 rfl) (wd hw 90 rfl) (wd hw 3 rfl) (wd hw 91 rfl) [(.int ky)] [(.ref t)] (hash l Z a0 hw _ _ n0 ) dsea_2 (ps := [.int]) (by decide +kernel) rfl rfl rfl (by decide) rfl (by decide) (by decide) (by decide) (by decide) rfl ?_
  rintro _ _ ⟨rfl, rfl⟩
  show Go pP l eE _ sS mM _ bB tT cC n0 _ h 0 0 (mkF mM 5 #[.val (.ref t), .val (.int ky), .unset] [(.long (own_hash ky)), (.ref t)])
  refine go_aconst_null (q := 6) K dsea_5 rfl ?_
  refine go_callU (q := 9) (W := 0) (ow := "com/example/dispersa/dispersa/internal/SlotTable") K (wd hw 183 rfl) (wd hw 185 rfl) (wd hw 187 rfl) (wd hw 186 rfl) (wd hw 13 rfl) (wd hw 188 rfl) (wd hw 184 rfl) p6_ [(.long (own_hash ky)), .null] [] (loN l Z a0 hw _ _ _ _ _ _ _ _ _ _ _ _ _ _ n0 p0_ p1_ p2_ p3_ p4_ p5_ p6_ p7_ hm hmk hky p11_ p12_ p13_ p14_ p15_ p16_ p17_ p18_ p19_ p20_ p21_ p22_ p23_ p24_ p25_ p26_ p27_ hh0 hkv hkv0 hne hn0 hnv) dsea_6 (ps := [.long, (.object "java/lang/Object")]) (by decide +kernel) rfl rfl rfl (by decide) rfl (by decide) (by decide) (by decide) (by decide) rfl ?_
  rintro _ h2 ⟨pr2h2, rfl, Kh2, q0h2, q1h2, q2h2, q3h2, q4h2, q5h2, q6h2, q7h2, q8h2, q9h2, q10h2, q11h2, q12h2, q13h2, q14h2, q15h2, q16h2⟩
  show Go pP l eE _ sS mM _ bB tT cC n0 _ h2 0 0 (mkF mM 9 #[.val (.ref t), .val (.int ky), .unset] [(.int (own_adv (ky % m) (1 : Int32) m))])
  refine go_istoreN (q := 10) K dsea_9 #[.val (.ref t), .val (.int ky), .val (.int (own_adv (ky % m) (1 : Int32) m))] rfl rfl ?_
  refine go_iloadN (q := 11) K dsea_10 rfl rfl ?_
  refine go_if0 (q := 18) (q' := 14) K dsea_11 (by decide) rfl rfl (fun hn => cN_no hn (show ¬ (own_adv (ky % m) (1 : Int32) m) < (0 : Int32) from hn0)) (fun _ => ?_)
  refine go_iloadN (q := 15) K dsea_14 rfl rfl ?_
  refine go_goto (q := 19) K dsea_15 (by decide) rfl ?_
  refine go_iret K dsea_19 rfl (Or.inl rfl) rfl (by decide) (by decide) ?_
  have f1 := ((Keep.refl h [t]).trans Kh2 (allS (Or.inl (by simp)) all0))
  exact ⟨pr2h2, rfl, f1, q0h2, q1h2, q2h2, q3h2, q4h2, q5h2, q6h2, q7h2, q8h2, q9h2, q10h2, q11h2, q12h2, q13h2, q14h2, q15h2, q16h2⟩
set_option maxRecDepth 65536 in
set_option maxHeartbeats 40000000 in
theorem laM (l : Launch) (Z : State) (a0 : Array Value) (hw : ∀ d ∈ tables_1, d.before a0 Z = true) (t : Addr) (lin : Addr) (m : Int32) (mk : Int32) (mu : Int32) (re : Int32) (pr : Int64) (po : Int32) (ka : Addr) (kl : ClassId) (ks : List Value) (ky : Int32) (h : Heap) (n0 : Nat) (p0_ : Old Z n0 h) (p1_ : Sta Z Z.heap "com/example/dispersa/dispersa/internal/ProbeSequence" "LINEAR" "Lcom/example/dispersa/dispersa/internal/ProbeSequence;" (.ref lin)) (p2_ : Exa Z Z.heap lin "com/example/dispersa/dispersa/internal/ProbeSequence") (p3_ : Fld Z Z.heap lin "java/lang/Enum" "ordinal" "I" (.int (0 : Int32))) (p4_ : Fld Z Z.heap lin "com/example/dispersa/dispersa/internal/ProbeSequence" "hashedStep" "Z" (.int (0 : Int32))) (p5_ : Fld Z Z.heap lin "com/example/dispersa/dispersa/internal/ProbeSequence" "growth" "I" (.int (0 : Int32))) (p6_ : Exa Z h t "com/example/dispersa/dispersa/internal/LayoutTable") (p7_ : n0 ≤ t) (hm : 2 ≤ m.toInt ∧ m.toInt ≤ 5) (hmk : own_mk m mk) (hky : 0 ≤ ky.toInt) (p11_ : Fld Z h t "com/example/dispersa/dispersa/internal/SlotTable" "probing" "Lcom/example/dispersa/dispersa/internal/ProbeSequence;" (.ref lin)) (p12_ : Fld Z h t "com/example/dispersa/dispersa/internal/SlotTable" "bounded" "Z" (.int (0 : Int32))) (p13_ : Fld Z h t "com/example/dispersa/dispersa/internal/SlotTable" "marksHomes" "Z" (.int (0 : Int32))) (p14_ : Fld Z h t "com/example/dispersa/dispersa/internal/SlotTable" "ordersRuns" "Z" (.int (0 : Int32))) (p15_ : Fld Z h t "com/example/dispersa/dispersa/internal/SlotTable" "counting" "Z" (.int (1 : Int32))) (p16_ : Fld Z h t "com/example/dispersa/dispersa/internal/SlotTable" "stopsAtReach" "Z" (.int (0 : Int32))) (p17_ : Fld Z h t "com/example/dispersa/dispersa/internal/SlotTable" "length" "I" (.int m)) (p18_ : Fld Z h t "com/example/dispersa/dispersa/internal/SlotTable" "mask" "I" (.int mk)) (p19_ : Fld Z h t "com/example/dispersa/dispersa/internal/SlotTable" "linear" "Z" (.int (0 : Int32))) (p20_ : Fld Z h t "com/example/dispersa/dispersa/internal/SlotTable" "goesOn" "Z" (.int (0 : Int32))) (p21_ : Fld Z h t "com/example/dispersa/dispersa/internal/SlotTable" "markers" "I" (.int mu)) (p22_ : Fld Z h t "com/example/dispersa/dispersa/internal/SlotTable" "reach" "I" (.int re)) (p23_ : Fld Z h t "com/example/dispersa/dispersa/internal/SlotTable" "probes" "J" (.long pr)) (p24_ : Fld Z h t "com/example/dispersa/dispersa/internal/SlotTable" "position" "I" (.int po)) (p25_ : Fld Z h t "com/example/dispersa/dispersa/internal/LayoutTable" "keys" "[I" (.ref ka)) (p26_ : Fld Z h t "com/example/dispersa/dispersa/internal/LayoutTable" "turnedAway" "Z" (.int (0 : Int32))) (p27_ : Ary Z h ka kl .int ks) (hh0 : ¬ (ky % m) < (0 : Int32)) (hkv : ks[(ky % m).toNatClampNeg]? = some (.int (-2))) (hne : ¬ (-2 : Int32) = ky) (hn0 : ¬ (own_adv (ky % m) (1 : Int32) m) < (0 : Int32)) (hnv : ks[(own_adv (ky % m) (1 : Int32) m).toNatClampNeg]? = some (.int ky)) :
    Met l (⟨"com/example/dispersa/dispersa/internal/SlotTable", "locateAlong", "(JLjava/lang/Object;)I"⟩ : MethodName) prog_109_method_31_code 10 (some .int) [] ({ frames := 4, cells := 0, slots := 0, locals := 80 } : Room) #[(.ref t), (.long (own_hash ky)), .null] Z h n0 (fun v h' => ∃ (pr2 : Int64), v = some (.int (own_adv (ky % m) (1 : Int32) m)) ∧ Keep h h' [t] ∧ Exa Z h' t "com/example/dispersa/dispersa/internal/LayoutTable" ∧ Fld Z h' t "com/example/dispersa/dispersa/internal/SlotTable" "probing" "Lcom/example/dispersa/dispersa/internal/ProbeSequence;" (.ref lin) ∧ Fld Z h' t "com/example/dispersa/dispersa/internal/SlotTable" "bounded" "Z" (.int (0 : Int32)) ∧ Fld Z h' t "com/example/dispersa/dispersa/internal/SlotTable" "marksHomes" "Z" (.int (0 : Int32)) ∧ Fld Z h' t "com/example/dispersa/dispersa/internal/SlotTable" "ordersRuns" "Z" (.int (0 : Int32)) ∧ Fld Z h' t "com/example/dispersa/dispersa/internal/SlotTable" "counting" "Z" (.int (1 : Int32)) ∧ Fld Z h' t "com/example/dispersa/dispersa/internal/SlotTable" "stopsAtReach" "Z" (.int (0 : Int32)) ∧ Fld Z h' t "com/example/dispersa/dispersa/internal/SlotTable" "length" "I" (.int m) ∧ Fld Z h' t "com/example/dispersa/dispersa/internal/SlotTable" "mask" "I" (.int mk) ∧ Fld Z h' t "com/example/dispersa/dispersa/internal/SlotTable" "linear" "Z" (.int (0 : Int32)) ∧ Fld Z h' t "com/example/dispersa/dispersa/internal/SlotTable" "goesOn" "Z" (.int (0 : Int32)) ∧ Fld Z h' t "com/example/dispersa/dispersa/internal/SlotTable" "markers" "I" (.int mu) ∧ Fld Z h' t "com/example/dispersa/dispersa/internal/SlotTable" "reach" "I" (.int re) ∧ Fld Z h' t "com/example/dispersa/dispersa/internal/SlotTable" "probes" "J" (.long pr2) ∧ Fld Z h' t "com/example/dispersa/dispersa/internal/SlotTable" "position" "I" (.int po) ∧ Fld Z h' t "com/example/dispersa/dispersa/internal/LayoutTable" "keys" "[I" (.ref ka) ∧ Fld Z h' t "com/example/dispersa/dispersa/internal/LayoutTable" "turnedAway" "Z" (.int (0 : Int32))) := by
  refine Met.of (plainFor_of_name (by first | (simp [plainName, overriddenIn]; done) | decide +kernel)) ?_
  intro pP eE sS mM bB tT cC K
  refine Go.entry (ls := #[.val (.ref t), .val (.long (own_hash ky)), .second, .val .null, .unset, .unset, .unset, .unset, .unset, .unset]) (by first | (simp [argsToLocals, Value.category]; done) | rfl) ?_
  refine go_aloadN (q := 1) K dla_0 rfl rfl rfl ?_
  refine go_getF (q := 4) K (wd hw 53 rfl) Via.refl p17_ dla_1 rfl ?_
  refine go_istore (q := 6) K dla_4 #[.val (.ref t), .val (.long (own_hash ky)), .second, .val .null, .val (.int m), .unset, .unset, .unset, .unset, .unset] rfl rfl ?_
  refine go_aloadN (q := 7) K dla_6 rfl rfl rfl ?_
  refine go_lloadN (q := 8) K dla_7 rfl rfl ?_
  refine go_callV (q := 11) (W := 0) K (wd hw 98 rfl) (wd hw 99 rfl) (wd hw 101 rfl) (wd hw 100 rfl) (wd hw 13 rfl) (wd hw 102 rfl) (wd hw 36 rfl) rfl p6_ [(.long (own_hash ky))] [] (home l Z a0 hw _ _ _ _ _ n0 p18_ p17_ hky hm hmk) dla_8 (ps := [.long]) (by decide +kernel) rfl rfl rfl (by decide) rfl (by decide) (by decide) (by decide) (by decide) rfl ?_
  rintro _ _ ⟨rfl, rfl⟩
  show Go pP l eE _ sS mM _ bB tT cC n0 _ h 0 0 (mkF mM 11 #[.val (.ref t), .val (.long (own_hash ky)), .second, .val .null, .val (.int m), .unset, .unset, .unset, .unset, .unset] [(.int (ky % m))])
  refine go_istore (q := 13) K dla_11 #[.val (.ref t), .val (.long (own_hash ky)), .second, .val .null, .val (.int m), .val (.int (ky % m)), .unset, .unset, .unset, .unset] rfl rfl ?_
  refine go_aloadN (q := 14) K dla_13 rfl rfl rfl ?_
  refine go_getF (q := 17) K (wd hw 21 rfl) Via.refl p11_ dla_14 rfl ?_
  refine go_lloadN (q := 18) K dla_17 rfl rfl ?_
  refine go_iload (q := 20) K dla_18 rfl rfl ?_
  refine go_callV (q := 23) (W := 0) K (wd hw 113 rfl) (wd hw 114 rfl) (wd hw 116 rfl) (wd hw 115 rfl) (wd hw 5 rfl) (wd hw 117 rfl) (wd hw 41 rfl) rfl (p2_.ext p0_.2) [(.long (own_hash ky)), (.int m)] [] (stepP l Z a0 hw _ _ _ _ n0 p0_ p4_) dla_20 (ps := [.long, .int]) (by decide +kernel) rfl rfl rfl (by decide) rfl (by decide) (by decide) (by decide) (by decide) rfl ?_
  rintro _ _ ⟨rfl, rfl⟩
  show Go pP l eE _ sS mM _ bB tT cC n0 _ h 0 0 (mkF mM 23 #[.val (.ref t), .val (.long (own_hash ky)), .second, .val .null, .val (.int m), .val (.int (ky % m)), .unset, .unset, .unset, .unset] [(.int (1 : Int32))])
  refine go_istore (q := 25) K dla_23 #[.val (.ref t), .val (.long (own_hash ky)), .second, .val .null, .val (.int m), .val (.int (ky % m)), .val (.int (1 : Int32)), .unset, .unset, .unset] rfl rfl ?_
  refine go_aloadN (q := 26) K dla_25 rfl rfl rfl ?_
  refine go_getF (q := 29) K (wd hw 21 rfl) Via.refl p11_ dla_26 rfl ?_
  refine go_callV (q := 32) (W := 0) K (wd hw 120 rfl) (wd hw 121 rfl) (wd hw 123 rfl) (wd hw 122 rfl) (wd hw 5 rfl) (wd hw 124 rfl) (wd hw 41 rfl) rfl (p2_.ext p0_.2) [] [] (growth l Z a0 hw _ _ n0 p0_ p5_) dla_29 (ps := []) (by decide +kernel) rfl rfl rfl (by decide) rfl (by decide) (by decide) (by decide) (by decide) rfl ?_
  rintro _ _ ⟨rfl, rfl⟩
  show Go pP l eE _ sS mM _ bB tT cC n0 _ h 0 0 (mkF mM 32 #[.val (.ref t), .val (.long (own_hash ky)), .second, .val .null, .val (.int m), .val (.int (ky % m)), .val (.int (1 : Int32)), .unset, .unset, .unset] [(.int (0 : Int32))])
  refine go_istore (q := 34) K dla_32 #[.val (.ref t), .val (.long (own_hash ky)), .second, .val .null, .val (.int m), .val (.int (ky % m)), .val (.int (1 : Int32)), .val (.int (0 : Int32)), .unset, .unset] rfl rfl ?_
  refine go_aloadN (q := 35) K dla_34 rfl rfl rfl ?_
  refine go_callP (q := 38) (W := 0) K (wd hw 127 rfl) (wd hw 129 rfl) (wd hw 36 rfl) rfl (wd hw 128 rfl) (wd hw 13 rfl) (wd hw 130 rfl) p6_ [] [] (compd l Z a0 hw _ _ _ n0 p12_ p17_) dla_35 (ps := []) (by decide +kernel) rfl rfl rfl (by decide) rfl (by decide) (by decide) (by decide) (by decide) rfl ?_
  rintro _ _ ⟨rfl, rfl⟩
  show Go pP l eE _ sS mM _ bB tT cC n0 _ h 0 0 (mkF mM 38 #[.val (.ref t), .val (.long (own_hash ky)), .second, .val .null, .val (.int m), .val (.int (ky % m)), .val (.int (1 : Int32)), .val (.int (0 : Int32)), .unset, .unset] [(.int m)])
  refine go_istore (q := 40) K dla_38 #[.val (.ref t), .val (.long (own_hash ky)), .second, .val .null, .val (.int m), .val (.int (ky % m)), .val (.int (1 : Int32)), .val (.int (0 : Int32)), .val (.int m), .unset] rfl rfl ?_
  refine go_iconst (q := 41) K dla_40 (0 : Int32) rfl rfl ?_
  refine go_istore (q := 43) K dla_41 #[.val (.ref t), .val (.long (own_hash ky)), .second, .val .null, .val (.int m), .val (.int (ky % m)), .val (.int (1 : Int32)), .val (.int (0 : Int32)), .val (.int m), .val (.int (0 : Int32))] rfl rfl ?_
  refine go_iload (q := 45) K dla_43 rfl rfl ?_
  refine go_iload (q := 47) K dla_45 rfl rfl ?_
  refine go_icmp (q := 56) (q' := 50) K dla_47 (by decide) rfl rfl (fun _ => ?_) (fun hn => cN_no2 hn (show ¬ (0 : Int32) = m from (own_m0 hm).1))
  refine go_iinc (q := 59) K dla_56 (1 : Int32) #[.val (.ref t), .val (.long (own_hash ky)), .second, .val .null, .val (.int m), .val (.int (ky % m)), .val (.int (1 : Int32)), .val (.int (0 : Int32)), .val (.int m), .val (.int (1 : Int32))] rfl rfl rfl rfl ?_
  refine go_aloadN (q := 60) K dla_59 rfl rfl rfl ?_
  refine go_iload (q := 62) K dla_60 rfl rfl ?_
  refine go_lloadN (q := 63) K dla_62 rfl rfl ?_
  refine go_aloadN (q := 64) K dla_63 rfl rfl rfl ?_
  refine go_iconst (q := 65) K dla_64 (0 : Int32) rfl rfl ?_
  refine go_callV (q := 68) (W := 0) K (wd hw 132 rfl) (wd hw 133 rfl) (wd hw 134 rfl) (wd hw 135 rfl) (wd hw 3 rfl) (wd hw 136 rfl) (wd hw 36 rfl) rfl p6_ [(.int (ky % m)), (.long (own_hash ky)), .null, (.int (0 : Int32))] [] (holds l Z a0 hw _ _ _ _ _ _ _ _ _ n0 p25_ p27_ hh0 hkv) dla_65 (ps := [.int, .long, (.object "java/lang/Object"), .boolean]) (by decide +kernel) rfl rfl rfl (by decide) rfl (by decide) (by decide) (by decide) (by decide) rfl ?_
  rintro _ _ ⟨rfl, rfl⟩
  show Go pP l eE _ sS mM _ bB tT cC n0 _ h 0 0 (mkF mM 68 #[.val (.ref t), .val (.long (own_hash ky)), .second, .val .null, .val (.int m), .val (.int (ky % m)), .val (.int (1 : Int32)), .val (.int (0 : Int32)), .val (.int m), .val (.int (1 : Int32))] [(.int (own_eq (-2 : Int32) ky))])
  refine go_eqI (y := (0 : Int32)) (own_eq_no hne) ?_
  refine go_if0 (q := 74) (q' := 71) K dla_68 (by decide) rfl rfl (fun _ => ?_) (fun hn => cN_no2 hn (show (0 : Int32) = (0 : Int32) from (by decide)))
  refine go_aloadN (q := 75) K dla_74 rfl rfl rfl ?_
  refine go_iload (q := 77) K dla_75 rfl rfl ?_
  refine go_callV (q := 80) (W := 0) K (wd hw 204 rfl) (wd hw 205 rfl) (wd hw 207 rfl) (wd hw 206 rfl) (wd hw 13 rfl) (wd hw 208 rfl) (wd hw 36 rfl) rfl p6_ [(.int (ky % m))] [] (unused l Z a0 hw _ _ _ _ _ _ _ n0 p6_ p25_ p27_ hh0 hkv) dla_77 (ps := [.int]) (by decide +kernel) rfl rfl rfl (by decide) rfl (by decide) (by decide) (by decide) (by decide) rfl ?_
  rintro _ _ ⟨rfl, rfl⟩
  show Go pP l eE _ sS mM _ bB tT cC n0 _ h 0 0 (mkF mM 80 #[.val (.ref t), .val (.long (own_hash ky)), .second, .val .null, .val (.int m), .val (.int (ky % m)), .val (.int (1 : Int32)), .val (.int (0 : Int32)), .val (.int m), .val (.int (1 : Int32))] [(.int (own_un (-2 : Int32)))])
  refine go_eqI (y := (0 : Int32)) (by decide) ?_
  refine go_if0 (q := 89) (q' := 83) K dla_80 (by decide) rfl rfl (fun _ => ?_) (fun hn => cN_no2 hn (show (0 : Int32) = (0 : Int32) from (by decide)))
  refine go_iload (q := 91) K dla_89 rfl rfl ?_
  refine go_iload (q := 93) K dla_91 rfl rfl ?_
  refine go_iload (q := 95) K dla_93 rfl rfl ?_
  refine go_callS (q := 98) (W := 0) K (wd hw 167 rfl) (wd hw 168 rfl) (wd hw 13 rfl) (wd hw 169 rfl) [(.int (ky % m)), (.int (1 : Int32)), (.int m)] [] (adv l Z a0 hw _ _ _ _ n0 ) dla_95 (ps := [.int, .int, .int]) (by decide +kernel) rfl rfl rfl (by decide) rfl (by decide) (by decide) (by decide) (by decide) rfl ?_
  rintro _ _ ⟨rfl, rfl⟩
  show Go pP l eE _ sS mM _ bB tT cC n0 _ h 0 0 (mkF mM 98 #[.val (.ref t), .val (.long (own_hash ky)), .second, .val .null, .val (.int m), .val (.int (ky % m)), .val (.int (1 : Int32)), .val (.int (0 : Int32)), .val (.int m), .val (.int (1 : Int32))] [(.int (own_adv (ky % m) (1 : Int32) m))])
  refine go_istore (q := 100) K dla_98 #[.val (.ref t), .val (.long (own_hash ky)), .second, .val .null, .val (.int m), .val (.int (own_adv (ky % m) (1 : Int32) m)), .val (.int (1 : Int32)), .val (.int (0 : Int32)), .val (.int m), .val (.int (1 : Int32))] rfl rfl ?_
  refine go_iload (q := 102) K dla_100 rfl rfl ?_
  refine go_iload (q := 104) K dla_102 rfl rfl ?_
  refine go_iload (q := 106) K dla_104 rfl rfl ?_
  refine go_callS (q := 109) (W := 0) K (wd hw 167 rfl) (wd hw 168 rfl) (wd hw 13 rfl) (wd hw 169 rfl) [(.int (1 : Int32)), (.int (0 : Int32)), (.int m)] [] (adv l Z a0 hw _ _ _ _ n0 ) dla_106 (ps := [.int, .int, .int]) (by decide +kernel) rfl rfl rfl (by decide) rfl (by decide) (by decide) (by decide) (by decide) rfl ?_
  rintro _ _ ⟨rfl, rfl⟩
  show Go pP l eE _ sS mM _ bB tT cC n0 _ h 0 0 (mkF mM 109 #[.val (.ref t), .val (.long (own_hash ky)), .second, .val .null, .val (.int m), .val (.int (own_adv (ky % m) (1 : Int32) m)), .val (.int (1 : Int32)), .val (.int (0 : Int32)), .val (.int m), .val (.int (1 : Int32))] [(.int (own_adv (1 : Int32) (0 : Int32) m))])
  refine go_istore (q := 111) K dla_109 #[.val (.ref t), .val (.long (own_hash ky)), .second, .val .null, .val (.int m), .val (.int (own_adv (ky % m) (1 : Int32) m)), .val (.int (own_adv (1 : Int32) (0 : Int32) m)), .val (.int (0 : Int32)), .val (.int m), .val (.int (1 : Int32))] rfl rfl ?_
  refine go_goto (q := 43) K dla_111 (by decide) rfl ?_
  refine go_iload (q := 45) K dla_43 rfl rfl ?_
  refine go_iload (q := 47) K dla_45 rfl rfl ?_
  refine go_icmp (q := 56) (q' := 50) K dla_47 (by decide) rfl rfl (fun _ => ?_) (fun hn => cN_no2 hn (show ¬ (1 : Int32) = m from (own_m0 hm).2.1))
  refine go_iinc (q := 59) K dla_56 (1 : Int32) #[.val (.ref t), .val (.long (own_hash ky)), .second, .val .null, .val (.int m), .val (.int (own_adv (ky % m) (1 : Int32) m)), .val (.int (own_adv (1 : Int32) (0 : Int32) m)), .val (.int (0 : Int32)), .val (.int m), .val (.int (2 : Int32))] rfl rfl rfl rfl ?_
  refine go_aloadN (q := 60) K dla_59 rfl rfl rfl ?_
  refine go_iload (q := 62) K dla_60 rfl rfl ?_
  refine go_lloadN (q := 63) K dla_62 rfl rfl ?_
  refine go_aloadN (q := 64) K dla_63 rfl rfl rfl ?_
  refine go_iconst (q := 65) K dla_64 (0 : Int32) rfl rfl ?_
  refine go_callV (q := 68) (W := 0) K (wd hw 132 rfl) (wd hw 133 rfl) (wd hw 134 rfl) (wd hw 135 rfl) (wd hw 3 rfl) (wd hw 136 rfl) (wd hw 36 rfl) rfl p6_ [(.int (own_adv (ky % m) (1 : Int32) m)), (.long (own_hash ky)), .null, (.int (0 : Int32))] [] (holds l Z a0 hw _ _ _ _ _ _ _ _ _ n0 p25_ p27_ hn0 hnv) dla_65 (ps := [.int, .long, (.object "java/lang/Object"), .boolean]) (by decide +kernel) rfl rfl rfl (by decide) rfl (by decide) (by decide) (by decide) (by decide) rfl ?_
  rintro _ _ ⟨rfl, rfl⟩
  show Go pP l eE _ sS mM _ bB tT cC n0 _ h 0 0 (mkF mM 68 #[.val (.ref t), .val (.long (own_hash ky)), .second, .val .null, .val (.int m), .val (.int (own_adv (ky % m) (1 : Int32) m)), .val (.int (own_adv (1 : Int32) (0 : Int32) m)), .val (.int (0 : Int32)), .val (.int m), .val (.int (2 : Int32))] [(.int (own_eq ky ky))])
  refine go_eqI (y := (1 : Int32)) (own_eq_yes ky) ?_
  refine go_if0 (q := 74) (q' := 71) K dla_68 (by decide) rfl rfl (fun hn => cN_no hn (show ¬ (1 : Int32) = (0 : Int32) from (by decide))) (fun _ => ?_)
  refine go_goto (q := 114) K dla_71 (by decide) rfl ?_
  refine go_aloadN (q := 115) K dla_114 rfl rfl rfl ?_
  refine go_getF (q := 118) K (wd hw 29 rfl) Via.refl p15_ dla_115 rfl ?_
  refine go_if0 (q := 133) (q' := 121) K dla_118 (by decide) rfl rfl (fun hn => cN_no hn (show ¬ (1 : Int32) = (0 : Int32) from (by decide))) (fun _ => ?_)
  refine go_aloadN (q := 122) K dla_121 rfl rfl rfl ?_
  refine go_dup (q := 123) K dla_122 rfl rfl ?_
  refine go_getF (q := 126) K (wd hw 146 rfl) Via.refl p23_ dla_123 rfl ?_
  refine go_iload (q := 128) K dla_126 rfl rfl ?_
  refine go_i2l (q := 129) K dla_128 rfl ?_
  refine go_ladd (q := 130) K dla_129 rfl ?_
  refine go_putF (q := 133) K (wd hw 146 rfl) Via.refl p23_ p6_ (Or.inl (wd hw 147 rfl)) (wd hw 2 rfl) (ty := .long) (by decide +kernel) rfl rfl p7_ dla_130 rfl ?_
  intro h10 Wh10
  refine go_iload (q := 135) K dla_133 rfl rfl ?_
  refine go_iret K dla_135 rfl (Or.inl rfl) rfl (by decide) (by decide) ?_
  have f1 := ((Keep.refl h [t]).wr Wh10 (Or.inl (by simp)))
  have f2 := (p6_.wr Wh10)
  have f3 := (p11_.other Wh10 (Or.inr (slot_ne (C := "com/example/dispersa/dispersa/internal/LayoutTable") (Or.inr (wd hw 22 rfl)) (Or.inl (wd hw 147 rfl)) (by decide) (t := (.object "com/example/dispersa/dispersa/internal/ProbeSequence")) (t' := .long) (by decide +kernel) (by decide +kernel))))
  have f4 := (p12_.other Wh10 (Or.inr (slot_ne (C := "com/example/dispersa/dispersa/internal/LayoutTable") (Or.inr (wd hw 24 rfl)) (Or.inl (wd hw 147 rfl)) (by decide) (t := .boolean) (t' := .long) (by decide +kernel) (by decide +kernel))))
  have f5 := (p13_.other Wh10 (Or.inr (slot_ne (C := "com/example/dispersa/dispersa/internal/LayoutTable") (Or.inr (wd hw 26 rfl)) (Or.inl (wd hw 147 rfl)) (by decide) (t := .boolean) (t' := .long) (by decide +kernel) (by decide +kernel))))
  have f6 := (p14_.other Wh10 (Or.inr (slot_ne (C := "com/example/dispersa/dispersa/internal/LayoutTable") (Or.inr (wd hw 28 rfl)) (Or.inl (wd hw 147 rfl)) (by decide) (t := .boolean) (t' := .long) (by decide +kernel) (by decide +kernel))))
  have f7 := (p15_.other Wh10 (Or.inr (slot_ne (C := "com/example/dispersa/dispersa/internal/LayoutTable") (Or.inl (wd hw 30 rfl)) (Or.inl (wd hw 147 rfl)) (by decide) (t := .boolean) (t' := .long) (by decide +kernel) (by decide +kernel))))
  have f8 := (p16_.other Wh10 (Or.inr (slot_ne (C := "com/example/dispersa/dispersa/internal/LayoutTable") (Or.inl (wd hw 32 rfl)) (Or.inl (wd hw 147 rfl)) (by decide) (t := .boolean) (t' := .long) (by decide +kernel) (by decide +kernel))))
  have f9 := (p17_.other Wh10 (Or.inr (slot_ne (C := "com/example/dispersa/dispersa/internal/LayoutTable") (Or.inl (wd hw 54 rfl)) (Or.inl (wd hw 147 rfl)) (by decide) (t := .int) (t' := .long) (by decide +kernel) (by decide +kernel))))
  have f10 := (p18_.other Wh10 (Or.inr (slot_ne (C := "com/example/dispersa/dispersa/internal/LayoutTable") (Or.inl (wd hw 63 rfl)) (Or.inl (wd hw 147 rfl)) (by decide) (t := .int) (t' := .long) (by decide +kernel) (by decide +kernel))))
  have f11 := (p19_.other Wh10 (Or.inr (slot_ne (C := "com/example/dispersa/dispersa/internal/LayoutTable") (Or.inl (wd hw 66 rfl)) (Or.inl (wd hw 147 rfl)) (by decide) (t := .boolean) (t' := .long) (by decide +kernel) (by decide +kernel))))
  have f12 := (p20_.other Wh10 (Or.inr (slot_ne (C := "com/example/dispersa/dispersa/internal/LayoutTable") (Or.inl (wd hw 72 rfl)) (Or.inl (wd hw 147 rfl)) (by decide) (t := .boolean) (t' := .long) (by decide +kernel) (by decide +kernel))))
  have f13 := (p21_.other Wh10 (Or.inr (slot_ne (C := "com/example/dispersa/dispersa/internal/LayoutTable") (Or.inl (wd hw 74 rfl)) (Or.inl (wd hw 147 rfl)) (by decide) (t := .int) (t' := .long) (by decide +kernel) (by decide +kernel))))
  have f14 := (p22_.other Wh10 (Or.inr (slot_ne (C := "com/example/dispersa/dispersa/internal/LayoutTable") (Or.inl (wd hw 76 rfl)) (Or.inl (wd hw 147 rfl)) (by decide) (t := .int) (t' := .long) (by decide +kernel) (by decide +kernel))))
  have f15 := (p24_.other Wh10 (Or.inr (slot_ne (C := "com/example/dispersa/dispersa/internal/LayoutTable") (Or.inl (wd hw 149 rfl)) (Or.inl (wd hw 147 rfl)) (by decide) (t := .int) (t' := .long) (by decide +kernel) (by decide +kernel))))
  have f16 := (p25_.other Wh10 (Or.inr (slot_ne (C := "com/example/dispersa/dispersa/internal/LayoutTable") (Or.inr (wd hw 79 rfl)) (Or.inl (wd hw 147 rfl)) (by decide) (t := (.array .int)) (t' := .long) (by decide +kernel) (by decide +kernel))))
  have f17 := (p26_.other Wh10 (Or.inr (slot_ne (C := "com/example/dispersa/dispersa/internal/LayoutTable") (Or.inl (wd hw 210 rfl)) (Or.inl (wd hw 147 rfl)) (by decide) (t := .boolean) (t' := .long) (by decide +kernel) (by decide +kernel))))
  exact ⟨(pr + ((2 : Int32).toInt64)), rfl, f1, f2, f3, f4, f5, f6, f7, f8, f9, f10, f11, f12, f13, f14, (p23_.same Wh10), f15, f16, f17⟩
set_option maxRecDepth 65536 in
set_option maxHeartbeats 40000000 in
theorem loM (l : Launch) (Z : State) (a0 : Array Value) (hw : ∀ d ∈ tables_1, d.before a0 Z = true) (t : Addr) (lin : Addr) (m : Int32) (mk : Int32) (mu : Int32) (re : Int32) (pr : Int64) (po : Int32) (ka : Addr) (kl : ClassId) (ks : List Value) (ky : Int32) (h : Heap) (n0 : Nat) (p0_ : Old Z n0 h) (p1_ : Sta Z Z.heap "com/example/dispersa/dispersa/internal/ProbeSequence" "LINEAR" "Lcom/example/dispersa/dispersa/internal/ProbeSequence;" (.ref lin)) (p2_ : Exa Z Z.heap lin "com/example/dispersa/dispersa/internal/ProbeSequence") (p3_ : Fld Z Z.heap lin "java/lang/Enum" "ordinal" "I" (.int (0 : Int32))) (p4_ : Fld Z Z.heap lin "com/example/dispersa/dispersa/internal/ProbeSequence" "hashedStep" "Z" (.int (0 : Int32))) (p5_ : Fld Z Z.heap lin "com/example/dispersa/dispersa/internal/ProbeSequence" "growth" "I" (.int (0 : Int32))) (p6_ : Exa Z h t "com/example/dispersa/dispersa/internal/LayoutTable") (p7_ : n0 ≤ t) (hm : 2 ≤ m.toInt ∧ m.toInt ≤ 5) (hmk : own_mk m mk) (hky : 0 ≤ ky.toInt) (p11_ : Fld Z h t "com/example/dispersa/dispersa/internal/SlotTable" "probing" "Lcom/example/dispersa/dispersa/internal/ProbeSequence;" (.ref lin)) (p12_ : Fld Z h t "com/example/dispersa/dispersa/internal/SlotTable" "bounded" "Z" (.int (0 : Int32))) (p13_ : Fld Z h t "com/example/dispersa/dispersa/internal/SlotTable" "marksHomes" "Z" (.int (0 : Int32))) (p14_ : Fld Z h t "com/example/dispersa/dispersa/internal/SlotTable" "ordersRuns" "Z" (.int (0 : Int32))) (p15_ : Fld Z h t "com/example/dispersa/dispersa/internal/SlotTable" "counting" "Z" (.int (1 : Int32))) (p16_ : Fld Z h t "com/example/dispersa/dispersa/internal/SlotTable" "stopsAtReach" "Z" (.int (0 : Int32))) (p17_ : Fld Z h t "com/example/dispersa/dispersa/internal/SlotTable" "length" "I" (.int m)) (p18_ : Fld Z h t "com/example/dispersa/dispersa/internal/SlotTable" "mask" "I" (.int mk)) (p19_ : Fld Z h t "com/example/dispersa/dispersa/internal/SlotTable" "linear" "Z" (.int (0 : Int32))) (p20_ : Fld Z h t "com/example/dispersa/dispersa/internal/SlotTable" "goesOn" "Z" (.int (0 : Int32))) (p21_ : Fld Z h t "com/example/dispersa/dispersa/internal/SlotTable" "markers" "I" (.int mu)) (p22_ : Fld Z h t "com/example/dispersa/dispersa/internal/SlotTable" "reach" "I" (.int re)) (p23_ : Fld Z h t "com/example/dispersa/dispersa/internal/SlotTable" "probes" "J" (.long pr)) (p24_ : Fld Z h t "com/example/dispersa/dispersa/internal/SlotTable" "position" "I" (.int po)) (p25_ : Fld Z h t "com/example/dispersa/dispersa/internal/LayoutTable" "keys" "[I" (.ref ka)) (p26_ : Fld Z h t "com/example/dispersa/dispersa/internal/LayoutTable" "turnedAway" "Z" (.int (0 : Int32))) (p27_ : Ary Z h ka kl .int ks) (hh0 : ¬ (ky % m) < (0 : Int32)) (hkv : ks[(ky % m).toNatClampNeg]? = some (.int (-2))) (hne : ¬ (-2 : Int32) = ky) (hn0 : ¬ (own_adv (ky % m) (1 : Int32) m) < (0 : Int32)) (hnv : ks[(own_adv (ky % m) (1 : Int32) m).toNatClampNeg]? = some (.int ky)) :
    Met l (⟨"com/example/dispersa/dispersa/internal/SlotTable", "locate", "(JLjava/lang/Object;)I"⟩ : MethodName) prog_109_method_30_code 4 (some .int) [] ({ frames := 5, cells := 0, slots := 0, locals := 110 } : Room) #[(.ref t), (.long (own_hash ky)), .null] Z h n0 (fun v h' => ∃ (pr2 : Int64), v = some (.int (own_adv (ky % m) (1 : Int32) m)) ∧ Keep h h' [t] ∧ Exa Z h' t "com/example/dispersa/dispersa/internal/LayoutTable" ∧ Fld Z h' t "com/example/dispersa/dispersa/internal/SlotTable" "probing" "Lcom/example/dispersa/dispersa/internal/ProbeSequence;" (.ref lin) ∧ Fld Z h' t "com/example/dispersa/dispersa/internal/SlotTable" "bounded" "Z" (.int (0 : Int32)) ∧ Fld Z h' t "com/example/dispersa/dispersa/internal/SlotTable" "marksHomes" "Z" (.int (0 : Int32)) ∧ Fld Z h' t "com/example/dispersa/dispersa/internal/SlotTable" "ordersRuns" "Z" (.int (0 : Int32)) ∧ Fld Z h' t "com/example/dispersa/dispersa/internal/SlotTable" "counting" "Z" (.int (1 : Int32)) ∧ Fld Z h' t "com/example/dispersa/dispersa/internal/SlotTable" "stopsAtReach" "Z" (.int (0 : Int32)) ∧ Fld Z h' t "com/example/dispersa/dispersa/internal/SlotTable" "length" "I" (.int m) ∧ Fld Z h' t "com/example/dispersa/dispersa/internal/SlotTable" "mask" "I" (.int mk) ∧ Fld Z h' t "com/example/dispersa/dispersa/internal/SlotTable" "linear" "Z" (.int (0 : Int32)) ∧ Fld Z h' t "com/example/dispersa/dispersa/internal/SlotTable" "goesOn" "Z" (.int (0 : Int32)) ∧ Fld Z h' t "com/example/dispersa/dispersa/internal/SlotTable" "markers" "I" (.int mu) ∧ Fld Z h' t "com/example/dispersa/dispersa/internal/SlotTable" "reach" "I" (.int re) ∧ Fld Z h' t "com/example/dispersa/dispersa/internal/SlotTable" "probes" "J" (.long pr2) ∧ Fld Z h' t "com/example/dispersa/dispersa/internal/SlotTable" "position" "I" (.int po) ∧ Fld Z h' t "com/example/dispersa/dispersa/internal/LayoutTable" "keys" "[I" (.ref ka) ∧ Fld Z h' t "com/example/dispersa/dispersa/internal/LayoutTable" "turnedAway" "Z" (.int (0 : Int32))) := by
  refine Met.of (plainFor_of_name (by first | (simp [plainName, overriddenIn]; done) | decide +kernel)) ?_
  intro pP eE sS mM bB tT cC K
  refine Go.entry (ls := #[.val (.ref t), .val (.long (own_hash ky)), .second, .val .null]) (by first | (simp [argsToLocals, Value.category]; done) | rfl) ?_
  refine go_aloadN (q := 1) K dloc_0 rfl rfl rfl ?_
  refine go_getF (q := 4) K (wd hw 65 rfl) Via.refl p19_ dloc_1 rfl ?_
  refine go_if0 (q := 30) (q' := 7) K dloc_4 (by decide) rfl rfl (fun _ => ?_) (fun hn => cN_no2 hn (show (0 : Int32) = (0 : Int32) from (by decide)))
  refine go_aloadN (q := 31) K dloc_30 rfl rfl rfl ?_
  refine go_lloadN (q := 32) K dloc_31 rfl rfl ?_
  refine go_aloadN (q := 33) K dloc_32 rfl rfl rfl ?_
  refine go_callP (q := 36) (W := 0) K (wd hw 189 rfl) (wd hw 191 rfl) (wd hw 36 rfl) rfl (wd hw 190 rfl) (wd hw 13 rfl) (wd hw 192 rfl) p6_ [(.long (own_hash ky)), .null] [] (laM l Z a0 hw _ _ _ _ _ _ _ _ _ _ _ _ _ n0 p0_ p1_ p2_ p3_ p4_ p5_ p6_ p7_ hm hmk hky p11_ p12_ p13_ p14_ p15_ p16_ p17_ p18_ p19_ p20_ p21_ p22_ p23_ p24_ p25_ p26_ p27_ hh0 hkv hne hn0 hnv) dloc_33 (ps := [.long, (.object "java/lang/Object")]) (by decide +kernel) rfl rfl rfl (by decide) rfl (by decide) (by decide) (by decide) (by decide) rfl ?_
  rintro _ h1 ⟨pr2h1, rfl, Kh1, q0h1, q1h1, q2h1, q3h1, q4h1, q5h1, q6h1, q7h1, q8h1, q9h1, q10h1, q11h1, q12h1, q13h1, q14h1, q15h1, q16h1⟩
  show Go pP l eE _ sS mM _ bB tT cC n0 _ h1 0 0 (mkF mM 36 #[.val (.ref t), .val (.long (own_hash ky)), .second, .val .null] [(.int (own_adv (ky % m) (1 : Int32) m))])
  refine go_iret K dloc_36 rfl (Or.inl rfl) rfl (by decide) (by decide) ?_
  have f1 := ((Keep.refl h [t]).trans Kh1 (allS (Or.inl (by simp)) all0))
  exact ⟨pr2h1, rfl, f1, q0h1, q1h1, q2h1, q3h1, q4h1, q5h1, q6h1, q7h1, q8h1, q9h1, q10h1, q11h1, q12h1, q13h1, q14h1, q15h1, q16h1⟩
set_option maxRecDepth 65536 in
set_option maxHeartbeats 40000000 in
theorem seM (l : Launch) (Z : State) (a0 : Array Value) (hw : ∀ d ∈ tables_1, d.before a0 Z = true) (t : Addr) (lin : Addr) (m : Int32) (mk : Int32) (mu : Int32) (re : Int32) (pr : Int64) (po : Int32) (ka : Addr) (kl : ClassId) (ks : List Value) (ky : Int32) (h : Heap) (n0 : Nat) (p0_ : Old Z n0 h) (p1_ : Sta Z Z.heap "com/example/dispersa/dispersa/internal/ProbeSequence" "LINEAR" "Lcom/example/dispersa/dispersa/internal/ProbeSequence;" (.ref lin)) (p2_ : Exa Z Z.heap lin "com/example/dispersa/dispersa/internal/ProbeSequence") (p3_ : Fld Z Z.heap lin "java/lang/Enum" "ordinal" "I" (.int (0 : Int32))) (p4_ : Fld Z Z.heap lin "com/example/dispersa/dispersa/internal/ProbeSequence" "hashedStep" "Z" (.int (0 : Int32))) (p5_ : Fld Z Z.heap lin "com/example/dispersa/dispersa/internal/ProbeSequence" "growth" "I" (.int (0 : Int32))) (p6_ : Exa Z h t "com/example/dispersa/dispersa/internal/LayoutTable") (p7_ : n0 ≤ t) (hm : 2 ≤ m.toInt ∧ m.toInt ≤ 5) (hmk : own_mk m mk) (hky : 0 ≤ ky.toInt) (p11_ : Fld Z h t "com/example/dispersa/dispersa/internal/SlotTable" "probing" "Lcom/example/dispersa/dispersa/internal/ProbeSequence;" (.ref lin)) (p12_ : Fld Z h t "com/example/dispersa/dispersa/internal/SlotTable" "bounded" "Z" (.int (0 : Int32))) (p13_ : Fld Z h t "com/example/dispersa/dispersa/internal/SlotTable" "marksHomes" "Z" (.int (0 : Int32))) (p14_ : Fld Z h t "com/example/dispersa/dispersa/internal/SlotTable" "ordersRuns" "Z" (.int (0 : Int32))) (p15_ : Fld Z h t "com/example/dispersa/dispersa/internal/SlotTable" "counting" "Z" (.int (1 : Int32))) (p16_ : Fld Z h t "com/example/dispersa/dispersa/internal/SlotTable" "stopsAtReach" "Z" (.int (0 : Int32))) (p17_ : Fld Z h t "com/example/dispersa/dispersa/internal/SlotTable" "length" "I" (.int m)) (p18_ : Fld Z h t "com/example/dispersa/dispersa/internal/SlotTable" "mask" "I" (.int mk)) (p19_ : Fld Z h t "com/example/dispersa/dispersa/internal/SlotTable" "linear" "Z" (.int (0 : Int32))) (p20_ : Fld Z h t "com/example/dispersa/dispersa/internal/SlotTable" "goesOn" "Z" (.int (0 : Int32))) (p21_ : Fld Z h t "com/example/dispersa/dispersa/internal/SlotTable" "markers" "I" (.int mu)) (p22_ : Fld Z h t "com/example/dispersa/dispersa/internal/SlotTable" "reach" "I" (.int re)) (p23_ : Fld Z h t "com/example/dispersa/dispersa/internal/SlotTable" "probes" "J" (.long pr)) (p24_ : Fld Z h t "com/example/dispersa/dispersa/internal/SlotTable" "position" "I" (.int po)) (p25_ : Fld Z h t "com/example/dispersa/dispersa/internal/LayoutTable" "keys" "[I" (.ref ka)) (p26_ : Fld Z h t "com/example/dispersa/dispersa/internal/LayoutTable" "turnedAway" "Z" (.int (0 : Int32))) (p27_ : Ary Z h ka kl .int ks) (hh0 : ¬ (ky % m) < (0 : Int32)) (hkv : ks[(ky % m).toNatClampNeg]? = some (.int (-2))) (hne : ¬ (-2 : Int32) = ky) (hn0 : ¬ (own_adv (ky % m) (1 : Int32) m) < (0 : Int32)) (hnv : ks[(own_adv (ky % m) (1 : Int32) m).toNatClampNeg]? = some (.int ky)) :
    Met l (⟨"com/example/dispersa/dispersa/internal/LayoutTable", "search", "(I)I"⟩ : MethodName) prog_86_method_4_code 3 (some .int) [] ({ frames := 6, cells := 0, slots := 0, locals := 140 } : Room) #[(.ref t), (.int ky)] Z h n0 (fun v h' => ∃ (pr2 : Int64), v = some (.int (own_adv (ky % m) (1 : Int32) m)) ∧ Keep h h' [t] ∧ Exa Z h' t "com/example/dispersa/dispersa/internal/LayoutTable" ∧ Fld Z h' t "com/example/dispersa/dispersa/internal/SlotTable" "probing" "Lcom/example/dispersa/dispersa/internal/ProbeSequence;" (.ref lin) ∧ Fld Z h' t "com/example/dispersa/dispersa/internal/SlotTable" "bounded" "Z" (.int (0 : Int32)) ∧ Fld Z h' t "com/example/dispersa/dispersa/internal/SlotTable" "marksHomes" "Z" (.int (0 : Int32)) ∧ Fld Z h' t "com/example/dispersa/dispersa/internal/SlotTable" "ordersRuns" "Z" (.int (0 : Int32)) ∧ Fld Z h' t "com/example/dispersa/dispersa/internal/SlotTable" "counting" "Z" (.int (1 : Int32)) ∧ Fld Z h' t "com/example/dispersa/dispersa/internal/SlotTable" "stopsAtReach" "Z" (.int (0 : Int32)) ∧ Fld Z h' t "com/example/dispersa/dispersa/internal/SlotTable" "length" "I" (.int m) ∧ Fld Z h' t "com/example/dispersa/dispersa/internal/SlotTable" "mask" "I" (.int mk) ∧ Fld Z h' t "com/example/dispersa/dispersa/internal/SlotTable" "linear" "Z" (.int (0 : Int32)) ∧ Fld Z h' t "com/example/dispersa/dispersa/internal/SlotTable" "goesOn" "Z" (.int (0 : Int32)) ∧ Fld Z h' t "com/example/dispersa/dispersa/internal/SlotTable" "markers" "I" (.int mu) ∧ Fld Z h' t "com/example/dispersa/dispersa/internal/SlotTable" "reach" "I" (.int re) ∧ Fld Z h' t "com/example/dispersa/dispersa/internal/SlotTable" "probes" "J" (.long pr2) ∧ Fld Z h' t "com/example/dispersa/dispersa/internal/SlotTable" "position" "I" (.int po) ∧ Fld Z h' t "com/example/dispersa/dispersa/internal/LayoutTable" "keys" "[I" (.ref ka) ∧ Fld Z h' t "com/example/dispersa/dispersa/internal/LayoutTable" "turnedAway" "Z" (.int (0 : Int32))) := by
  refine Met.of (plainFor_of_name (by first | (simp [plainName, overriddenIn]; done) | decide +kernel)) ?_
  intro pP eE sS mM bB tT cC K
  refine Go.entry (ls := #[.val (.ref t), .val (.int ky), .unset]) (by first | (simp [argsToLocals, Value.category]; done) | rfl) ?_
  refine go_aloadN (q := 1) K dsea_0 rfl rfl rfl ?_
  refine go_iloadN (q := 2) K dsea_1 rfl rfl ?_
  refine go_callS (q := 5) (W := 1) K (wd hw 89 rfl) (wd hw 90 rfl) (wd hw 3 rfl) (wd hw 91 rfl) [(.int ky)] [(.ref t)] (hash l Z a0 hw _ _ n0 ) dsea_2 (ps := [.int]) (by decide +kernel) rfl rfl rfl (by decide) rfl (by decide) (by decide) (by decide) (by decide) rfl ?_
  rintro _ _ ⟨rfl, rfl⟩
  show Go pP l eE _ sS mM _ bB tT cC n0 _ h 0 0 (mkF mM 5 #[.val (.ref t), .val (.int ky), .unset] [(.long (own_hash ky)), (.ref t)])
  refine go_aconst_null (q := 6) K dsea_5 rfl ?_
  refine go_callU (q := 9) (W := 0) (ow := "com/example/dispersa/dispersa/internal/SlotTable") K (wd hw 183 rfl) (wd hw 185 rfl) (wd hw 187 rfl) (wd hw 186 rfl) (wd hw 13 rfl) (wd hw 188 rfl) (wd hw 184 rfl) p6_ [(.long (own_hash ky)), .null] [] (loM l Z a0 hw _ _ _ _ _ _ _ _ _ _ _ _ _ n0 p0_ p1_ p2_ p3_ p4_ p5_ p6_ p7_ hm hmk hky p11_ p12_ p13_ p14_ p15_ p16_ p17_ p18_ p19_ p20_ p21_ p22_ p23_ p24_ p25_ p26_ p27_ hh0 hkv hne hn0 hnv) dsea_6 (ps := [.long, (.object "java/lang/Object")]) (by decide +kernel) rfl rfl rfl (by decide) rfl (by decide) (by decide) (by decide) (by decide) rfl ?_
  rintro _ h2 ⟨pr2h2, rfl, Kh2, q0h2, q1h2, q2h2, q3h2, q4h2, q5h2, q6h2, q7h2, q8h2, q9h2, q10h2, q11h2, q12h2, q13h2, q14h2, q15h2, q16h2⟩
  show Go pP l eE _ sS mM _ bB tT cC n0 _ h2 0 0 (mkF mM 9 #[.val (.ref t), .val (.int ky), .unset] [(.int (own_adv (ky % m) (1 : Int32) m))])
  refine go_istoreN (q := 10) K dsea_9 #[.val (.ref t), .val (.int ky), .val (.int (own_adv (ky % m) (1 : Int32) m))] rfl rfl ?_
  refine go_iloadN (q := 11) K dsea_10 rfl rfl ?_
  refine go_if0 (q := 18) (q' := 14) K dsea_11 (by decide) rfl rfl (fun hn => cN_no hn (show ¬ (own_adv (ky % m) (1 : Int32) m) < (0 : Int32) from hn0)) (fun _ => ?_)
  refine go_iloadN (q := 15) K dsea_14 rfl rfl ?_
  refine go_goto (q := 19) K dsea_15 (by decide) rfl ?_
  refine go_iret K dsea_19 rfl (Or.inl rfl) rfl (by decide) (by decide) ?_
  have f1 := ((Keep.refl h [t]).trans Kh2 (allS (Or.inl (by simp)) all0))
  exact ⟨pr2h2, rfl, f1, q0h2, q1h2, q2h2, q3h2, q4h2, q5h2, q6h2, q7h2, q8h2, q9h2, q10h2, q11h2, q12h2, q13h2, q14h2, q15h2, q16h2⟩
set_option maxRecDepth 65536 in
set_option maxHeartbeats 40000000 in
theorem laU (l : Launch) (Z : State) (a0 : Array Value) (hw : ∀ d ∈ tables_1, d.before a0 Z = true) (t : Addr) (lin : Addr) (m : Int32) (mk : Int32) (mu : Int32) (re : Int32) (pr : Int64) (po : Int32) (ka : Addr) (kl : ClassId) (ks : List Value) (ky : Int32) (h : Heap) (n0 : Nat) (p0_ : Old Z n0 h) (p1_ : Sta Z Z.heap "com/example/dispersa/dispersa/internal/ProbeSequence" "LINEAR" "Lcom/example/dispersa/dispersa/internal/ProbeSequence;" (.ref lin)) (p2_ : Exa Z Z.heap lin "com/example/dispersa/dispersa/internal/ProbeSequence") (p3_ : Fld Z Z.heap lin "java/lang/Enum" "ordinal" "I" (.int (0 : Int32))) (p4_ : Fld Z Z.heap lin "com/example/dispersa/dispersa/internal/ProbeSequence" "hashedStep" "Z" (.int (0 : Int32))) (p5_ : Fld Z Z.heap lin "com/example/dispersa/dispersa/internal/ProbeSequence" "growth" "I" (.int (0 : Int32))) (p6_ : Exa Z h t "com/example/dispersa/dispersa/internal/LayoutTable") (p7_ : n0 ≤ t) (hm : 2 ≤ m.toInt ∧ m.toInt ≤ 5) (hmk : own_mk m mk) (hky : 0 ≤ ky.toInt) (p11_ : Fld Z h t "com/example/dispersa/dispersa/internal/SlotTable" "probing" "Lcom/example/dispersa/dispersa/internal/ProbeSequence;" (.ref lin)) (p12_ : Fld Z h t "com/example/dispersa/dispersa/internal/SlotTable" "bounded" "Z" (.int (0 : Int32))) (p13_ : Fld Z h t "com/example/dispersa/dispersa/internal/SlotTable" "marksHomes" "Z" (.int (0 : Int32))) (p14_ : Fld Z h t "com/example/dispersa/dispersa/internal/SlotTable" "ordersRuns" "Z" (.int (0 : Int32))) (p15_ : Fld Z h t "com/example/dispersa/dispersa/internal/SlotTable" "counting" "Z" (.int (1 : Int32))) (p16_ : Fld Z h t "com/example/dispersa/dispersa/internal/SlotTable" "stopsAtReach" "Z" (.int (0 : Int32))) (p17_ : Fld Z h t "com/example/dispersa/dispersa/internal/SlotTable" "length" "I" (.int m)) (p18_ : Fld Z h t "com/example/dispersa/dispersa/internal/SlotTable" "mask" "I" (.int mk)) (p19_ : Fld Z h t "com/example/dispersa/dispersa/internal/SlotTable" "linear" "Z" (.int (0 : Int32))) (p20_ : Fld Z h t "com/example/dispersa/dispersa/internal/SlotTable" "goesOn" "Z" (.int (0 : Int32))) (p21_ : Fld Z h t "com/example/dispersa/dispersa/internal/SlotTable" "markers" "I" (.int mu)) (p22_ : Fld Z h t "com/example/dispersa/dispersa/internal/SlotTable" "reach" "I" (.int re)) (p23_ : Fld Z h t "com/example/dispersa/dispersa/internal/SlotTable" "probes" "J" (.long pr)) (p24_ : Fld Z h t "com/example/dispersa/dispersa/internal/SlotTable" "position" "I" (.int po)) (p25_ : Fld Z h t "com/example/dispersa/dispersa/internal/LayoutTable" "keys" "[I" (.ref ka)) (p26_ : Fld Z h t "com/example/dispersa/dispersa/internal/LayoutTable" "turnedAway" "Z" (.int (0 : Int32))) (p27_ : Ary Z h ka kl .int ks) (hh0 : ¬ (ky % m) < (0 : Int32)) (hkv : ks[(ky % m).toNatClampNeg]? = some (.int (-2))) (hne : ¬ (-2 : Int32) = ky) (hn0 : ¬ (own_adv (ky % m) (1 : Int32) m) < (0 : Int32)) (hnv : ks[(own_adv (ky % m) (1 : Int32) m).toNatClampNeg]? = some (.int (-1))) (hnne : ¬ (-1 : Int32) = ky) :
    Met l (⟨"com/example/dispersa/dispersa/internal/SlotTable", "locateAlong", "(JLjava/lang/Object;)I"⟩ : MethodName) prog_109_method_31_code 10 (some .int) [] ({ frames := 4, cells := 0, slots := 0, locals := 80 } : Room) #[(.ref t), (.long (own_hash ky)), .null] Z h n0 (fun v h' => ∃ (pr2 : Int64), v = some (.int (-1 : Int32)) ∧ Keep h h' [t] ∧ Exa Z h' t "com/example/dispersa/dispersa/internal/LayoutTable" ∧ Fld Z h' t "com/example/dispersa/dispersa/internal/SlotTable" "probing" "Lcom/example/dispersa/dispersa/internal/ProbeSequence;" (.ref lin) ∧ Fld Z h' t "com/example/dispersa/dispersa/internal/SlotTable" "bounded" "Z" (.int (0 : Int32)) ∧ Fld Z h' t "com/example/dispersa/dispersa/internal/SlotTable" "marksHomes" "Z" (.int (0 : Int32)) ∧ Fld Z h' t "com/example/dispersa/dispersa/internal/SlotTable" "ordersRuns" "Z" (.int (0 : Int32)) ∧ Fld Z h' t "com/example/dispersa/dispersa/internal/SlotTable" "counting" "Z" (.int (1 : Int32)) ∧ Fld Z h' t "com/example/dispersa/dispersa/internal/SlotTable" "stopsAtReach" "Z" (.int (0 : Int32)) ∧ Fld Z h' t "com/example/dispersa/dispersa/internal/SlotTable" "length" "I" (.int m) ∧ Fld Z h' t "com/example/dispersa/dispersa/internal/SlotTable" "mask" "I" (.int mk) ∧ Fld Z h' t "com/example/dispersa/dispersa/internal/SlotTable" "linear" "Z" (.int (0 : Int32)) ∧ Fld Z h' t "com/example/dispersa/dispersa/internal/SlotTable" "goesOn" "Z" (.int (0 : Int32)) ∧ Fld Z h' t "com/example/dispersa/dispersa/internal/SlotTable" "markers" "I" (.int mu) ∧ Fld Z h' t "com/example/dispersa/dispersa/internal/SlotTable" "reach" "I" (.int re) ∧ Fld Z h' t "com/example/dispersa/dispersa/internal/SlotTable" "probes" "J" (.long pr2) ∧ Fld Z h' t "com/example/dispersa/dispersa/internal/SlotTable" "position" "I" (.int po) ∧ Fld Z h' t "com/example/dispersa/dispersa/internal/LayoutTable" "keys" "[I" (.ref ka) ∧ Fld Z h' t "com/example/dispersa/dispersa/internal/LayoutTable" "turnedAway" "Z" (.int (0 : Int32))) := by
  refine Met.of (plainFor_of_name (by first | (simp [plainName, overriddenIn]; done) | decide +kernel)) ?_
  intro pP eE sS mM bB tT cC K
  refine Go.entry (ls := #[.val (.ref t), .val (.long (own_hash ky)), .second, .val .null, .unset, .unset, .unset, .unset, .unset, .unset]) (by first | (simp [argsToLocals, Value.category]; done) | rfl) ?_
  refine go_aloadN (q := 1) K dla_0 rfl rfl rfl ?_
  refine go_getF (q := 4) K (wd hw 53 rfl) Via.refl p17_ dla_1 rfl ?_
  refine go_istore (q := 6) K dla_4 #[.val (.ref t), .val (.long (own_hash ky)), .second, .val .null, .val (.int m), .unset, .unset, .unset, .unset, .unset] rfl rfl ?_
  refine go_aloadN (q := 7) K dla_6 rfl rfl rfl ?_
  refine go_lloadN (q := 8) K dla_7 rfl rfl ?_
  refine go_callV (q := 11) (W := 0) K (wd hw 98 rfl) (wd hw 99 rfl) (wd hw 101 rfl) (wd hw 100 rfl) (wd hw 13 rfl) (wd hw 102 rfl) (wd hw 36 rfl) rfl p6_ [(.long (own_hash ky))] [] (home l Z a0 hw _ _ _ _ _ n0 p18_ p17_ hky hm hmk) dla_8 (ps := [.long]) (by decide +kernel) rfl rfl rfl (by decide) rfl (by decide) (by decide) (by decide) (by decide) rfl ?_
  rintro _ _ ⟨rfl, rfl⟩
  show Go pP l eE _ sS mM _ bB tT cC n0 _ h 0 0 (mkF mM 11 #[.val (.ref t), .val (.long (own_hash ky)), .second, .val .null, .val (.int m), .unset, .unset, .unset, .unset, .unset] [(.int (ky % m))])
  refine go_istore (q := 13) K dla_11 #[.val (.ref t), .val (.long (own_hash ky)), .second, .val .null, .val (.int m), .val (.int (ky % m)), .unset, .unset, .unset, .unset] rfl rfl ?_
  refine go_aloadN (q := 14) K dla_13 rfl rfl rfl ?_
  refine go_getF (q := 17) K (wd hw 21 rfl) Via.refl p11_ dla_14 rfl ?_
  refine go_lloadN (q := 18) K dla_17 rfl rfl ?_
  refine go_iload (q := 20) K dla_18 rfl rfl ?_
  refine go_callV (q := 23) (W := 0) K (wd hw 113 rfl) (wd hw 114 rfl) (wd hw 116 rfl) (wd hw 115 rfl) (wd hw 5 rfl) (wd hw 117 rfl) (wd hw 41 rfl) rfl (p2_.ext p0_.2) [(.long (own_hash ky)), (.int m)] [] (stepP l Z a0 hw _ _ _ _ n0 p0_ p4_) dla_20 (ps := [.long, .int]) (by decide +kernel) rfl rfl rfl (by decide) rfl (by decide) (by decide) (by decide) (by decide) rfl ?_
  rintro _ _ ⟨rfl, rfl⟩
  show Go pP l eE _ sS mM _ bB tT cC n0 _ h 0 0 (mkF mM 23 #[.val (.ref t), .val (.long (own_hash ky)), .second, .val .null, .val (.int m), .val (.int (ky % m)), .unset, .unset, .unset, .unset] [(.int (1 : Int32))])
  refine go_istore (q := 25) K dla_23 #[.val (.ref t), .val (.long (own_hash ky)), .second, .val .null, .val (.int m), .val (.int (ky % m)), .val (.int (1 : Int32)), .unset, .unset, .unset] rfl rfl ?_
  refine go_aloadN (q := 26) K dla_25 rfl rfl rfl ?_
  refine go_getF (q := 29) K (wd hw 21 rfl) Via.refl p11_ dla_26 rfl ?_
  refine go_callV (q := 32) (W := 0) K (wd hw 120 rfl) (wd hw 121 rfl) (wd hw 123 rfl) (wd hw 122 rfl) (wd hw 5 rfl) (wd hw 124 rfl) (wd hw 41 rfl) rfl (p2_.ext p0_.2) [] [] (growth l Z a0 hw _ _ n0 p0_ p5_) dla_29 (ps := []) (by decide +kernel) rfl rfl rfl (by decide) rfl (by decide) (by decide) (by decide) (by decide) rfl ?_
  rintro _ _ ⟨rfl, rfl⟩
  show Go pP l eE _ sS mM _ bB tT cC n0 _ h 0 0 (mkF mM 32 #[.val (.ref t), .val (.long (own_hash ky)), .second, .val .null, .val (.int m), .val (.int (ky % m)), .val (.int (1 : Int32)), .unset, .unset, .unset] [(.int (0 : Int32))])
  refine go_istore (q := 34) K dla_32 #[.val (.ref t), .val (.long (own_hash ky)), .second, .val .null, .val (.int m), .val (.int (ky % m)), .val (.int (1 : Int32)), .val (.int (0 : Int32)), .unset, .unset] rfl rfl ?_
  refine go_aloadN (q := 35) K dla_34 rfl rfl rfl ?_
  refine go_callP (q := 38) (W := 0) K (wd hw 127 rfl) (wd hw 129 rfl) (wd hw 36 rfl) rfl (wd hw 128 rfl) (wd hw 13 rfl) (wd hw 130 rfl) p6_ [] [] (compd l Z a0 hw _ _ _ n0 p12_ p17_) dla_35 (ps := []) (by decide +kernel) rfl rfl rfl (by decide) rfl (by decide) (by decide) (by decide) (by decide) rfl ?_
  rintro _ _ ⟨rfl, rfl⟩
  show Go pP l eE _ sS mM _ bB tT cC n0 _ h 0 0 (mkF mM 38 #[.val (.ref t), .val (.long (own_hash ky)), .second, .val .null, .val (.int m), .val (.int (ky % m)), .val (.int (1 : Int32)), .val (.int (0 : Int32)), .unset, .unset] [(.int m)])
  refine go_istore (q := 40) K dla_38 #[.val (.ref t), .val (.long (own_hash ky)), .second, .val .null, .val (.int m), .val (.int (ky % m)), .val (.int (1 : Int32)), .val (.int (0 : Int32)), .val (.int m), .unset] rfl rfl ?_
  refine go_iconst (q := 41) K dla_40 (0 : Int32) rfl rfl ?_
  refine go_istore (q := 43) K dla_41 #[.val (.ref t), .val (.long (own_hash ky)), .second, .val .null, .val (.int m), .val (.int (ky % m)), .val (.int (1 : Int32)), .val (.int (0 : Int32)), .val (.int m), .val (.int (0 : Int32))] rfl rfl ?_
  refine go_iload (q := 45) K dla_43 rfl rfl ?_
  refine go_iload (q := 47) K dla_45 rfl rfl ?_
  refine go_icmp (q := 56) (q' := 50) K dla_47 (by decide) rfl rfl (fun _ => ?_) (fun hn => cN_no2 hn (show ¬ (0 : Int32) = m from (own_m0 hm).1))
  refine go_iinc (q := 59) K dla_56 (1 : Int32) #[.val (.ref t), .val (.long (own_hash ky)), .second, .val .null, .val (.int m), .val (.int (ky % m)), .val (.int (1 : Int32)), .val (.int (0 : Int32)), .val (.int m), .val (.int (1 : Int32))] rfl rfl rfl rfl ?_
  refine go_aloadN (q := 60) K dla_59 rfl rfl rfl ?_
  refine go_iload (q := 62) K dla_60 rfl rfl ?_
  refine go_lloadN (q := 63) K dla_62 rfl rfl ?_
  refine go_aloadN (q := 64) K dla_63 rfl rfl rfl ?_
  refine go_iconst (q := 65) K dla_64 (0 : Int32) rfl rfl ?_
  refine go_callV (q := 68) (W := 0) K (wd hw 132 rfl) (wd hw 133 rfl) (wd hw 134 rfl) (wd hw 135 rfl) (wd hw 3 rfl) (wd hw 136 rfl) (wd hw 36 rfl) rfl p6_ [(.int (ky % m)), (.long (own_hash ky)), .null, (.int (0 : Int32))] [] (holds l Z a0 hw _ _ _ _ _ _ _ _ _ n0 p25_ p27_ hh0 hkv) dla_65 (ps := [.int, .long, (.object "java/lang/Object"), .boolean]) (by decide +kernel) rfl rfl rfl (by decide) rfl (by decide) (by decide) (by decide) (by decide) rfl ?_
  rintro _ _ ⟨rfl, rfl⟩
  show Go pP l eE _ sS mM _ bB tT cC n0 _ h 0 0 (mkF mM 68 #[.val (.ref t), .val (.long (own_hash ky)), .second, .val .null, .val (.int m), .val (.int (ky % m)), .val (.int (1 : Int32)), .val (.int (0 : Int32)), .val (.int m), .val (.int (1 : Int32))] [(.int (own_eq (-2 : Int32) ky))])
  refine go_eqI (y := (0 : Int32)) (own_eq_no hne) ?_
  refine go_if0 (q := 74) (q' := 71) K dla_68 (by decide) rfl rfl (fun _ => ?_) (fun hn => cN_no2 hn (show (0 : Int32) = (0 : Int32) from (by decide)))
  refine go_aloadN (q := 75) K dla_74 rfl rfl rfl ?_
  refine go_iload (q := 77) K dla_75 rfl rfl ?_
  refine go_callV (q := 80) (W := 0) K (wd hw 204 rfl) (wd hw 205 rfl) (wd hw 207 rfl) (wd hw 206 rfl) (wd hw 13 rfl) (wd hw 208 rfl) (wd hw 36 rfl) rfl p6_ [(.int (ky % m))] [] (unused l Z a0 hw _ _ _ _ _ _ _ n0 p6_ p25_ p27_ hh0 hkv) dla_77 (ps := [.int]) (by decide +kernel) rfl rfl rfl (by decide) rfl (by decide) (by decide) (by decide) (by decide) rfl ?_
  rintro _ _ ⟨rfl, rfl⟩
  show Go pP l eE _ sS mM _ bB tT cC n0 _ h 0 0 (mkF mM 80 #[.val (.ref t), .val (.long (own_hash ky)), .second, .val .null, .val (.int m), .val (.int (ky % m)), .val (.int (1 : Int32)), .val (.int (0 : Int32)), .val (.int m), .val (.int (1 : Int32))] [(.int (own_un (-2 : Int32)))])
  refine go_eqI (y := (0 : Int32)) (by decide) ?_
  refine go_if0 (q := 89) (q' := 83) K dla_80 (by decide) rfl rfl (fun _ => ?_) (fun hn => cN_no2 hn (show (0 : Int32) = (0 : Int32) from (by decide)))
  refine go_iload (q := 91) K dla_89 rfl rfl ?_
  refine go_iload (q := 93) K dla_91 rfl rfl ?_
  refine go_iload (q := 95) K dla_93 rfl rfl ?_
  refine go_callS (q := 98) (W := 0) K (wd hw 167 rfl) (wd hw 168 rfl) (wd hw 13 rfl) (wd hw 169 rfl) [(.int (ky % m)), (.int (1 : Int32)), (.int m)] [] (adv l Z a0 hw _ _ _ _ n0 ) dla_95 (ps := [.int, .int, .int]) (by decide +kernel) rfl rfl rfl (by decide) rfl (by decide) (by decide) (by decide) (by decide) rfl ?_
  rintro _ _ ⟨rfl, rfl⟩
  show Go pP l eE _ sS mM _ bB tT cC n0 _ h 0 0 (mkF mM 98 #[.val (.ref t), .val (.long (own_hash ky)), .second, .val .null, .val (.int m), .val (.int (ky % m)), .val (.int (1 : Int32)), .val (.int (0 : Int32)), .val (.int m), .val (.int (1 : Int32))] [(.int (own_adv (ky % m) (1 : Int32) m))])
  refine go_istore (q := 100) K dla_98 #[.val (.ref t), .val (.long (own_hash ky)), .second, .val .null, .val (.int m), .val (.int (own_adv (ky % m) (1 : Int32) m)), .val (.int (1 : Int32)), .val (.int (0 : Int32)), .val (.int m), .val (.int (1 : Int32))] rfl rfl ?_
  refine go_iload (q := 102) K dla_100 rfl rfl ?_
  refine go_iload (q := 104) K dla_102 rfl rfl ?_
  refine go_iload (q := 106) K dla_104 rfl rfl ?_
  refine go_callS (q := 109) (W := 0) K (wd hw 167 rfl) (wd hw 168 rfl) (wd hw 13 rfl) (wd hw 169 rfl) [(.int (1 : Int32)), (.int (0 : Int32)), (.int m)] [] (adv l Z a0 hw _ _ _ _ n0 ) dla_106 (ps := [.int, .int, .int]) (by decide +kernel) rfl rfl rfl (by decide) rfl (by decide) (by decide) (by decide) (by decide) rfl ?_
  rintro _ _ ⟨rfl, rfl⟩
  show Go pP l eE _ sS mM _ bB tT cC n0 _ h 0 0 (mkF mM 109 #[.val (.ref t), .val (.long (own_hash ky)), .second, .val .null, .val (.int m), .val (.int (own_adv (ky % m) (1 : Int32) m)), .val (.int (1 : Int32)), .val (.int (0 : Int32)), .val (.int m), .val (.int (1 : Int32))] [(.int (own_adv (1 : Int32) (0 : Int32) m))])
  refine go_istore (q := 111) K dla_109 #[.val (.ref t), .val (.long (own_hash ky)), .second, .val .null, .val (.int m), .val (.int (own_adv (ky % m) (1 : Int32) m)), .val (.int (own_adv (1 : Int32) (0 : Int32) m)), .val (.int (0 : Int32)), .val (.int m), .val (.int (1 : Int32))] rfl rfl ?_
  refine go_goto (q := 43) K dla_111 (by decide) rfl ?_
  refine go_iload (q := 45) K dla_43 rfl rfl ?_
  refine go_iload (q := 47) K dla_45 rfl rfl ?_
  refine go_icmp (q := 56) (q' := 50) K dla_47 (by decide) rfl rfl (fun _ => ?_) (fun hn => cN_no2 hn (show ¬ (1 : Int32) = m from (own_m0 hm).2.1))
  refine go_iinc (q := 59) K dla_56 (1 : Int32) #[.val (.ref t), .val (.long (own_hash ky)), .second, .val .null, .val (.int m), .val (.int (own_adv (ky % m) (1 : Int32) m)), .val (.int (own_adv (1 : Int32) (0 : Int32) m)), .val (.int (0 : Int32)), .val (.int m), .val (.int (2 : Int32))] rfl rfl rfl rfl ?_
  refine go_aloadN (q := 60) K dla_59 rfl rfl rfl ?_
  refine go_iload (q := 62) K dla_60 rfl rfl ?_
  refine go_lloadN (q := 63) K dla_62 rfl rfl ?_
  refine go_aloadN (q := 64) K dla_63 rfl rfl rfl ?_
  refine go_iconst (q := 65) K dla_64 (0 : Int32) rfl rfl ?_
  refine go_callV (q := 68) (W := 0) K (wd hw 132 rfl) (wd hw 133 rfl) (wd hw 134 rfl) (wd hw 135 rfl) (wd hw 3 rfl) (wd hw 136 rfl) (wd hw 36 rfl) rfl p6_ [(.int (own_adv (ky % m) (1 : Int32) m)), (.long (own_hash ky)), .null, (.int (0 : Int32))] [] (holds l Z a0 hw _ _ _ _ _ _ _ _ _ n0 p25_ p27_ hn0 hnv) dla_65 (ps := [.int, .long, (.object "java/lang/Object"), .boolean]) (by decide +kernel) rfl rfl rfl (by decide) rfl (by decide) (by decide) (by decide) (by decide) rfl ?_
  rintro _ _ ⟨rfl, rfl⟩
  show Go pP l eE _ sS mM _ bB tT cC n0 _ h 0 0 (mkF mM 68 #[.val (.ref t), .val (.long (own_hash ky)), .second, .val .null, .val (.int m), .val (.int (own_adv (ky % m) (1 : Int32) m)), .val (.int (own_adv (1 : Int32) (0 : Int32) m)), .val (.int (0 : Int32)), .val (.int m), .val (.int (2 : Int32))] [(.int (own_eq (-1 : Int32) ky))])
  refine go_eqI (y := (0 : Int32)) (own_eq_no hnne) ?_
  refine go_if0 (q := 74) (q' := 71) K dla_68 (by decide) rfl rfl (fun _ => ?_) (fun hn => cN_no2 hn (show (0 : Int32) = (0 : Int32) from (by decide)))
  refine go_aloadN (q := 75) K dla_74 rfl rfl rfl ?_
  refine go_iload (q := 77) K dla_75 rfl rfl ?_
  refine go_callV (q := 80) (W := 0) K (wd hw 204 rfl) (wd hw 205 rfl) (wd hw 207 rfl) (wd hw 206 rfl) (wd hw 13 rfl) (wd hw 208 rfl) (wd hw 36 rfl) rfl p6_ [(.int (own_adv (ky % m) (1 : Int32) m))] [] (unused l Z a0 hw _ _ _ _ _ _ _ n0 p6_ p25_ p27_ hn0 hnv) dla_77 (ps := [.int]) (by decide +kernel) rfl rfl rfl (by decide) rfl (by decide) (by decide) (by decide) (by decide) rfl ?_
  rintro _ _ ⟨rfl, rfl⟩
  show Go pP l eE _ sS mM _ bB tT cC n0 _ h 0 0 (mkF mM 80 #[.val (.ref t), .val (.long (own_hash ky)), .second, .val .null, .val (.int m), .val (.int (own_adv (ky % m) (1 : Int32) m)), .val (.int (own_adv (1 : Int32) (0 : Int32) m)), .val (.int (0 : Int32)), .val (.int m), .val (.int (2 : Int32))] [(.int (own_un (-1 : Int32)))])
  refine go_eqI (y := (1 : Int32)) (by decide) ?_
  refine go_if0 (q := 89) (q' := 83) K dla_80 (by decide) rfl rfl (fun hn => cN_no hn (show ¬ (1 : Int32) = (0 : Int32) from (by decide))) (fun _ => ?_)
  refine go_iconst (q := 84) K dla_83 (-1 : Int32) rfl rfl ?_
  refine go_istore (q := 86) K dla_84 #[.val (.ref t), .val (.long (own_hash ky)), .second, .val .null, .val (.int m), .val (.int (-1 : Int32)), .val (.int (own_adv (1 : Int32) (0 : Int32) m)), .val (.int (0 : Int32)), .val (.int m), .val (.int (2 : Int32))] rfl rfl ?_
  refine go_goto (q := 114) K dla_86 (by decide) rfl ?_
  refine go_aloadN (q := 115) K dla_114 rfl rfl rfl ?_
  refine go_getF (q := 118) K (wd hw 29 rfl) Via.refl p15_ dla_115 rfl ?_
  refine go_if0 (q := 133) (q' := 121) K dla_118 (by decide) rfl rfl (fun hn => cN_no hn (show ¬ (1 : Int32) = (0 : Int32) from (by decide))) (fun _ => ?_)
  refine go_aloadN (q := 122) K dla_121 rfl rfl rfl ?_
  refine go_dup (q := 123) K dla_122 rfl rfl ?_
  refine go_getF (q := 126) K (wd hw 146 rfl) Via.refl p23_ dla_123 rfl ?_
  refine go_iload (q := 128) K dla_126 rfl rfl ?_
  refine go_i2l (q := 129) K dla_128 rfl ?_
  refine go_ladd (q := 130) K dla_129 rfl ?_
  refine go_putF (q := 133) K (wd hw 146 rfl) Via.refl p23_ p6_ (Or.inl (wd hw 147 rfl)) (wd hw 2 rfl) (ty := .long) (by decide +kernel) rfl rfl p7_ dla_130 rfl ?_
  intro h11 Wh11
  refine go_iload (q := 135) K dla_133 rfl rfl ?_
  refine go_iret K dla_135 rfl (Or.inl rfl) rfl (by decide) (by decide) ?_
  have f1 := ((Keep.refl h [t]).wr Wh11 (Or.inl (by simp)))
  have f2 := (p6_.wr Wh11)
  have f3 := (p11_.other Wh11 (Or.inr (slot_ne (C := "com/example/dispersa/dispersa/internal/LayoutTable") (Or.inr (wd hw 22 rfl)) (Or.inl (wd hw 147 rfl)) (by decide) (t := (.object "com/example/dispersa/dispersa/internal/ProbeSequence")) (t' := .long) (by decide +kernel) (by decide +kernel))))
  have f4 := (p12_.other Wh11 (Or.inr (slot_ne (C := "com/example/dispersa/dispersa/internal/LayoutTable") (Or.inr (wd hw 24 rfl)) (Or.inl (wd hw 147 rfl)) (by decide) (t := .boolean) (t' := .long) (by decide +kernel) (by decide +kernel))))
  have f5 := (p13_.other Wh11 (Or.inr (slot_ne (C := "com/example/dispersa/dispersa/internal/LayoutTable") (Or.inr (wd hw 26 rfl)) (Or.inl (wd hw 147 rfl)) (by decide) (t := .boolean) (t' := .long) (by decide +kernel) (by decide +kernel))))
  have f6 := (p14_.other Wh11 (Or.inr (slot_ne (C := "com/example/dispersa/dispersa/internal/LayoutTable") (Or.inr (wd hw 28 rfl)) (Or.inl (wd hw 147 rfl)) (by decide) (t := .boolean) (t' := .long) (by decide +kernel) (by decide +kernel))))
  have f7 := (p15_.other Wh11 (Or.inr (slot_ne (C := "com/example/dispersa/dispersa/internal/LayoutTable") (Or.inl (wd hw 30 rfl)) (Or.inl (wd hw 147 rfl)) (by decide) (t := .boolean) (t' := .long) (by decide +kernel) (by decide +kernel))))
  have f8 := (p16_.other Wh11 (Or.inr (slot_ne (C := "com/example/dispersa/dispersa/internal/LayoutTable") (Or.inl (wd hw 32 rfl)) (Or.inl (wd hw 147 rfl)) (by decide) (t := .boolean) (t' := .long) (by decide +kernel) (by decide +kernel))))
  have f9 := (p17_.other Wh11 (Or.inr (slot_ne (C := "com/example/dispersa/dispersa/internal/LayoutTable") (Or.inl (wd hw 54 rfl)) (Or.inl (wd hw 147 rfl)) (by decide) (t := .int) (t' := .long) (by decide +kernel) (by decide +kernel))))
  have f10 := (p18_.other Wh11 (Or.inr (slot_ne (C := "com/example/dispersa/dispersa/internal/LayoutTable") (Or.inl (wd hw 63 rfl)) (Or.inl (wd hw 147 rfl)) (by decide) (t := .int) (t' := .long) (by decide +kernel) (by decide +kernel))))
  have f11 := (p19_.other Wh11 (Or.inr (slot_ne (C := "com/example/dispersa/dispersa/internal/LayoutTable") (Or.inl (wd hw 66 rfl)) (Or.inl (wd hw 147 rfl)) (by decide) (t := .boolean) (t' := .long) (by decide +kernel) (by decide +kernel))))
  have f12 := (p20_.other Wh11 (Or.inr (slot_ne (C := "com/example/dispersa/dispersa/internal/LayoutTable") (Or.inl (wd hw 72 rfl)) (Or.inl (wd hw 147 rfl)) (by decide) (t := .boolean) (t' := .long) (by decide +kernel) (by decide +kernel))))
  have f13 := (p21_.other Wh11 (Or.inr (slot_ne (C := "com/example/dispersa/dispersa/internal/LayoutTable") (Or.inl (wd hw 74 rfl)) (Or.inl (wd hw 147 rfl)) (by decide) (t := .int) (t' := .long) (by decide +kernel) (by decide +kernel))))
  have f14 := (p22_.other Wh11 (Or.inr (slot_ne (C := "com/example/dispersa/dispersa/internal/LayoutTable") (Or.inl (wd hw 76 rfl)) (Or.inl (wd hw 147 rfl)) (by decide) (t := .int) (t' := .long) (by decide +kernel) (by decide +kernel))))
  have f15 := (p24_.other Wh11 (Or.inr (slot_ne (C := "com/example/dispersa/dispersa/internal/LayoutTable") (Or.inl (wd hw 149 rfl)) (Or.inl (wd hw 147 rfl)) (by decide) (t := .int) (t' := .long) (by decide +kernel) (by decide +kernel))))
  have f16 := (p25_.other Wh11 (Or.inr (slot_ne (C := "com/example/dispersa/dispersa/internal/LayoutTable") (Or.inr (wd hw 79 rfl)) (Or.inl (wd hw 147 rfl)) (by decide) (t := (.array .int)) (t' := .long) (by decide +kernel) (by decide +kernel))))
  have f17 := (p26_.other Wh11 (Or.inr (slot_ne (C := "com/example/dispersa/dispersa/internal/LayoutTable") (Or.inl (wd hw 210 rfl)) (Or.inl (wd hw 147 rfl)) (by decide) (t := .boolean) (t' := .long) (by decide +kernel) (by decide +kernel))))
  exact ⟨(pr + ((2 : Int32).toInt64)), rfl, f1, f2, f3, f4, f5, f6, f7, f8, f9, f10, f11, f12, f13, f14, (p23_.same Wh11), f15, f16, f17⟩
set_option maxRecDepth 65536 in
set_option maxHeartbeats 40000000 in
theorem loU (l : Launch) (Z : State) (a0 : Array Value) (hw : ∀ d ∈ tables_1, d.before a0 Z = true) (t : Addr) (lin : Addr) (m : Int32) (mk : Int32) (mu : Int32) (re : Int32) (pr : Int64) (po : Int32) (ka : Addr) (kl : ClassId) (ks : List Value) (ky : Int32) (h : Heap) (n0 : Nat) (p0_ : Old Z n0 h) (p1_ : Sta Z Z.heap "com/example/dispersa/dispersa/internal/ProbeSequence" "LINEAR" "Lcom/example/dispersa/dispersa/internal/ProbeSequence;" (.ref lin)) (p2_ : Exa Z Z.heap lin "com/example/dispersa/dispersa/internal/ProbeSequence") (p3_ : Fld Z Z.heap lin "java/lang/Enum" "ordinal" "I" (.int (0 : Int32))) (p4_ : Fld Z Z.heap lin "com/example/dispersa/dispersa/internal/ProbeSequence" "hashedStep" "Z" (.int (0 : Int32))) (p5_ : Fld Z Z.heap lin "com/example/dispersa/dispersa/internal/ProbeSequence" "growth" "I" (.int (0 : Int32))) (p6_ : Exa Z h t "com/example/dispersa/dispersa/internal/LayoutTable") (p7_ : n0 ≤ t) (hm : 2 ≤ m.toInt ∧ m.toInt ≤ 5) (hmk : own_mk m mk) (hky : 0 ≤ ky.toInt) (p11_ : Fld Z h t "com/example/dispersa/dispersa/internal/SlotTable" "probing" "Lcom/example/dispersa/dispersa/internal/ProbeSequence;" (.ref lin)) (p12_ : Fld Z h t "com/example/dispersa/dispersa/internal/SlotTable" "bounded" "Z" (.int (0 : Int32))) (p13_ : Fld Z h t "com/example/dispersa/dispersa/internal/SlotTable" "marksHomes" "Z" (.int (0 : Int32))) (p14_ : Fld Z h t "com/example/dispersa/dispersa/internal/SlotTable" "ordersRuns" "Z" (.int (0 : Int32))) (p15_ : Fld Z h t "com/example/dispersa/dispersa/internal/SlotTable" "counting" "Z" (.int (1 : Int32))) (p16_ : Fld Z h t "com/example/dispersa/dispersa/internal/SlotTable" "stopsAtReach" "Z" (.int (0 : Int32))) (p17_ : Fld Z h t "com/example/dispersa/dispersa/internal/SlotTable" "length" "I" (.int m)) (p18_ : Fld Z h t "com/example/dispersa/dispersa/internal/SlotTable" "mask" "I" (.int mk)) (p19_ : Fld Z h t "com/example/dispersa/dispersa/internal/SlotTable" "linear" "Z" (.int (0 : Int32))) (p20_ : Fld Z h t "com/example/dispersa/dispersa/internal/SlotTable" "goesOn" "Z" (.int (0 : Int32))) (p21_ : Fld Z h t "com/example/dispersa/dispersa/internal/SlotTable" "markers" "I" (.int mu)) (p22_ : Fld Z h t "com/example/dispersa/dispersa/internal/SlotTable" "reach" "I" (.int re)) (p23_ : Fld Z h t "com/example/dispersa/dispersa/internal/SlotTable" "probes" "J" (.long pr)) (p24_ : Fld Z h t "com/example/dispersa/dispersa/internal/SlotTable" "position" "I" (.int po)) (p25_ : Fld Z h t "com/example/dispersa/dispersa/internal/LayoutTable" "keys" "[I" (.ref ka)) (p26_ : Fld Z h t "com/example/dispersa/dispersa/internal/LayoutTable" "turnedAway" "Z" (.int (0 : Int32))) (p27_ : Ary Z h ka kl .int ks) (hh0 : ¬ (ky % m) < (0 : Int32)) (hkv : ks[(ky % m).toNatClampNeg]? = some (.int (-2))) (hne : ¬ (-2 : Int32) = ky) (hn0 : ¬ (own_adv (ky % m) (1 : Int32) m) < (0 : Int32)) (hnv : ks[(own_adv (ky % m) (1 : Int32) m).toNatClampNeg]? = some (.int (-1))) (hnne : ¬ (-1 : Int32) = ky) :
    Met l (⟨"com/example/dispersa/dispersa/internal/SlotTable", "locate", "(JLjava/lang/Object;)I"⟩ : MethodName) prog_109_method_30_code 4 (some .int) [] ({ frames := 5, cells := 0, slots := 0, locals := 110 } : Room) #[(.ref t), (.long (own_hash ky)), .null] Z h n0 (fun v h' => ∃ (pr2 : Int64), v = some (.int (-1 : Int32)) ∧ Keep h h' [t] ∧ Exa Z h' t "com/example/dispersa/dispersa/internal/LayoutTable" ∧ Fld Z h' t "com/example/dispersa/dispersa/internal/SlotTable" "probing" "Lcom/example/dispersa/dispersa/internal/ProbeSequence;" (.ref lin) ∧ Fld Z h' t "com/example/dispersa/dispersa/internal/SlotTable" "bounded" "Z" (.int (0 : Int32)) ∧ Fld Z h' t "com/example/dispersa/dispersa/internal/SlotTable" "marksHomes" "Z" (.int (0 : Int32)) ∧ Fld Z h' t "com/example/dispersa/dispersa/internal/SlotTable" "ordersRuns" "Z" (.int (0 : Int32)) ∧ Fld Z h' t "com/example/dispersa/dispersa/internal/SlotTable" "counting" "Z" (.int (1 : Int32)) ∧ Fld Z h' t "com/example/dispersa/dispersa/internal/SlotTable" "stopsAtReach" "Z" (.int (0 : Int32)) ∧ Fld Z h' t "com/example/dispersa/dispersa/internal/SlotTable" "length" "I" (.int m) ∧ Fld Z h' t "com/example/dispersa/dispersa/internal/SlotTable" "mask" "I" (.int mk) ∧ Fld Z h' t "com/example/dispersa/dispersa/internal/SlotTable" "linear" "Z" (.int (0 : Int32)) ∧ Fld Z h' t "com/example/dispersa/dispersa/internal/SlotTable" "goesOn" "Z" (.int (0 : Int32)) ∧ Fld Z h' t "com/example/dispersa/dispersa/internal/SlotTable" "markers" "I" (.int mu) ∧ Fld Z h' t "com/example/dispersa/dispersa/internal/SlotTable" "reach" "I" (.int re) ∧ Fld Z h' t "com/example/dispersa/dispersa/internal/SlotTable" "probes" "J" (.long pr2) ∧ Fld Z h' t "com/example/dispersa/dispersa/internal/SlotTable" "position" "I" (.int po) ∧ Fld Z h' t "com/example/dispersa/dispersa/internal/LayoutTable" "keys" "[I" (.ref ka) ∧ Fld Z h' t "com/example/dispersa/dispersa/internal/LayoutTable" "turnedAway" "Z" (.int (0 : Int32))) := by
  refine Met.of (plainFor_of_name (by first | (simp [plainName, overriddenIn]; done) | decide +kernel)) ?_
  intro pP eE sS mM bB tT cC K
  refine Go.entry (ls := #[.val (.ref t), .val (.long (own_hash ky)), .second, .val .null]) (by first | (simp [argsToLocals, Value.category]; done) | rfl) ?_
  refine go_aloadN (q := 1) K dloc_0 rfl rfl rfl ?_
  refine go_getF (q := 4) K (wd hw 65 rfl) Via.refl p19_ dloc_1 rfl ?_
  refine go_if0 (q := 30) (q' := 7) K dloc_4 (by decide) rfl rfl (fun _ => ?_) (fun hn => cN_no2 hn (show (0 : Int32) = (0 : Int32) from (by decide)))
  refine go_aloadN (q := 31) K dloc_30 rfl rfl rfl ?_
  refine go_lloadN (q := 32) K dloc_31 rfl rfl ?_
  refine go_aloadN (q := 33) K dloc_32 rfl rfl rfl ?_
  refine go_callP (q := 36) (W := 0) K (wd hw 189 rfl) (wd hw 191 rfl) (wd hw 36 rfl) rfl (wd hw 190 rfl) (wd hw 13 rfl) (wd hw 192 rfl) p6_ [(.long (own_hash ky)), .null] [] (laU l Z a0 hw _ _ _ _ _ _ _ _ _ _ _ _ _ n0 p0_ p1_ p2_ p3_ p4_ p5_ p6_ p7_ hm hmk hky p11_ p12_ p13_ p14_ p15_ p16_ p17_ p18_ p19_ p20_ p21_ p22_ p23_ p24_ p25_ p26_ p27_ hh0 hkv hne hn0 hnv hnne) dloc_33 (ps := [.long, (.object "java/lang/Object")]) (by decide +kernel) rfl rfl rfl (by decide) rfl (by decide) (by decide) (by decide) (by decide) rfl ?_
  rintro _ h1 ⟨pr2h1, rfl, Kh1, q0h1, q1h1, q2h1, q3h1, q4h1, q5h1, q6h1, q7h1, q8h1, q9h1, q10h1, q11h1, q12h1, q13h1, q14h1, q15h1, q16h1⟩
  show Go pP l eE _ sS mM _ bB tT cC n0 _ h1 0 0 (mkF mM 36 #[.val (.ref t), .val (.long (own_hash ky)), .second, .val .null] [(.int (-1 : Int32))])
  refine go_iret K dloc_36 rfl (Or.inl rfl) rfl (by decide) (by decide) ?_
  have f1 := ((Keep.refl h [t]).trans Kh1 (allS (Or.inl (by simp)) all0))
  exact ⟨pr2h1, rfl, f1, q0h1, q1h1, q2h1, q3h1, q4h1, q5h1, q6h1, q7h1, q8h1, q9h1, q10h1, q11h1, q12h1, q13h1, q14h1, q15h1, q16h1⟩
set_option maxRecDepth 65536 in
set_option maxHeartbeats 40000000 in
theorem seU (l : Launch) (Z : State) (a0 : Array Value) (hw : ∀ d ∈ tables_1, d.before a0 Z = true) (t : Addr) (lin : Addr) (m : Int32) (mk : Int32) (mu : Int32) (re : Int32) (pr : Int64) (po : Int32) (ka : Addr) (kl : ClassId) (ks : List Value) (ky : Int32) (h : Heap) (n0 : Nat) (p0_ : Old Z n0 h) (p1_ : Sta Z Z.heap "com/example/dispersa/dispersa/internal/ProbeSequence" "LINEAR" "Lcom/example/dispersa/dispersa/internal/ProbeSequence;" (.ref lin)) (p2_ : Exa Z Z.heap lin "com/example/dispersa/dispersa/internal/ProbeSequence") (p3_ : Fld Z Z.heap lin "java/lang/Enum" "ordinal" "I" (.int (0 : Int32))) (p4_ : Fld Z Z.heap lin "com/example/dispersa/dispersa/internal/ProbeSequence" "hashedStep" "Z" (.int (0 : Int32))) (p5_ : Fld Z Z.heap lin "com/example/dispersa/dispersa/internal/ProbeSequence" "growth" "I" (.int (0 : Int32))) (p6_ : Exa Z h t "com/example/dispersa/dispersa/internal/LayoutTable") (p7_ : n0 ≤ t) (hm : 2 ≤ m.toInt ∧ m.toInt ≤ 5) (hmk : own_mk m mk) (hky : 0 ≤ ky.toInt) (p11_ : Fld Z h t "com/example/dispersa/dispersa/internal/SlotTable" "probing" "Lcom/example/dispersa/dispersa/internal/ProbeSequence;" (.ref lin)) (p12_ : Fld Z h t "com/example/dispersa/dispersa/internal/SlotTable" "bounded" "Z" (.int (0 : Int32))) (p13_ : Fld Z h t "com/example/dispersa/dispersa/internal/SlotTable" "marksHomes" "Z" (.int (0 : Int32))) (p14_ : Fld Z h t "com/example/dispersa/dispersa/internal/SlotTable" "ordersRuns" "Z" (.int (0 : Int32))) (p15_ : Fld Z h t "com/example/dispersa/dispersa/internal/SlotTable" "counting" "Z" (.int (1 : Int32))) (p16_ : Fld Z h t "com/example/dispersa/dispersa/internal/SlotTable" "stopsAtReach" "Z" (.int (0 : Int32))) (p17_ : Fld Z h t "com/example/dispersa/dispersa/internal/SlotTable" "length" "I" (.int m)) (p18_ : Fld Z h t "com/example/dispersa/dispersa/internal/SlotTable" "mask" "I" (.int mk)) (p19_ : Fld Z h t "com/example/dispersa/dispersa/internal/SlotTable" "linear" "Z" (.int (0 : Int32))) (p20_ : Fld Z h t "com/example/dispersa/dispersa/internal/SlotTable" "goesOn" "Z" (.int (0 : Int32))) (p21_ : Fld Z h t "com/example/dispersa/dispersa/internal/SlotTable" "markers" "I" (.int mu)) (p22_ : Fld Z h t "com/example/dispersa/dispersa/internal/SlotTable" "reach" "I" (.int re)) (p23_ : Fld Z h t "com/example/dispersa/dispersa/internal/SlotTable" "probes" "J" (.long pr)) (p24_ : Fld Z h t "com/example/dispersa/dispersa/internal/SlotTable" "position" "I" (.int po)) (p25_ : Fld Z h t "com/example/dispersa/dispersa/internal/LayoutTable" "keys" "[I" (.ref ka)) (p26_ : Fld Z h t "com/example/dispersa/dispersa/internal/LayoutTable" "turnedAway" "Z" (.int (0 : Int32))) (p27_ : Ary Z h ka kl .int ks) (hh0 : ¬ (ky % m) < (0 : Int32)) (hkv : ks[(ky % m).toNatClampNeg]? = some (.int (-2))) (hne : ¬ (-2 : Int32) = ky) (hn0 : ¬ (own_adv (ky % m) (1 : Int32) m) < (0 : Int32)) (hnv : ks[(own_adv (ky % m) (1 : Int32) m).toNatClampNeg]? = some (.int (-1))) (hnne : ¬ (-1 : Int32) = ky) :
    Met l (⟨"com/example/dispersa/dispersa/internal/LayoutTable", "search", "(I)I"⟩ : MethodName) prog_86_method_4_code 3 (some .int) [] ({ frames := 6, cells := 0, slots := 0, locals := 140 } : Room) #[(.ref t), (.int ky)] Z h n0 (fun v h' => ∃ (pr2 : Int64), v = some (.int (-1 : Int32)) ∧ Keep h h' [t] ∧ Exa Z h' t "com/example/dispersa/dispersa/internal/LayoutTable" ∧ Fld Z h' t "com/example/dispersa/dispersa/internal/SlotTable" "probing" "Lcom/example/dispersa/dispersa/internal/ProbeSequence;" (.ref lin) ∧ Fld Z h' t "com/example/dispersa/dispersa/internal/SlotTable" "bounded" "Z" (.int (0 : Int32)) ∧ Fld Z h' t "com/example/dispersa/dispersa/internal/SlotTable" "marksHomes" "Z" (.int (0 : Int32)) ∧ Fld Z h' t "com/example/dispersa/dispersa/internal/SlotTable" "ordersRuns" "Z" (.int (0 : Int32)) ∧ Fld Z h' t "com/example/dispersa/dispersa/internal/SlotTable" "counting" "Z" (.int (1 : Int32)) ∧ Fld Z h' t "com/example/dispersa/dispersa/internal/SlotTable" "stopsAtReach" "Z" (.int (0 : Int32)) ∧ Fld Z h' t "com/example/dispersa/dispersa/internal/SlotTable" "length" "I" (.int m) ∧ Fld Z h' t "com/example/dispersa/dispersa/internal/SlotTable" "mask" "I" (.int mk) ∧ Fld Z h' t "com/example/dispersa/dispersa/internal/SlotTable" "linear" "Z" (.int (0 : Int32)) ∧ Fld Z h' t "com/example/dispersa/dispersa/internal/SlotTable" "goesOn" "Z" (.int (0 : Int32)) ∧ Fld Z h' t "com/example/dispersa/dispersa/internal/SlotTable" "markers" "I" (.int mu) ∧ Fld Z h' t "com/example/dispersa/dispersa/internal/SlotTable" "reach" "I" (.int re) ∧ Fld Z h' t "com/example/dispersa/dispersa/internal/SlotTable" "probes" "J" (.long pr2) ∧ Fld Z h' t "com/example/dispersa/dispersa/internal/SlotTable" "position" "I" (.int po) ∧ Fld Z h' t "com/example/dispersa/dispersa/internal/LayoutTable" "keys" "[I" (.ref ka) ∧ Fld Z h' t "com/example/dispersa/dispersa/internal/LayoutTable" "turnedAway" "Z" (.int (0 : Int32))) := by
  refine Met.of (plainFor_of_name (by first | (simp [plainName, overriddenIn]; done) | decide +kernel)) ?_
  intro pP eE sS mM bB tT cC K
  refine Go.entry (ls := #[.val (.ref t), .val (.int ky), .unset]) (by first | (simp [argsToLocals, Value.category]; done) | rfl) ?_
  refine go_aloadN (q := 1) K dsea_0 rfl rfl rfl ?_
  refine go_iloadN (q := 2) K dsea_1 rfl rfl ?_
  refine go_callS (q := 5) (W := 1) K (wd hw 89 rfl) (wd hw 90 rfl) (wd hw 3 rfl) (wd hw 91 rfl) [(.int ky)] [(.ref t)] (hash l Z a0 hw _ _ n0 ) dsea_2 (ps := [.int]) (by decide +kernel) rfl rfl rfl (by decide) rfl (by decide) (by decide) (by decide) (by decide) rfl ?_
  rintro _ _ ⟨rfl, rfl⟩
  show Go pP l eE _ sS mM _ bB tT cC n0 _ h 0 0 (mkF mM 5 #[.val (.ref t), .val (.int ky), .unset] [(.long (own_hash ky)), (.ref t)])
  refine go_aconst_null (q := 6) K dsea_5 rfl ?_
  refine go_callU (q := 9) (W := 0) (ow := "com/example/dispersa/dispersa/internal/SlotTable") K (wd hw 183 rfl) (wd hw 185 rfl) (wd hw 187 rfl) (wd hw 186 rfl) (wd hw 13 rfl) (wd hw 188 rfl) (wd hw 184 rfl) p6_ [(.long (own_hash ky)), .null] [] (loU l Z a0 hw _ _ _ _ _ _ _ _ _ _ _ _ _ n0 p0_ p1_ p2_ p3_ p4_ p5_ p6_ p7_ hm hmk hky p11_ p12_ p13_ p14_ p15_ p16_ p17_ p18_ p19_ p20_ p21_ p22_ p23_ p24_ p25_ p26_ p27_ hh0 hkv hne hn0 hnv hnne) dsea_6 (ps := [.long, (.object "java/lang/Object")]) (by decide +kernel) rfl rfl rfl (by decide) rfl (by decide) (by decide) (by decide) (by decide) rfl ?_
  rintro _ h2 ⟨pr2h2, rfl, Kh2, q0h2, q1h2, q2h2, q3h2, q4h2, q5h2, q6h2, q7h2, q8h2, q9h2, q10h2, q11h2, q12h2, q13h2, q14h2, q15h2, q16h2⟩
  show Go pP l eE _ sS mM _ bB tT cC n0 _ h2 0 0 (mkF mM 9 #[.val (.ref t), .val (.int ky), .unset] [(.int (-1 : Int32))])
  refine go_istoreN (q := 10) K dsea_9 #[.val (.ref t), .val (.int ky), .val (.int (-1 : Int32))] rfl rfl ?_
  refine go_iloadN (q := 11) K dsea_10 rfl rfl ?_
  refine go_if0 (q := 18) (q' := 14) K dsea_11 (by decide) rfl rfl (fun _ => ?_) (fun hn => cN_no2 hn (show (-1 : Int32) < (0 : Int32) from (by decide)))
  refine go_iconst (q := 19) K dsea_18 (-1 : Int32) rfl rfl ?_
  refine go_iret K dsea_19 rfl (Or.inl rfl) rfl (by decide) (by decide) ?_
  have f1 := ((Keep.refl h [t]).trans Kh2 (allS (Or.inl (by simp)) all0))
  exact ⟨pr2h2, rfl, f1, q0h2, q1h2, q2h2, q3h2, q4h2, q5h2, q6h2, q7h2, q8h2, q9h2, q10h2, q11h2, q12h2, q13h2, q14h2, q15h2, q16h2⟩
theorem dvacate_0 : decode prog_109_method_65_code 0 = .ok (.getstatic 230, 3) := by decide +kernel
theorem dvacate_3 : decode prog_109_method_65_code 3 = .ok (.ifCond .ne 21, 3) := by decide +kernel
theorem dvacate_6 : decode prog_109_method_65_code 6 = .ok (.aload_n 0, 1) := by decide +kernel
theorem dvacate_7 : decode prog_109_method_65_code 7 = .ok (.iload_n 1, 1) := by decide +kernel
theorem dvacate_8 : decode prog_109_method_65_code 8 = .ok (.invokevirtual 85, 3) := by decide +kernel
theorem dvacate_11 : decode prog_109_method_65_code 11 = .ok (.iconst 1, 1) := by decide +kernel
theorem dvacate_12 : decode prog_109_method_65_code 12 = .ok (.if_icmp .eq 12, 3) := by decide +kernel
theorem dvacate_15 : decode prog_109_method_65_code 15 = .ok (.new 89, 3) := by decide +kernel
theorem dvacate_18 : decode prog_109_method_65_code 18 = .ok (.dup, 1) := by decide +kernel
theorem dvacate_19 : decode prog_109_method_65_code 19 = .ok (.iload_n 1, 1) := by decide +kernel
theorem dvacate_20 : decode prog_109_method_65_code 20 = .ok (.invokespecial 233, 3) := by decide +kernel
theorem dvacate_23 : decode prog_109_method_65_code 23 = .ok (.athrow, 1) := by decide +kernel
theorem dvacate_24 : decode prog_109_method_65_code 24 = .ok (.aload_n 0, 1) := by decide +kernel
theorem dvacate_25 : decode prog_109_method_65_code 25 = .ok (.dup, 1) := by decide +kernel
theorem dvacate_26 : decode prog_109_method_65_code 26 = .ok (.getfield 49, 3) := by decide +kernel
theorem dvacate_29 : decode prog_109_method_65_code 29 = .ok (.iconst 1, 1) := by decide +kernel
theorem dvacate_30 : decode prog_109_method_65_code 30 = .ok (.iadd, 1) := by decide +kernel
theorem dvacate_31 : decode prog_109_method_65_code 31 = .ok (.putfield 49, 3) := by decide +kernel
theorem dvacate_34 : decode prog_109_method_65_code 34 = .ok (.return_, 1) := by decide +kernel
set_option maxRecDepth 65536 in
set_option maxHeartbeats 40000000 in
theorem vacate (l : Launch) (Z : State) (a0 : Array Value) (hw : ∀ d ∈ tables_1, d.before a0 Z = true) (t : Addr) (lin : Addr) (m : Int32) (mk : Int32) (mu : Int32) (re : Int32) (pr : Int64) (po : Int32) (ka : Addr) (s_ : Int32) (h : Heap) (n0 : Nat) (p0_ : Old Z n0 h) (p1_ : Sta Z Z.heap "com/example/dispersa/dispersa/internal/SlotTable" "$assertionsDisabled" "Z" (.int (1 : Int32))) (p2_ : Exa Z h t "com/example/dispersa/dispersa/internal/LayoutTable") (p3_ : n0 ≤ t) (p4_ : Fld Z h t "com/example/dispersa/dispersa/internal/SlotTable" "probing" "Lcom/example/dispersa/dispersa/internal/ProbeSequence;" (.ref lin)) (p5_ : Fld Z h t "com/example/dispersa/dispersa/internal/SlotTable" "bounded" "Z" (.int (0 : Int32))) (p6_ : Fld Z h t "com/example/dispersa/dispersa/internal/SlotTable" "marksHomes" "Z" (.int (0 : Int32))) (p7_ : Fld Z h t "com/example/dispersa/dispersa/internal/SlotTable" "ordersRuns" "Z" (.int (0 : Int32))) (p8_ : Fld Z h t "com/example/dispersa/dispersa/internal/SlotTable" "counting" "Z" (.int (1 : Int32))) (p9_ : Fld Z h t "com/example/dispersa/dispersa/internal/SlotTable" "stopsAtReach" "Z" (.int (0 : Int32))) (p10_ : Fld Z h t "com/example/dispersa/dispersa/internal/SlotTable" "length" "I" (.int m)) (p11_ : Fld Z h t "com/example/dispersa/dispersa/internal/SlotTable" "mask" "I" (.int mk)) (p12_ : Fld Z h t "com/example/dispersa/dispersa/internal/SlotTable" "linear" "Z" (.int (0 : Int32))) (p13_ : Fld Z h t "com/example/dispersa/dispersa/internal/SlotTable" "goesOn" "Z" (.int (0 : Int32))) (p14_ : Fld Z h t "com/example/dispersa/dispersa/internal/SlotTable" "markers" "I" (.int mu)) (p15_ : Fld Z h t "com/example/dispersa/dispersa/internal/SlotTable" "reach" "I" (.int re)) (p16_ : Fld Z h t "com/example/dispersa/dispersa/internal/SlotTable" "probes" "J" (.long pr)) (p17_ : Fld Z h t "com/example/dispersa/dispersa/internal/SlotTable" "position" "I" (.int po)) (p18_ : Fld Z h t "com/example/dispersa/dispersa/internal/LayoutTable" "keys" "[I" (.ref ka)) (p19_ : Fld Z h t "com/example/dispersa/dispersa/internal/LayoutTable" "turnedAway" "Z" (.int (0 : Int32))) :
    Met l (⟨"com/example/dispersa/dispersa/internal/SlotTable", "vacate", "(I)V"⟩ : MethodName) prog_109_method_65_code 2 none [] ({ frames := 0, cells := 0, slots := 0, locals := 0 } : Room) #[(.ref t), (.int s_)] Z h n0 (fun v h' => v = none ∧ Keep h h' [t] ∧ Exa Z h' t "com/example/dispersa/dispersa/internal/LayoutTable" ∧ Fld Z h' t "com/example/dispersa/dispersa/internal/SlotTable" "probing" "Lcom/example/dispersa/dispersa/internal/ProbeSequence;" (.ref lin) ∧ Fld Z h' t "com/example/dispersa/dispersa/internal/SlotTable" "bounded" "Z" (.int (0 : Int32)) ∧ Fld Z h' t "com/example/dispersa/dispersa/internal/SlotTable" "marksHomes" "Z" (.int (0 : Int32)) ∧ Fld Z h' t "com/example/dispersa/dispersa/internal/SlotTable" "ordersRuns" "Z" (.int (0 : Int32)) ∧ Fld Z h' t "com/example/dispersa/dispersa/internal/SlotTable" "counting" "Z" (.int (1 : Int32)) ∧ Fld Z h' t "com/example/dispersa/dispersa/internal/SlotTable" "stopsAtReach" "Z" (.int (0 : Int32)) ∧ Fld Z h' t "com/example/dispersa/dispersa/internal/SlotTable" "length" "I" (.int m) ∧ Fld Z h' t "com/example/dispersa/dispersa/internal/SlotTable" "mask" "I" (.int mk) ∧ Fld Z h' t "com/example/dispersa/dispersa/internal/SlotTable" "linear" "Z" (.int (0 : Int32)) ∧ Fld Z h' t "com/example/dispersa/dispersa/internal/SlotTable" "goesOn" "Z" (.int (0 : Int32)) ∧ Fld Z h' t "com/example/dispersa/dispersa/internal/SlotTable" "markers" "I" (.int (mu + (1 : Int32))) ∧ Fld Z h' t "com/example/dispersa/dispersa/internal/SlotTable" "reach" "I" (.int re) ∧ Fld Z h' t "com/example/dispersa/dispersa/internal/SlotTable" "probes" "J" (.long pr) ∧ Fld Z h' t "com/example/dispersa/dispersa/internal/SlotTable" "position" "I" (.int po) ∧ Fld Z h' t "com/example/dispersa/dispersa/internal/LayoutTable" "keys" "[I" (.ref ka) ∧ Fld Z h' t "com/example/dispersa/dispersa/internal/LayoutTable" "turnedAway" "Z" (.int (0 : Int32))) := by
  refine Met.of (plainFor_of_name (by first | (simp [plainName, overriddenIn]; done) | decide +kernel)) ?_
  intro pP eE sS mM bB tT cC K
  refine Go.entry (ls := #[.val (.ref t), .val (.int s_)]) (by first | (simp [argsToLocals, Value.category]; done) | rfl) ?_
  refine go_getS (q := 3) K (wd hw 199 rfl) Via.refl (p1_.ext p0_.2) dvacate_0 rfl ?_
  refine go_if0 (q := 24) (q' := 6) K dvacate_3 (by decide) rfl rfl (fun _ => ?_) (fun hn => cN_no2 hn (show ¬ (1 : Int32) = (0 : Int32) from (by decide)))
  refine go_aloadN (q := 25) K dvacate_24 rfl rfl rfl ?_
  refine go_dup (q := 26) K dvacate_25 rfl rfl ?_
  refine go_getF (q := 29) K (wd hw 73 rfl) Via.refl p14_ dvacate_26 rfl ?_
  refine go_iconst (q := 30) K dvacate_29 (1 : Int32) rfl rfl ?_
  refine go_iadd (q := 31) K dvacate_30 rfl ?_
  refine go_putF (q := 34) K (wd hw 73 rfl) Via.refl p14_ p2_ (Or.inl (wd hw 74 rfl)) (wd hw 2 rfl) (ty := .int) (by decide +kernel) rfl rfl p3_ dvacate_31 rfl ?_
  intro h1 Wh1
  refine go_return K dvacate_34 rfl (by decide) (by decide) ?_
  have f1 := ((Keep.refl h [t]).wr Wh1 (Or.inl (by simp)))
  have f2 := (p2_.wr Wh1)
  have f3 := (p4_.other Wh1 (Or.inr (slot_ne (C := "com/example/dispersa/dispersa/internal/LayoutTable") (Or.inr (wd hw 22 rfl)) (Or.inl (wd hw 74 rfl)) (by decide) (t := (.object "com/example/dispersa/dispersa/internal/ProbeSequence")) (t' := .int) (by decide +kernel) (by decide +kernel))))
  have f4 := (p5_.other Wh1 (Or.inr (slot_ne (C := "com/example/dispersa/dispersa/internal/LayoutTable") (Or.inr (wd hw 24 rfl)) (Or.inl (wd hw 74 rfl)) (by decide) (t := .boolean) (t' := .int) (by decide +kernel) (by decide +kernel))))
  have f5 := (p6_.other Wh1 (Or.inr (slot_ne (C := "com/example/dispersa/dispersa/internal/LayoutTable") (Or.inr (wd hw 26 rfl)) (Or.inl (wd hw 74 rfl)) (by decide) (t := .boolean) (t' := .int) (by decide +kernel) (by decide +kernel))))
  have f6 := (p7_.other Wh1 (Or.inr (slot_ne (C := "com/example/dispersa/dispersa/internal/LayoutTable") (Or.inr (wd hw 28 rfl)) (Or.inl (wd hw 74 rfl)) (by decide) (t := .boolean) (t' := .int) (by decide +kernel) (by decide +kernel))))
  have f7 := (p8_.other Wh1 (Or.inr (slot_ne (C := "com/example/dispersa/dispersa/internal/LayoutTable") (Or.inl (wd hw 30 rfl)) (Or.inl (wd hw 74 rfl)) (by decide) (t := .boolean) (t' := .int) (by decide +kernel) (by decide +kernel))))
  have f8 := (p9_.other Wh1 (Or.inr (slot_ne (C := "com/example/dispersa/dispersa/internal/LayoutTable") (Or.inl (wd hw 32 rfl)) (Or.inl (wd hw 74 rfl)) (by decide) (t := .boolean) (t' := .int) (by decide +kernel) (by decide +kernel))))
  have f9 := (p10_.other Wh1 (Or.inr (slot_ne (C := "com/example/dispersa/dispersa/internal/LayoutTable") (Or.inl (wd hw 54 rfl)) (Or.inl (wd hw 74 rfl)) (by decide) (t := .int) (t' := .int) (by decide +kernel) (by decide +kernel))))
  have f10 := (p11_.other Wh1 (Or.inr (slot_ne (C := "com/example/dispersa/dispersa/internal/LayoutTable") (Or.inl (wd hw 63 rfl)) (Or.inl (wd hw 74 rfl)) (by decide) (t := .int) (t' := .int) (by decide +kernel) (by decide +kernel))))
  have f11 := (p12_.other Wh1 (Or.inr (slot_ne (C := "com/example/dispersa/dispersa/internal/LayoutTable") (Or.inl (wd hw 66 rfl)) (Or.inl (wd hw 74 rfl)) (by decide) (t := .boolean) (t' := .int) (by decide +kernel) (by decide +kernel))))
  have f12 := (p13_.other Wh1 (Or.inr (slot_ne (C := "com/example/dispersa/dispersa/internal/LayoutTable") (Or.inl (wd hw 72 rfl)) (Or.inl (wd hw 74 rfl)) (by decide) (t := .boolean) (t' := .int) (by decide +kernel) (by decide +kernel))))
  have f13 := (p15_.other Wh1 (Or.inr (slot_ne (C := "com/example/dispersa/dispersa/internal/LayoutTable") (Or.inl (wd hw 76 rfl)) (Or.inl (wd hw 74 rfl)) (by decide) (t := .int) (t' := .int) (by decide +kernel) (by decide +kernel))))
  have f14 := (p16_.other Wh1 (Or.inr (slot_ne (C := "com/example/dispersa/dispersa/internal/LayoutTable") (Or.inl (wd hw 147 rfl)) (Or.inl (wd hw 74 rfl)) (by decide) (t := .long) (t' := .int) (by decide +kernel) (by decide +kernel))))
  have f15 := (p17_.other Wh1 (Or.inr (slot_ne (C := "com/example/dispersa/dispersa/internal/LayoutTable") (Or.inl (wd hw 149 rfl)) (Or.inl (wd hw 74 rfl)) (by decide) (t := .int) (t' := .int) (by decide +kernel) (by decide +kernel))))
  have f16 := (p18_.other Wh1 (Or.inr (slot_ne (C := "com/example/dispersa/dispersa/internal/LayoutTable") (Or.inr (wd hw 79 rfl)) (Or.inl (wd hw 74 rfl)) (by decide) (t := (.array .int)) (t' := .int) (by decide +kernel) (by decide +kernel))))
  have f17 := (p19_.other Wh1 (Or.inr (slot_ne (C := "com/example/dispersa/dispersa/internal/LayoutTable") (Or.inl (wd hw 210 rfl)) (Or.inl (wd hw 74 rfl)) (by decide) (t := .boolean) (t' := .int) (by decide +kernel) (by decide +kernel))))
  exact ⟨rfl, f1, f2, f3, f4, f5, f6, f7, f8, f9, f10, f11, f12, (p14_.same Wh1), f13, f14, f15, f16, f17⟩
theorem drem_0 : decode prog_86_method_3_code 0 = .ok (.aload_n 0, 1) := by decide +kernel
theorem drem_1 : decode prog_86_method_3_code 1 = .ok (.iload_n 1, 1) := by decide +kernel
theorem drem_2 : decode prog_86_method_3_code 2 = .ok (.invokevirtual 40, 3) := by decide +kernel
theorem drem_5 : decode prog_86_method_3_code 5 = .ok (.istore_n 2, 1) := by decide +kernel
theorem drem_6 : decode prog_86_method_3_code 6 = .ok (.iload_n 2, 1) := by decide +kernel
theorem drem_7 : decode prog_86_method_3_code 7 = .ok (.ifCond .lt 16, 3) := by decide +kernel
theorem drem_10 : decode prog_86_method_3_code 10 = .ok (.aload_n 0, 1) := by decide +kernel
theorem drem_11 : decode prog_86_method_3_code 11 = .ok (.getfield 7, 3) := by decide +kernel
theorem drem_14 : decode prog_86_method_3_code 14 = .ok (.iload_n 2, 1) := by decide +kernel
theorem drem_15 : decode prog_86_method_3_code 15 = .ok (.bipush (-2), 2) := by decide +kernel
theorem drem_17 : decode prog_86_method_3_code 17 = .ok (.iastore, 1) := by decide +kernel
theorem drem_18 : decode prog_86_method_3_code 18 = .ok (.aload_n 0, 1) := by decide +kernel
theorem drem_19 : decode prog_86_method_3_code 19 = .ok (.iload_n 2, 1) := by decide +kernel
theorem drem_20 : decode prog_86_method_3_code 20 = .ok (.invokevirtual 44, 3) := by decide +kernel
theorem drem_23 : decode prog_86_method_3_code 23 = .ok (.iload_n 2, 1) := by decide +kernel
theorem drem_24 : decode prog_86_method_3_code 24 = .ok (.ireturn, 1) := by decide +kernel
set_option maxRecDepth 65536 in
set_option maxHeartbeats 40000000 in
theorem rmH (l : Launch) (Z : State) (a0 : Array Value) (hw : ∀ d ∈ tables_1, d.before a0 Z = true) (t : Addr) (lin : Addr) (m : Int32) (mk : Int32) (mu : Int32) (re : Int32) (pr : Int64) (po : Int32) (ka : Addr) (kl : ClassId) (ks : List Value) (ky : Int32) (h : Heap) (n0 : Nat) (p0_ : Old Z n0 h) (p1_ : Sta Z Z.heap "com/example/dispersa/dispersa/internal/ProbeSequence" "LINEAR" "Lcom/example/dispersa/dispersa/internal/ProbeSequence;" (.ref lin)) (p2_ : Exa Z Z.heap lin "com/example/dispersa/dispersa/internal/ProbeSequence") (p3_ : Fld Z Z.heap lin "java/lang/Enum" "ordinal" "I" (.int (0 : Int32))) (p4_ : Fld Z Z.heap lin "com/example/dispersa/dispersa/internal/ProbeSequence" "hashedStep" "Z" (.int (0 : Int32))) (p5_ : Fld Z Z.heap lin "com/example/dispersa/dispersa/internal/ProbeSequence" "growth" "I" (.int (0 : Int32))) (p6_ : Exa Z h t "com/example/dispersa/dispersa/internal/LayoutTable") (p7_ : n0 ≤ t) (hm : 2 ≤ m.toInt ∧ m.toInt ≤ 5) (hmk : own_mk m mk) (hky : 0 ≤ ky.toInt) (p11_ : Fld Z h t "com/example/dispersa/dispersa/internal/SlotTable" "probing" "Lcom/example/dispersa/dispersa/internal/ProbeSequence;" (.ref lin)) (p12_ : Fld Z h t "com/example/dispersa/dispersa/internal/SlotTable" "bounded" "Z" (.int (0 : Int32))) (p13_ : Fld Z h t "com/example/dispersa/dispersa/internal/SlotTable" "marksHomes" "Z" (.int (0 : Int32))) (p14_ : Fld Z h t "com/example/dispersa/dispersa/internal/SlotTable" "ordersRuns" "Z" (.int (0 : Int32))) (p15_ : Fld Z h t "com/example/dispersa/dispersa/internal/SlotTable" "counting" "Z" (.int (1 : Int32))) (p16_ : Fld Z h t "com/example/dispersa/dispersa/internal/SlotTable" "stopsAtReach" "Z" (.int (0 : Int32))) (p17_ : Fld Z h t "com/example/dispersa/dispersa/internal/SlotTable" "length" "I" (.int m)) (p18_ : Fld Z h t "com/example/dispersa/dispersa/internal/SlotTable" "mask" "I" (.int mk)) (p19_ : Fld Z h t "com/example/dispersa/dispersa/internal/SlotTable" "linear" "Z" (.int (0 : Int32))) (p20_ : Fld Z h t "com/example/dispersa/dispersa/internal/SlotTable" "goesOn" "Z" (.int (0 : Int32))) (p21_ : Fld Z h t "com/example/dispersa/dispersa/internal/SlotTable" "markers" "I" (.int mu)) (p22_ : Fld Z h t "com/example/dispersa/dispersa/internal/SlotTable" "reach" "I" (.int re)) (p23_ : Fld Z h t "com/example/dispersa/dispersa/internal/SlotTable" "probes" "J" (.long pr)) (p24_ : Fld Z h t "com/example/dispersa/dispersa/internal/SlotTable" "position" "I" (.int po)) (p25_ : Fld Z h t "com/example/dispersa/dispersa/internal/LayoutTable" "keys" "[I" (.ref ka)) (p26_ : Fld Z h t "com/example/dispersa/dispersa/internal/LayoutTable" "turnedAway" "Z" (.int (0 : Int32))) (p27_ : Ary Z h ka kl .int ks) (hh0 : ¬ (ky % m) < (0 : Int32)) (p29_ : n0 ≤ ka) (p30_ : t ≠ ka) (hlen : ks.length = m.toNatClampNeg) (p32_ : Sta Z Z.heap "com/example/dispersa/dispersa/internal/SlotTable" "$assertionsDisabled" "Z" (.int (1 : Int32))) (hkv : ks[(ky % m).toNatClampNeg]? = some (.int ky)) :
    Met l (⟨"com/example/dispersa/dispersa/internal/LayoutTable", "remove", "(I)I"⟩ : MethodName) prog_86_method_3_code 3 (some .int) [] ({ frames := 7, cells := 0, slots := 0, locals := 160 } : Room) #[(.ref t), (.int ky)] Z h n0 (fun v h' => ∃ (pr2 : Int64) (mu2 : Int32), v = some (.int (ky % m)) ∧ Keep h h' [t, ka] ∧ Exa Z h' t "com/example/dispersa/dispersa/internal/LayoutTable" ∧ Fld Z h' t "com/example/dispersa/dispersa/internal/SlotTable" "probing" "Lcom/example/dispersa/dispersa/internal/ProbeSequence;" (.ref lin) ∧ Fld Z h' t "com/example/dispersa/dispersa/internal/SlotTable" "bounded" "Z" (.int (0 : Int32)) ∧ Fld Z h' t "com/example/dispersa/dispersa/internal/SlotTable" "marksHomes" "Z" (.int (0 : Int32)) ∧ Fld Z h' t "com/example/dispersa/dispersa/internal/SlotTable" "ordersRuns" "Z" (.int (0 : Int32)) ∧ Fld Z h' t "com/example/dispersa/dispersa/internal/SlotTable" "counting" "Z" (.int (1 : Int32)) ∧ Fld Z h' t "com/example/dispersa/dispersa/internal/SlotTable" "stopsAtReach" "Z" (.int (0 : Int32)) ∧ Fld Z h' t "com/example/dispersa/dispersa/internal/SlotTable" "length" "I" (.int m) ∧ Fld Z h' t "com/example/dispersa/dispersa/internal/SlotTable" "mask" "I" (.int mk) ∧ Fld Z h' t "com/example/dispersa/dispersa/internal/SlotTable" "linear" "Z" (.int (0 : Int32)) ∧ Fld Z h' t "com/example/dispersa/dispersa/internal/SlotTable" "goesOn" "Z" (.int (0 : Int32)) ∧ Fld Z h' t "com/example/dispersa/dispersa/internal/SlotTable" "markers" "I" (.int mu2) ∧ Fld Z h' t "com/example/dispersa/dispersa/internal/SlotTable" "reach" "I" (.int re) ∧ Fld Z h' t "com/example/dispersa/dispersa/internal/SlotTable" "probes" "J" (.long pr2) ∧ Fld Z h' t "com/example/dispersa/dispersa/internal/SlotTable" "position" "I" (.int po) ∧ Fld Z h' t "com/example/dispersa/dispersa/internal/LayoutTable" "keys" "[I" (.ref ka) ∧ Fld Z h' t "com/example/dispersa/dispersa/internal/LayoutTable" "turnedAway" "Z" (.int (0 : Int32)) ∧ Ary Z h' ka kl .int (ks.set (ky % m).toNatClampNeg (.int (-2)))) := by
  refine Met.of (plainFor_of_name (by first | (simp [plainName, overriddenIn]; done) | decide +kernel)) ?_
  intro pP eE sS mM bB tT cC K
  refine Go.entry (ls := #[.val (.ref t), .val (.int ky), .unset]) (by first | (simp [argsToLocals, Value.category]; done) | rfl) ?_
  refine go_aloadN (q := 1) K drem_0 rfl rfl rfl ?_
  refine go_iloadN (q := 2) K drem_1 rfl rfl ?_
  refine go_callV (q := 5) (W := 0) K (wd hw 178 rfl) (wd hw 179 rfl) (wd hw 181 rfl) (wd hw 180 rfl) (wd hw 3 rfl) (wd hw 182 rfl) (wd hw 87 rfl) rfl p6_ [(.int ky)] [] (seH l Z a0 hw _ _ _ _ _ _ _ _ _ _ _ _ _ n0 p0_ p1_ p2_ p3_ p4_ p5_ p6_ p7_ hm hmk hky p11_ p12_ p13_ p14_ p15_ p16_ p17_ p18_ p19_ p20_ p21_ p22_ p23_ p24_ p25_ p26_ p27_ hh0 hkv) drem_2 (ps := [.int]) (by decide +kernel) rfl rfl rfl (by decide) rfl (by decide) (by decide) (by decide) (by decide) rfl ?_
  rintro _ h1 ⟨pr2h1, rfl, Kh1, q0h1, q1h1, q2h1, q3h1, q4h1, q5h1, q6h1, q7h1, q8h1, q9h1, q10h1, q11h1, q12h1, q13h1, q14h1, q15h1, q16h1⟩
  show Go pP l eE _ sS mM _ bB tT cC n0 _ h1 0 0 (mkF mM 5 #[.val (.ref t), .val (.int ky), .unset] [(.int (ky % m))])
  refine go_istoreN (q := 6) K drem_5 #[.val (.ref t), .val (.int ky), .val (.int (ky % m))] rfl rfl ?_
  refine go_iloadN (q := 7) K drem_6 rfl rfl ?_
  refine go_if0 (q := 23) (q' := 10) K drem_7 (by decide) rfl rfl (fun hn => cN_no hn (show ¬ (ky % m) < (0 : Int32) from hh0)) (fun _ => ?_)
  refine go_aloadN (q := 11) K drem_10 rfl rfl rfl ?_
  refine go_getF (q := 14) K (wd hw 78 rfl) Via.refl q15h1 drem_11 rfl ?_
  refine go_iloadN (q := 15) K drem_14 rfl rfl ?_
  refine go_bipush (q := 17) K drem_15 (-2 : Int32) rfl rfl ?_
  have f1 := (p27_.keep Kh1 (ninS (p30_).symm nin0))
  refine go_iastore (q := 18) K f1 hh0 (List.getElem?_eq_some_iff.mp hkv).1 p29_ drem_17 rfl ?_
  intro h2 Wh2 Yh2
  refine go_aloadN (q := 19) K drem_18 rfl rfl rfl ?_
  refine go_iloadN (q := 20) K drem_19 rfl rfl ?_
  have f2 := ((p0_.keep Kh1 (allS p7_ all0)).wr Wh2 p29_)
  have f3 := (q0h1.wr Wh2)
  have f4 := (q1h1.other Wh2 (Or.inl p30_))
  have f5 := (q2h1.other Wh2 (Or.inl p30_))
  have f6 := (q3h1.other Wh2 (Or.inl p30_))
  have f7 := (q4h1.other Wh2 (Or.inl p30_))
  have f8 := (q5h1.other Wh2 (Or.inl p30_))
  have f9 := (q6h1.other Wh2 (Or.inl p30_))
  have f10 := (q7h1.other Wh2 (Or.inl p30_))
  have f11 := (q8h1.other Wh2 (Or.inl p30_))
  have f12 := (q9h1.other Wh2 (Or.inl p30_))
  have f13 := (q10h1.other Wh2 (Or.inl p30_))
  have f14 := (q11h1.other Wh2 (Or.inl p30_))
  have f15 := (q12h1.other Wh2 (Or.inl p30_))
  have f16 := (q13h1.other Wh2 (Or.inl p30_))
  have f17 := (q14h1.other Wh2 (Or.inl p30_))
  have f18 := (q15h1.other Wh2 (Or.inl p30_))
  have f19 := (q16h1.other Wh2 (Or.inl p30_))
  refine go_callU (q := 23) (W := 0) (ow := "com/example/dispersa/dispersa/internal/SlotTable") K (wd hw 193 rfl) (wd hw 195 rfl) (wd hw 197 rfl) (wd hw 196 rfl) (wd hw 13 rfl) (wd hw 198 rfl) (wd hw 194 rfl) f3 [(.int (ky % m))] [] (vacate l Z a0 hw _ _ _ _ _ _ _ _ _ _ _ n0 f2 p32_ f3 p7_ f4 f5 f6 f7 f8 f9 f10 f11 f12 f13 f14 f15 f16 f17 f18 f19) drem_20 (ps := [.int]) (by decide +kernel) rfl rfl rfl (by decide) rfl (by decide) (by decide) (by decide) (by decide) rfl ?_
  rintro _ h3 ⟨rfl, Kh3, q0h3, q1h3, q2h3, q3h3, q4h3, q5h3, q6h3, q7h3, q8h3, q9h3, q10h3, q11h3, q12h3, q13h3, q14h3, q15h3, q16h3⟩
  show Go pP l eE _ sS mM _ bB tT cC n0 _ h3 0 0 (mkF mM 23 #[.val (.ref t), .val (.int ky), .val (.int (ky % m))] [])
  refine go_iloadN (q := 24) K drem_23 rfl rfl ?_
  refine go_iret K drem_24 rfl (Or.inl rfl) rfl (by decide) (by decide) ?_
  have f20 := ((((Keep.refl h [t, ka]).trans Kh1 (allS (Or.inl (by simp)) all0)).wr Wh2 (Or.inl (by simp))).trans Kh3 (allS (Or.inl (by simp)) all0))
  have f21 := (Yh2.keep Kh3 (ninS (p30_).symm nin0))
  exact ⟨pr2h1, (mu + (1 : Int32)), rfl, f20, q0h3, q1h3, q2h3, q3h3, q4h3, q5h3, q6h3, q7h3, q8h3, q9h3, q10h3, q11h3, q12h3, q13h3, q14h3, q15h3, q16h3, f21⟩
set_option maxRecDepth 65536 in
set_option maxHeartbeats 40000000 in
theorem rmN (l : Launch) (Z : State) (a0 : Array Value) (hw : ∀ d ∈ tables_1, d.before a0 Z = true) (t : Addr) (lin : Addr) (m : Int32) (mk : Int32) (mu : Int32) (re : Int32) (pr : Int64) (po : Int32) (ka : Addr) (kl : ClassId) (ks : List Value) (ky : Int32) (kv : Int32) (h : Heap) (n0 : Nat) (p0_ : Old Z n0 h) (p1_ : Sta Z Z.heap "com/example/dispersa/dispersa/internal/ProbeSequence" "LINEAR" "Lcom/example/dispersa/dispersa/internal/ProbeSequence;" (.ref lin)) (p2_ : Exa Z Z.heap lin "com/example/dispersa/dispersa/internal/ProbeSequence") (p3_ : Fld Z Z.heap lin "java/lang/Enum" "ordinal" "I" (.int (0 : Int32))) (p4_ : Fld Z Z.heap lin "com/example/dispersa/dispersa/internal/ProbeSequence" "hashedStep" "Z" (.int (0 : Int32))) (p5_ : Fld Z Z.heap lin "com/example/dispersa/dispersa/internal/ProbeSequence" "growth" "I" (.int (0 : Int32))) (p6_ : Exa Z h t "com/example/dispersa/dispersa/internal/LayoutTable") (p7_ : n0 ≤ t) (hm : 2 ≤ m.toInt ∧ m.toInt ≤ 5) (hmk : own_mk m mk) (hky : 0 ≤ ky.toInt) (p11_ : Fld Z h t "com/example/dispersa/dispersa/internal/SlotTable" "probing" "Lcom/example/dispersa/dispersa/internal/ProbeSequence;" (.ref lin)) (p12_ : Fld Z h t "com/example/dispersa/dispersa/internal/SlotTable" "bounded" "Z" (.int (0 : Int32))) (p13_ : Fld Z h t "com/example/dispersa/dispersa/internal/SlotTable" "marksHomes" "Z" (.int (0 : Int32))) (p14_ : Fld Z h t "com/example/dispersa/dispersa/internal/SlotTable" "ordersRuns" "Z" (.int (0 : Int32))) (p15_ : Fld Z h t "com/example/dispersa/dispersa/internal/SlotTable" "counting" "Z" (.int (1 : Int32))) (p16_ : Fld Z h t "com/example/dispersa/dispersa/internal/SlotTable" "stopsAtReach" "Z" (.int (0 : Int32))) (p17_ : Fld Z h t "com/example/dispersa/dispersa/internal/SlotTable" "length" "I" (.int m)) (p18_ : Fld Z h t "com/example/dispersa/dispersa/internal/SlotTable" "mask" "I" (.int mk)) (p19_ : Fld Z h t "com/example/dispersa/dispersa/internal/SlotTable" "linear" "Z" (.int (0 : Int32))) (p20_ : Fld Z h t "com/example/dispersa/dispersa/internal/SlotTable" "goesOn" "Z" (.int (0 : Int32))) (p21_ : Fld Z h t "com/example/dispersa/dispersa/internal/SlotTable" "markers" "I" (.int mu)) (p22_ : Fld Z h t "com/example/dispersa/dispersa/internal/SlotTable" "reach" "I" (.int re)) (p23_ : Fld Z h t "com/example/dispersa/dispersa/internal/SlotTable" "probes" "J" (.long pr)) (p24_ : Fld Z h t "com/example/dispersa/dispersa/internal/SlotTable" "position" "I" (.int po)) (p25_ : Fld Z h t "com/example/dispersa/dispersa/internal/LayoutTable" "keys" "[I" (.ref ka)) (p26_ : Fld Z h t "com/example/dispersa/dispersa/internal/LayoutTable" "turnedAway" "Z" (.int (0 : Int32))) (p27_ : Ary Z h ka kl .int ks) (hh0 : ¬ (ky % m) < (0 : Int32)) (p29_ : n0 ≤ ka) (p30_ : t ≠ ka) (hlen : ks.length = m.toNatClampNeg) (p32_ : Sta Z Z.heap "com/example/dispersa/dispersa/internal/SlotTable" "$assertionsDisabled" "Z" (.int (1 : Int32))) (hkv : ks[(ky % m).toNatClampNeg]? = some (.int kv)) (hkv0 : 0 ≤ kv.toInt) (hne : ¬ kv = ky) (hn0 : ¬ (own_adv (ky % m) (1 : Int32) m) < (0 : Int32)) (hnv : ks[(own_adv (ky % m) (1 : Int32) m).toNatClampNeg]? = some (.int ky)) :
    Met l (⟨"com/example/dispersa/dispersa/internal/LayoutTable", "remove", "(I)I"⟩ : MethodName) prog_86_method_3_code 3 (some .int) [] ({ frames := 7, cells := 0, slots := 0, locals := 160 } : Room) #[(.ref t), (.int ky)] Z h n0 (fun v h' => ∃ (pr2 : Int64) (mu2 : Int32), v = some (.int (own_adv (ky % m) (1 : Int32) m)) ∧ Keep h h' [t, ka] ∧ Exa Z h' t "com/example/dispersa/dispersa/internal/LayoutTable" ∧ Fld Z h' t "com/example/dispersa/dispersa/internal/SlotTable" "probing" "Lcom/example/dispersa/dispersa/internal/ProbeSequence;" (.ref lin) ∧ Fld Z h' t "com/example/dispersa/dispersa/internal/SlotTable" "bounded" "Z" (.int (0 : Int32)) ∧ Fld Z h' t "com/example/dispersa/dispersa/internal/SlotTable" "marksHomes" "Z" (.int (0 : Int32)) ∧ Fld Z h' t "com/example/dispersa/dispersa/internal/SlotTable" "ordersRuns" "Z" (.int (0 : Int32)) ∧ Fld Z h' t "com/example/dispersa/dispersa/internal/SlotTable" "counting" "Z" (.int (1 : Int32)) ∧ Fld Z h' t "com/example/dispersa/dispersa/internal/SlotTable" "stopsAtReach" "Z" (.int (0 : Int32)) ∧ Fld Z h' t "com/example/dispersa/dispersa/internal/SlotTable" "length" "I" (.int m) ∧ Fld Z h' t "com/example/dispersa/dispersa/internal/SlotTable" "mask" "I" (.int mk) ∧ Fld Z h' t "com/example/dispersa/dispersa/internal/SlotTable" "linear" "Z" (.int (0 : Int32)) ∧ Fld Z h' t "com/example/dispersa/dispersa/internal/SlotTable" "goesOn" "Z" (.int (0 : Int32)) ∧ Fld Z h' t "com/example/dispersa/dispersa/internal/SlotTable" "markers" "I" (.int mu2) ∧ Fld Z h' t "com/example/dispersa/dispersa/internal/SlotTable" "reach" "I" (.int re) ∧ Fld Z h' t "com/example/dispersa/dispersa/internal/SlotTable" "probes" "J" (.long pr2) ∧ Fld Z h' t "com/example/dispersa/dispersa/internal/SlotTable" "position" "I" (.int po) ∧ Fld Z h' t "com/example/dispersa/dispersa/internal/LayoutTable" "keys" "[I" (.ref ka) ∧ Fld Z h' t "com/example/dispersa/dispersa/internal/LayoutTable" "turnedAway" "Z" (.int (0 : Int32)) ∧ Ary Z h' ka kl .int (ks.set (own_adv (ky % m) (1 : Int32) m).toNatClampNeg (.int (-2)))) := by
  refine Met.of (plainFor_of_name (by first | (simp [plainName, overriddenIn]; done) | decide +kernel)) ?_
  intro pP eE sS mM bB tT cC K
  refine Go.entry (ls := #[.val (.ref t), .val (.int ky), .unset]) (by first | (simp [argsToLocals, Value.category]; done) | rfl) ?_
  refine go_aloadN (q := 1) K drem_0 rfl rfl rfl ?_
  refine go_iloadN (q := 2) K drem_1 rfl rfl ?_
  refine go_callV (q := 5) (W := 0) K (wd hw 178 rfl) (wd hw 179 rfl) (wd hw 181 rfl) (wd hw 180 rfl) (wd hw 3 rfl) (wd hw 182 rfl) (wd hw 87 rfl) rfl p6_ [(.int ky)] [] (seN l Z a0 hw _ _ _ _ _ _ _ _ _ _ _ _ _ _ n0 p0_ p1_ p2_ p3_ p4_ p5_ p6_ p7_ hm hmk hky p11_ p12_ p13_ p14_ p15_ p16_ p17_ p18_ p19_ p20_ p21_ p22_ p23_ p24_ p25_ p26_ p27_ hh0 hkv hkv0 hne hn0 hnv) drem_2 (ps := [.int]) (by decide +kernel) rfl rfl rfl (by decide) rfl (by decide) (by decide) (by decide) (by decide) rfl ?_
  rintro _ h1 ⟨pr2h1, rfl, Kh1, q0h1, q1h1, q2h1, q3h1, q4h1, q5h1, q6h1, q7h1, q8h1, q9h1, q10h1, q11h1, q12h1, q13h1, q14h1, q15h1, q16h1⟩
  show Go pP l eE _ sS mM _ bB tT cC n0 _ h1 0 0 (mkF mM 5 #[.val (.ref t), .val (.int ky), .unset] [(.int (own_adv (ky % m) (1 : Int32) m))])
  refine go_istoreN (q := 6) K drem_5 #[.val (.ref t), .val (.int ky), .val (.int (own_adv (ky % m) (1 : Int32) m))] rfl rfl ?_
  refine go_iloadN (q := 7) K drem_6 rfl rfl ?_
  refine go_if0 (q := 23) (q' := 10) K drem_7 (by decide) rfl rfl (fun hn => cN_no hn (show ¬ (own_adv (ky % m) (1 : Int32) m) < (0 : Int32) from hn0)) (fun _ => ?_)
  refine go_aloadN (q := 11) K drem_10 rfl rfl rfl ?_
  refine go_getF (q := 14) K (wd hw 78 rfl) Via.refl q15h1 drem_11 rfl ?_
  refine go_iloadN (q := 15) K drem_14 rfl rfl ?_
  refine go_bipush (q := 17) K drem_15 (-2 : Int32) rfl rfl ?_
  have f1 := (p27_.keep Kh1 (ninS (p30_).symm nin0))
  refine go_iastore (q := 18) K f1 hn0 (List.getElem?_eq_some_iff.mp hnv).1 p29_ drem_17 rfl ?_
  intro h2 Wh2 Yh2
  refine go_aloadN (q := 19) K drem_18 rfl rfl rfl ?_
  refine go_iloadN (q := 20) K drem_19 rfl rfl ?_
  have f2 := ((p0_.keep Kh1 (allS p7_ all0)).wr Wh2 p29_)
  have f3 := (q0h1.wr Wh2)
  have f4 := (q1h1.other Wh2 (Or.inl p30_))
  have f5 := (q2h1.other Wh2 (Or.inl p30_))
  have f6 := (q3h1.other Wh2 (Or.inl p30_))
  have f7 := (q4h1.other Wh2 (Or.inl p30_))
  have f8 := (q5h1.other Wh2 (Or.inl p30_))
  have f9 := (q6h1.other Wh2 (Or.inl p30_))
  have f10 := (q7h1.other Wh2 (Or.inl p30_))
  have f11 := (q8h1.other Wh2 (Or.inl p30_))
  have f12 := (q9h1.other Wh2 (Or.inl p30_))
  have f13 := (q10h1.other Wh2 (Or.inl p30_))
  have f14 := (q11h1.other Wh2 (Or.inl p30_))
  have f15 := (q12h1.other Wh2 (Or.inl p30_))
  have f16 := (q13h1.other Wh2 (Or.inl p30_))
  have f17 := (q14h1.other Wh2 (Or.inl p30_))
  have f18 := (q15h1.other Wh2 (Or.inl p30_))
  have f19 := (q16h1.other Wh2 (Or.inl p30_))
  refine go_callU (q := 23) (W := 0) (ow := "com/example/dispersa/dispersa/internal/SlotTable") K (wd hw 193 rfl) (wd hw 195 rfl) (wd hw 197 rfl) (wd hw 196 rfl) (wd hw 13 rfl) (wd hw 198 rfl) (wd hw 194 rfl) f3 [(.int (own_adv (ky % m) (1 : Int32) m))] [] (vacate l Z a0 hw _ _ _ _ _ _ _ _ _ _ _ n0 f2 p32_ f3 p7_ f4 f5 f6 f7 f8 f9 f10 f11 f12 f13 f14 f15 f16 f17 f18 f19) drem_20 (ps := [.int]) (by decide +kernel) rfl rfl rfl (by decide) rfl (by decide) (by decide) (by decide) (by decide) rfl ?_
  rintro _ h3 ⟨rfl, Kh3, q0h3, q1h3, q2h3, q3h3, q4h3, q5h3, q6h3, q7h3, q8h3, q9h3, q10h3, q11h3, q12h3, q13h3, q14h3, q15h3, q16h3⟩
  show Go pP l eE _ sS mM _ bB tT cC n0 _ h3 0 0 (mkF mM 23 #[.val (.ref t), .val (.int ky), .val (.int (own_adv (ky % m) (1 : Int32) m))] [])
  refine go_iloadN (q := 24) K drem_23 rfl rfl ?_
  refine go_iret K drem_24 rfl (Or.inl rfl) rfl (by decide) (by decide) ?_
  have f20 := ((((Keep.refl h [t, ka]).trans Kh1 (allS (Or.inl (by simp)) all0)).wr Wh2 (Or.inl (by simp))).trans Kh3 (allS (Or.inl (by simp)) all0))
  have f21 := (Yh2.keep Kh3 (ninS (p30_).symm nin0))
  exact ⟨pr2h1, (mu + (1 : Int32)), rfl, f20, q0h3, q1h3, q2h3, q3h3, q4h3, q5h3, q6h3, q7h3, q8h3, q9h3, q10h3, q11h3, q12h3, q13h3, q14h3, q15h3, q16h3, f21⟩
set_option maxRecDepth 65536 in
set_option maxHeartbeats 40000000 in
theorem rmM (l : Launch) (Z : State) (a0 : Array Value) (hw : ∀ d ∈ tables_1, d.before a0 Z = true) (t : Addr) (lin : Addr) (m : Int32) (mk : Int32) (mu : Int32) (re : Int32) (pr : Int64) (po : Int32) (ka : Addr) (kl : ClassId) (ks : List Value) (ky : Int32) (h : Heap) (n0 : Nat) (p0_ : Old Z n0 h) (p1_ : Sta Z Z.heap "com/example/dispersa/dispersa/internal/ProbeSequence" "LINEAR" "Lcom/example/dispersa/dispersa/internal/ProbeSequence;" (.ref lin)) (p2_ : Exa Z Z.heap lin "com/example/dispersa/dispersa/internal/ProbeSequence") (p3_ : Fld Z Z.heap lin "java/lang/Enum" "ordinal" "I" (.int (0 : Int32))) (p4_ : Fld Z Z.heap lin "com/example/dispersa/dispersa/internal/ProbeSequence" "hashedStep" "Z" (.int (0 : Int32))) (p5_ : Fld Z Z.heap lin "com/example/dispersa/dispersa/internal/ProbeSequence" "growth" "I" (.int (0 : Int32))) (p6_ : Exa Z h t "com/example/dispersa/dispersa/internal/LayoutTable") (p7_ : n0 ≤ t) (hm : 2 ≤ m.toInt ∧ m.toInt ≤ 5) (hmk : own_mk m mk) (hky : 0 ≤ ky.toInt) (p11_ : Fld Z h t "com/example/dispersa/dispersa/internal/SlotTable" "probing" "Lcom/example/dispersa/dispersa/internal/ProbeSequence;" (.ref lin)) (p12_ : Fld Z h t "com/example/dispersa/dispersa/internal/SlotTable" "bounded" "Z" (.int (0 : Int32))) (p13_ : Fld Z h t "com/example/dispersa/dispersa/internal/SlotTable" "marksHomes" "Z" (.int (0 : Int32))) (p14_ : Fld Z h t "com/example/dispersa/dispersa/internal/SlotTable" "ordersRuns" "Z" (.int (0 : Int32))) (p15_ : Fld Z h t "com/example/dispersa/dispersa/internal/SlotTable" "counting" "Z" (.int (1 : Int32))) (p16_ : Fld Z h t "com/example/dispersa/dispersa/internal/SlotTable" "stopsAtReach" "Z" (.int (0 : Int32))) (p17_ : Fld Z h t "com/example/dispersa/dispersa/internal/SlotTable" "length" "I" (.int m)) (p18_ : Fld Z h t "com/example/dispersa/dispersa/internal/SlotTable" "mask" "I" (.int mk)) (p19_ : Fld Z h t "com/example/dispersa/dispersa/internal/SlotTable" "linear" "Z" (.int (0 : Int32))) (p20_ : Fld Z h t "com/example/dispersa/dispersa/internal/SlotTable" "goesOn" "Z" (.int (0 : Int32))) (p21_ : Fld Z h t "com/example/dispersa/dispersa/internal/SlotTable" "markers" "I" (.int mu)) (p22_ : Fld Z h t "com/example/dispersa/dispersa/internal/SlotTable" "reach" "I" (.int re)) (p23_ : Fld Z h t "com/example/dispersa/dispersa/internal/SlotTable" "probes" "J" (.long pr)) (p24_ : Fld Z h t "com/example/dispersa/dispersa/internal/SlotTable" "position" "I" (.int po)) (p25_ : Fld Z h t "com/example/dispersa/dispersa/internal/LayoutTable" "keys" "[I" (.ref ka)) (p26_ : Fld Z h t "com/example/dispersa/dispersa/internal/LayoutTable" "turnedAway" "Z" (.int (0 : Int32))) (p27_ : Ary Z h ka kl .int ks) (hh0 : ¬ (ky % m) < (0 : Int32)) (p29_ : n0 ≤ ka) (p30_ : t ≠ ka) (hlen : ks.length = m.toNatClampNeg) (p32_ : Sta Z Z.heap "com/example/dispersa/dispersa/internal/SlotTable" "$assertionsDisabled" "Z" (.int (1 : Int32))) (hkv : ks[(ky % m).toNatClampNeg]? = some (.int (-2))) (hne : ¬ (-2 : Int32) = ky) (hn0 : ¬ (own_adv (ky % m) (1 : Int32) m) < (0 : Int32)) (hnv : ks[(own_adv (ky % m) (1 : Int32) m).toNatClampNeg]? = some (.int ky)) :
    Met l (⟨"com/example/dispersa/dispersa/internal/LayoutTable", "remove", "(I)I"⟩ : MethodName) prog_86_method_3_code 3 (some .int) [] ({ frames := 7, cells := 0, slots := 0, locals := 160 } : Room) #[(.ref t), (.int ky)] Z h n0 (fun v h' => ∃ (pr2 : Int64) (mu2 : Int32), v = some (.int (own_adv (ky % m) (1 : Int32) m)) ∧ Keep h h' [t, ka] ∧ Exa Z h' t "com/example/dispersa/dispersa/internal/LayoutTable" ∧ Fld Z h' t "com/example/dispersa/dispersa/internal/SlotTable" "probing" "Lcom/example/dispersa/dispersa/internal/ProbeSequence;" (.ref lin) ∧ Fld Z h' t "com/example/dispersa/dispersa/internal/SlotTable" "bounded" "Z" (.int (0 : Int32)) ∧ Fld Z h' t "com/example/dispersa/dispersa/internal/SlotTable" "marksHomes" "Z" (.int (0 : Int32)) ∧ Fld Z h' t "com/example/dispersa/dispersa/internal/SlotTable" "ordersRuns" "Z" (.int (0 : Int32)) ∧ Fld Z h' t "com/example/dispersa/dispersa/internal/SlotTable" "counting" "Z" (.int (1 : Int32)) ∧ Fld Z h' t "com/example/dispersa/dispersa/internal/SlotTable" "stopsAtReach" "Z" (.int (0 : Int32)) ∧ Fld Z h' t "com/example/dispersa/dispersa/internal/SlotTable" "length" "I" (.int m) ∧ Fld Z h' t "com/example/dispersa/dispersa/internal/SlotTable" "mask" "I" (.int mk) ∧ Fld Z h' t "com/example/dispersa/dispersa/internal/SlotTable" "linear" "Z" (.int (0 : Int32)) ∧ Fld Z h' t "com/example/dispersa/dispersa/internal/SlotTable" "goesOn" "Z" (.int (0 : Int32)) ∧ Fld Z h' t "com/example/dispersa/dispersa/internal/SlotTable" "markers" "I" (.int mu2) ∧ Fld Z h' t "com/example/dispersa/dispersa/internal/SlotTable" "reach" "I" (.int re) ∧ Fld Z h' t "com/example/dispersa/dispersa/internal/SlotTable" "probes" "J" (.long pr2) ∧ Fld Z h' t "com/example/dispersa/dispersa/internal/SlotTable" "position" "I" (.int po) ∧ Fld Z h' t "com/example/dispersa/dispersa/internal/LayoutTable" "keys" "[I" (.ref ka) ∧ Fld Z h' t "com/example/dispersa/dispersa/internal/LayoutTable" "turnedAway" "Z" (.int (0 : Int32)) ∧ Ary Z h' ka kl .int (ks.set (own_adv (ky % m) (1 : Int32) m).toNatClampNeg (.int (-2)))) := by
  refine Met.of (plainFor_of_name (by first | (simp [plainName, overriddenIn]; done) | decide +kernel)) ?_
  intro pP eE sS mM bB tT cC K
  refine Go.entry (ls := #[.val (.ref t), .val (.int ky), .unset]) (by first | (simp [argsToLocals, Value.category]; done) | rfl) ?_
  refine go_aloadN (q := 1) K drem_0 rfl rfl rfl ?_
  refine go_iloadN (q := 2) K drem_1 rfl rfl ?_
  refine go_callV (q := 5) (W := 0) K (wd hw 178 rfl) (wd hw 179 rfl) (wd hw 181 rfl) (wd hw 180 rfl) (wd hw 3 rfl) (wd hw 182 rfl) (wd hw 87 rfl) rfl p6_ [(.int ky)] [] (seM l Z a0 hw _ _ _ _ _ _ _ _ _ _ _ _ _ n0 p0_ p1_ p2_ p3_ p4_ p5_ p6_ p7_ hm hmk hky p11_ p12_ p13_ p14_ p15_ p16_ p17_ p18_ p19_ p20_ p21_ p22_ p23_ p24_ p25_ p26_ p27_ hh0 hkv hne hn0 hnv) drem_2 (ps := [.int]) (by decide +kernel) rfl rfl rfl (by decide) rfl (by decide) (by decide) (by decide) (by decide) rfl ?_
  rintro _ h1 ⟨pr2h1, rfl, Kh1, q0h1, q1h1, q2h1, q3h1, q4h1, q5h1, q6h1, q7h1, q8h1, q9h1, q10h1, q11h1, q12h1, q13h1, q14h1, q15h1, q16h1⟩
  show Go pP l eE _ sS mM _ bB tT cC n0 _ h1 0 0 (mkF mM 5 #[.val (.ref t), .val (.int ky), .unset] [(.int (own_adv (ky % m) (1 : Int32) m))])
  refine go_istoreN (q := 6) K drem_5 #[.val (.ref t), .val (.int ky), .val (.int (own_adv (ky % m) (1 : Int32) m))] rfl rfl ?_
  refine go_iloadN (q := 7) K drem_6 rfl rfl ?_
  refine go_if0 (q := 23) (q' := 10) K drem_7 (by decide) rfl rfl (fun hn => cN_no hn (show ¬ (own_adv (ky % m) (1 : Int32) m) < (0 : Int32) from hn0)) (fun _ => ?_)
  refine go_aloadN (q := 11) K drem_10 rfl rfl rfl ?_
  refine go_getF (q := 14) K (wd hw 78 rfl) Via.refl q15h1 drem_11 rfl ?_
  refine go_iloadN (q := 15) K drem_14 rfl rfl ?_
  refine go_bipush (q := 17) K drem_15 (-2 : Int32) rfl rfl ?_
  have f1 := (p27_.keep Kh1 (ninS (p30_).symm nin0))
  refine go_iastore (q := 18) K f1 hn0 (List.getElem?_eq_some_iff.mp hnv).1 p29_ drem_17 rfl ?_
  intro h2 Wh2 Yh2
  refine go_aloadN (q := 19) K drem_18 rfl rfl rfl ?_
  refine go_iloadN (q := 20) K drem_19 rfl rfl ?_
  have f2 := ((p0_.keep Kh1 (allS p7_ all0)).wr Wh2 p29_)
  have f3 := (q0h1.wr Wh2)
  have f4 := (q1h1.other Wh2 (Or.inl p30_))
  have f5 := (q2h1.other Wh2 (Or.inl p30_))
  have f6 := (q3h1.other Wh2 (Or.inl p30_))
  have f7 := (q4h1.other Wh2 (Or.inl p30_))
  have f8 := (q5h1.other Wh2 (Or.inl p30_))
  have f9 := (q6h1.other Wh2 (Or.inl p30_))
  have f10 := (q7h1.other Wh2 (Or.inl p30_))
  have f11 := (q8h1.other Wh2 (Or.inl p30_))
  have f12 := (q9h1.other Wh2 (Or.inl p30_))
  have f13 := (q10h1.other Wh2 (Or.inl p30_))
  have f14 := (q11h1.other Wh2 (Or.inl p30_))
  have f15 := (q12h1.other Wh2 (Or.inl p30_))
  have f16 := (q13h1.other Wh2 (Or.inl p30_))
  have f17 := (q14h1.other Wh2 (Or.inl p30_))
  have f18 := (q15h1.other Wh2 (Or.inl p30_))
  have f19 := (q16h1.other Wh2 (Or.inl p30_))
  refine go_callU (q := 23) (W := 0) (ow := "com/example/dispersa/dispersa/internal/SlotTable") K (wd hw 193 rfl) (wd hw 195 rfl) (wd hw 197 rfl) (wd hw 196 rfl) (wd hw 13 rfl) (wd hw 198 rfl) (wd hw 194 rfl) f3 [(.int (own_adv (ky % m) (1 : Int32) m))] [] (vacate l Z a0 hw _ _ _ _ _ _ _ _ _ _ _ n0 f2 p32_ f3 p7_ f4 f5 f6 f7 f8 f9 f10 f11 f12 f13 f14 f15 f16 f17 f18 f19) drem_20 (ps := [.int]) (by decide +kernel) rfl rfl rfl (by decide) rfl (by decide) (by decide) (by decide) (by decide) rfl ?_
  rintro _ h3 ⟨rfl, Kh3, q0h3, q1h3, q2h3, q3h3, q4h3, q5h3, q6h3, q7h3, q8h3, q9h3, q10h3, q11h3, q12h3, q13h3, q14h3, q15h3, q16h3⟩
  show Go pP l eE _ sS mM _ bB tT cC n0 _ h3 0 0 (mkF mM 23 #[.val (.ref t), .val (.int ky), .val (.int (own_adv (ky % m) (1 : Int32) m))] [])
  refine go_iloadN (q := 24) K drem_23 rfl rfl ?_
  refine go_iret K drem_24 rfl (Or.inl rfl) rfl (by decide) (by decide) ?_
  have f20 := ((((Keep.refl h [t, ka]).trans Kh1 (allS (Or.inl (by simp)) all0)).wr Wh2 (Or.inl (by simp))).trans Kh3 (allS (Or.inl (by simp)) all0))
  have f21 := (Yh2.keep Kh3 (ninS (p30_).symm nin0))
  exact ⟨pr2h1, (mu + (1 : Int32)), rfl, f20, q0h3, q1h3, q2h3, q3h3, q4h3, q5h3, q6h3, q7h3, q8h3, q9h3, q10h3, q11h3, q12h3, q13h3, q14h3, q15h3, q16h3, f21⟩
set_option maxRecDepth 65536 in
set_option maxHeartbeats 40000000 in
theorem rmU (l : Launch) (Z : State) (a0 : Array Value) (hw : ∀ d ∈ tables_1, d.before a0 Z = true) (t : Addr) (lin : Addr) (m : Int32) (mk : Int32) (mu : Int32) (re : Int32) (pr : Int64) (po : Int32) (ka : Addr) (kl : ClassId) (ks : List Value) (ky : Int32) (h : Heap) (n0 : Nat) (p0_ : Old Z n0 h) (p1_ : Sta Z Z.heap "com/example/dispersa/dispersa/internal/ProbeSequence" "LINEAR" "Lcom/example/dispersa/dispersa/internal/ProbeSequence;" (.ref lin)) (p2_ : Exa Z Z.heap lin "com/example/dispersa/dispersa/internal/ProbeSequence") (p3_ : Fld Z Z.heap lin "java/lang/Enum" "ordinal" "I" (.int (0 : Int32))) (p4_ : Fld Z Z.heap lin "com/example/dispersa/dispersa/internal/ProbeSequence" "hashedStep" "Z" (.int (0 : Int32))) (p5_ : Fld Z Z.heap lin "com/example/dispersa/dispersa/internal/ProbeSequence" "growth" "I" (.int (0 : Int32))) (p6_ : Exa Z h t "com/example/dispersa/dispersa/internal/LayoutTable") (p7_ : n0 ≤ t) (hm : 2 ≤ m.toInt ∧ m.toInt ≤ 5) (hmk : own_mk m mk) (hky : 0 ≤ ky.toInt) (p11_ : Fld Z h t "com/example/dispersa/dispersa/internal/SlotTable" "probing" "Lcom/example/dispersa/dispersa/internal/ProbeSequence;" (.ref lin)) (p12_ : Fld Z h t "com/example/dispersa/dispersa/internal/SlotTable" "bounded" "Z" (.int (0 : Int32))) (p13_ : Fld Z h t "com/example/dispersa/dispersa/internal/SlotTable" "marksHomes" "Z" (.int (0 : Int32))) (p14_ : Fld Z h t "com/example/dispersa/dispersa/internal/SlotTable" "ordersRuns" "Z" (.int (0 : Int32))) (p15_ : Fld Z h t "com/example/dispersa/dispersa/internal/SlotTable" "counting" "Z" (.int (1 : Int32))) (p16_ : Fld Z h t "com/example/dispersa/dispersa/internal/SlotTable" "stopsAtReach" "Z" (.int (0 : Int32))) (p17_ : Fld Z h t "com/example/dispersa/dispersa/internal/SlotTable" "length" "I" (.int m)) (p18_ : Fld Z h t "com/example/dispersa/dispersa/internal/SlotTable" "mask" "I" (.int mk)) (p19_ : Fld Z h t "com/example/dispersa/dispersa/internal/SlotTable" "linear" "Z" (.int (0 : Int32))) (p20_ : Fld Z h t "com/example/dispersa/dispersa/internal/SlotTable" "goesOn" "Z" (.int (0 : Int32))) (p21_ : Fld Z h t "com/example/dispersa/dispersa/internal/SlotTable" "markers" "I" (.int mu)) (p22_ : Fld Z h t "com/example/dispersa/dispersa/internal/SlotTable" "reach" "I" (.int re)) (p23_ : Fld Z h t "com/example/dispersa/dispersa/internal/SlotTable" "probes" "J" (.long pr)) (p24_ : Fld Z h t "com/example/dispersa/dispersa/internal/SlotTable" "position" "I" (.int po)) (p25_ : Fld Z h t "com/example/dispersa/dispersa/internal/LayoutTable" "keys" "[I" (.ref ka)) (p26_ : Fld Z h t "com/example/dispersa/dispersa/internal/LayoutTable" "turnedAway" "Z" (.int (0 : Int32))) (p27_ : Ary Z h ka kl .int ks) (hh0 : ¬ (ky % m) < (0 : Int32)) (p29_ : n0 ≤ ka) (p30_ : t ≠ ka) (hlen : ks.length = m.toNatClampNeg) (p32_ : Sta Z Z.heap "com/example/dispersa/dispersa/internal/SlotTable" "$assertionsDisabled" "Z" (.int (1 : Int32))) (hkv : ks[(ky % m).toNatClampNeg]? = some (.int (-2))) (hne : ¬ (-2 : Int32) = ky) (hn0 : ¬ (own_adv (ky % m) (1 : Int32) m) < (0 : Int32)) (hnv : ks[(own_adv (ky % m) (1 : Int32) m).toNatClampNeg]? = some (.int (-1))) (hnne : ¬ (-1 : Int32) = ky) :
    Met l (⟨"com/example/dispersa/dispersa/internal/LayoutTable", "remove", "(I)I"⟩ : MethodName) prog_86_method_3_code 3 (some .int) [] ({ frames := 7, cells := 0, slots := 0, locals := 160 } : Room) #[(.ref t), (.int ky)] Z h n0 (fun v h' => ∃ (pr2 : Int64) (mu2 : Int32), v = some (.int (-1 : Int32)) ∧ Keep h h' [t, ka] ∧ Exa Z h' t "com/example/dispersa/dispersa/internal/LayoutTable" ∧ Fld Z h' t "com/example/dispersa/dispersa/internal/SlotTable" "probing" "Lcom/example/dispersa/dispersa/internal/ProbeSequence;" (.ref lin) ∧ Fld Z h' t "com/example/dispersa/dispersa/internal/SlotTable" "bounded" "Z" (.int (0 : Int32)) ∧ Fld Z h' t "com/example/dispersa/dispersa/internal/SlotTable" "marksHomes" "Z" (.int (0 : Int32)) ∧ Fld Z h' t "com/example/dispersa/dispersa/internal/SlotTable" "ordersRuns" "Z" (.int (0 : Int32)) ∧ Fld Z h' t "com/example/dispersa/dispersa/internal/SlotTable" "counting" "Z" (.int (1 : Int32)) ∧ Fld Z h' t "com/example/dispersa/dispersa/internal/SlotTable" "stopsAtReach" "Z" (.int (0 : Int32)) ∧ Fld Z h' t "com/example/dispersa/dispersa/internal/SlotTable" "length" "I" (.int m) ∧ Fld Z h' t "com/example/dispersa/dispersa/internal/SlotTable" "mask" "I" (.int mk) ∧ Fld Z h' t "com/example/dispersa/dispersa/internal/SlotTable" "linear" "Z" (.int (0 : Int32)) ∧ Fld Z h' t "com/example/dispersa/dispersa/internal/SlotTable" "goesOn" "Z" (.int (0 : Int32)) ∧ Fld Z h' t "com/example/dispersa/dispersa/internal/SlotTable" "markers" "I" (.int mu2) ∧ Fld Z h' t "com/example/dispersa/dispersa/internal/SlotTable" "reach" "I" (.int re) ∧ Fld Z h' t "com/example/dispersa/dispersa/internal/SlotTable" "probes" "J" (.long pr2) ∧ Fld Z h' t "com/example/dispersa/dispersa/internal/SlotTable" "position" "I" (.int po) ∧ Fld Z h' t "com/example/dispersa/dispersa/internal/LayoutTable" "keys" "[I" (.ref ka) ∧ Fld Z h' t "com/example/dispersa/dispersa/internal/LayoutTable" "turnedAway" "Z" (.int (0 : Int32)) ∧ Ary Z h' ka kl .int ks) := by
  refine Met.of (plainFor_of_name (by first | (simp [plainName, overriddenIn]; done) | decide +kernel)) ?_
  intro pP eE sS mM bB tT cC K
  refine Go.entry (ls := #[.val (.ref t), .val (.int ky), .unset]) (by first | (simp [argsToLocals, Value.category]; done) | rfl) ?_
  refine go_aloadN (q := 1) K drem_0 rfl rfl rfl ?_
  refine go_iloadN (q := 2) K drem_1 rfl rfl ?_
  refine go_callV (q := 5) (W := 0) K (wd hw 178 rfl) (wd hw 179 rfl) (wd hw 181 rfl) (wd hw 180 rfl) (wd hw 3 rfl) (wd hw 182 rfl) (wd hw 87 rfl) rfl p6_ [(.int ky)] [] (seU l Z a0 hw _ _ _ _ _ _ _ _ _ _ _ _ _ n0 p0_ p1_ p2_ p3_ p4_ p5_ p6_ p7_ hm hmk hky p11_ p12_ p13_ p14_ p15_ p16_ p17_ p18_ p19_ p20_ p21_ p22_ p23_ p24_ p25_ p26_ p27_ hh0 hkv hne hn0 hnv hnne) drem_2 (ps := [.int]) (by decide +kernel) rfl rfl rfl (by decide) rfl (by decide) (by decide) (by decide) (by decide) rfl ?_
  rintro _ h1 ⟨pr2h1, rfl, Kh1, q0h1, q1h1, q2h1, q3h1, q4h1, q5h1, q6h1, q7h1, q8h1, q9h1, q10h1, q11h1, q12h1, q13h1, q14h1, q15h1, q16h1⟩
  show Go pP l eE _ sS mM _ bB tT cC n0 _ h1 0 0 (mkF mM 5 #[.val (.ref t), .val (.int ky), .unset] [(.int (-1 : Int32))])
  refine go_istoreN (q := 6) K drem_5 #[.val (.ref t), .val (.int ky), .val (.int (-1 : Int32))] rfl rfl ?_
  refine go_iloadN (q := 7) K drem_6 rfl rfl ?_
  refine go_if0 (q := 23) (q' := 10) K drem_7 (by decide) rfl rfl (fun _ => ?_) (fun hn => cN_no2 hn (show (-1 : Int32) < (0 : Int32) from (by decide)))
  refine go_iloadN (q := 24) K drem_23 rfl rfl ?_
  refine go_iret K drem_24 rfl (Or.inl rfl) rfl (by decide) (by decide) ?_
  have f1 := ((Keep.refl h [t, ka]).trans Kh1 (allS (Or.inl (by simp)) all0))
  have f2 := (p27_.keep Kh1 (ninS (p30_).symm nin0))
  exact ⟨pr2h1, mu, rfl, f1, q0h1, q1h1, q2h1, q3h1, q4h1, q5h1, q6h1, q7h1, q8h1, q9h1, q10h1, q11h1, q12h1, q13h1, q14h1, q15h1, q16h1, f2⟩
theorem own_setA {l : List Value} {i : Nat} {v : Value} (h : i < l.length) : (l.set i v)[i]? = some v := by simp [h]
theorem own_setN {l : List Value} {i j : Nat} {v w : Value} (h : i ≠ j) (g : l[j]? = some w) : (l.set i v)[j]? = some w := by rw [List.getElem?_set_ne h]; exact g
theorem own_natne {x y : Int32} (hx : ¬ x < (0 : Int32)) (hy : ¬ y < (0 : Int32)) (h : ¬ x = y) : x.toNatClampNeg ≠ y.toNatClampNeg := by
  intro q; apply h
  have a := nat_of hx; have b := nat_of hy
  exact Int32.toInt_inj.mp (by omega)
theorem own_slot {x m : Int32} (hx : 0 ≤ x.toInt) (hm : 2 ≤ m.toInt ∧ m.toInt ≤ 5) : ¬ (x % m) < (0 : Int32) ∧ (x % m).toNatClampNeg < m.toNatClampNeg ∧ ¬ (x % m) = (2147483647 : Int32) ∧ (x % m).toInt < m.toInt := by
  have h1 := (c_irem x m m.toInt rfl).1 hx
  have h2 := Int.emod_nonneg x.toInt (show m.toInt ≠ 0 by omega)
  have h3 := Int.emod_lt_of_pos x.toInt (show 0 < m.toInt by omega)
  have hl : ¬ (x % m) < (0 : Int32) := by rw [Int32.lt_iff_toInt_lt, own_i0]; omega
  refine ⟨hl, ?_, ?_, by omega⟩
  · rw [Int32.toNatClampNeg, Int32.toNatClampNeg]; omega
  · intro q; have := congrArg Int32.toInt q; have e : (2147483647 : Int32).toInt = 2147483647 := rfl; omega
theorem own_next {x m : Int32} (hx : ¬ x < (0 : Int32)) (hxm : x.toInt < m.toInt) (hm : 2 ≤ m.toInt ∧ m.toInt ≤ 5) : ¬ (own_adv x 1 m) < (0 : Int32) ∧ (own_adv x 1 m).toNatClampNeg < m.toNatClampNeg ∧ ¬ (own_adv x 1 m) = (2147483647 : Int32) ∧ ¬ x = own_adv x 1 m := by
  rw [Int32.lt_iff_toInt_lt, own_i0] at hx
  have a1 := c_iadd x 1; have r1 := rng32 (x + 1); rw [own_i1] at a1
  have e1 : (x + 1).toInt = x.toInt + 1 := by omega
  have a2 := c_isub (x + 1) m; have r2 := rng32 (x + 1 - m)
  have e : (own_adv x 1 m).toInt = if x.toInt + 1 < m.toInt then x.toInt + 1 else x.toInt + 1 - m.toInt := by
    rw [own_adv]
    by_cases q : x + 1 < m
    · rw [if_pos q, e1, if_pos (by rw [Int32.lt_iff_toInt_lt, e1] at q; exact q)]
    · rw [if_neg q, if_neg (by rw [Int32.lt_iff_toInt_lt, e1] at q; exact q)]; rw [Int32.lt_iff_toInt_lt, e1] at q; omega
  have b : 0 ≤ (own_adv x 1 m).toInt ∧ (own_adv x 1 m).toInt < m.toInt ∧ (own_adv x 1 m).toInt ≠ x.toInt := by
    rw [e]; split <;> omega
  refine ⟨?_, ?_, ?_, ?_⟩
  · rw [Int32.lt_iff_toInt_lt, own_i0]; omega
  · rw [Int32.toNatClampNeg, Int32.toNatClampNeg]; omega
  · intro q; have := congrArg Int32.toInt q; have e : (2147483647 : Int32).toInt = 2147483647 := rfl; omega
  · intro q; exact b.2.2 (congrArg Int32.toInt q).symm
theorem own_mm (ww : Int32) : 2 ≤ ((2 : Int32) + (ww &&& 3)).toInt ∧ ((2 : Int32) + (ww &&& 3)).toInt ≤ 5 := by
  have h1 := c_and ww 3 (by decide)
  have h2 := c_iadd 2 (ww &&& 3)
  have h3 := rng32 ((2 : Int32) + (ww &&& 3))
  rw [own_i3] at h1; rw [own_i2] at h2; omega
theorem own_pos31 (x : Int32) : 0 ≤ (x &&& 2147483647).toInt := by
  have h1 := c_mask x 2147483647 31 (by decide) (by decide); omega
theorem own_mne {m : Int32} (hm : 2 ≤ m.toInt ∧ m.toInt ≤ 5) : m ≠ 0 := by rintro rfl; revert hm; decide
set_option maxRecDepth 65536 in
set_option maxHeartbeats 40000000 in
theorem law_met (l : Launch) (Z : State) (a0 : Array Value) (hw : ∀ d ∈ tables_1, d.before a0 Z = true) (xx : Int32) (yy : Int32) (zz : Int32) (ww : Int32) (ff : Int32) (lin : Addr) (h : Heap) (n0 : Nat) (p0_ : Old Z n0 h) (p1_ : Sta Z Z.heap "com/example/dispersa/dispersa/internal/ProbeSequence" "LINEAR" "Lcom/example/dispersa/dispersa/internal/ProbeSequence;" (.ref lin)) (p2_ : Exa Z Z.heap lin "com/example/dispersa/dispersa/internal/ProbeSequence") (p3_ : Fld Z Z.heap lin "java/lang/Enum" "ordinal" "I" (.int (0 : Int32))) (p4_ : Fld Z Z.heap lin "com/example/dispersa/dispersa/internal/ProbeSequence" "hashedStep" "Z" (.int (0 : Int32))) (p5_ : Fld Z Z.heap lin "com/example/dispersa/dispersa/internal/ProbeSequence" "growth" "I" (.int (0 : Int32))) (p6_ : Sta Z Z.heap "com/example/dispersa/dispersa/internal/SlotTable" "$assertionsDisabled" "Z" (.int (1 : Int32))) :
    Met l x code maxLocals ret tables_1 room_1 #[(.int xx), (.int yy), (.int zz), (.int ww), (.int ff)] Z h n0 (fun v _ => v = some (.int 1)) := by
  refine Met.of (plainFor_of_name (by first | (simp [plainName, overriddenIn]; done) | decide +kernel)) ?_
  intro pP eE sS mM bB tT cC K
  refine Go.entry (ls := #[.val (.int xx), .val (.int yy), .val (.int zz), .val (.int ww), .val (.int ff), .unset, .unset, .unset, .unset, .unset, .unset, .unset, .unset, .unset, .unset, .unset, .unset, .unset]) (by first | (simp [argsToLocals, Value.category, maxLocals]; done) | rfl) ?_
  refine go_iconst (q := 1) K at_0 (2 : Int32) rfl rfl ?_
  refine go_iloadN (q := 2) K at_1 rfl rfl ?_
  refine go_iconst (q := 3) K at_2 (3 : Int32) rfl rfl ?_
  refine go_iand (q := 4) K at_3 rfl ?_
  refine go_iadd (q := 5) K at_4 rfl ?_
  refine go_nameI (fun m hm => ?_)
  have hm2 : 2 ≤ m.toInt ∧ m.toInt ≤ 5 := by rw [hm]; exact own_mm ww
  refine go_istore (q := 7) K at_5 #[.val (.int xx), .val (.int yy), .val (.int zz), .val (.int ww), .val (.int ff), .val (.int m), .unset, .unset, .unset, .unset, .unset, .unset, .unset, .unset, .unset, .unset, .unset, .unset] rfl rfl ?_
  refine go_iloadN (q := 8) K at_7 rfl rfl ?_
  refine go_ldcI (q := 10) K (wd hw 0 rfl) at_8 rfl ?_
  refine go_iand (q := 11) K at_10 rfl ?_
  refine go_nameI (fun av hav => ?_)
  have hav0 : 0 ≤ av.toInt := by rw [hav]; exact own_pos31 xx
  have ha := own_slot hav0 hm2
  refine go_istore (q := 13) K at_11 #[.val (.int xx), .val (.int yy), .val (.int zz), .val (.int ww), .val (.int ff), .val (.int m), .val (.int av), .unset, .unset, .unset, .unset, .unset, .unset, .unset, .unset, .unset, .unset, .unset] rfl rfl ?_
  refine go_iloadN (q := 14) K at_13 rfl rfl ?_
  refine go_ldcI (q := 16) K (wd hw 0 rfl) at_14 rfl ?_
  refine go_iand (q := 17) K at_16 rfl ?_
  refine go_nameI (fun bv hbv => ?_)
  have hbv0 : 0 ≤ bv.toInt := by rw [hbv]; exact own_pos31 yy
  have hb_ := own_slot hbv0 hm2
  refine go_istore (q := 19) K at_17 #[.val (.int xx), .val (.int yy), .val (.int zz), .val (.int ww), .val (.int ff), .val (.int m), .val (.int av), .val (.int bv), .unset, .unset, .unset, .unset, .unset, .unset, .unset, .unset, .unset, .unset] rfl rfl ?_
  refine go_iloadN (q := 20) K at_19 rfl rfl ?_
  refine go_ldcI (q := 22) K (wd hw 0 rfl) at_20 rfl ?_
  refine go_iand (q := 23) K at_22 rfl ?_
  refine go_iload (q := 25) K at_23 rfl rfl ?_
  refine go_irem (q := 26) K at_25 (own_mne hm2) rfl ?_
  refine go_nameI (fun qv hqv => ?_)
  have hq := own_slot (own_pos31 zz) hm2
  rw [← hqv] at hq
  refine go_istore (q := 28) K at_26 #[.val (.int xx), .val (.int yy), .val (.int zz), .val (.int ww), .val (.int ff), .val (.int m), .val (.int av), .val (.int bv), .val (.int qv), .unset, .unset, .unset, .unset, .unset, .unset, .unset, .unset, .unset] rfl rfl ?_
  refine go_iload (q := 30) K at_28 rfl rfl ?_
  refine go_iconst (q := 31) K at_30 (1 : Int32) rfl rfl ?_
  refine go_iand (q := 32) K at_31 rfl ?_
  refine go_if0 (q := 39) (q' := 35) K at_32 (by decide) rfl rfl (fun hc32 => ?_) (fun hc32 => ?_)
  · have hc32 : (ff &&& (1 : Int32)) = (0 : Int32) := hc32
    refine go_iconst (q := 40) K at_39 (0 : Int32) rfl rfl ?_
    refine go_istore (q := 42) K at_40 #[.val (.int xx), .val (.int yy), .val (.int zz), .val (.int ww), .val (.int ff), .val (.int m), .val (.int av), .val (.int bv), .val (.int qv), .val (.int (0 : Int32)), .unset, .unset, .unset, .unset, .unset, .unset, .unset, .unset] rfl rfl ?_
    refine go_iload (q := 44) K at_42 rfl rfl ?_
    refine go_iconst (q := 45) K at_44 (2 : Int32) rfl rfl ?_
    refine go_iand (q := 46) K at_45 rfl ?_
    refine go_if0 (q := 53) (q' := 49) K at_46 (by decide) rfl rfl (fun hc46 => ?_) (fun hc46 => ?_)
    · have hc46 : (ff &&& (2 : Int32)) = (0 : Int32) := hc46
      refine go_iconst (q := 54) K at_53 (0 : Int32) rfl rfl ?_
      refine go_istore (q := 56) K at_54 #[.val (.int xx), .val (.int yy), .val (.int zz), .val (.int ww), .val (.int ff), .val (.int m), .val (.int av), .val (.int bv), .val (.int qv), .val (.int (0 : Int32)), .val (.int (0 : Int32)), .unset, .unset, .unset, .unset, .unset, .unset, .unset] rfl rfl ?_
      refine go_new (q := 59) (sz := 16) K (wd hw 1 rfl) (wd hw 2 rfl) (wd hw 3 rfl) at_56 (by decide) (by decide) rfl ?_
      intro h1 ah1 gah1 Eh1 Xah1 Dah1
      refine go_dup (q := 60) K at_59 rfl rfl ?_
      have f1 := (p0_.ext Eh1)
      refine go_getS (q := 63) K (wd hw 4 rfl) Via.refl (p1_.ext f1.2) at_60 rfl ?_
      refine go_iload (q := 65) K at_63 rfl rfl ?_
      refine go_callI (q := 68) (W := 1) K (wd hw 7 rfl) (wd hw 8 rfl) (wd hw 3 rfl) (wd hw 9 rfl) rfl [(.ref lin), (.int m)] [(.ref ah1)] (ctorL l Z a0 hw _ _ _ _ n0 f1 p1_ p2_ p3_ p4_ p5_ Xah1 (Nat.le_trans (own_ge p0_) (Nat.le_of_eq gah1.symm)) hm2 (Dah1 (Or.inr (wd hw 22 rfl)) (ty := (.object "com/example/dispersa/dispersa/internal/ProbeSequence")) (by decide +kernel)) (Dah1 (Or.inr (wd hw 24 rfl)) (ty := .boolean) (by decide +kernel)) (Dah1 (Or.inr (wd hw 26 rfl)) (ty := .boolean) (by decide +kernel)) (Dah1 (Or.inr (wd hw 28 rfl)) (ty := .boolean) (by decide +kernel)) (Dah1 (Or.inl (wd hw 30 rfl)) (ty := .boolean) (by decide +kernel)) (Dah1 (Or.inl (wd hw 32 rfl)) (ty := .boolean) (by decide +kernel)) (Dah1 (Or.inl (wd hw 54 rfl)) (ty := .int) (by decide +kernel)) (Dah1 (Or.inl (wd hw 63 rfl)) (ty := .int) (by decide +kernel)) (Dah1 (Or.inl (wd hw 66 rfl)) (ty := .boolean) (by decide +kernel)) (Dah1 (Or.inl (wd hw 72 rfl)) (ty := .boolean) (by decide +kernel)) (Dah1 (Or.inl (wd hw 74 rfl)) (ty := .int) (by decide +kernel)) (Dah1 (Or.inl (wd hw 76 rfl)) (ty := .int) (by decide +kernel)) (Dah1 (Or.inl (wd hw 147 rfl)) (ty := .long) (by decide +kernel)) (Dah1 (Or.inl (wd hw 149 rfl)) (ty := .int) (by decide +kernel)) (Dah1 (Or.inr (wd hw 79 rfl)) (ty := (.array .int)) (by decide +kernel)) (Dah1 (Or.inl (wd hw 210 rfl)) (ty := .boolean) (by decide +kernel))) at_65 (ps := [(.object "com/example/dispersa/dispersa/internal/ProbeSequence"), .int]) (by decide +kernel) rfl rfl rfl (by decide) rfl (by decide) (by decide) (by decide) (by decide) rfl ?_
      rintro _ h2 ⟨kah2, klh2, mkh2, rfl, Kh2, gkah2, q0h2, q1h2, q2h2, q3h2, q4h2, q5h2, q6h2, q7h2, q8h2, q9h2, q10h2, q11h2, q12h2, q13h2, q14h2, q15h2, q16h2, q17h2, q18h2⟩
      show Go pP l eE _ sS mM _ bB tT cC n0 _ h2 2 21 (mkF mM 68 #[.val (.int xx), .val (.int yy), .val (.int zz), .val (.int ww), .val (.int ff), .val (.int m), .val (.int av), .val (.int bv), .val (.int qv), .val (.int (0 : Int32)), .val (.int (0 : Int32)), .unset, .unset, .unset, .unset, .unset, .unset, .unset] [(.ref ah1)])
      refine go_astore (q := 70) K at_68 #[.val (.int xx), .val (.int yy), .val (.int zz), .val (.int ww), .val (.int ff), .val (.int m), .val (.int av), .val (.int bv), .val (.int qv), .val (.int (0 : Int32)), .val (.int (0 : Int32)), .val (.ref ah1), .unset, .unset, .unset, .unset, .unset, .unset] rfl rfl rfl ?_
      refine go_aload (q := 72) K at_70 rfl rfl rfl ?_
      refine go_iload (q := 74) K at_72 rfl rfl ?_
      have f2 := (f1.keep Kh2 (allS (Nat.le_trans (own_ge p0_) (Nat.le_of_eq gah1.symm)) all0))
      refine go_callV (q := 77) (W := 0) K (wd hw 84 rfl) (wd hw 85 rfl) (wd hw 87 rfl) (wd hw 86 rfl) (wd hw 3 rfl) (wd hw 88 rfl) (wd hw 87 rfl) rfl q0h2 [(.int av)] [] (putU l Z a0 hw _ _ _ _ _ _ _ _ _ _ _ _ _ n0 f2 p1_ p2_ p3_ p4_ p5_ q0h2 (Nat.le_trans (own_ge p0_) (Nat.le_of_eq gah1.symm)) hm2 q17h2 hav0 q1h2 q2h2 q3h2 q4h2 q5h2 q6h2 q7h2 q8h2 q9h2 q10h2 q11h2 q12h2 q13h2 q14h2 q15h2 q16h2 q18h2 ha.1 (Nat.le_trans (own_ge f1) gkah2) (own_nel (Xah1).lt gkah2) (by simp [own_K0_len]) (own_K0_at ha.2.1) (own_neg hav0).1 ha.2.2.1) at_74 (ps := [.int]) (by decide +kernel) rfl rfl rfl (by decide) rfl (by decide) (by decide) (by decide) (by decide) rfl ?_
      rintro _ h3 ⟨pr2h3, po2h3, re2h3, rfl, Kh3, q0h3, q1h3, q2h3, q3h3, q4h3, q5h3, q6h3, q7h3, q8h3, q9h3, q10h3, q11h3, q12h3, q13h3, q14h3, q15h3, q16h3, q17h3⟩
      show Go pP l eE _ sS mM _ bB tT cC n0 _ h3 2 21 (mkF mM 77 #[.val (.int xx), .val (.int yy), .val (.int zz), .val (.int ww), .val (.int ff), .val (.int m), .val (.int av), .val (.int bv), .val (.int qv), .val (.int (0 : Int32)), .val (.int (0 : Int32)), .val (.ref ah1), .unset, .unset, .unset, .unset, .unset, .unset] [(.int (av % m))])
      refine go_istore (q := 79) K at_77 #[.val (.int xx), .val (.int yy), .val (.int zz), .val (.int ww), .val (.int ff), .val (.int m), .val (.int av), .val (.int bv), .val (.int qv), .val (.int (0 : Int32)), .val (.int (0 : Int32)), .val (.ref ah1), .val (.int (av % m)), .unset, .unset, .unset, .unset, .unset] rfl rfl ?_
      refine go_aload (q := 81) K at_79 rfl rfl rfl ?_
      refine go_iload (q := 83) K at_81 rfl rfl ?_
      by_cases eab : av = bv
      · subst eab
        have f3 := (f2.keep Kh3 (allS (Nat.le_trans (own_ge p0_) (Nat.le_of_eq gah1.symm)) (allS (Nat.le_trans (own_ge f1) gkah2) all0)))
        refine go_callV (q := 86) (W := 0) K (wd hw 84 rfl) (wd hw 85 rfl) (wd hw 87 rfl) (wd hw 86 rfl) (wd hw 3 rfl) (wd hw 88 rfl) (wd hw 87 rfl) rfl q0h3 [(.int av)] [] (putH l Z a0 hw _ _ _ _ _ _ _ _ _ _ _ _ _ n0 f3 p1_ p2_ p3_ p4_ p5_ q0h3 (Nat.le_trans (own_ge p0_) (Nat.le_of_eq gah1.symm)) hm2 q17h2 hav0 q1h3 q2h3 q3h3 q4h3 q5h3 q6h3 q7h3 q8h3 q9h3 q10h3 q11h3 q12h3 q13h3 q14h3 q15h3 q16h3 q17h3 ha.1 (Nat.le_trans (own_ge f1) gkah2) (own_nel (Xah1).lt gkah2) (by simp [own_K0_len]) (own_setA (by simpa [own_K0_len] using ha.2.1))) at_83 (ps := [.int]) (by decide +kernel) rfl rfl rfl (by decide) rfl (by decide) (by decide) (by decide) (by decide) rfl ?_
        rintro _ h4 ⟨pr2h4, po2h4, rfl, Kh4, q0h4, q1h4, q2h4, q3h4, q4h4, q5h4, q6h4, q7h4, q8h4, q9h4, q10h4, q11h4, q12h4, q13h4, q14h4, q15h4, q16h4⟩
        show Go pP l eE _ sS mM _ bB tT cC n0 _ h4 2 21 (mkF mM 86 #[.val (.int xx), .val (.int yy), .val (.int zz), .val (.int ww), .val (.int ff), .val (.int m), .val (.int av), .val (.int av), .val (.int qv), .val (.int (0 : Int32)), .val (.int (0 : Int32)), .val (.ref ah1), .val (.int (av % m)), .unset, .unset, .unset, .unset, .unset] [(.int (av % m))])
        refine go_istore (q := 88) K at_86 #[.val (.int xx), .val (.int yy), .val (.int zz), .val (.int ww), .val (.int ff), .val (.int m), .val (.int av), .val (.int av), .val (.int qv), .val (.int (0 : Int32)), .val (.int (0 : Int32)), .val (.ref ah1), .val (.int (av % m)), .val (.int (av % m)), .unset, .unset, .unset, .unset] rfl rfl ?_
        refine go_iload (q := 90) K at_88 rfl rfl ?_
        refine go_if0 (q := 101) (q' := 93) K at_90 (by decide) rfl rfl (fun _ => ?_) (fun hn => cN_no2 hn (show (0 : Int32) = (0 : Int32) from (by decide)))
        refine go_iload (q := 103) K at_101 rfl rfl ?_
        refine go_if0 (q := 114) (q' := 106) K at_103 (by decide) rfl rfl (fun _ => ?_) (fun hn => cN_no2 hn (show (0 : Int32) = (0 : Int32) from (by decide)))
        refine go_iload (q := 116) K at_114 rfl rfl ?_
        refine go_iload (q := 118) K at_116 rfl rfl ?_
        refine go_icmp (q := 125) (q' := 121) K at_118 (by decide) rfl rfl (fun hn => cN_no hn (show av = av from rfl)) (fun _ => ?_)
        refine go_iconst (q := 122) K at_121 (1 : Int32) rfl rfl ?_
        refine go_goto (q := 126) K at_122 (by decide) rfl ?_
        refine go_istore (q := 128) K at_126 #[.val (.int xx), .val (.int yy), .val (.int zz), .val (.int ww), .val (.int ff), .val (.int m), .val (.int av), .val (.int av), .val (.int qv), .val (.int (0 : Int32)), .val (.int (0 : Int32)), .val (.ref ah1), .val (.int (av % m)), .val (.int (av % m)), .val (.int (1 : Int32)), .unset, .unset, .unset] rfl rfl ?_
        refine go_iload (q := 130) K at_128 rfl rfl ?_
        refine go_if0 (q := 143) (q' := 133) K at_130 (by decide) rfl rfl (fun hn => cN_no hn (show (0 : Int32) = (0 : Int32) from (by decide))) (fun _ => ?_)
        refine go_iload (q := 135) K at_133 rfl rfl ?_
        refine go_if0 (q := 147) (q' := 138) K at_135 (by decide) rfl rfl (fun hn => cN_no hn (show ¬ (1 : Int32) = (0 : Int32) from (by decide))) (fun _ => ?_)
        refine go_iload (q := 140) K at_138 rfl rfl ?_
        refine go_if0 (q := 147) (q' := 143) K at_140 (by decide) rfl rfl (fun _ => ?_) (fun hn => cN_no2 hn (show (0 : Int32) = (0 : Int32) from (by decide)))
        refine go_iconst (q := 148) K at_147 (0 : Int32) rfl rfl ?_
        refine go_istore (q := 150) K at_148 #[.val (.int xx), .val (.int yy), .val (.int zz), .val (.int ww), .val (.int ff), .val (.int m), .val (.int av), .val (.int av), .val (.int qv), .val (.int (0 : Int32)), .val (.int (0 : Int32)), .val (.ref ah1), .val (.int (av % m)), .val (.int (av % m)), .val (.int (1 : Int32)), .val (.int (0 : Int32)), .unset, .unset] rfl rfl ?_
        refine go_iload (q := 152) K at_150 rfl rfl ?_
        refine go_if0 (q := 165) (q' := 155) K at_152 (by decide) rfl rfl (fun hn => cN_no hn (show (0 : Int32) = (0 : Int32) from (by decide))) (fun _ => ?_)
        refine go_iload (q := 157) K at_155 rfl rfl ?_
        refine go_if0 (q := 169) (q' := 160) K at_157 (by decide) rfl rfl (fun hn => cN_no hn (show ¬ (1 : Int32) = (0 : Int32) from (by decide))) (fun _ => ?_)
        refine go_iload (q := 162) K at_160 rfl rfl ?_
        refine go_if0 (q := 169) (q' := 165) K at_162 (by decide) rfl rfl (fun _ => ?_) (fun hn => cN_no2 hn (show (0 : Int32) = (0 : Int32) from (by decide)))
        refine go_iconst (q := 170) K at_169 (0 : Int32) rfl rfl ?_
        refine go_istore (q := 172) K at_170 #[.val (.int xx), .val (.int yy), .val (.int zz), .val (.int ww), .val (.int ff), .val (.int m), .val (.int av), .val (.int av), .val (.int qv), .val (.int (0 : Int32)), .val (.int (0 : Int32)), .val (.ref ah1), .val (.int (av % m)), .val (.int (av % m)), .val (.int (1 : Int32)), .val (.int (0 : Int32)), .val (.int (0 : Int32)), .unset] rfl rfl ?_
        refine go_iload (q := 174) K at_172 rfl rfl ?_
        refine go_iload (q := 176) K at_174 rfl rfl ?_
        refine go_icmp (q := 194) (q' := 179) K at_176 (by decide) rfl rfl (fun eqa => ?_) (fun eqa => ?_)
        · have eqa : ¬ qv = (av % m) := eqa
          refine go_iload (q := 196) K at_194 rfl rfl ?_
          refine go_iload (q := 198) K at_196 rfl rfl ?_
          refine go_icmp (q := 216) (q' := 201) K at_198 (by decide) rfl rfl (fun _ => ?_) (fun hn => cN_no2 hn (show ¬ qv = (av % m) from eqa))
          refine go_iconst (q := 217) K at_216 (0 : Int32) rfl rfl ?_
          refine go_istore (q := 219) K at_217 #[.val (.int xx), .val (.int yy), .val (.int zz), .val (.int ww), .val (.int ff), .val (.int m), .val (.int av), .val (.int av), .val (.int qv), .val (.int (0 : Int32)), .val (.int (0 : Int32)), .val (.ref ah1), .val (.int (av % m)), .val (.int (av % m)), .val (.int (1 : Int32)), .val (.int (0 : Int32)), .val (.int (0 : Int32)), .val (.int (0 : Int32))] rfl rfl ?_
          refine go_aload (q := 221) K at_219 rfl rfl rfl ?_
          refine go_iload (q := 223) K at_221 rfl rfl ?_
          have f4 := (q17h3.keep Kh4 (ninS ((own_nel (Xah1).lt gkah2)).symm nin0))
          refine go_callV (q := 226) (W := 0) K (wd hw 170 rfl) (wd hw 171 rfl) (wd hw 172 rfl) (wd hw 140 rfl) (wd hw 3 rfl) (wd hw 141 rfl) (wd hw 87 rfl) rfl q0h4 [(.int qv)] [] (state l Z a0 hw _ _ _ _ _ _ _ n0 q15h4 f4 hq.1 (own_setN (own_natne ha.1 hq.1 (fun z => eqa z.symm)) (own_K0_at hq.2.1))) at_223 (ps := [.int]) (by decide +kernel) rfl rfl rfl (by decide) rfl (by decide) (by decide) (by decide) (by decide) rfl ?_
          rintro _ _ ⟨rfl, rfl⟩
          show Go pP l eE _ sS mM _ bB tT cC n0 _ h4 2 21 (mkF mM 226 #[.val (.int xx), .val (.int yy), .val (.int zz), .val (.int ww), .val (.int ff), .val (.int m), .val (.int av), .val (.int av), .val (.int qv), .val (.int (0 : Int32)), .val (.int (0 : Int32)), .val (.ref ah1), .val (.int (av % m)), .val (.int (av % m)), .val (.int (1 : Int32)), .val (.int (0 : Int32)), .val (.int (0 : Int32)), .val (.int (0 : Int32))] [(.int (own_st (-1 : Int32)))])
          refine go_eqI (y := (0 : Int32)) (by decide) ?_
          refine go_iload (q := 228) K at_226 rfl rfl ?_
          refine go_icmp (q := 235) (q' := 231) K at_228 (by decide) rfl rfl (fun hn => cN_no hn (show (0 : Int32) = (0 : Int32) from (by decide))) (fun _ => ?_)
          refine go_iconst (q := 232) K at_231 (1 : Int32) rfl rfl ?_
          refine go_goto (q := 236) K at_232 (by decide) rfl ?_
          refine go_iret K at_236 rfl (Or.inr (Or.inl rfl)) rfl (by decide) (by decide) ?_
          exact rfl
        · have eqa : qv = (av % m) := eqa
          refine go_iload (q := 181) K at_179 rfl rfl ?_
          refine go_if0 (q := 188) (q' := 184) K at_181 (by decide) rfl rfl (fun _ => ?_) (fun hn => cN_no2 hn (show (0 : Int32) = (0 : Int32) from (by decide)))
          refine go_iconst (q := 189) K at_188 (2 : Int32) rfl rfl ?_
          refine go_istore (q := 191) K at_189 #[.val (.int xx), .val (.int yy), .val (.int zz), .val (.int ww), .val (.int ff), .val (.int m), .val (.int av), .val (.int av), .val (.int qv), .val (.int (0 : Int32)), .val (.int (0 : Int32)), .val (.ref ah1), .val (.int (av % m)), .val (.int (av % m)), .val (.int (1 : Int32)), .val (.int (0 : Int32)), .val (.int (0 : Int32)), .val (.int (2 : Int32))] rfl rfl ?_
          refine go_goto (q := 219) K at_191 (by decide) rfl ?_
          refine go_aload (q := 221) K at_219 rfl rfl rfl ?_
          refine go_iload (q := 223) K at_221 rfl rfl ?_
          have f4 := (q17h3.keep Kh4 (ninS ((own_nel (Xah1).lt gkah2)).symm nin0))
          refine go_callV (q := 226) (W := 0) K (wd hw 170 rfl) (wd hw 171 rfl) (wd hw 172 rfl) (wd hw 140 rfl) (wd hw 3 rfl) (wd hw 141 rfl) (wd hw 87 rfl) rfl q0h4 [(.int qv)] [] (state l Z a0 hw _ _ _ _ _ _ _ n0 q15h4 f4 hq.1 (by rw [eqa]; exact (own_setA (by simpa [own_K0_len] using ha.2.1)))) at_223 (ps := [.int]) (by decide +kernel) rfl rfl rfl (by decide) rfl (by decide) (by decide) (by decide) (by decide) rfl ?_
          rintro _ _ ⟨rfl, rfl⟩
          show Go pP l eE _ sS mM _ bB tT cC n0 _ h4 2 21 (mkF mM 226 #[.val (.int xx), .val (.int yy), .val (.int zz), .val (.int ww), .val (.int ff), .val (.int m), .val (.int av), .val (.int av), .val (.int qv), .val (.int (0 : Int32)), .val (.int (0 : Int32)), .val (.ref ah1), .val (.int (av % m)), .val (.int (av % m)), .val (.int (1 : Int32)), .val (.int (0 : Int32)), .val (.int (0 : Int32)), .val (.int (2 : Int32))] [(.int (own_st av))])
          refine go_eqI (y := (2 : Int32)) (own_st2 hav0) ?_
          refine go_iload (q := 228) K at_226 rfl rfl ?_
          refine go_icmp (q := 235) (q' := 231) K at_228 (by decide) rfl rfl (fun hn => cN_no hn (show (2 : Int32) = (2 : Int32) from (by decide))) (fun _ => ?_)
          refine go_iconst (q := 232) K at_231 (1 : Int32) rfl rfl ?_
          refine go_goto (q := 236) K at_232 (by decide) rfl ?_
          refine go_iret K at_236 rfl (Or.inr (Or.inl rfl)) rfl (by decide) (by decide) ?_
          exact rfl
      · by_cases ehh : (av % m) = (bv % m)
        · have hx_ := own_next hb_.1 hb_.2.2.2 hm2
          have f3 := (f2.keep Kh3 (allS (Nat.le_trans (own_ge p0_) (Nat.le_of_eq gah1.symm)) (allS (Nat.le_trans (own_ge f1) gkah2) all0)))
          refine go_callV (q := 86) (W := 0) K (wd hw 84 rfl) (wd hw 85 rfl) (wd hw 87 rfl) (wd hw 86 rfl) (wd hw 3 rfl) (wd hw 88 rfl) (wd hw 87 rfl) rfl q0h3 [(.int bv)] [] (putX l Z a0 hw _ _ _ _ _ _ _ _ _ _ _ _ _ _ n0 f3 p1_ p2_ p3_ p4_ p5_ q0h3 (Nat.le_trans (own_ge p0_) (Nat.le_of_eq gah1.symm)) hm2 q17h2 hbv0 q1h3 q2h3 q3h3 q4h3 q5h3 q6h3 q7h3 q8h3 q9h3 q10h3 q11h3 q12h3 q13h3 q14h3 q15h3 q16h3 q17h3 hb_.1 (Nat.le_trans (own_ge f1) gkah2) (own_nel (Xah1).lt gkah2) (by simp [own_K0_len]) (by rw [← ehh]; exact (own_setA (by simpa [own_K0_len] using ha.2.1))) hav0 eab hx_.1 (own_setN (by rw [ehh]; exact own_natne hb_.1 hx_.1 hx_.2.2.2) (own_K0_at hx_.2.1)) (own_neg hbv0).1 hx_.2.2.1) at_83 (ps := [.int]) (by decide +kernel) rfl rfl rfl (by decide) rfl (by decide) (by decide) (by decide) (by decide) rfl ?_
          rintro _ h4 ⟨pr2h4, po2h4, re2h4, rfl, Kh4, q0h4, q1h4, q2h4, q3h4, q4h4, q5h4, q6h4, q7h4, q8h4, q9h4, q10h4, q11h4, q12h4, q13h4, q14h4, q15h4, q16h4, q17h4⟩
          show Go pP l eE _ sS mM _ bB tT cC n0 _ h4 2 21 (mkF mM 86 #[.val (.int xx), .val (.int yy), .val (.int zz), .val (.int ww), .val (.int ff), .val (.int m), .val (.int av), .val (.int bv), .val (.int qv), .val (.int (0 : Int32)), .val (.int (0 : Int32)), .val (.ref ah1), .val (.int (av % m)), .unset, .unset, .unset, .unset, .unset] [(.int (own_adv (bv % m) (1 : Int32) m))])
          refine go_istore (q := 88) K at_86 #[.val (.int xx), .val (.int yy), .val (.int zz), .val (.int ww), .val (.int ff), .val (.int m), .val (.int av), .val (.int bv), .val (.int qv), .val (.int (0 : Int32)), .val (.int (0 : Int32)), .val (.ref ah1), .val (.int (av % m)), .val (.int (own_adv (bv % m) (1 : Int32) m)), .unset, .unset, .unset, .unset] rfl rfl ?_
          refine go_iload (q := 90) K at_88 rfl rfl ?_
          refine go_if0 (q := 101) (q' := 93) K at_90 (by decide) rfl rfl (fun _ => ?_) (fun hn => cN_no2 hn (show (0 : Int32) = (0 : Int32) from (by decide)))
          refine go_iload (q := 103) K at_101 rfl rfl ?_
          refine go_if0 (q := 114) (q' := 106) K at_103 (by decide) rfl rfl (fun _ => ?_) (fun hn => cN_no2 hn (show (0 : Int32) = (0 : Int32) from (by decide)))
          refine go_iload (q := 116) K at_114 rfl rfl ?_
          refine go_iload (q := 118) K at_116 rfl rfl ?_
          refine go_icmp (q := 125) (q' := 121) K at_118 (by decide) rfl rfl (fun _ => ?_) (fun hn => cN_no2 hn (show ¬ av = bv from eab))
          refine go_iconst (q := 126) K at_125 (0 : Int32) rfl rfl ?_
          refine go_istore (q := 128) K at_126 #[.val (.int xx), .val (.int yy), .val (.int zz), .val (.int ww), .val (.int ff), .val (.int m), .val (.int av), .val (.int bv), .val (.int qv), .val (.int (0 : Int32)), .val (.int (0 : Int32)), .val (.ref ah1), .val (.int (av % m)), .val (.int (own_adv (bv % m) (1 : Int32) m)), .val (.int (0 : Int32)), .unset, .unset, .unset] rfl rfl ?_
          refine go_iload (q := 130) K at_128 rfl rfl ?_
          refine go_if0 (q := 143) (q' := 133) K at_130 (by decide) rfl rfl (fun hn => cN_no hn (show (0 : Int32) = (0 : Int32) from (by decide))) (fun _ => ?_)
          refine go_iload (q := 135) K at_133 rfl rfl ?_
          refine go_if0 (q := 147) (q' := 138) K at_135 (by decide) rfl rfl (fun _ => ?_) (fun hn => cN_no2 hn (show (0 : Int32) = (0 : Int32) from (by decide)))
          refine go_iconst (q := 148) K at_147 (0 : Int32) rfl rfl ?_
          refine go_istore (q := 150) K at_148 #[.val (.int xx), .val (.int yy), .val (.int zz), .val (.int ww), .val (.int ff), .val (.int m), .val (.int av), .val (.int bv), .val (.int qv), .val (.int (0 : Int32)), .val (.int (0 : Int32)), .val (.ref ah1), .val (.int (av % m)), .val (.int (own_adv (bv % m) (1 : Int32) m)), .val (.int (0 : Int32)), .val (.int (0 : Int32)), .unset, .unset] rfl rfl ?_
          refine go_iload (q := 152) K at_150 rfl rfl ?_
          refine go_if0 (q := 165) (q' := 155) K at_152 (by decide) rfl rfl (fun hn => cN_no hn (show (0 : Int32) = (0 : Int32) from (by decide))) (fun _ => ?_)
          refine go_iload (q := 157) K at_155 rfl rfl ?_
          refine go_if0 (q := 169) (q' := 160) K at_157 (by decide) rfl rfl (fun _ => ?_) (fun hn => cN_no2 hn (show (0 : Int32) = (0 : Int32) from (by decide)))
          refine go_iconst (q := 170) K at_169 (0 : Int32) rfl rfl ?_
          refine go_istore (q := 172) K at_170 #[.val (.int xx), .val (.int yy), .val (.int zz), .val (.int ww), .val (.int ff), .val (.int m), .val (.int av), .val (.int bv), .val (.int qv), .val (.int (0 : Int32)), .val (.int (0 : Int32)), .val (.ref ah1), .val (.int (av % m)), .val (.int (own_adv (bv % m) (1 : Int32) m)), .val (.int (0 : Int32)), .val (.int (0 : Int32)), .val (.int (0 : Int32)), .unset] rfl rfl ?_
          refine go_iload (q := 174) K at_172 rfl rfl ?_
          refine go_iload (q := 176) K at_174 rfl rfl ?_
          refine go_icmp (q := 194) (q' := 179) K at_176 (by decide) rfl rfl (fun eqa => ?_) (fun eqa => ?_)
          · have eqa : ¬ qv = (av % m) := eqa
            refine go_iload (q := 196) K at_194 rfl rfl ?_
            refine go_iload (q := 198) K at_196 rfl rfl ?_
            refine go_icmp (q := 216) (q' := 201) K at_198 (by decide) rfl rfl (fun eqb => ?_) (fun eqb => ?_)
            · have eqb : ¬ qv = (own_adv (bv % m) (1 : Int32) m) := eqb
              refine go_iconst (q := 217) K at_216 (0 : Int32) rfl rfl ?_
              refine go_istore (q := 219) K at_217 #[.val (.int xx), .val (.int yy), .val (.int zz), .val (.int ww), .val (.int ff), .val (.int m), .val (.int av), .val (.int bv), .val (.int qv), .val (.int (0 : Int32)), .val (.int (0 : Int32)), .val (.ref ah1), .val (.int (av % m)), .val (.int (own_adv (bv % m) (1 : Int32) m)), .val (.int (0 : Int32)), .val (.int (0 : Int32)), .val (.int (0 : Int32)), .val (.int (0 : Int32))] rfl rfl ?_
              refine go_aload (q := 221) K at_219 rfl rfl rfl ?_
              refine go_iload (q := 223) K at_221 rfl rfl ?_
              refine go_callV (q := 226) (W := 0) K (wd hw 170 rfl) (wd hw 171 rfl) (wd hw 172 rfl) (wd hw 140 rfl) (wd hw 3 rfl) (wd hw 141 rfl) (wd hw 87 rfl) rfl q0h4 [(.int qv)] [] (state l Z a0 hw _ _ _ _ _ _ _ n0 q15h4 q17h4 hq.1 (own_setN (own_natne hx_.1 hq.1 (fun z => eqb z.symm)) (own_setN (own_natne ha.1 hq.1 (fun z => eqa z.symm)) (own_K0_at hq.2.1)))) at_223 (ps := [.int]) (by decide +kernel) rfl rfl rfl (by decide) rfl (by decide) (by decide) (by decide) (by decide) rfl ?_
              rintro _ _ ⟨rfl, rfl⟩
              show Go pP l eE _ sS mM _ bB tT cC n0 _ h4 2 21 (mkF mM 226 #[.val (.int xx), .val (.int yy), .val (.int zz), .val (.int ww), .val (.int ff), .val (.int m), .val (.int av), .val (.int bv), .val (.int qv), .val (.int (0 : Int32)), .val (.int (0 : Int32)), .val (.ref ah1), .val (.int (av % m)), .val (.int (own_adv (bv % m) (1 : Int32) m)), .val (.int (0 : Int32)), .val (.int (0 : Int32)), .val (.int (0 : Int32)), .val (.int (0 : Int32))] [(.int (own_st (-1 : Int32)))])
              refine go_eqI (y := (0 : Int32)) (by decide) ?_
              refine go_iload (q := 228) K at_226 rfl rfl ?_
              refine go_icmp (q := 235) (q' := 231) K at_228 (by decide) rfl rfl (fun hn => cN_no hn (show (0 : Int32) = (0 : Int32) from (by decide))) (fun _ => ?_)
              refine go_iconst (q := 232) K at_231 (1 : Int32) rfl rfl ?_
              refine go_goto (q := 236) K at_232 (by decide) rfl ?_
              refine go_iret K at_236 rfl (Or.inr (Or.inl rfl)) rfl (by decide) (by decide) ?_
              exact rfl
            · have eqb : qv = (own_adv (bv % m) (1 : Int32) m) := eqb
              refine go_iload (q := 203) K at_201 rfl rfl ?_
              refine go_if0 (q := 210) (q' := 206) K at_203 (by decide) rfl rfl (fun _ => ?_) (fun hn => cN_no2 hn (show (0 : Int32) = (0 : Int32) from (by decide)))
              refine go_iconst (q := 211) K at_210 (2 : Int32) rfl rfl ?_
              refine go_istore (q := 213) K at_211 #[.val (.int xx), .val (.int yy), .val (.int zz), .val (.int ww), .val (.int ff), .val (.int m), .val (.int av), .val (.int bv), .val (.int qv), .val (.int (0 : Int32)), .val (.int (0 : Int32)), .val (.ref ah1), .val (.int (av % m)), .val (.int (own_adv (bv % m) (1 : Int32) m)), .val (.int (0 : Int32)), .val (.int (0 : Int32)), .val (.int (0 : Int32)), .val (.int (2 : Int32))] rfl rfl ?_
              refine go_goto (q := 219) K at_213 (by decide) rfl ?_
              refine go_aload (q := 221) K at_219 rfl rfl rfl ?_
              refine go_iload (q := 223) K at_221 rfl rfl ?_
              refine go_callV (q := 226) (W := 0) K (wd hw 170 rfl) (wd hw 171 rfl) (wd hw 172 rfl) (wd hw 140 rfl) (wd hw 3 rfl) (wd hw 141 rfl) (wd hw 87 rfl) rfl q0h4 [(.int qv)] [] (state l Z a0 hw _ _ _ _ _ _ _ n0 q15h4 q17h4 hq.1 (by rw [eqb]; exact (own_setA (by simpa [own_K0_len] using hx_.2.1)))) at_223 (ps := [.int]) (by decide +kernel) rfl rfl rfl (by decide) rfl (by decide) (by decide) (by decide) (by decide) rfl ?_
              rintro _ _ ⟨rfl, rfl⟩
              show Go pP l eE _ sS mM _ bB tT cC n0 _ h4 2 21 (mkF mM 226 #[.val (.int xx), .val (.int yy), .val (.int zz), .val (.int ww), .val (.int ff), .val (.int m), .val (.int av), .val (.int bv), .val (.int qv), .val (.int (0 : Int32)), .val (.int (0 : Int32)), .val (.ref ah1), .val (.int (av % m)), .val (.int (own_adv (bv % m) (1 : Int32) m)), .val (.int (0 : Int32)), .val (.int (0 : Int32)), .val (.int (0 : Int32)), .val (.int (2 : Int32))] [(.int (own_st bv))])
              refine go_eqI (y := (2 : Int32)) (own_st2 hbv0) ?_
              refine go_iload (q := 228) K at_226 rfl rfl ?_
              refine go_icmp (q := 235) (q' := 231) K at_228 (by decide) rfl rfl (fun hn => cN_no hn (show (2 : Int32) = (2 : Int32) from (by decide))) (fun _ => ?_)
              refine go_iconst (q := 232) K at_231 (1 : Int32) rfl rfl ?_
              refine go_goto (q := 236) K at_232 (by decide) rfl ?_
              refine go_iret K at_236 rfl (Or.inr (Or.inl rfl)) rfl (by decide) (by decide) ?_
              exact rfl
          · have eqa : qv = (av % m) := eqa
            refine go_iload (q := 181) K at_179 rfl rfl ?_
            refine go_if0 (q := 188) (q' := 184) K at_181 (by decide) rfl rfl (fun _ => ?_) (fun hn => cN_no2 hn (show (0 : Int32) = (0 : Int32) from (by decide)))
            refine go_iconst (q := 189) K at_188 (2 : Int32) rfl rfl ?_
            refine go_istore (q := 191) K at_189 #[.val (.int xx), .val (.int yy), .val (.int zz), .val (.int ww), .val (.int ff), .val (.int m), .val (.int av), .val (.int bv), .val (.int qv), .val (.int (0 : Int32)), .val (.int (0 : Int32)), .val (.ref ah1), .val (.int (av % m)), .val (.int (own_adv (bv % m) (1 : Int32) m)), .val (.int (0 : Int32)), .val (.int (0 : Int32)), .val (.int (0 : Int32)), .val (.int (2 : Int32))] rfl rfl ?_
            refine go_goto (q := 219) K at_191 (by decide) rfl ?_
            refine go_aload (q := 221) K at_219 rfl rfl rfl ?_
            refine go_iload (q := 223) K at_221 rfl rfl ?_
            refine go_callV (q := 226) (W := 0) K (wd hw 170 rfl) (wd hw 171 rfl) (wd hw 172 rfl) (wd hw 140 rfl) (wd hw 3 rfl) (wd hw 141 rfl) (wd hw 87 rfl) rfl q0h4 [(.int qv)] [] (state l Z a0 hw _ _ _ _ _ _ _ n0 q15h4 q17h4 hq.1 (by rw [eqa]; exact (own_setN (by rw [ehh]; exact (own_natne hb_.1 hx_.1 hx_.2.2.2).symm) (own_setA (by simpa [own_K0_len] using ha.2.1))))) at_223 (ps := [.int]) (by decide +kernel) rfl rfl rfl (by decide) rfl (by decide) (by decide) (by decide) (by decide) rfl ?_
            rintro _ _ ⟨rfl, rfl⟩
            show Go pP l eE _ sS mM _ bB tT cC n0 _ h4 2 21 (mkF mM 226 #[.val (.int xx), .val (.int yy), .val (.int zz), .val (.int ww), .val (.int ff), .val (.int m), .val (.int av), .val (.int bv), .val (.int qv), .val (.int (0 : Int32)), .val (.int (0 : Int32)), .val (.ref ah1), .val (.int (av % m)), .val (.int (own_adv (bv % m) (1 : Int32) m)), .val (.int (0 : Int32)), .val (.int (0 : Int32)), .val (.int (0 : Int32)), .val (.int (2 : Int32))] [(.int (own_st av))])
            refine go_eqI (y := (2 : Int32)) (own_st2 hav0) ?_
            refine go_iload (q := 228) K at_226 rfl rfl ?_
            refine go_icmp (q := 235) (q' := 231) K at_228 (by decide) rfl rfl (fun hn => cN_no hn (show (2 : Int32) = (2 : Int32) from (by decide))) (fun _ => ?_)
            refine go_iconst (q := 232) K at_231 (1 : Int32) rfl rfl ?_
            refine go_goto (q := 236) K at_232 (by decide) rfl ?_
            refine go_iret K at_236 rfl (Or.inr (Or.inl rfl)) rfl (by decide) (by decide) ?_
            exact rfl
        · have hab := own_natne ha.1 hb_.1 ehh
          have f3 := (f2.keep Kh3 (allS (Nat.le_trans (own_ge p0_) (Nat.le_of_eq gah1.symm)) (allS (Nat.le_trans (own_ge f1) gkah2) all0)))
          refine go_callV (q := 86) (W := 0) K (wd hw 84 rfl) (wd hw 85 rfl) (wd hw 87 rfl) (wd hw 86 rfl) (wd hw 3 rfl) (wd hw 88 rfl) (wd hw 87 rfl) rfl q0h3 [(.int bv)] [] (putU l Z a0 hw _ _ _ _ _ _ _ _ _ _ _ _ _ n0 f3 p1_ p2_ p3_ p4_ p5_ q0h3 (Nat.le_trans (own_ge p0_) (Nat.le_of_eq gah1.symm)) hm2 q17h2 hbv0 q1h3 q2h3 q3h3 q4h3 q5h3 q6h3 q7h3 q8h3 q9h3 q10h3 q11h3 q12h3 q13h3 q14h3 q15h3 q16h3 q17h3 hb_.1 (Nat.le_trans (own_ge f1) gkah2) (own_nel (Xah1).lt gkah2) (by simp [own_K0_len]) (own_setN hab (own_K0_at hb_.2.1)) (own_neg hbv0).1 hb_.2.2.1) at_83 (ps := [.int]) (by decide +kernel) rfl rfl rfl (by decide) rfl (by decide) (by decide) (by decide) (by decide) rfl ?_
          rintro _ h4 ⟨pr2h4, po2h4, re2h4, rfl, Kh4, q0h4, q1h4, q2h4, q3h4, q4h4, q5h4, q6h4, q7h4, q8h4, q9h4, q10h4, q11h4, q12h4, q13h4, q14h4, q15h4, q16h4, q17h4⟩
          show Go pP l eE _ sS mM _ bB tT cC n0 _ h4 2 21 (mkF mM 86 #[.val (.int xx), .val (.int yy), .val (.int zz), .val (.int ww), .val (.int ff), .val (.int m), .val (.int av), .val (.int bv), .val (.int qv), .val (.int (0 : Int32)), .val (.int (0 : Int32)), .val (.ref ah1), .val (.int (av % m)), .unset, .unset, .unset, .unset, .unset] [(.int (bv % m))])
          refine go_istore (q := 88) K at_86 #[.val (.int xx), .val (.int yy), .val (.int zz), .val (.int ww), .val (.int ff), .val (.int m), .val (.int av), .val (.int bv), .val (.int qv), .val (.int (0 : Int32)), .val (.int (0 : Int32)), .val (.ref ah1), .val (.int (av % m)), .val (.int (bv % m)), .unset, .unset, .unset, .unset] rfl rfl ?_
          refine go_iload (q := 90) K at_88 rfl rfl ?_
          refine go_if0 (q := 101) (q' := 93) K at_90 (by decide) rfl rfl (fun _ => ?_) (fun hn => cN_no2 hn (show (0 : Int32) = (0 : Int32) from (by decide)))
          refine go_iload (q := 103) K at_101 rfl rfl ?_
          refine go_if0 (q := 114) (q' := 106) K at_103 (by decide) rfl rfl (fun _ => ?_) (fun hn => cN_no2 hn (show (0 : Int32) = (0 : Int32) from (by decide)))
          refine go_iload (q := 116) K at_114 rfl rfl ?_
          refine go_iload (q := 118) K at_116 rfl rfl ?_
          refine go_icmp (q := 125) (q' := 121) K at_118 (by decide) rfl rfl (fun _ => ?_) (fun hn => cN_no2 hn (show ¬ av = bv from eab))
          refine go_iconst (q := 126) K at_125 (0 : Int32) rfl rfl ?_
          refine go_istore (q := 128) K at_126 #[.val (.int xx), .val (.int yy), .val (.int zz), .val (.int ww), .val (.int ff), .val (.int m), .val (.int av), .val (.int bv), .val (.int qv), .val (.int (0 : Int32)), .val (.int (0 : Int32)), .val (.ref ah1), .val (.int (av % m)), .val (.int (bv % m)), .val (.int (0 : Int32)), .unset, .unset, .unset] rfl rfl ?_
          refine go_iload (q := 130) K at_128 rfl rfl ?_
          refine go_if0 (q := 143) (q' := 133) K at_130 (by decide) rfl rfl (fun hn => cN_no hn (show (0 : Int32) = (0 : Int32) from (by decide))) (fun _ => ?_)
          refine go_iload (q := 135) K at_133 rfl rfl ?_
          refine go_if0 (q := 147) (q' := 138) K at_135 (by decide) rfl rfl (fun _ => ?_) (fun hn => cN_no2 hn (show (0 : Int32) = (0 : Int32) from (by decide)))
          refine go_iconst (q := 148) K at_147 (0 : Int32) rfl rfl ?_
          refine go_istore (q := 150) K at_148 #[.val (.int xx), .val (.int yy), .val (.int zz), .val (.int ww), .val (.int ff), .val (.int m), .val (.int av), .val (.int bv), .val (.int qv), .val (.int (0 : Int32)), .val (.int (0 : Int32)), .val (.ref ah1), .val (.int (av % m)), .val (.int (bv % m)), .val (.int (0 : Int32)), .val (.int (0 : Int32)), .unset, .unset] rfl rfl ?_
          refine go_iload (q := 152) K at_150 rfl rfl ?_
          refine go_if0 (q := 165) (q' := 155) K at_152 (by decide) rfl rfl (fun hn => cN_no hn (show (0 : Int32) = (0 : Int32) from (by decide))) (fun _ => ?_)
          refine go_iload (q := 157) K at_155 rfl rfl ?_
          refine go_if0 (q := 169) (q' := 160) K at_157 (by decide) rfl rfl (fun _ => ?_) (fun hn => cN_no2 hn (show (0 : Int32) = (0 : Int32) from (by decide)))
          refine go_iconst (q := 170) K at_169 (0 : Int32) rfl rfl ?_
          refine go_istore (q := 172) K at_170 #[.val (.int xx), .val (.int yy), .val (.int zz), .val (.int ww), .val (.int ff), .val (.int m), .val (.int av), .val (.int bv), .val (.int qv), .val (.int (0 : Int32)), .val (.int (0 : Int32)), .val (.ref ah1), .val (.int (av % m)), .val (.int (bv % m)), .val (.int (0 : Int32)), .val (.int (0 : Int32)), .val (.int (0 : Int32)), .unset] rfl rfl ?_
          refine go_iload (q := 174) K at_172 rfl rfl ?_
          refine go_iload (q := 176) K at_174 rfl rfl ?_
          refine go_icmp (q := 194) (q' := 179) K at_176 (by decide) rfl rfl (fun eqa => ?_) (fun eqa => ?_)
          · have eqa : ¬ qv = (av % m) := eqa
            refine go_iload (q := 196) K at_194 rfl rfl ?_
            refine go_iload (q := 198) K at_196 rfl rfl ?_
            refine go_icmp (q := 216) (q' := 201) K at_198 (by decide) rfl rfl (fun eqb => ?_) (fun eqb => ?_)
            · have eqb : ¬ qv = (bv % m) := eqb
              refine go_iconst (q := 217) K at_216 (0 : Int32) rfl rfl ?_
              refine go_istore (q := 219) K at_217 #[.val (.int xx), .val (.int yy), .val (.int zz), .val (.int ww), .val (.int ff), .val (.int m), .val (.int av), .val (.int bv), .val (.int qv), .val (.int (0 : Int32)), .val (.int (0 : Int32)), .val (.ref ah1), .val (.int (av % m)), .val (.int (bv % m)), .val (.int (0 : Int32)), .val (.int (0 : Int32)), .val (.int (0 : Int32)), .val (.int (0 : Int32))] rfl rfl ?_
              refine go_aload (q := 221) K at_219 rfl rfl rfl ?_
              refine go_iload (q := 223) K at_221 rfl rfl ?_
              refine go_callV (q := 226) (W := 0) K (wd hw 170 rfl) (wd hw 171 rfl) (wd hw 172 rfl) (wd hw 140 rfl) (wd hw 3 rfl) (wd hw 141 rfl) (wd hw 87 rfl) rfl q0h4 [(.int qv)] [] (state l Z a0 hw _ _ _ _ _ _ _ n0 q15h4 q17h4 hq.1 (own_setN (own_natne hb_.1 hq.1 (fun z => eqb z.symm)) (own_setN (own_natne ha.1 hq.1 (fun z => eqa z.symm)) (own_K0_at hq.2.1)))) at_223 (ps := [.int]) (by decide +kernel) rfl rfl rfl (by decide) rfl (by decide) (by decide) (by decide) (by decide) rfl ?_
              rintro _ _ ⟨rfl, rfl⟩
              show Go pP l eE _ sS mM _ bB tT cC n0 _ h4 2 21 (mkF mM 226 #[.val (.int xx), .val (.int yy), .val (.int zz), .val (.int ww), .val (.int ff), .val (.int m), .val (.int av), .val (.int bv), .val (.int qv), .val (.int (0 : Int32)), .val (.int (0 : Int32)), .val (.ref ah1), .val (.int (av % m)), .val (.int (bv % m)), .val (.int (0 : Int32)), .val (.int (0 : Int32)), .val (.int (0 : Int32)), .val (.int (0 : Int32))] [(.int (own_st (-1 : Int32)))])
              refine go_eqI (y := (0 : Int32)) (by decide) ?_
              refine go_iload (q := 228) K at_226 rfl rfl ?_
              refine go_icmp (q := 235) (q' := 231) K at_228 (by decide) rfl rfl (fun hn => cN_no hn (show (0 : Int32) = (0 : Int32) from (by decide))) (fun _ => ?_)
              refine go_iconst (q := 232) K at_231 (1 : Int32) rfl rfl ?_
              refine go_goto (q := 236) K at_232 (by decide) rfl ?_
              refine go_iret K at_236 rfl (Or.inr (Or.inl rfl)) rfl (by decide) (by decide) ?_
              exact rfl
            · have eqb : qv = (bv % m) := eqb
              refine go_iload (q := 203) K at_201 rfl rfl ?_
              refine go_if0 (q := 210) (q' := 206) K at_203 (by decide) rfl rfl (fun _ => ?_) (fun hn => cN_no2 hn (show (0 : Int32) = (0 : Int32) from (by decide)))
              refine go_iconst (q := 211) K at_210 (2 : Int32) rfl rfl ?_
              refine go_istore (q := 213) K at_211 #[.val (.int xx), .val (.int yy), .val (.int zz), .val (.int ww), .val (.int ff), .val (.int m), .val (.int av), .val (.int bv), .val (.int qv), .val (.int (0 : Int32)), .val (.int (0 : Int32)), .val (.ref ah1), .val (.int (av % m)), .val (.int (bv % m)), .val (.int (0 : Int32)), .val (.int (0 : Int32)), .val (.int (0 : Int32)), .val (.int (2 : Int32))] rfl rfl ?_
              refine go_goto (q := 219) K at_213 (by decide) rfl ?_
              refine go_aload (q := 221) K at_219 rfl rfl rfl ?_
              refine go_iload (q := 223) K at_221 rfl rfl ?_
              refine go_callV (q := 226) (W := 0) K (wd hw 170 rfl) (wd hw 171 rfl) (wd hw 172 rfl) (wd hw 140 rfl) (wd hw 3 rfl) (wd hw 141 rfl) (wd hw 87 rfl) rfl q0h4 [(.int qv)] [] (state l Z a0 hw _ _ _ _ _ _ _ n0 q15h4 q17h4 hq.1 (by rw [eqb]; exact (own_setA (by simpa [own_K0_len] using hb_.2.1)))) at_223 (ps := [.int]) (by decide +kernel) rfl rfl rfl (by decide) rfl (by decide) (by decide) (by decide) (by decide) rfl ?_
              rintro _ _ ⟨rfl, rfl⟩
              show Go pP l eE _ sS mM _ bB tT cC n0 _ h4 2 21 (mkF mM 226 #[.val (.int xx), .val (.int yy), .val (.int zz), .val (.int ww), .val (.int ff), .val (.int m), .val (.int av), .val (.int bv), .val (.int qv), .val (.int (0 : Int32)), .val (.int (0 : Int32)), .val (.ref ah1), .val (.int (av % m)), .val (.int (bv % m)), .val (.int (0 : Int32)), .val (.int (0 : Int32)), .val (.int (0 : Int32)), .val (.int (2 : Int32))] [(.int (own_st bv))])
              refine go_eqI (y := (2 : Int32)) (own_st2 hbv0) ?_
              refine go_iload (q := 228) K at_226 rfl rfl ?_
              refine go_icmp (q := 235) (q' := 231) K at_228 (by decide) rfl rfl (fun hn => cN_no hn (show (2 : Int32) = (2 : Int32) from (by decide))) (fun _ => ?_)
              refine go_iconst (q := 232) K at_231 (1 : Int32) rfl rfl ?_
              refine go_goto (q := 236) K at_232 (by decide) rfl ?_
              refine go_iret K at_236 rfl (Or.inr (Or.inl rfl)) rfl (by decide) (by decide) ?_
              exact rfl
          · have eqa : qv = (av % m) := eqa
            refine go_iload (q := 181) K at_179 rfl rfl ?_
            refine go_if0 (q := 188) (q' := 184) K at_181 (by decide) rfl rfl (fun _ => ?_) (fun hn => cN_no2 hn (show (0 : Int32) = (0 : Int32) from (by decide)))
            refine go_iconst (q := 189) K at_188 (2 : Int32) rfl rfl ?_
            refine go_istore (q := 191) K at_189 #[.val (.int xx), .val (.int yy), .val (.int zz), .val (.int ww), .val (.int ff), .val (.int m), .val (.int av), .val (.int bv), .val (.int qv), .val (.int (0 : Int32)), .val (.int (0 : Int32)), .val (.ref ah1), .val (.int (av % m)), .val (.int (bv % m)), .val (.int (0 : Int32)), .val (.int (0 : Int32)), .val (.int (0 : Int32)), .val (.int (2 : Int32))] rfl rfl ?_
            refine go_goto (q := 219) K at_191 (by decide) rfl ?_
            refine go_aload (q := 221) K at_219 rfl rfl rfl ?_
            refine go_iload (q := 223) K at_221 rfl rfl ?_
            refine go_callV (q := 226) (W := 0) K (wd hw 170 rfl) (wd hw 171 rfl) (wd hw 172 rfl) (wd hw 140 rfl) (wd hw 3 rfl) (wd hw 141 rfl) (wd hw 87 rfl) rfl q0h4 [(.int qv)] [] (state l Z a0 hw _ _ _ _ _ _ _ n0 q15h4 q17h4 hq.1 (by rw [eqa]; exact (own_setN hab.symm (own_setA (by simpa [own_K0_len] using ha.2.1))))) at_223 (ps := [.int]) (by decide +kernel) rfl rfl rfl (by decide) rfl (by decide) (by decide) (by decide) (by decide) rfl ?_
            rintro _ _ ⟨rfl, rfl⟩
            show Go pP l eE _ sS mM _ bB tT cC n0 _ h4 2 21 (mkF mM 226 #[.val (.int xx), .val (.int yy), .val (.int zz), .val (.int ww), .val (.int ff), .val (.int m), .val (.int av), .val (.int bv), .val (.int qv), .val (.int (0 : Int32)), .val (.int (0 : Int32)), .val (.ref ah1), .val (.int (av % m)), .val (.int (bv % m)), .val (.int (0 : Int32)), .val (.int (0 : Int32)), .val (.int (0 : Int32)), .val (.int (2 : Int32))] [(.int (own_st av))])
            refine go_eqI (y := (2 : Int32)) (own_st2 hav0) ?_
            refine go_iload (q := 228) K at_226 rfl rfl ?_
            refine go_icmp (q := 235) (q' := 231) K at_228 (by decide) rfl rfl (fun hn => cN_no hn (show (2 : Int32) = (2 : Int32) from (by decide))) (fun _ => ?_)
            refine go_iconst (q := 232) K at_231 (1 : Int32) rfl rfl ?_
            refine go_goto (q := 236) K at_232 (by decide) rfl ?_
            refine go_iret K at_236 rfl (Or.inr (Or.inl rfl)) rfl (by decide) (by decide) ?_
            exact rfl
    · have hc46 : ¬ (ff &&& (2 : Int32)) = (0 : Int32) := hc46
      refine go_iconst (q := 50) K at_49 (1 : Int32) rfl rfl ?_
      refine go_goto (q := 54) K at_50 (by decide) rfl ?_
      refine go_istore (q := 56) K at_54 #[.val (.int xx), .val (.int yy), .val (.int zz), .val (.int ww), .val (.int ff), .val (.int m), .val (.int av), .val (.int bv), .val (.int qv), .val (.int (0 : Int32)), .val (.int (1 : Int32)), .unset, .unset, .unset, .unset, .unset, .unset, .unset] rfl rfl ?_
      refine go_new (q := 59) (sz := 16) K (wd hw 1 rfl) (wd hw 2 rfl) (wd hw 3 rfl) at_56 (by decide) (by decide) rfl ?_
      intro h1 ah1 gah1 Eh1 Xah1 Dah1
      refine go_dup (q := 60) K at_59 rfl rfl ?_
      have f1 := (p0_.ext Eh1)
      refine go_getS (q := 63) K (wd hw 4 rfl) Via.refl (p1_.ext f1.2) at_60 rfl ?_
      refine go_iload (q := 65) K at_63 rfl rfl ?_
      refine go_callI (q := 68) (W := 1) K (wd hw 7 rfl) (wd hw 8 rfl) (wd hw 3 rfl) (wd hw 9 rfl) rfl [(.ref lin), (.int m)] [(.ref ah1)] (ctorL l Z a0 hw _ _ _ _ n0 f1 p1_ p2_ p3_ p4_ p5_ Xah1 (Nat.le_trans (own_ge p0_) (Nat.le_of_eq gah1.symm)) hm2 (Dah1 (Or.inr (wd hw 22 rfl)) (ty := (.object "com/example/dispersa/dispersa/internal/ProbeSequence")) (by decide +kernel)) (Dah1 (Or.inr (wd hw 24 rfl)) (ty := .boolean) (by decide +kernel)) (Dah1 (Or.inr (wd hw 26 rfl)) (ty := .boolean) (by decide +kernel)) (Dah1 (Or.inr (wd hw 28 rfl)) (ty := .boolean) (by decide +kernel)) (Dah1 (Or.inl (wd hw 30 rfl)) (ty := .boolean) (by decide +kernel)) (Dah1 (Or.inl (wd hw 32 rfl)) (ty := .boolean) (by decide +kernel)) (Dah1 (Or.inl (wd hw 54 rfl)) (ty := .int) (by decide +kernel)) (Dah1 (Or.inl (wd hw 63 rfl)) (ty := .int) (by decide +kernel)) (Dah1 (Or.inl (wd hw 66 rfl)) (ty := .boolean) (by decide +kernel)) (Dah1 (Or.inl (wd hw 72 rfl)) (ty := .boolean) (by decide +kernel)) (Dah1 (Or.inl (wd hw 74 rfl)) (ty := .int) (by decide +kernel)) (Dah1 (Or.inl (wd hw 76 rfl)) (ty := .int) (by decide +kernel)) (Dah1 (Or.inl (wd hw 147 rfl)) (ty := .long) (by decide +kernel)) (Dah1 (Or.inl (wd hw 149 rfl)) (ty := .int) (by decide +kernel)) (Dah1 (Or.inr (wd hw 79 rfl)) (ty := (.array .int)) (by decide +kernel)) (Dah1 (Or.inl (wd hw 210 rfl)) (ty := .boolean) (by decide +kernel))) at_65 (ps := [(.object "com/example/dispersa/dispersa/internal/ProbeSequence"), .int]) (by decide +kernel) rfl rfl rfl (by decide) rfl (by decide) (by decide) (by decide) (by decide) rfl ?_
      rintro _ h2 ⟨kah2, klh2, mkh2, rfl, Kh2, gkah2, q0h2, q1h2, q2h2, q3h2, q4h2, q5h2, q6h2, q7h2, q8h2, q9h2, q10h2, q11h2, q12h2, q13h2, q14h2, q15h2, q16h2, q17h2, q18h2⟩
      show Go pP l eE _ sS mM _ bB tT cC n0 _ h2 2 21 (mkF mM 68 #[.val (.int xx), .val (.int yy), .val (.int zz), .val (.int ww), .val (.int ff), .val (.int m), .val (.int av), .val (.int bv), .val (.int qv), .val (.int (0 : Int32)), .val (.int (1 : Int32)), .unset, .unset, .unset, .unset, .unset, .unset, .unset] [(.ref ah1)])
      refine go_astore (q := 70) K at_68 #[.val (.int xx), .val (.int yy), .val (.int zz), .val (.int ww), .val (.int ff), .val (.int m), .val (.int av), .val (.int bv), .val (.int qv), .val (.int (0 : Int32)), .val (.int (1 : Int32)), .val (.ref ah1), .unset, .unset, .unset, .unset, .unset, .unset] rfl rfl rfl ?_
      refine go_aload (q := 72) K at_70 rfl rfl rfl ?_
      refine go_iload (q := 74) K at_72 rfl rfl ?_
      have f2 := (f1.keep Kh2 (allS (Nat.le_trans (own_ge p0_) (Nat.le_of_eq gah1.symm)) all0))
      refine go_callV (q := 77) (W := 0) K (wd hw 84 rfl) (wd hw 85 rfl) (wd hw 87 rfl) (wd hw 86 rfl) (wd hw 3 rfl) (wd hw 88 rfl) (wd hw 87 rfl) rfl q0h2 [(.int av)] [] (putU l Z a0 hw _ _ _ _ _ _ _ _ _ _ _ _ _ n0 f2 p1_ p2_ p3_ p4_ p5_ q0h2 (Nat.le_trans (own_ge p0_) (Nat.le_of_eq gah1.symm)) hm2 q17h2 hav0 q1h2 q2h2 q3h2 q4h2 q5h2 q6h2 q7h2 q8h2 q9h2 q10h2 q11h2 q12h2 q13h2 q14h2 q15h2 q16h2 q18h2 ha.1 (Nat.le_trans (own_ge f1) gkah2) (own_nel (Xah1).lt gkah2) (by simp [own_K0_len]) (own_K0_at ha.2.1) (own_neg hav0).1 ha.2.2.1) at_74 (ps := [.int]) (by decide +kernel) rfl rfl rfl (by decide) rfl (by decide) (by decide) (by decide) (by decide) rfl ?_
      rintro _ h3 ⟨pr2h3, po2h3, re2h3, rfl, Kh3, q0h3, q1h3, q2h3, q3h3, q4h3, q5h3, q6h3, q7h3, q8h3, q9h3, q10h3, q11h3, q12h3, q13h3, q14h3, q15h3, q16h3, q17h3⟩
      show Go pP l eE _ sS mM _ bB tT cC n0 _ h3 2 21 (mkF mM 77 #[.val (.int xx), .val (.int yy), .val (.int zz), .val (.int ww), .val (.int ff), .val (.int m), .val (.int av), .val (.int bv), .val (.int qv), .val (.int (0 : Int32)), .val (.int (1 : Int32)), .val (.ref ah1), .unset, .unset, .unset, .unset, .unset, .unset] [(.int (av % m))])
      refine go_istore (q := 79) K at_77 #[.val (.int xx), .val (.int yy), .val (.int zz), .val (.int ww), .val (.int ff), .val (.int m), .val (.int av), .val (.int bv), .val (.int qv), .val (.int (0 : Int32)), .val (.int (1 : Int32)), .val (.ref ah1), .val (.int (av % m)), .unset, .unset, .unset, .unset, .unset] rfl rfl ?_
      refine go_aload (q := 81) K at_79 rfl rfl rfl ?_
      refine go_iload (q := 83) K at_81 rfl rfl ?_
      by_cases eab : av = bv
      · subst eab
        have f3 := (f2.keep Kh3 (allS (Nat.le_trans (own_ge p0_) (Nat.le_of_eq gah1.symm)) (allS (Nat.le_trans (own_ge f1) gkah2) all0)))
        refine go_callV (q := 86) (W := 0) K (wd hw 84 rfl) (wd hw 85 rfl) (wd hw 87 rfl) (wd hw 86 rfl) (wd hw 3 rfl) (wd hw 88 rfl) (wd hw 87 rfl) rfl q0h3 [(.int av)] [] (putH l Z a0 hw _ _ _ _ _ _ _ _ _ _ _ _ _ n0 f3 p1_ p2_ p3_ p4_ p5_ q0h3 (Nat.le_trans (own_ge p0_) (Nat.le_of_eq gah1.symm)) hm2 q17h2 hav0 q1h3 q2h3 q3h3 q4h3 q5h3 q6h3 q7h3 q8h3 q9h3 q10h3 q11h3 q12h3 q13h3 q14h3 q15h3 q16h3 q17h3 ha.1 (Nat.le_trans (own_ge f1) gkah2) (own_nel (Xah1).lt gkah2) (by simp [own_K0_len]) (own_setA (by simpa [own_K0_len] using ha.2.1))) at_83 (ps := [.int]) (by decide +kernel) rfl rfl rfl (by decide) rfl (by decide) (by decide) (by decide) (by decide) rfl ?_
        rintro _ h4 ⟨pr2h4, po2h4, rfl, Kh4, q0h4, q1h4, q2h4, q3h4, q4h4, q5h4, q6h4, q7h4, q8h4, q9h4, q10h4, q11h4, q12h4, q13h4, q14h4, q15h4, q16h4⟩
        show Go pP l eE _ sS mM _ bB tT cC n0 _ h4 2 21 (mkF mM 86 #[.val (.int xx), .val (.int yy), .val (.int zz), .val (.int ww), .val (.int ff), .val (.int m), .val (.int av), .val (.int av), .val (.int qv), .val (.int (0 : Int32)), .val (.int (1 : Int32)), .val (.ref ah1), .val (.int (av % m)), .unset, .unset, .unset, .unset, .unset] [(.int (av % m))])
        refine go_istore (q := 88) K at_86 #[.val (.int xx), .val (.int yy), .val (.int zz), .val (.int ww), .val (.int ff), .val (.int m), .val (.int av), .val (.int av), .val (.int qv), .val (.int (0 : Int32)), .val (.int (1 : Int32)), .val (.ref ah1), .val (.int (av % m)), .val (.int (av % m)), .unset, .unset, .unset, .unset] rfl rfl ?_
        refine go_iload (q := 90) K at_88 rfl rfl ?_
        refine go_if0 (q := 101) (q' := 93) K at_90 (by decide) rfl rfl (fun _ => ?_) (fun hn => cN_no2 hn (show (0 : Int32) = (0 : Int32) from (by decide)))
        refine go_iload (q := 103) K at_101 rfl rfl ?_
        refine go_if0 (q := 114) (q' := 106) K at_103 (by decide) rfl rfl (fun hn => cN_no hn (show ¬ (1 : Int32) = (0 : Int32) from (by decide))) (fun _ => ?_)
        refine go_aload (q := 108) K at_106 rfl rfl rfl ?_
        refine go_iload (q := 110) K at_108 rfl rfl ?_
        have f4 := (f3.keep Kh4 (allS (Nat.le_trans (own_ge p0_) (Nat.le_of_eq gah1.symm)) all0))
        have f5 := (q17h3.keep Kh4 (ninS ((own_nel (Xah1).lt gkah2)).symm nin0))
        refine go_callV (q := 113) (W := 0) K (wd hw 173 rfl) (wd hw 174 rfl) (wd hw 176 rfl) (wd hw 175 rfl) (wd hw 3 rfl) (wd hw 177 rfl) (wd hw 87 rfl) rfl q0h4 [(.int av)] [] (rmH l Z a0 hw _ _ _ _ _ _ _ _ _ _ _ _ _ n0 f4 p1_ p2_ p3_ p4_ p5_ q0h4 (Nat.le_trans (own_ge p0_) (Nat.le_of_eq gah1.symm)) hm2 q17h2 hav0 q1h4 q2h4 q3h4 q4h4 q5h4 q6h4 q7h4 q8h4 q9h4 q10h4 q11h4 q12h4 q13h4 q14h4 q15h4 q16h4 f5 ha.1 (Nat.le_trans (own_ge f1) gkah2) (own_nel (Xah1).lt gkah2) (by simp [own_K0_len]) p6_ (own_setA (by simpa [own_K0_len] using ha.2.1))) at_110 (ps := [.int]) (by decide +kernel) rfl rfl rfl (by decide) rfl (by decide) (by decide) (by decide) (by decide) rfl ?_
        rintro _ h5 ⟨pr2h5, mu2h5, rfl, Kh5, q0h5, q1h5, q2h5, q3h5, q4h5, q5h5, q6h5, q7h5, q8h5, q9h5, q10h5, q11h5, q12h5, q13h5, q14h5, q15h5, q16h5, q17h5⟩
        show Go pP l eE _ sS mM _ bB tT cC n0 _ h5 2 21 (mkF mM 113 #[.val (.int xx), .val (.int yy), .val (.int zz), .val (.int ww), .val (.int ff), .val (.int m), .val (.int av), .val (.int av), .val (.int qv), .val (.int (0 : Int32)), .val (.int (1 : Int32)), .val (.ref ah1), .val (.int (av % m)), .val (.int (av % m)), .unset, .unset, .unset, .unset] [(.int (av % m))])
        refine go_pop (q := 114) K at_113 rfl rfl ?_
        refine go_iload (q := 116) K at_114 rfl rfl ?_
        refine go_iload (q := 118) K at_116 rfl rfl ?_
        refine go_icmp (q := 125) (q' := 121) K at_118 (by decide) rfl rfl (fun hn => cN_no hn (show av = av from rfl)) (fun _ => ?_)
        refine go_iconst (q := 122) K at_121 (1 : Int32) rfl rfl ?_
        refine go_goto (q := 126) K at_122 (by decide) rfl ?_
        refine go_istore (q := 128) K at_126 #[.val (.int xx), .val (.int yy), .val (.int zz), .val (.int ww), .val (.int ff), .val (.int m), .val (.int av), .val (.int av), .val (.int qv), .val (.int (0 : Int32)), .val (.int (1 : Int32)), .val (.ref ah1), .val (.int (av % m)), .val (.int (av % m)), .val (.int (1 : Int32)), .unset, .unset, .unset] rfl rfl ?_
        refine go_iload (q := 130) K at_128 rfl rfl ?_
        refine go_if0 (q := 143) (q' := 133) K at_130 (by decide) rfl rfl (fun hn => cN_no hn (show (0 : Int32) = (0 : Int32) from (by decide))) (fun _ => ?_)
        refine go_iload (q := 135) K at_133 rfl rfl ?_
        refine go_if0 (q := 147) (q' := 138) K at_135 (by decide) rfl rfl (fun hn => cN_no hn (show ¬ (1 : Int32) = (0 : Int32) from (by decide))) (fun _ => ?_)
        refine go_iload (q := 140) K at_138 rfl rfl ?_
        refine go_if0 (q := 147) (q' := 143) K at_140 (by decide) rfl rfl (fun hn => cN_no hn (show ¬ (1 : Int32) = (0 : Int32) from (by decide))) (fun _ => ?_)
        refine go_iconst (q := 144) K at_143 (1 : Int32) rfl rfl ?_
        refine go_goto (q := 148) K at_144 (by decide) rfl ?_
        refine go_istore (q := 150) K at_148 #[.val (.int xx), .val (.int yy), .val (.int zz), .val (.int ww), .val (.int ff), .val (.int m), .val (.int av), .val (.int av), .val (.int qv), .val (.int (0 : Int32)), .val (.int (1 : Int32)), .val (.ref ah1), .val (.int (av % m)), .val (.int (av % m)), .val (.int (1 : Int32)), .val (.int (1 : Int32)), .unset, .unset] rfl rfl ?_
        refine go_iload (q := 152) K at_150 rfl rfl ?_
        refine go_if0 (q := 165) (q' := 155) K at_152 (by decide) rfl rfl (fun _ => ?_) (fun hn => cN_no2 hn (show ¬ (1 : Int32) = (0 : Int32) from (by decide)))
        refine go_iconst (q := 166) K at_165 (1 : Int32) rfl rfl ?_
        refine go_goto (q := 170) K at_166 (by decide) rfl ?_
        refine go_istore (q := 172) K at_170 #[.val (.int xx), .val (.int yy), .val (.int zz), .val (.int ww), .val (.int ff), .val (.int m), .val (.int av), .val (.int av), .val (.int qv), .val (.int (0 : Int32)), .val (.int (1 : Int32)), .val (.ref ah1), .val (.int (av % m)), .val (.int (av % m)), .val (.int (1 : Int32)), .val (.int (1 : Int32)), .val (.int (1 : Int32)), .unset] rfl rfl ?_
        refine go_iload (q := 174) K at_172 rfl rfl ?_
        refine go_iload (q := 176) K at_174 rfl rfl ?_
        refine go_icmp (q := 194) (q' := 179) K at_176 (by decide) rfl rfl (fun eqa => ?_) (fun eqa => ?_)
        · have eqa : ¬ qv = (av % m) := eqa
          refine go_iload (q := 196) K at_194 rfl rfl ?_
          refine go_iload (q := 198) K at_196 rfl rfl ?_
          refine go_icmp (q := 216) (q' := 201) K at_198 (by decide) rfl rfl (fun _ => ?_) (fun hn => cN_no2 hn (show ¬ qv = (av % m) from eqa))
          refine go_iconst (q := 217) K at_216 (0 : Int32) rfl rfl ?_
          refine go_istore (q := 219) K at_217 #[.val (.int xx), .val (.int yy), .val (.int zz), .val (.int ww), .val (.int ff), .val (.int m), .val (.int av), .val (.int av), .val (.int qv), .val (.int (0 : Int32)), .val (.int (1 : Int32)), .val (.ref ah1), .val (.int (av % m)), .val (.int (av % m)), .val (.int (1 : Int32)), .val (.int (1 : Int32)), .val (.int (1 : Int32)), .val (.int (0 : Int32))] rfl rfl ?_
          refine go_aload (q := 221) K at_219 rfl rfl rfl ?_
          refine go_iload (q := 223) K at_221 rfl rfl ?_
          refine go_callV (q := 226) (W := 0) K (wd hw 170 rfl) (wd hw 171 rfl) (wd hw 172 rfl) (wd hw 140 rfl) (wd hw 3 rfl) (wd hw 141 rfl) (wd hw 87 rfl) rfl q0h5 [(.int qv)] [] (state l Z a0 hw _ _ _ _ _ _ _ n0 q15h5 q17h5 hq.1 (own_setN (own_natne ha.1 hq.1 (fun z => eqa z.symm)) (own_setN (own_natne ha.1 hq.1 (fun z => eqa z.symm)) (own_K0_at hq.2.1)))) at_223 (ps := [.int]) (by decide +kernel) rfl rfl rfl (by decide) rfl (by decide) (by decide) (by decide) (by decide) rfl ?_
          rintro _ _ ⟨rfl, rfl⟩
          show Go pP l eE _ sS mM _ bB tT cC n0 _ h5 2 21 (mkF mM 226 #[.val (.int xx), .val (.int yy), .val (.int zz), .val (.int ww), .val (.int ff), .val (.int m), .val (.int av), .val (.int av), .val (.int qv), .val (.int (0 : Int32)), .val (.int (1 : Int32)), .val (.ref ah1), .val (.int (av % m)), .val (.int (av % m)), .val (.int (1 : Int32)), .val (.int (1 : Int32)), .val (.int (1 : Int32)), .val (.int (0 : Int32))] [(.int (own_st (-1 : Int32)))])
          refine go_eqI (y := (0 : Int32)) (by decide) ?_
          refine go_iload (q := 228) K at_226 rfl rfl ?_
          refine go_icmp (q := 235) (q' := 231) K at_228 (by decide) rfl rfl (fun hn => cN_no hn (show (0 : Int32) = (0 : Int32) from (by decide))) (fun _ => ?_)
          refine go_iconst (q := 232) K at_231 (1 : Int32) rfl rfl ?_
          refine go_goto (q := 236) K at_232 (by decide) rfl ?_
          refine go_iret K at_236 rfl (Or.inr (Or.inl rfl)) rfl (by decide) (by decide) ?_
          exact rfl
        · have eqa : qv = (av % m) := eqa
          refine go_iload (q := 181) K at_179 rfl rfl ?_
          refine go_if0 (q := 188) (q' := 184) K at_181 (by decide) rfl rfl (fun hn => cN_no hn (show ¬ (1 : Int32) = (0 : Int32) from (by decide))) (fun _ => ?_)
          refine go_iconst (q := 185) K at_184 (1 : Int32) rfl rfl ?_
          refine go_goto (q := 189) K at_185 (by decide) rfl ?_
          refine go_istore (q := 191) K at_189 #[.val (.int xx), .val (.int yy), .val (.int zz), .val (.int ww), .val (.int ff), .val (.int m), .val (.int av), .val (.int av), .val (.int qv), .val (.int (0 : Int32)), .val (.int (1 : Int32)), .val (.ref ah1), .val (.int (av % m)), .val (.int (av % m)), .val (.int (1 : Int32)), .val (.int (1 : Int32)), .val (.int (1 : Int32)), .val (.int (1 : Int32))] rfl rfl ?_
          refine go_goto (q := 219) K at_191 (by decide) rfl ?_
          refine go_aload (q := 221) K at_219 rfl rfl rfl ?_
          refine go_iload (q := 223) K at_221 rfl rfl ?_
          refine go_callV (q := 226) (W := 0) K (wd hw 170 rfl) (wd hw 171 rfl) (wd hw 172 rfl) (wd hw 140 rfl) (wd hw 3 rfl) (wd hw 141 rfl) (wd hw 87 rfl) rfl q0h5 [(.int qv)] [] (state l Z a0 hw _ _ _ _ _ _ _ n0 q15h5 q17h5 hq.1 (by rw [eqa]; exact (own_setA (by simpa [own_K0_len] using ha.2.1)))) at_223 (ps := [.int]) (by decide +kernel) rfl rfl rfl (by decide) rfl (by decide) (by decide) (by decide) (by decide) rfl ?_
          rintro _ _ ⟨rfl, rfl⟩
          show Go pP l eE _ sS mM _ bB tT cC n0 _ h5 2 21 (mkF mM 226 #[.val (.int xx), .val (.int yy), .val (.int zz), .val (.int ww), .val (.int ff), .val (.int m), .val (.int av), .val (.int av), .val (.int qv), .val (.int (0 : Int32)), .val (.int (1 : Int32)), .val (.ref ah1), .val (.int (av % m)), .val (.int (av % m)), .val (.int (1 : Int32)), .val (.int (1 : Int32)), .val (.int (1 : Int32)), .val (.int (1 : Int32))] [(.int (own_st (-2 : Int32)))])
          refine go_eqI (y := (1 : Int32)) (by decide) ?_
          refine go_iload (q := 228) K at_226 rfl rfl ?_
          refine go_icmp (q := 235) (q' := 231) K at_228 (by decide) rfl rfl (fun hn => cN_no hn (show (1 : Int32) = (1 : Int32) from (by decide))) (fun _ => ?_)
          refine go_iconst (q := 232) K at_231 (1 : Int32) rfl rfl ?_
          refine go_goto (q := 236) K at_232 (by decide) rfl ?_
          refine go_iret K at_236 rfl (Or.inr (Or.inl rfl)) rfl (by decide) (by decide) ?_
          exact rfl
      · by_cases ehh : (av % m) = (bv % m)
        · have hx_ := own_next hb_.1 hb_.2.2.2 hm2
          have f3 := (f2.keep Kh3 (allS (Nat.le_trans (own_ge p0_) (Nat.le_of_eq gah1.symm)) (allS (Nat.le_trans (own_ge f1) gkah2) all0)))
          refine go_callV (q := 86) (W := 0) K (wd hw 84 rfl) (wd hw 85 rfl) (wd hw 87 rfl) (wd hw 86 rfl) (wd hw 3 rfl) (wd hw 88 rfl) (wd hw 87 rfl) rfl q0h3 [(.int bv)] [] (putX l Z a0 hw _ _ _ _ _ _ _ _ _ _ _ _ _ _ n0 f3 p1_ p2_ p3_ p4_ p5_ q0h3 (Nat.le_trans (own_ge p0_) (Nat.le_of_eq gah1.symm)) hm2 q17h2 hbv0 q1h3 q2h3 q3h3 q4h3 q5h3 q6h3 q7h3 q8h3 q9h3 q10h3 q11h3 q12h3 q13h3 q14h3 q15h3 q16h3 q17h3 hb_.1 (Nat.le_trans (own_ge f1) gkah2) (own_nel (Xah1).lt gkah2) (by simp [own_K0_len]) (by rw [← ehh]; exact (own_setA (by simpa [own_K0_len] using ha.2.1))) hav0 eab hx_.1 (own_setN (by rw [ehh]; exact own_natne hb_.1 hx_.1 hx_.2.2.2) (own_K0_at hx_.2.1)) (own_neg hbv0).1 hx_.2.2.1) at_83 (ps := [.int]) (by decide +kernel) rfl rfl rfl (by decide) rfl (by decide) (by decide) (by decide) (by decide) rfl ?_
          rintro _ h4 ⟨pr2h4, po2h4, re2h4, rfl, Kh4, q0h4, q1h4, q2h4, q3h4, q4h4, q5h4, q6h4, q7h4, q8h4, q9h4, q10h4, q11h4, q12h4, q13h4, q14h4, q15h4, q16h4, q17h4⟩
          show Go pP l eE _ sS mM _ bB tT cC n0 _ h4 2 21 (mkF mM 86 #[.val (.int xx), .val (.int yy), .val (.int zz), .val (.int ww), .val (.int ff), .val (.int m), .val (.int av), .val (.int bv), .val (.int qv), .val (.int (0 : Int32)), .val (.int (1 : Int32)), .val (.ref ah1), .val (.int (av % m)), .unset, .unset, .unset, .unset, .unset] [(.int (own_adv (bv % m) (1 : Int32) m))])
          refine go_istore (q := 88) K at_86 #[.val (.int xx), .val (.int yy), .val (.int zz), .val (.int ww), .val (.int ff), .val (.int m), .val (.int av), .val (.int bv), .val (.int qv), .val (.int (0 : Int32)), .val (.int (1 : Int32)), .val (.ref ah1), .val (.int (av % m)), .val (.int (own_adv (bv % m) (1 : Int32) m)), .unset, .unset, .unset, .unset] rfl rfl ?_
          refine go_iload (q := 90) K at_88 rfl rfl ?_
          refine go_if0 (q := 101) (q' := 93) K at_90 (by decide) rfl rfl (fun _ => ?_) (fun hn => cN_no2 hn (show (0 : Int32) = (0 : Int32) from (by decide)))
          refine go_iload (q := 103) K at_101 rfl rfl ?_
          refine go_if0 (q := 114) (q' := 106) K at_103 (by decide) rfl rfl (fun hn => cN_no hn (show ¬ (1 : Int32) = (0 : Int32) from (by decide))) (fun _ => ?_)
          refine go_aload (q := 108) K at_106 rfl rfl rfl ?_
          refine go_iload (q := 110) K at_108 rfl rfl ?_
          have f4 := (f3.keep Kh4 (allS (Nat.le_trans (own_ge p0_) (Nat.le_of_eq gah1.symm)) (allS (Nat.le_trans (own_ge f1) gkah2) all0)))
          refine go_callV (q := 113) (W := 0) K (wd hw 173 rfl) (wd hw 174 rfl) (wd hw 176 rfl) (wd hw 175 rfl) (wd hw 3 rfl) (wd hw 177 rfl) (wd hw 87 rfl) rfl q0h4 [(.int bv)] [] (rmN l Z a0 hw _ _ _ _ _ _ _ _ _ _ _ _ _ _ n0 f4 p1_ p2_ p3_ p4_ p5_ q0h4 (Nat.le_trans (own_ge p0_) (Nat.le_of_eq gah1.symm)) hm2 q17h2 hbv0 q1h4 q2h4 q3h4 q4h4 q5h4 q6h4 q7h4 q8h4 q9h4 q10h4 q11h4 q12h4 q13h4 q14h4 q15h4 q16h4 q17h4 hb_.1 (Nat.le_trans (own_ge f1) gkah2) (own_nel (Xah1).lt gkah2) (by simp [own_K0_len]) p6_ (by rw [← ehh]; exact (own_setN (by rw [ehh]; exact (own_natne hb_.1 hx_.1 hx_.2.2.2).symm) (own_setA (by simpa [own_K0_len] using ha.2.1)))) hav0 eab hx_.1 (own_setA (by simpa [own_K0_len] using hx_.2.1))) at_110 (ps := [.int]) (by decide +kernel) rfl rfl rfl (by decide) rfl (by decide) (by decide) (by decide) (by decide) rfl ?_
          rintro _ h5 ⟨pr2h5, mu2h5, rfl, Kh5, q0h5, q1h5, q2h5, q3h5, q4h5, q5h5, q6h5, q7h5, q8h5, q9h5, q10h5, q11h5, q12h5, q13h5, q14h5, q15h5, q16h5, q17h5⟩
          show Go pP l eE _ sS mM _ bB tT cC n0 _ h5 2 21 (mkF mM 113 #[.val (.int xx), .val (.int yy), .val (.int zz), .val (.int ww), .val (.int ff), .val (.int m), .val (.int av), .val (.int bv), .val (.int qv), .val (.int (0 : Int32)), .val (.int (1 : Int32)), .val (.ref ah1), .val (.int (av % m)), .val (.int (own_adv (bv % m) (1 : Int32) m)), .unset, .unset, .unset, .unset] [(.int (own_adv (bv % m) (1 : Int32) m))])
          refine go_pop (q := 114) K at_113 rfl rfl ?_
          refine go_iload (q := 116) K at_114 rfl rfl ?_
          refine go_iload (q := 118) K at_116 rfl rfl ?_
          refine go_icmp (q := 125) (q' := 121) K at_118 (by decide) rfl rfl (fun _ => ?_) (fun hn => cN_no2 hn (show ¬ av = bv from eab))
          refine go_iconst (q := 126) K at_125 (0 : Int32) rfl rfl ?_
          refine go_istore (q := 128) K at_126 #[.val (.int xx), .val (.int yy), .val (.int zz), .val (.int ww), .val (.int ff), .val (.int m), .val (.int av), .val (.int bv), .val (.int qv), .val (.int (0 : Int32)), .val (.int (1 : Int32)), .val (.ref ah1), .val (.int (av % m)), .val (.int (own_adv (bv % m) (1 : Int32) m)), .val (.int (0 : Int32)), .unset, .unset, .unset] rfl rfl ?_
          refine go_iload (q := 130) K at_128 rfl rfl ?_
          refine go_if0 (q := 143) (q' := 133) K at_130 (by decide) rfl rfl (fun hn => cN_no hn (show (0 : Int32) = (0 : Int32) from (by decide))) (fun _ => ?_)
          refine go_iload (q := 135) K at_133 rfl rfl ?_
          refine go_if0 (q := 147) (q' := 138) K at_135 (by decide) rfl rfl (fun _ => ?_) (fun hn => cN_no2 hn (show (0 : Int32) = (0 : Int32) from (by decide)))
          refine go_iconst (q := 148) K at_147 (0 : Int32) rfl rfl ?_
          refine go_istore (q := 150) K at_148 #[.val (.int xx), .val (.int yy), .val (.int zz), .val (.int ww), .val (.int ff), .val (.int m), .val (.int av), .val (.int bv), .val (.int qv), .val (.int (0 : Int32)), .val (.int (1 : Int32)), .val (.ref ah1), .val (.int (av % m)), .val (.int (own_adv (bv % m) (1 : Int32) m)), .val (.int (0 : Int32)), .val (.int (0 : Int32)), .unset, .unset] rfl rfl ?_
          refine go_iload (q := 152) K at_150 rfl rfl ?_
          refine go_if0 (q := 165) (q' := 155) K at_152 (by decide) rfl rfl (fun _ => ?_) (fun hn => cN_no2 hn (show ¬ (1 : Int32) = (0 : Int32) from (by decide)))
          refine go_iconst (q := 166) K at_165 (1 : Int32) rfl rfl ?_
          refine go_goto (q := 170) K at_166 (by decide) rfl ?_
          refine go_istore (q := 172) K at_170 #[.val (.int xx), .val (.int yy), .val (.int zz), .val (.int ww), .val (.int ff), .val (.int m), .val (.int av), .val (.int bv), .val (.int qv), .val (.int (0 : Int32)), .val (.int (1 : Int32)), .val (.ref ah1), .val (.int (av % m)), .val (.int (own_adv (bv % m) (1 : Int32) m)), .val (.int (0 : Int32)), .val (.int (0 : Int32)), .val (.int (1 : Int32)), .unset] rfl rfl ?_
          refine go_iload (q := 174) K at_172 rfl rfl ?_
          refine go_iload (q := 176) K at_174 rfl rfl ?_
          refine go_icmp (q := 194) (q' := 179) K at_176 (by decide) rfl rfl (fun eqa => ?_) (fun eqa => ?_)
          · have eqa : ¬ qv = (av % m) := eqa
            refine go_iload (q := 196) K at_194 rfl rfl ?_
            refine go_iload (q := 198) K at_196 rfl rfl ?_
            refine go_icmp (q := 216) (q' := 201) K at_198 (by decide) rfl rfl (fun eqb => ?_) (fun eqb => ?_)
            · have eqb : ¬ qv = (own_adv (bv % m) (1 : Int32) m) := eqb
              refine go_iconst (q := 217) K at_216 (0 : Int32) rfl rfl ?_
              refine go_istore (q := 219) K at_217 #[.val (.int xx), .val (.int yy), .val (.int zz), .val (.int ww), .val (.int ff), .val (.int m), .val (.int av), .val (.int bv), .val (.int qv), .val (.int (0 : Int32)), .val (.int (1 : Int32)), .val (.ref ah1), .val (.int (av % m)), .val (.int (own_adv (bv % m) (1 : Int32) m)), .val (.int (0 : Int32)), .val (.int (0 : Int32)), .val (.int (1 : Int32)), .val (.int (0 : Int32))] rfl rfl ?_
              refine go_aload (q := 221) K at_219 rfl rfl rfl ?_
              refine go_iload (q := 223) K at_221 rfl rfl ?_
              refine go_callV (q := 226) (W := 0) K (wd hw 170 rfl) (wd hw 171 rfl) (wd hw 172 rfl) (wd hw 140 rfl) (wd hw 3 rfl) (wd hw 141 rfl) (wd hw 87 rfl) rfl q0h5 [(.int qv)] [] (state l Z a0 hw _ _ _ _ _ _ _ n0 q15h5 q17h5 hq.1 (own_setN (own_natne hx_.1 hq.1 (fun z => eqb z.symm)) (own_setN (own_natne hx_.1 hq.1 (fun z => eqb z.symm)) (own_setN (own_natne ha.1 hq.1 (fun z => eqa z.symm)) (own_K0_at hq.2.1))))) at_223 (ps := [.int]) (by decide +kernel) rfl rfl rfl (by decide) rfl (by decide) (by decide) (by decide) (by decide) rfl ?_
              rintro _ _ ⟨rfl, rfl⟩
              show Go pP l eE _ sS mM _ bB tT cC n0 _ h5 2 21 (mkF mM 226 #[.val (.int xx), .val (.int yy), .val (.int zz), .val (.int ww), .val (.int ff), .val (.int m), .val (.int av), .val (.int bv), .val (.int qv), .val (.int (0 : Int32)), .val (.int (1 : Int32)), .val (.ref ah1), .val (.int (av % m)), .val (.int (own_adv (bv % m) (1 : Int32) m)), .val (.int (0 : Int32)), .val (.int (0 : Int32)), .val (.int (1 : Int32)), .val (.int (0 : Int32))] [(.int (own_st (-1 : Int32)))])
              refine go_eqI (y := (0 : Int32)) (by decide) ?_
              refine go_iload (q := 228) K at_226 rfl rfl ?_
              refine go_icmp (q := 235) (q' := 231) K at_228 (by decide) rfl rfl (fun hn => cN_no hn (show (0 : Int32) = (0 : Int32) from (by decide))) (fun _ => ?_)
              refine go_iconst (q := 232) K at_231 (1 : Int32) rfl rfl ?_
              refine go_goto (q := 236) K at_232 (by decide) rfl ?_
              refine go_iret K at_236 rfl (Or.inr (Or.inl rfl)) rfl (by decide) (by decide) ?_
              exact rfl
            · have eqb : qv = (own_adv (bv % m) (1 : Int32) m) := eqb
              refine go_iload (q := 203) K at_201 rfl rfl ?_
              refine go_if0 (q := 210) (q' := 206) K at_203 (by decide) rfl rfl (fun hn => cN_no hn (show ¬ (1 : Int32) = (0 : Int32) from (by decide))) (fun _ => ?_)
              refine go_iconst (q := 207) K at_206 (1 : Int32) rfl rfl ?_
              refine go_goto (q := 211) K at_207 (by decide) rfl ?_
              refine go_istore (q := 213) K at_211 #[.val (.int xx), .val (.int yy), .val (.int zz), .val (.int ww), .val (.int ff), .val (.int m), .val (.int av), .val (.int bv), .val (.int qv), .val (.int (0 : Int32)), .val (.int (1 : Int32)), .val (.ref ah1), .val (.int (av % m)), .val (.int (own_adv (bv % m) (1 : Int32) m)), .val (.int (0 : Int32)), .val (.int (0 : Int32)), .val (.int (1 : Int32)), .val (.int (1 : Int32))] rfl rfl ?_
              refine go_goto (q := 219) K at_213 (by decide) rfl ?_
              refine go_aload (q := 221) K at_219 rfl rfl rfl ?_
              refine go_iload (q := 223) K at_221 rfl rfl ?_
              refine go_callV (q := 226) (W := 0) K (wd hw 170 rfl) (wd hw 171 rfl) (wd hw 172 rfl) (wd hw 140 rfl) (wd hw 3 rfl) (wd hw 141 rfl) (wd hw 87 rfl) rfl q0h5 [(.int qv)] [] (state l Z a0 hw _ _ _ _ _ _ _ n0 q15h5 q17h5 hq.1 (by rw [eqb]; exact (own_setA (by simpa [own_K0_len] using hx_.2.1)))) at_223 (ps := [.int]) (by decide +kernel) rfl rfl rfl (by decide) rfl (by decide) (by decide) (by decide) (by decide) rfl ?_
              rintro _ _ ⟨rfl, rfl⟩
              show Go pP l eE _ sS mM _ bB tT cC n0 _ h5 2 21 (mkF mM 226 #[.val (.int xx), .val (.int yy), .val (.int zz), .val (.int ww), .val (.int ff), .val (.int m), .val (.int av), .val (.int bv), .val (.int qv), .val (.int (0 : Int32)), .val (.int (1 : Int32)), .val (.ref ah1), .val (.int (av % m)), .val (.int (own_adv (bv % m) (1 : Int32) m)), .val (.int (0 : Int32)), .val (.int (0 : Int32)), .val (.int (1 : Int32)), .val (.int (1 : Int32))] [(.int (own_st (-2 : Int32)))])
              refine go_eqI (y := (1 : Int32)) (by decide) ?_
              refine go_iload (q := 228) K at_226 rfl rfl ?_
              refine go_icmp (q := 235) (q' := 231) K at_228 (by decide) rfl rfl (fun hn => cN_no hn (show (1 : Int32) = (1 : Int32) from (by decide))) (fun _ => ?_)
              refine go_iconst (q := 232) K at_231 (1 : Int32) rfl rfl ?_
              refine go_goto (q := 236) K at_232 (by decide) rfl ?_
              refine go_iret K at_236 rfl (Or.inr (Or.inl rfl)) rfl (by decide) (by decide) ?_
              exact rfl
          · have eqa : qv = (av % m) := eqa
            refine go_iload (q := 181) K at_179 rfl rfl ?_
            refine go_if0 (q := 188) (q' := 184) K at_181 (by decide) rfl rfl (fun _ => ?_) (fun hn => cN_no2 hn (show (0 : Int32) = (0 : Int32) from (by decide)))
            refine go_iconst (q := 189) K at_188 (2 : Int32) rfl rfl ?_
            refine go_istore (q := 191) K at_189 #[.val (.int xx), .val (.int yy), .val (.int zz), .val (.int ww), .val (.int ff), .val (.int m), .val (.int av), .val (.int bv), .val (.int qv), .val (.int (0 : Int32)), .val (.int (1 : Int32)), .val (.ref ah1), .val (.int (av % m)), .val (.int (own_adv (bv % m) (1 : Int32) m)), .val (.int (0 : Int32)), .val (.int (0 : Int32)), .val (.int (1 : Int32)), .val (.int (2 : Int32))] rfl rfl ?_
            refine go_goto (q := 219) K at_191 (by decide) rfl ?_
            refine go_aload (q := 221) K at_219 rfl rfl rfl ?_
            refine go_iload (q := 223) K at_221 rfl rfl ?_
            refine go_callV (q := 226) (W := 0) K (wd hw 170 rfl) (wd hw 171 rfl) (wd hw 172 rfl) (wd hw 140 rfl) (wd hw 3 rfl) (wd hw 141 rfl) (wd hw 87 rfl) rfl q0h5 [(.int qv)] [] (state l Z a0 hw _ _ _ _ _ _ _ n0 q15h5 q17h5 hq.1 (by rw [eqa]; exact (own_setN (by rw [ehh]; exact (own_natne hb_.1 hx_.1 hx_.2.2.2).symm) (own_setN (by rw [ehh]; exact (own_natne hb_.1 hx_.1 hx_.2.2.2).symm) (own_setA (by simpa [own_K0_len] using ha.2.1)))))) at_223 (ps := [.int]) (by decide +kernel) rfl rfl rfl (by decide) rfl (by decide) (by decide) (by decide) (by decide) rfl ?_
            rintro _ _ ⟨rfl, rfl⟩
            show Go pP l eE _ sS mM _ bB tT cC n0 _ h5 2 21 (mkF mM 226 #[.val (.int xx), .val (.int yy), .val (.int zz), .val (.int ww), .val (.int ff), .val (.int m), .val (.int av), .val (.int bv), .val (.int qv), .val (.int (0 : Int32)), .val (.int (1 : Int32)), .val (.ref ah1), .val (.int (av % m)), .val (.int (own_adv (bv % m) (1 : Int32) m)), .val (.int (0 : Int32)), .val (.int (0 : Int32)), .val (.int (1 : Int32)), .val (.int (2 : Int32))] [(.int (own_st av))])
            refine go_eqI (y := (2 : Int32)) (own_st2 hav0) ?_
            refine go_iload (q := 228) K at_226 rfl rfl ?_
            refine go_icmp (q := 235) (q' := 231) K at_228 (by decide) rfl rfl (fun hn => cN_no hn (show (2 : Int32) = (2 : Int32) from (by decide))) (fun _ => ?_)
            refine go_iconst (q := 232) K at_231 (1 : Int32) rfl rfl ?_
            refine go_goto (q := 236) K at_232 (by decide) rfl ?_
            refine go_iret K at_236 rfl (Or.inr (Or.inl rfl)) rfl (by decide) (by decide) ?_
            exact rfl
        · have hab := own_natne ha.1 hb_.1 ehh
          have f3 := (f2.keep Kh3 (allS (Nat.le_trans (own_ge p0_) (Nat.le_of_eq gah1.symm)) (allS (Nat.le_trans (own_ge f1) gkah2) all0)))
          refine go_callV (q := 86) (W := 0) K (wd hw 84 rfl) (wd hw 85 rfl) (wd hw 87 rfl) (wd hw 86 rfl) (wd hw 3 rfl) (wd hw 88 rfl) (wd hw 87 rfl) rfl q0h3 [(.int bv)] [] (putU l Z a0 hw _ _ _ _ _ _ _ _ _ _ _ _ _ n0 f3 p1_ p2_ p3_ p4_ p5_ q0h3 (Nat.le_trans (own_ge p0_) (Nat.le_of_eq gah1.symm)) hm2 q17h2 hbv0 q1h3 q2h3 q3h3 q4h3 q5h3 q6h3 q7h3 q8h3 q9h3 q10h3 q11h3 q12h3 q13h3 q14h3 q15h3 q16h3 q17h3 hb_.1 (Nat.le_trans (own_ge f1) gkah2) (own_nel (Xah1).lt gkah2) (by simp [own_K0_len]) (own_setN hab (own_K0_at hb_.2.1)) (own_neg hbv0).1 hb_.2.2.1) at_83 (ps := [.int]) (by decide +kernel) rfl rfl rfl (by decide) rfl (by decide) (by decide) (by decide) (by decide) rfl ?_
          rintro _ h4 ⟨pr2h4, po2h4, re2h4, rfl, Kh4, q0h4, q1h4, q2h4, q3h4, q4h4, q5h4, q6h4, q7h4, q8h4, q9h4, q10h4, q11h4, q12h4, q13h4, q14h4, q15h4, q16h4, q17h4⟩
          show Go pP l eE _ sS mM _ bB tT cC n0 _ h4 2 21 (mkF mM 86 #[.val (.int xx), .val (.int yy), .val (.int zz), .val (.int ww), .val (.int ff), .val (.int m), .val (.int av), .val (.int bv), .val (.int qv), .val (.int (0 : Int32)), .val (.int (1 : Int32)), .val (.ref ah1), .val (.int (av % m)), .unset, .unset, .unset, .unset, .unset] [(.int (bv % m))])
          refine go_istore (q := 88) K at_86 #[.val (.int xx), .val (.int yy), .val (.int zz), .val (.int ww), .val (.int ff), .val (.int m), .val (.int av), .val (.int bv), .val (.int qv), .val (.int (0 : Int32)), .val (.int (1 : Int32)), .val (.ref ah1), .val (.int (av % m)), .val (.int (bv % m)), .unset, .unset, .unset, .unset] rfl rfl ?_
          refine go_iload (q := 90) K at_88 rfl rfl ?_
          refine go_if0 (q := 101) (q' := 93) K at_90 (by decide) rfl rfl (fun _ => ?_) (fun hn => cN_no2 hn (show (0 : Int32) = (0 : Int32) from (by decide)))
          refine go_iload (q := 103) K at_101 rfl rfl ?_
          refine go_if0 (q := 114) (q' := 106) K at_103 (by decide) rfl rfl (fun hn => cN_no hn (show ¬ (1 : Int32) = (0 : Int32) from (by decide))) (fun _ => ?_)
          refine go_aload (q := 108) K at_106 rfl rfl rfl ?_
          refine go_iload (q := 110) K at_108 rfl rfl ?_
          have f4 := (f3.keep Kh4 (allS (Nat.le_trans (own_ge p0_) (Nat.le_of_eq gah1.symm)) (allS (Nat.le_trans (own_ge f1) gkah2) all0)))
          refine go_callV (q := 113) (W := 0) K (wd hw 173 rfl) (wd hw 174 rfl) (wd hw 176 rfl) (wd hw 175 rfl) (wd hw 3 rfl) (wd hw 177 rfl) (wd hw 87 rfl) rfl q0h4 [(.int bv)] [] (rmH l Z a0 hw _ _ _ _ _ _ _ _ _ _ _ _ _ n0 f4 p1_ p2_ p3_ p4_ p5_ q0h4 (Nat.le_trans (own_ge p0_) (Nat.le_of_eq gah1.symm)) hm2 q17h2 hbv0 q1h4 q2h4 q3h4 q4h4 q5h4 q6h4 q7h4 q8h4 q9h4 q10h4 q11h4 q12h4 q13h4 q14h4 q15h4 q16h4 q17h4 hb_.1 (Nat.le_trans (own_ge f1) gkah2) (own_nel (Xah1).lt gkah2) (by simp [own_K0_len]) p6_ (own_setA (by simpa [own_K0_len] using hb_.2.1))) at_110 (ps := [.int]) (by decide +kernel) rfl rfl rfl (by decide) rfl (by decide) (by decide) (by decide) (by decide) rfl ?_
          rintro _ h5 ⟨pr2h5, mu2h5, rfl, Kh5, q0h5, q1h5, q2h5, q3h5, q4h5, q5h5, q6h5, q7h5, q8h5, q9h5, q10h5, q11h5, q12h5, q13h5, q14h5, q15h5, q16h5, q17h5⟩
          show Go pP l eE _ sS mM _ bB tT cC n0 _ h5 2 21 (mkF mM 113 #[.val (.int xx), .val (.int yy), .val (.int zz), .val (.int ww), .val (.int ff), .val (.int m), .val (.int av), .val (.int bv), .val (.int qv), .val (.int (0 : Int32)), .val (.int (1 : Int32)), .val (.ref ah1), .val (.int (av % m)), .val (.int (bv % m)), .unset, .unset, .unset, .unset] [(.int (bv % m))])
          refine go_pop (q := 114) K at_113 rfl rfl ?_
          refine go_iload (q := 116) K at_114 rfl rfl ?_
          refine go_iload (q := 118) K at_116 rfl rfl ?_
          refine go_icmp (q := 125) (q' := 121) K at_118 (by decide) rfl rfl (fun _ => ?_) (fun hn => cN_no2 hn (show ¬ av = bv from eab))
          refine go_iconst (q := 126) K at_125 (0 : Int32) rfl rfl ?_
          refine go_istore (q := 128) K at_126 #[.val (.int xx), .val (.int yy), .val (.int zz), .val (.int ww), .val (.int ff), .val (.int m), .val (.int av), .val (.int bv), .val (.int qv), .val (.int (0 : Int32)), .val (.int (1 : Int32)), .val (.ref ah1), .val (.int (av % m)), .val (.int (bv % m)), .val (.int (0 : Int32)), .unset, .unset, .unset] rfl rfl ?_
          refine go_iload (q := 130) K at_128 rfl rfl ?_
          refine go_if0 (q := 143) (q' := 133) K at_130 (by decide) rfl rfl (fun hn => cN_no hn (show (0 : Int32) = (0 : Int32) from (by decide))) (fun _ => ?_)
          refine go_iload (q := 135) K at_133 rfl rfl ?_
          refine go_if0 (q := 147) (q' := 138) K at_135 (by decide) rfl rfl (fun _ => ?_) (fun hn => cN_no2 hn (show (0 : Int32) = (0 : Int32) from (by decide)))
          refine go_iconst (q := 148) K at_147 (0 : Int32) rfl rfl ?_
          refine go_istore (q := 150) K at_148 #[.val (.int xx), .val (.int yy), .val (.int zz), .val (.int ww), .val (.int ff), .val (.int m), .val (.int av), .val (.int bv), .val (.int qv), .val (.int (0 : Int32)), .val (.int (1 : Int32)), .val (.ref ah1), .val (.int (av % m)), .val (.int (bv % m)), .val (.int (0 : Int32)), .val (.int (0 : Int32)), .unset, .unset] rfl rfl ?_
          refine go_iload (q := 152) K at_150 rfl rfl ?_
          refine go_if0 (q := 165) (q' := 155) K at_152 (by decide) rfl rfl (fun _ => ?_) (fun hn => cN_no2 hn (show ¬ (1 : Int32) = (0 : Int32) from (by decide)))
          refine go_iconst (q := 166) K at_165 (1 : Int32) rfl rfl ?_
          refine go_goto (q := 170) K at_166 (by decide) rfl ?_
          refine go_istore (q := 172) K at_170 #[.val (.int xx), .val (.int yy), .val (.int zz), .val (.int ww), .val (.int ff), .val (.int m), .val (.int av), .val (.int bv), .val (.int qv), .val (.int (0 : Int32)), .val (.int (1 : Int32)), .val (.ref ah1), .val (.int (av % m)), .val (.int (bv % m)), .val (.int (0 : Int32)), .val (.int (0 : Int32)), .val (.int (1 : Int32)), .unset] rfl rfl ?_
          refine go_iload (q := 174) K at_172 rfl rfl ?_
          refine go_iload (q := 176) K at_174 rfl rfl ?_
          refine go_icmp (q := 194) (q' := 179) K at_176 (by decide) rfl rfl (fun eqa => ?_) (fun eqa => ?_)
          · have eqa : ¬ qv = (av % m) := eqa
            refine go_iload (q := 196) K at_194 rfl rfl ?_
            refine go_iload (q := 198) K at_196 rfl rfl ?_
            refine go_icmp (q := 216) (q' := 201) K at_198 (by decide) rfl rfl (fun eqb => ?_) (fun eqb => ?_)
            · have eqb : ¬ qv = (bv % m) := eqb
              refine go_iconst (q := 217) K at_216 (0 : Int32) rfl rfl ?_
              refine go_istore (q := 219) K at_217 #[.val (.int xx), .val (.int yy), .val (.int zz), .val (.int ww), .val (.int ff), .val (.int m), .val (.int av), .val (.int bv), .val (.int qv), .val (.int (0 : Int32)), .val (.int (1 : Int32)), .val (.ref ah1), .val (.int (av % m)), .val (.int (bv % m)), .val (.int (0 : Int32)), .val (.int (0 : Int32)), .val (.int (1 : Int32)), .val (.int (0 : Int32))] rfl rfl ?_
              refine go_aload (q := 221) K at_219 rfl rfl rfl ?_
              refine go_iload (q := 223) K at_221 rfl rfl ?_
              refine go_callV (q := 226) (W := 0) K (wd hw 170 rfl) (wd hw 171 rfl) (wd hw 172 rfl) (wd hw 140 rfl) (wd hw 3 rfl) (wd hw 141 rfl) (wd hw 87 rfl) rfl q0h5 [(.int qv)] [] (state l Z a0 hw _ _ _ _ _ _ _ n0 q15h5 q17h5 hq.1 (own_setN (own_natne hb_.1 hq.1 (fun z => eqb z.symm)) (own_setN (own_natne hb_.1 hq.1 (fun z => eqb z.symm)) (own_setN (own_natne ha.1 hq.1 (fun z => eqa z.symm)) (own_K0_at hq.2.1))))) at_223 (ps := [.int]) (by decide +kernel) rfl rfl rfl (by decide) rfl (by decide) (by decide) (by decide) (by decide) rfl ?_
              rintro _ _ ⟨rfl, rfl⟩
              show Go pP l eE _ sS mM _ bB tT cC n0 _ h5 2 21 (mkF mM 226 #[.val (.int xx), .val (.int yy), .val (.int zz), .val (.int ww), .val (.int ff), .val (.int m), .val (.int av), .val (.int bv), .val (.int qv), .val (.int (0 : Int32)), .val (.int (1 : Int32)), .val (.ref ah1), .val (.int (av % m)), .val (.int (bv % m)), .val (.int (0 : Int32)), .val (.int (0 : Int32)), .val (.int (1 : Int32)), .val (.int (0 : Int32))] [(.int (own_st (-1 : Int32)))])
              refine go_eqI (y := (0 : Int32)) (by decide) ?_
              refine go_iload (q := 228) K at_226 rfl rfl ?_
              refine go_icmp (q := 235) (q' := 231) K at_228 (by decide) rfl rfl (fun hn => cN_no hn (show (0 : Int32) = (0 : Int32) from (by decide))) (fun _ => ?_)
              refine go_iconst (q := 232) K at_231 (1 : Int32) rfl rfl ?_
              refine go_goto (q := 236) K at_232 (by decide) rfl ?_
              refine go_iret K at_236 rfl (Or.inr (Or.inl rfl)) rfl (by decide) (by decide) ?_
              exact rfl
            · have eqb : qv = (bv % m) := eqb
              refine go_iload (q := 203) K at_201 rfl rfl ?_
              refine go_if0 (q := 210) (q' := 206) K at_203 (by decide) rfl rfl (fun hn => cN_no hn (show ¬ (1 : Int32) = (0 : Int32) from (by decide))) (fun _ => ?_)
              refine go_iconst (q := 207) K at_206 (1 : Int32) rfl rfl ?_
              refine go_goto (q := 211) K at_207 (by decide) rfl ?_
              refine go_istore (q := 213) K at_211 #[.val (.int xx), .val (.int yy), .val (.int zz), .val (.int ww), .val (.int ff), .val (.int m), .val (.int av), .val (.int bv), .val (.int qv), .val (.int (0 : Int32)), .val (.int (1 : Int32)), .val (.ref ah1), .val (.int (av % m)), .val (.int (bv % m)), .val (.int (0 : Int32)), .val (.int (0 : Int32)), .val (.int (1 : Int32)), .val (.int (1 : Int32))] rfl rfl ?_
              refine go_goto (q := 219) K at_213 (by decide) rfl ?_
              refine go_aload (q := 221) K at_219 rfl rfl rfl ?_
              refine go_iload (q := 223) K at_221 rfl rfl ?_
              refine go_callV (q := 226) (W := 0) K (wd hw 170 rfl) (wd hw 171 rfl) (wd hw 172 rfl) (wd hw 140 rfl) (wd hw 3 rfl) (wd hw 141 rfl) (wd hw 87 rfl) rfl q0h5 [(.int qv)] [] (state l Z a0 hw _ _ _ _ _ _ _ n0 q15h5 q17h5 hq.1 (by rw [eqb]; exact (own_setA (by simpa [own_K0_len] using hb_.2.1)))) at_223 (ps := [.int]) (by decide +kernel) rfl rfl rfl (by decide) rfl (by decide) (by decide) (by decide) (by decide) rfl ?_
              rintro _ _ ⟨rfl, rfl⟩
              show Go pP l eE _ sS mM _ bB tT cC n0 _ h5 2 21 (mkF mM 226 #[.val (.int xx), .val (.int yy), .val (.int zz), .val (.int ww), .val (.int ff), .val (.int m), .val (.int av), .val (.int bv), .val (.int qv), .val (.int (0 : Int32)), .val (.int (1 : Int32)), .val (.ref ah1), .val (.int (av % m)), .val (.int (bv % m)), .val (.int (0 : Int32)), .val (.int (0 : Int32)), .val (.int (1 : Int32)), .val (.int (1 : Int32))] [(.int (own_st (-2 : Int32)))])
              refine go_eqI (y := (1 : Int32)) (by decide) ?_
              refine go_iload (q := 228) K at_226 rfl rfl ?_
              refine go_icmp (q := 235) (q' := 231) K at_228 (by decide) rfl rfl (fun hn => cN_no hn (show (1 : Int32) = (1 : Int32) from (by decide))) (fun _ => ?_)
              refine go_iconst (q := 232) K at_231 (1 : Int32) rfl rfl ?_
              refine go_goto (q := 236) K at_232 (by decide) rfl ?_
              refine go_iret K at_236 rfl (Or.inr (Or.inl rfl)) rfl (by decide) (by decide) ?_
              exact rfl
          · have eqa : qv = (av % m) := eqa
            refine go_iload (q := 181) K at_179 rfl rfl ?_
            refine go_if0 (q := 188) (q' := 184) K at_181 (by decide) rfl rfl (fun _ => ?_) (fun hn => cN_no2 hn (show (0 : Int32) = (0 : Int32) from (by decide)))
            refine go_iconst (q := 189) K at_188 (2 : Int32) rfl rfl ?_
            refine go_istore (q := 191) K at_189 #[.val (.int xx), .val (.int yy), .val (.int zz), .val (.int ww), .val (.int ff), .val (.int m), .val (.int av), .val (.int bv), .val (.int qv), .val (.int (0 : Int32)), .val (.int (1 : Int32)), .val (.ref ah1), .val (.int (av % m)), .val (.int (bv % m)), .val (.int (0 : Int32)), .val (.int (0 : Int32)), .val (.int (1 : Int32)), .val (.int (2 : Int32))] rfl rfl ?_
            refine go_goto (q := 219) K at_191 (by decide) rfl ?_
            refine go_aload (q := 221) K at_219 rfl rfl rfl ?_
            refine go_iload (q := 223) K at_221 rfl rfl ?_
            refine go_callV (q := 226) (W := 0) K (wd hw 170 rfl) (wd hw 171 rfl) (wd hw 172 rfl) (wd hw 140 rfl) (wd hw 3 rfl) (wd hw 141 rfl) (wd hw 87 rfl) rfl q0h5 [(.int qv)] [] (state l Z a0 hw _ _ _ _ _ _ _ n0 q15h5 q17h5 hq.1 (by rw [eqa]; exact (own_setN hab.symm (own_setN hab.symm (own_setA (by simpa [own_K0_len] using ha.2.1)))))) at_223 (ps := [.int]) (by decide +kernel) rfl rfl rfl (by decide) rfl (by decide) (by decide) (by decide) (by decide) rfl ?_
            rintro _ _ ⟨rfl, rfl⟩
            show Go pP l eE _ sS mM _ bB tT cC n0 _ h5 2 21 (mkF mM 226 #[.val (.int xx), .val (.int yy), .val (.int zz), .val (.int ww), .val (.int ff), .val (.int m), .val (.int av), .val (.int bv), .val (.int qv), .val (.int (0 : Int32)), .val (.int (1 : Int32)), .val (.ref ah1), .val (.int (av % m)), .val (.int (bv % m)), .val (.int (0 : Int32)), .val (.int (0 : Int32)), .val (.int (1 : Int32)), .val (.int (2 : Int32))] [(.int (own_st av))])
            refine go_eqI (y := (2 : Int32)) (own_st2 hav0) ?_
            refine go_iload (q := 228) K at_226 rfl rfl ?_
            refine go_icmp (q := 235) (q' := 231) K at_228 (by decide) rfl rfl (fun hn => cN_no hn (show (2 : Int32) = (2 : Int32) from (by decide))) (fun _ => ?_)
            refine go_iconst (q := 232) K at_231 (1 : Int32) rfl rfl ?_
            refine go_goto (q := 236) K at_232 (by decide) rfl ?_
            refine go_iret K at_236 rfl (Or.inr (Or.inl rfl)) rfl (by decide) (by decide) ?_
            exact rfl
  · have hc32 : ¬ (ff &&& (1 : Int32)) = (0 : Int32) := hc32
    refine go_iconst (q := 36) K at_35 (1 : Int32) rfl rfl ?_
    refine go_goto (q := 40) K at_36 (by decide) rfl ?_
    refine go_istore (q := 42) K at_40 #[.val (.int xx), .val (.int yy), .val (.int zz), .val (.int ww), .val (.int ff), .val (.int m), .val (.int av), .val (.int bv), .val (.int qv), .val (.int (1 : Int32)), .unset, .unset, .unset, .unset, .unset, .unset, .unset, .unset] rfl rfl ?_
    refine go_iload (q := 44) K at_42 rfl rfl ?_
    refine go_iconst (q := 45) K at_44 (2 : Int32) rfl rfl ?_
    refine go_iand (q := 46) K at_45 rfl ?_
    refine go_if0 (q := 53) (q' := 49) K at_46 (by decide) rfl rfl (fun hc46 => ?_) (fun hc46 => ?_)
    · have hc46 : (ff &&& (2 : Int32)) = (0 : Int32) := hc46
      refine go_iconst (q := 54) K at_53 (0 : Int32) rfl rfl ?_
      refine go_istore (q := 56) K at_54 #[.val (.int xx), .val (.int yy), .val (.int zz), .val (.int ww), .val (.int ff), .val (.int m), .val (.int av), .val (.int bv), .val (.int qv), .val (.int (1 : Int32)), .val (.int (0 : Int32)), .unset, .unset, .unset, .unset, .unset, .unset, .unset] rfl rfl ?_
      refine go_new (q := 59) (sz := 16) K (wd hw 1 rfl) (wd hw 2 rfl) (wd hw 3 rfl) at_56 (by decide) (by decide) rfl ?_
      intro h1 ah1 gah1 Eh1 Xah1 Dah1
      refine go_dup (q := 60) K at_59 rfl rfl ?_
      have f1 := (p0_.ext Eh1)
      refine go_getS (q := 63) K (wd hw 4 rfl) Via.refl (p1_.ext f1.2) at_60 rfl ?_
      refine go_iload (q := 65) K at_63 rfl rfl ?_
      refine go_callI (q := 68) (W := 1) K (wd hw 7 rfl) (wd hw 8 rfl) (wd hw 3 rfl) (wd hw 9 rfl) rfl [(.ref lin), (.int m)] [(.ref ah1)] (ctorL l Z a0 hw _ _ _ _ n0 f1 p1_ p2_ p3_ p4_ p5_ Xah1 (Nat.le_trans (own_ge p0_) (Nat.le_of_eq gah1.symm)) hm2 (Dah1 (Or.inr (wd hw 22 rfl)) (ty := (.object "com/example/dispersa/dispersa/internal/ProbeSequence")) (by decide +kernel)) (Dah1 (Or.inr (wd hw 24 rfl)) (ty := .boolean) (by decide +kernel)) (Dah1 (Or.inr (wd hw 26 rfl)) (ty := .boolean) (by decide +kernel)) (Dah1 (Or.inr (wd hw 28 rfl)) (ty := .boolean) (by decide +kernel)) (Dah1 (Or.inl (wd hw 30 rfl)) (ty := .boolean) (by decide +kernel)) (Dah1 (Or.inl (wd hw 32 rfl)) (ty := .boolean) (by decide +kernel)) (Dah1 (Or.inl (wd hw 54 rfl)) (ty := .int) (by decide +kernel)) (Dah1 (Or.inl (wd hw 63 rfl)) (ty := .int) (by decide +kernel)) (Dah1 (Or.inl (wd hw 66 rfl)) (ty := .boolean) (by decide +kernel)) (Dah1 (Or.inl (wd hw 72 rfl)) (ty := .boolean) (by decide +kernel)) (Dah1 (Or.inl (wd hw 74 rfl)) (ty := .int) (by decide +kernel)) (Dah1 (Or.inl (wd hw 76 rfl)) (ty := .int) (by decide +kernel)) (Dah1 (Or.inl (wd hw 147 rfl)) (ty := .long) (by decide +kernel)) (Dah1 (Or.inl (wd hw 149 rfl)) (ty := .int) (by decide +kernel)) (Dah1 (Or.inr (wd hw 79 rfl)) (ty := (.array .int)) (by decide +kernel)) (Dah1 (Or.inl (wd hw 210 rfl)) (ty := .boolean) (by decide +kernel))) at_65 (ps := [(.object "com/example/dispersa/dispersa/internal/ProbeSequence"), .int]) (by decide +kernel) rfl rfl rfl (by decide) rfl (by decide) (by decide) (by decide) (by decide) rfl ?_
      rintro _ h2 ⟨kah2, klh2, mkh2, rfl, Kh2, gkah2, q0h2, q1h2, q2h2, q3h2, q4h2, q5h2, q6h2, q7h2, q8h2, q9h2, q10h2, q11h2, q12h2, q13h2, q14h2, q15h2, q16h2, q17h2, q18h2⟩
      show Go pP l eE _ sS mM _ bB tT cC n0 _ h2 2 21 (mkF mM 68 #[.val (.int xx), .val (.int yy), .val (.int zz), .val (.int ww), .val (.int ff), .val (.int m), .val (.int av), .val (.int bv), .val (.int qv), .val (.int (1 : Int32)), .val (.int (0 : Int32)), .unset, .unset, .unset, .unset, .unset, .unset, .unset] [(.ref ah1)])
      refine go_astore (q := 70) K at_68 #[.val (.int xx), .val (.int yy), .val (.int zz), .val (.int ww), .val (.int ff), .val (.int m), .val (.int av), .val (.int bv), .val (.int qv), .val (.int (1 : Int32)), .val (.int (0 : Int32)), .val (.ref ah1), .unset, .unset, .unset, .unset, .unset, .unset] rfl rfl rfl ?_
      refine go_aload (q := 72) K at_70 rfl rfl rfl ?_
      refine go_iload (q := 74) K at_72 rfl rfl ?_
      have f2 := (f1.keep Kh2 (allS (Nat.le_trans (own_ge p0_) (Nat.le_of_eq gah1.symm)) all0))
      refine go_callV (q := 77) (W := 0) K (wd hw 84 rfl) (wd hw 85 rfl) (wd hw 87 rfl) (wd hw 86 rfl) (wd hw 3 rfl) (wd hw 88 rfl) (wd hw 87 rfl) rfl q0h2 [(.int av)] [] (putU l Z a0 hw _ _ _ _ _ _ _ _ _ _ _ _ _ n0 f2 p1_ p2_ p3_ p4_ p5_ q0h2 (Nat.le_trans (own_ge p0_) (Nat.le_of_eq gah1.symm)) hm2 q17h2 hav0 q1h2 q2h2 q3h2 q4h2 q5h2 q6h2 q7h2 q8h2 q9h2 q10h2 q11h2 q12h2 q13h2 q14h2 q15h2 q16h2 q18h2 ha.1 (Nat.le_trans (own_ge f1) gkah2) (own_nel (Xah1).lt gkah2) (by simp [own_K0_len]) (own_K0_at ha.2.1) (own_neg hav0).1 ha.2.2.1) at_74 (ps := [.int]) (by decide +kernel) rfl rfl rfl (by decide) rfl (by decide) (by decide) (by decide) (by decide) rfl ?_
      rintro _ h3 ⟨pr2h3, po2h3, re2h3, rfl, Kh3, q0h3, q1h3, q2h3, q3h3, q4h3, q5h3, q6h3, q7h3, q8h3, q9h3, q10h3, q11h3, q12h3, q13h3, q14h3, q15h3, q16h3, q17h3⟩
      show Go pP l eE _ sS mM _ bB tT cC n0 _ h3 2 21 (mkF mM 77 #[.val (.int xx), .val (.int yy), .val (.int zz), .val (.int ww), .val (.int ff), .val (.int m), .val (.int av), .val (.int bv), .val (.int qv), .val (.int (1 : Int32)), .val (.int (0 : Int32)), .val (.ref ah1), .unset, .unset, .unset, .unset, .unset, .unset] [(.int (av % m))])
      refine go_istore (q := 79) K at_77 #[.val (.int xx), .val (.int yy), .val (.int zz), .val (.int ww), .val (.int ff), .val (.int m), .val (.int av), .val (.int bv), .val (.int qv), .val (.int (1 : Int32)), .val (.int (0 : Int32)), .val (.ref ah1), .val (.int (av % m)), .unset, .unset, .unset, .unset, .unset] rfl rfl ?_
      refine go_aload (q := 81) K at_79 rfl rfl rfl ?_
      refine go_iload (q := 83) K at_81 rfl rfl ?_
      by_cases eab : av = bv
      · subst eab
        have f3 := (f2.keep Kh3 (allS (Nat.le_trans (own_ge p0_) (Nat.le_of_eq gah1.symm)) (allS (Nat.le_trans (own_ge f1) gkah2) all0)))
        refine go_callV (q := 86) (W := 0) K (wd hw 84 rfl) (wd hw 85 rfl) (wd hw 87 rfl) (wd hw 86 rfl) (wd hw 3 rfl) (wd hw 88 rfl) (wd hw 87 rfl) rfl q0h3 [(.int av)] [] (putH l Z a0 hw _ _ _ _ _ _ _ _ _ _ _ _ _ n0 f3 p1_ p2_ p3_ p4_ p5_ q0h3 (Nat.le_trans (own_ge p0_) (Nat.le_of_eq gah1.symm)) hm2 q17h2 hav0 q1h3 q2h3 q3h3 q4h3 q5h3 q6h3 q7h3 q8h3 q9h3 q10h3 q11h3 q12h3 q13h3 q14h3 q15h3 q16h3 q17h3 ha.1 (Nat.le_trans (own_ge f1) gkah2) (own_nel (Xah1).lt gkah2) (by simp [own_K0_len]) (own_setA (by simpa [own_K0_len] using ha.2.1))) at_83 (ps := [.int]) (by decide +kernel) rfl rfl rfl (by decide) rfl (by decide) (by decide) (by decide) (by decide) rfl ?_
        rintro _ h4 ⟨pr2h4, po2h4, rfl, Kh4, q0h4, q1h4, q2h4, q3h4, q4h4, q5h4, q6h4, q7h4, q8h4, q9h4, q10h4, q11h4, q12h4, q13h4, q14h4, q15h4, q16h4⟩
        show Go pP l eE _ sS mM _ bB tT cC n0 _ h4 2 21 (mkF mM 86 #[.val (.int xx), .val (.int yy), .val (.int zz), .val (.int ww), .val (.int ff), .val (.int m), .val (.int av), .val (.int av), .val (.int qv), .val (.int (1 : Int32)), .val (.int (0 : Int32)), .val (.ref ah1), .val (.int (av % m)), .unset, .unset, .unset, .unset, .unset] [(.int (av % m))])
        refine go_istore (q := 88) K at_86 #[.val (.int xx), .val (.int yy), .val (.int zz), .val (.int ww), .val (.int ff), .val (.int m), .val (.int av), .val (.int av), .val (.int qv), .val (.int (1 : Int32)), .val (.int (0 : Int32)), .val (.ref ah1), .val (.int (av % m)), .val (.int (av % m)), .unset, .unset, .unset, .unset] rfl rfl ?_
        refine go_iload (q := 90) K at_88 rfl rfl ?_
        refine go_if0 (q := 101) (q' := 93) K at_90 (by decide) rfl rfl (fun hn => cN_no hn (show ¬ (1 : Int32) = (0 : Int32) from (by decide))) (fun _ => ?_)
        refine go_aload (q := 95) K at_93 rfl rfl rfl ?_
        refine go_iload (q := 97) K at_95 rfl rfl ?_
        have f4 := (f3.keep Kh4 (allS (Nat.le_trans (own_ge p0_) (Nat.le_of_eq gah1.symm)) all0))
        have f5 := (q17h3.keep Kh4 (ninS ((own_nel (Xah1).lt gkah2)).symm nin0))
        refine go_callV (q := 100) (W := 0) K (wd hw 173 rfl) (wd hw 174 rfl) (wd hw 176 rfl) (wd hw 175 rfl) (wd hw 3 rfl) (wd hw 177 rfl) (wd hw 87 rfl) rfl q0h4 [(.int av)] [] (rmH l Z a0 hw _ _ _ _ _ _ _ _ _ _ _ _ _ n0 f4 p1_ p2_ p3_ p4_ p5_ q0h4 (Nat.le_trans (own_ge p0_) (Nat.le_of_eq gah1.symm)) hm2 q17h2 hav0 q1h4 q2h4 q3h4 q4h4 q5h4 q6h4 q7h4 q8h4 q9h4 q10h4 q11h4 q12h4 q13h4 q14h4 q15h4 q16h4 f5 ha.1 (Nat.le_trans (own_ge f1) gkah2) (own_nel (Xah1).lt gkah2) (by simp [own_K0_len]) p6_ (own_setA (by simpa [own_K0_len] using ha.2.1))) at_97 (ps := [.int]) (by decide +kernel) rfl rfl rfl (by decide) rfl (by decide) (by decide) (by decide) (by decide) rfl ?_
        rintro _ h5 ⟨pr2h5, mu2h5, rfl, Kh5, q0h5, q1h5, q2h5, q3h5, q4h5, q5h5, q6h5, q7h5, q8h5, q9h5, q10h5, q11h5, q12h5, q13h5, q14h5, q15h5, q16h5, q17h5⟩
        show Go pP l eE _ sS mM _ bB tT cC n0 _ h5 2 21 (mkF mM 100 #[.val (.int xx), .val (.int yy), .val (.int zz), .val (.int ww), .val (.int ff), .val (.int m), .val (.int av), .val (.int av), .val (.int qv), .val (.int (1 : Int32)), .val (.int (0 : Int32)), .val (.ref ah1), .val (.int (av % m)), .val (.int (av % m)), .unset, .unset, .unset, .unset] [(.int (av % m))])
        refine go_pop (q := 101) K at_100 rfl rfl ?_
        refine go_iload (q := 103) K at_101 rfl rfl ?_
        refine go_if0 (q := 114) (q' := 106) K at_103 (by decide) rfl rfl (fun _ => ?_) (fun hn => cN_no2 hn (show (0 : Int32) = (0 : Int32) from (by decide)))
        refine go_iload (q := 116) K at_114 rfl rfl ?_
        refine go_iload (q := 118) K at_116 rfl rfl ?_
        refine go_icmp (q := 125) (q' := 121) K at_118 (by decide) rfl rfl (fun hn => cN_no hn (show av = av from rfl)) (fun _ => ?_)
        refine go_iconst (q := 122) K at_121 (1 : Int32) rfl rfl ?_
        refine go_goto (q := 126) K at_122 (by decide) rfl ?_
        refine go_istore (q := 128) K at_126 #[.val (.int xx), .val (.int yy), .val (.int zz), .val (.int ww), .val (.int ff), .val (.int m), .val (.int av), .val (.int av), .val (.int qv), .val (.int (1 : Int32)), .val (.int (0 : Int32)), .val (.ref ah1), .val (.int (av % m)), .val (.int (av % m)), .val (.int (1 : Int32)), .unset, .unset, .unset] rfl rfl ?_
        refine go_iload (q := 130) K at_128 rfl rfl ?_
        refine go_if0 (q := 143) (q' := 133) K at_130 (by decide) rfl rfl (fun _ => ?_) (fun hn => cN_no2 hn (show ¬ (1 : Int32) = (0 : Int32) from (by decide)))
        refine go_iconst (q := 144) K at_143 (1 : Int32) rfl rfl ?_
        refine go_goto (q := 148) K at_144 (by decide) rfl ?_
        refine go_istore (q := 150) K at_148 #[.val (.int xx), .val (.int yy), .val (.int zz), .val (.int ww), .val (.int ff), .val (.int m), .val (.int av), .val (.int av), .val (.int qv), .val (.int (1 : Int32)), .val (.int (0 : Int32)), .val (.ref ah1), .val (.int (av % m)), .val (.int (av % m)), .val (.int (1 : Int32)), .val (.int (1 : Int32)), .unset, .unset] rfl rfl ?_
        refine go_iload (q := 152) K at_150 rfl rfl ?_
        refine go_if0 (q := 165) (q' := 155) K at_152 (by decide) rfl rfl (fun hn => cN_no hn (show (0 : Int32) = (0 : Int32) from (by decide))) (fun _ => ?_)
        refine go_iload (q := 157) K at_155 rfl rfl ?_
        refine go_if0 (q := 169) (q' := 160) K at_157 (by decide) rfl rfl (fun hn => cN_no hn (show ¬ (1 : Int32) = (0 : Int32) from (by decide))) (fun _ => ?_)
        refine go_iload (q := 162) K at_160 rfl rfl ?_
        refine go_if0 (q := 169) (q' := 165) K at_162 (by decide) rfl rfl (fun hn => cN_no hn (show ¬ (1 : Int32) = (0 : Int32) from (by decide))) (fun _ => ?_)
        refine go_iconst (q := 166) K at_165 (1 : Int32) rfl rfl ?_
        refine go_goto (q := 170) K at_166 (by decide) rfl ?_
        refine go_istore (q := 172) K at_170 #[.val (.int xx), .val (.int yy), .val (.int zz), .val (.int ww), .val (.int ff), .val (.int m), .val (.int av), .val (.int av), .val (.int qv), .val (.int (1 : Int32)), .val (.int (0 : Int32)), .val (.ref ah1), .val (.int (av % m)), .val (.int (av % m)), .val (.int (1 : Int32)), .val (.int (1 : Int32)), .val (.int (1 : Int32)), .unset] rfl rfl ?_
        refine go_iload (q := 174) K at_172 rfl rfl ?_
        refine go_iload (q := 176) K at_174 rfl rfl ?_
        refine go_icmp (q := 194) (q' := 179) K at_176 (by decide) rfl rfl (fun eqa => ?_) (fun eqa => ?_)
        · have eqa : ¬ qv = (av % m) := eqa
          refine go_iload (q := 196) K at_194 rfl rfl ?_
          refine go_iload (q := 198) K at_196 rfl rfl ?_
          refine go_icmp (q := 216) (q' := 201) K at_198 (by decide) rfl rfl (fun _ => ?_) (fun hn => cN_no2 hn (show ¬ qv = (av % m) from eqa))
          refine go_iconst (q := 217) K at_216 (0 : Int32) rfl rfl ?_
          refine go_istore (q := 219) K at_217 #[.val (.int xx), .val (.int yy), .val (.int zz), .val (.int ww), .val (.int ff), .val (.int m), .val (.int av), .val (.int av), .val (.int qv), .val (.int (1 : Int32)), .val (.int (0 : Int32)), .val (.ref ah1), .val (.int (av % m)), .val (.int (av % m)), .val (.int (1 : Int32)), .val (.int (1 : Int32)), .val (.int (1 : Int32)), .val (.int (0 : Int32))] rfl rfl ?_
          refine go_aload (q := 221) K at_219 rfl rfl rfl ?_
          refine go_iload (q := 223) K at_221 rfl rfl ?_
          refine go_callV (q := 226) (W := 0) K (wd hw 170 rfl) (wd hw 171 rfl) (wd hw 172 rfl) (wd hw 140 rfl) (wd hw 3 rfl) (wd hw 141 rfl) (wd hw 87 rfl) rfl q0h5 [(.int qv)] [] (state l Z a0 hw _ _ _ _ _ _ _ n0 q15h5 q17h5 hq.1 (own_setN (own_natne ha.1 hq.1 (fun z => eqa z.symm)) (own_setN (own_natne ha.1 hq.1 (fun z => eqa z.symm)) (own_K0_at hq.2.1)))) at_223 (ps := [.int]) (by decide +kernel) rfl rfl rfl (by decide) rfl (by decide) (by decide) (by decide) (by decide) rfl ?_
          rintro _ _ ⟨rfl, rfl⟩
          show Go pP l eE _ sS mM _ bB tT cC n0 _ h5 2 21 (mkF mM 226 #[.val (.int xx), .val (.int yy), .val (.int zz), .val (.int ww), .val (.int ff), .val (.int m), .val (.int av), .val (.int av), .val (.int qv), .val (.int (1 : Int32)), .val (.int (0 : Int32)), .val (.ref ah1), .val (.int (av % m)), .val (.int (av % m)), .val (.int (1 : Int32)), .val (.int (1 : Int32)), .val (.int (1 : Int32)), .val (.int (0 : Int32))] [(.int (own_st (-1 : Int32)))])
          refine go_eqI (y := (0 : Int32)) (by decide) ?_
          refine go_iload (q := 228) K at_226 rfl rfl ?_
          refine go_icmp (q := 235) (q' := 231) K at_228 (by decide) rfl rfl (fun hn => cN_no hn (show (0 : Int32) = (0 : Int32) from (by decide))) (fun _ => ?_)
          refine go_iconst (q := 232) K at_231 (1 : Int32) rfl rfl ?_
          refine go_goto (q := 236) K at_232 (by decide) rfl ?_
          refine go_iret K at_236 rfl (Or.inr (Or.inl rfl)) rfl (by decide) (by decide) ?_
          exact rfl
        · have eqa : qv = (av % m) := eqa
          refine go_iload (q := 181) K at_179 rfl rfl ?_
          refine go_if0 (q := 188) (q' := 184) K at_181 (by decide) rfl rfl (fun hn => cN_no hn (show ¬ (1 : Int32) = (0 : Int32) from (by decide))) (fun _ => ?_)
          refine go_iconst (q := 185) K at_184 (1 : Int32) rfl rfl ?_
          refine go_goto (q := 189) K at_185 (by decide) rfl ?_
          refine go_istore (q := 191) K at_189 #[.val (.int xx), .val (.int yy), .val (.int zz), .val (.int ww), .val (.int ff), .val (.int m), .val (.int av), .val (.int av), .val (.int qv), .val (.int (1 : Int32)), .val (.int (0 : Int32)), .val (.ref ah1), .val (.int (av % m)), .val (.int (av % m)), .val (.int (1 : Int32)), .val (.int (1 : Int32)), .val (.int (1 : Int32)), .val (.int (1 : Int32))] rfl rfl ?_
          refine go_goto (q := 219) K at_191 (by decide) rfl ?_
          refine go_aload (q := 221) K at_219 rfl rfl rfl ?_
          refine go_iload (q := 223) K at_221 rfl rfl ?_
          refine go_callV (q := 226) (W := 0) K (wd hw 170 rfl) (wd hw 171 rfl) (wd hw 172 rfl) (wd hw 140 rfl) (wd hw 3 rfl) (wd hw 141 rfl) (wd hw 87 rfl) rfl q0h5 [(.int qv)] [] (state l Z a0 hw _ _ _ _ _ _ _ n0 q15h5 q17h5 hq.1 (by rw [eqa]; exact (own_setA (by simpa [own_K0_len] using ha.2.1)))) at_223 (ps := [.int]) (by decide +kernel) rfl rfl rfl (by decide) rfl (by decide) (by decide) (by decide) (by decide) rfl ?_
          rintro _ _ ⟨rfl, rfl⟩
          show Go pP l eE _ sS mM _ bB tT cC n0 _ h5 2 21 (mkF mM 226 #[.val (.int xx), .val (.int yy), .val (.int zz), .val (.int ww), .val (.int ff), .val (.int m), .val (.int av), .val (.int av), .val (.int qv), .val (.int (1 : Int32)), .val (.int (0 : Int32)), .val (.ref ah1), .val (.int (av % m)), .val (.int (av % m)), .val (.int (1 : Int32)), .val (.int (1 : Int32)), .val (.int (1 : Int32)), .val (.int (1 : Int32))] [(.int (own_st (-2 : Int32)))])
          refine go_eqI (y := (1 : Int32)) (by decide) ?_
          refine go_iload (q := 228) K at_226 rfl rfl ?_
          refine go_icmp (q := 235) (q' := 231) K at_228 (by decide) rfl rfl (fun hn => cN_no hn (show (1 : Int32) = (1 : Int32) from (by decide))) (fun _ => ?_)
          refine go_iconst (q := 232) K at_231 (1 : Int32) rfl rfl ?_
          refine go_goto (q := 236) K at_232 (by decide) rfl ?_
          refine go_iret K at_236 rfl (Or.inr (Or.inl rfl)) rfl (by decide) (by decide) ?_
          exact rfl
      · by_cases ehh : (av % m) = (bv % m)
        · have hx_ := own_next hb_.1 hb_.2.2.2 hm2
          have f3 := (f2.keep Kh3 (allS (Nat.le_trans (own_ge p0_) (Nat.le_of_eq gah1.symm)) (allS (Nat.le_trans (own_ge f1) gkah2) all0)))
          refine go_callV (q := 86) (W := 0) K (wd hw 84 rfl) (wd hw 85 rfl) (wd hw 87 rfl) (wd hw 86 rfl) (wd hw 3 rfl) (wd hw 88 rfl) (wd hw 87 rfl) rfl q0h3 [(.int bv)] [] (putX l Z a0 hw _ _ _ _ _ _ _ _ _ _ _ _ _ _ n0 f3 p1_ p2_ p3_ p4_ p5_ q0h3 (Nat.le_trans (own_ge p0_) (Nat.le_of_eq gah1.symm)) hm2 q17h2 hbv0 q1h3 q2h3 q3h3 q4h3 q5h3 q6h3 q7h3 q8h3 q9h3 q10h3 q11h3 q12h3 q13h3 q14h3 q15h3 q16h3 q17h3 hb_.1 (Nat.le_trans (own_ge f1) gkah2) (own_nel (Xah1).lt gkah2) (by simp [own_K0_len]) (by rw [← ehh]; exact (own_setA (by simpa [own_K0_len] using ha.2.1))) hav0 eab hx_.1 (own_setN (by rw [ehh]; exact own_natne hb_.1 hx_.1 hx_.2.2.2) (own_K0_at hx_.2.1)) (own_neg hbv0).1 hx_.2.2.1) at_83 (ps := [.int]) (by decide +kernel) rfl rfl rfl (by decide) rfl (by decide) (by decide) (by decide) (by decide) rfl ?_
          rintro _ h4 ⟨pr2h4, po2h4, re2h4, rfl, Kh4, q0h4, q1h4, q2h4, q3h4, q4h4, q5h4, q6h4, q7h4, q8h4, q9h4, q10h4, q11h4, q12h4, q13h4, q14h4, q15h4, q16h4, q17h4⟩
          show Go pP l eE _ sS mM _ bB tT cC n0 _ h4 2 21 (mkF mM 86 #[.val (.int xx), .val (.int yy), .val (.int zz), .val (.int ww), .val (.int ff), .val (.int m), .val (.int av), .val (.int bv), .val (.int qv), .val (.int (1 : Int32)), .val (.int (0 : Int32)), .val (.ref ah1), .val (.int (av % m)), .unset, .unset, .unset, .unset, .unset] [(.int (own_adv (bv % m) (1 : Int32) m))])
          refine go_istore (q := 88) K at_86 #[.val (.int xx), .val (.int yy), .val (.int zz), .val (.int ww), .val (.int ff), .val (.int m), .val (.int av), .val (.int bv), .val (.int qv), .val (.int (1 : Int32)), .val (.int (0 : Int32)), .val (.ref ah1), .val (.int (av % m)), .val (.int (own_adv (bv % m) (1 : Int32) m)), .unset, .unset, .unset, .unset] rfl rfl ?_
          refine go_iload (q := 90) K at_88 rfl rfl ?_
          refine go_if0 (q := 101) (q' := 93) K at_90 (by decide) rfl rfl (fun hn => cN_no hn (show ¬ (1 : Int32) = (0 : Int32) from (by decide))) (fun _ => ?_)
          refine go_aload (q := 95) K at_93 rfl rfl rfl ?_
          refine go_iload (q := 97) K at_95 rfl rfl ?_
          have f4 := (f3.keep Kh4 (allS (Nat.le_trans (own_ge p0_) (Nat.le_of_eq gah1.symm)) (allS (Nat.le_trans (own_ge f1) gkah2) all0)))
          refine go_callV (q := 100) (W := 0) K (wd hw 173 rfl) (wd hw 174 rfl) (wd hw 176 rfl) (wd hw 175 rfl) (wd hw 3 rfl) (wd hw 177 rfl) (wd hw 87 rfl) rfl q0h4 [(.int av)] [] (rmH l Z a0 hw _ _ _ _ _ _ _ _ _ _ _ _ _ n0 f4 p1_ p2_ p3_ p4_ p5_ q0h4 (Nat.le_trans (own_ge p0_) (Nat.le_of_eq gah1.symm)) hm2 q17h2 hav0 q1h4 q2h4 q3h4 q4h4 q5h4 q6h4 q7h4 q8h4 q9h4 q10h4 q11h4 q12h4 q13h4 q14h4 q15h4 q16h4 q17h4 ha.1 (Nat.le_trans (own_ge f1) gkah2) (own_nel (Xah1).lt gkah2) (by simp [own_K0_len]) p6_ (own_setN (by rw [ehh]; exact (own_natne hb_.1 hx_.1 hx_.2.2.2).symm) (own_setA (by simpa [own_K0_len] using ha.2.1)))) at_97 (ps := [.int]) (by decide +kernel) rfl rfl rfl (by decide) rfl (by decide) (by decide) (by decide) (by decide) rfl ?_
          rintro _ h5 ⟨pr2h5, mu2h5, rfl, Kh5, q0h5, q1h5, q2h5, q3h5, q4h5, q5h5, q6h5, q7h5, q8h5, q9h5, q10h5, q11h5, q12h5, q13h5, q14h5, q15h5, q16h5, q17h5⟩
          show Go pP l eE _ sS mM _ bB tT cC n0 _ h5 2 21 (mkF mM 100 #[.val (.int xx), .val (.int yy), .val (.int zz), .val (.int ww), .val (.int ff), .val (.int m), .val (.int av), .val (.int bv), .val (.int qv), .val (.int (1 : Int32)), .val (.int (0 : Int32)), .val (.ref ah1), .val (.int (av % m)), .val (.int (own_adv (bv % m) (1 : Int32) m)), .unset, .unset, .unset, .unset] [(.int (av % m))])
          refine go_pop (q := 101) K at_100 rfl rfl ?_
          refine go_iload (q := 103) K at_101 rfl rfl ?_
          refine go_if0 (q := 114) (q' := 106) K at_103 (by decide) rfl rfl (fun _ => ?_) (fun hn => cN_no2 hn (show (0 : Int32) = (0 : Int32) from (by decide)))
          refine go_iload (q := 116) K at_114 rfl rfl ?_
          refine go_iload (q := 118) K at_116 rfl rfl ?_
          refine go_icmp (q := 125) (q' := 121) K at_118 (by decide) rfl rfl (fun _ => ?_) (fun hn => cN_no2 hn (show ¬ av = bv from eab))
          refine go_iconst (q := 126) K at_125 (0 : Int32) rfl rfl ?_
          refine go_istore (q := 128) K at_126 #[.val (.int xx), .val (.int yy), .val (.int zz), .val (.int ww), .val (.int ff), .val (.int m), .val (.int av), .val (.int bv), .val (.int qv), .val (.int (1 : Int32)), .val (.int (0 : Int32)), .val (.ref ah1), .val (.int (av % m)), .val (.int (own_adv (bv % m) (1 : Int32) m)), .val (.int (0 : Int32)), .unset, .unset, .unset] rfl rfl ?_
          refine go_iload (q := 130) K at_128 rfl rfl ?_
          refine go_if0 (q := 143) (q' := 133) K at_130 (by decide) rfl rfl (fun _ => ?_) (fun hn => cN_no2 hn (show ¬ (1 : Int32) = (0 : Int32) from (by decide)))
          refine go_iconst (q := 144) K at_143 (1 : Int32) rfl rfl ?_
          refine go_goto (q := 148) K at_144 (by decide) rfl ?_
          refine go_istore (q := 150) K at_148 #[.val (.int xx), .val (.int yy), .val (.int zz), .val (.int ww), .val (.int ff), .val (.int m), .val (.int av), .val (.int bv), .val (.int qv), .val (.int (1 : Int32)), .val (.int (0 : Int32)), .val (.ref ah1), .val (.int (av % m)), .val (.int (own_adv (bv % m) (1 : Int32) m)), .val (.int (0 : Int32)), .val (.int (1 : Int32)), .unset, .unset] rfl rfl ?_
          refine go_iload (q := 152) K at_150 rfl rfl ?_
          refine go_if0 (q := 165) (q' := 155) K at_152 (by decide) rfl rfl (fun hn => cN_no hn (show (0 : Int32) = (0 : Int32) from (by decide))) (fun _ => ?_)
          refine go_iload (q := 157) K at_155 rfl rfl ?_
          refine go_if0 (q := 169) (q' := 160) K at_157 (by decide) rfl rfl (fun _ => ?_) (fun hn => cN_no2 hn (show (0 : Int32) = (0 : Int32) from (by decide)))
          refine go_iconst (q := 170) K at_169 (0 : Int32) rfl rfl ?_
          refine go_istore (q := 172) K at_170 #[.val (.int xx), .val (.int yy), .val (.int zz), .val (.int ww), .val (.int ff), .val (.int m), .val (.int av), .val (.int bv), .val (.int qv), .val (.int (1 : Int32)), .val (.int (0 : Int32)), .val (.ref ah1), .val (.int (av % m)), .val (.int (own_adv (bv % m) (1 : Int32) m)), .val (.int (0 : Int32)), .val (.int (1 : Int32)), .val (.int (0 : Int32)), .unset] rfl rfl ?_
          refine go_iload (q := 174) K at_172 rfl rfl ?_
          refine go_iload (q := 176) K at_174 rfl rfl ?_
          refine go_icmp (q := 194) (q' := 179) K at_176 (by decide) rfl rfl (fun eqa => ?_) (fun eqa => ?_)
          · have eqa : ¬ qv = (av % m) := eqa
            refine go_iload (q := 196) K at_194 rfl rfl ?_
            refine go_iload (q := 198) K at_196 rfl rfl ?_
            refine go_icmp (q := 216) (q' := 201) K at_198 (by decide) rfl rfl (fun eqb => ?_) (fun eqb => ?_)
            · have eqb : ¬ qv = (own_adv (bv % m) (1 : Int32) m) := eqb
              refine go_iconst (q := 217) K at_216 (0 : Int32) rfl rfl ?_
              refine go_istore (q := 219) K at_217 #[.val (.int xx), .val (.int yy), .val (.int zz), .val (.int ww), .val (.int ff), .val (.int m), .val (.int av), .val (.int bv), .val (.int qv), .val (.int (1 : Int32)), .val (.int (0 : Int32)), .val (.ref ah1), .val (.int (av % m)), .val (.int (own_adv (bv % m) (1 : Int32) m)), .val (.int (0 : Int32)), .val (.int (1 : Int32)), .val (.int (0 : Int32)), .val (.int (0 : Int32))] rfl rfl ?_
              refine go_aload (q := 221) K at_219 rfl rfl rfl ?_
              refine go_iload (q := 223) K at_221 rfl rfl ?_
              refine go_callV (q := 226) (W := 0) K (wd hw 170 rfl) (wd hw 171 rfl) (wd hw 172 rfl) (wd hw 140 rfl) (wd hw 3 rfl) (wd hw 141 rfl) (wd hw 87 rfl) rfl q0h5 [(.int qv)] [] (state l Z a0 hw _ _ _ _ _ _ _ n0 q15h5 q17h5 hq.1 (own_setN (own_natne ha.1 hq.1 (fun z => eqa z.symm)) (own_setN (own_natne hx_.1 hq.1 (fun z => eqb z.symm)) (own_setN (own_natne ha.1 hq.1 (fun z => eqa z.symm)) (own_K0_at hq.2.1))))) at_223 (ps := [.int]) (by decide +kernel) rfl rfl rfl (by decide) rfl (by decide) (by decide) (by decide) (by decide) rfl ?_
              rintro _ _ ⟨rfl, rfl⟩
              show Go pP l eE _ sS mM _ bB tT cC n0 _ h5 2 21 (mkF mM 226 #[.val (.int xx), .val (.int yy), .val (.int zz), .val (.int ww), .val (.int ff), .val (.int m), .val (.int av), .val (.int bv), .val (.int qv), .val (.int (1 : Int32)), .val (.int (0 : Int32)), .val (.ref ah1), .val (.int (av % m)), .val (.int (own_adv (bv % m) (1 : Int32) m)), .val (.int (0 : Int32)), .val (.int (1 : Int32)), .val (.int (0 : Int32)), .val (.int (0 : Int32))] [(.int (own_st (-1 : Int32)))])
              refine go_eqI (y := (0 : Int32)) (by decide) ?_
              refine go_iload (q := 228) K at_226 rfl rfl ?_
              refine go_icmp (q := 235) (q' := 231) K at_228 (by decide) rfl rfl (fun hn => cN_no hn (show (0 : Int32) = (0 : Int32) from (by decide))) (fun _ => ?_)
              refine go_iconst (q := 232) K at_231 (1 : Int32) rfl rfl ?_
              refine go_goto (q := 236) K at_232 (by decide) rfl ?_
              refine go_iret K at_236 rfl (Or.inr (Or.inl rfl)) rfl (by decide) (by decide) ?_
              exact rfl
            · have eqb : qv = (own_adv (bv % m) (1 : Int32) m) := eqb
              refine go_iload (q := 203) K at_201 rfl rfl ?_
              refine go_if0 (q := 210) (q' := 206) K at_203 (by decide) rfl rfl (fun _ => ?_) (fun hn => cN_no2 hn (show (0 : Int32) = (0 : Int32) from (by decide)))
              refine go_iconst (q := 211) K at_210 (2 : Int32) rfl rfl ?_
              refine go_istore (q := 213) K at_211 #[.val (.int xx), .val (.int yy), .val (.int zz), .val (.int ww), .val (.int ff), .val (.int m), .val (.int av), .val (.int bv), .val (.int qv), .val (.int (1 : Int32)), .val (.int (0 : Int32)), .val (.ref ah1), .val (.int (av % m)), .val (.int (own_adv (bv % m) (1 : Int32) m)), .val (.int (0 : Int32)), .val (.int (1 : Int32)), .val (.int (0 : Int32)), .val (.int (2 : Int32))] rfl rfl ?_
              refine go_goto (q := 219) K at_213 (by decide) rfl ?_
              refine go_aload (q := 221) K at_219 rfl rfl rfl ?_
              refine go_iload (q := 223) K at_221 rfl rfl ?_
              refine go_callV (q := 226) (W := 0) K (wd hw 170 rfl) (wd hw 171 rfl) (wd hw 172 rfl) (wd hw 140 rfl) (wd hw 3 rfl) (wd hw 141 rfl) (wd hw 87 rfl) rfl q0h5 [(.int qv)] [] (state l Z a0 hw _ _ _ _ _ _ _ n0 q15h5 q17h5 hq.1 (by rw [eqb]; exact (own_setN (by rw [ehh]; exact own_natne hb_.1 hx_.1 hx_.2.2.2) (own_setA (by simpa [own_K0_len] using hx_.2.1))))) at_223 (ps := [.int]) (by decide +kernel) rfl rfl rfl (by decide) rfl (by decide) (by decide) (by decide) (by decide) rfl ?_
              rintro _ _ ⟨rfl, rfl⟩
              show Go pP l eE _ sS mM _ bB tT cC n0 _ h5 2 21 (mkF mM 226 #[.val (.int xx), .val (.int yy), .val (.int zz), .val (.int ww), .val (.int ff), .val (.int m), .val (.int av), .val (.int bv), .val (.int qv), .val (.int (1 : Int32)), .val (.int (0 : Int32)), .val (.ref ah1), .val (.int (av % m)), .val (.int (own_adv (bv % m) (1 : Int32) m)), .val (.int (0 : Int32)), .val (.int (1 : Int32)), .val (.int (0 : Int32)), .val (.int (2 : Int32))] [(.int (own_st bv))])
              refine go_eqI (y := (2 : Int32)) (own_st2 hbv0) ?_
              refine go_iload (q := 228) K at_226 rfl rfl ?_
              refine go_icmp (q := 235) (q' := 231) K at_228 (by decide) rfl rfl (fun hn => cN_no hn (show (2 : Int32) = (2 : Int32) from (by decide))) (fun _ => ?_)
              refine go_iconst (q := 232) K at_231 (1 : Int32) rfl rfl ?_
              refine go_goto (q := 236) K at_232 (by decide) rfl ?_
              refine go_iret K at_236 rfl (Or.inr (Or.inl rfl)) rfl (by decide) (by decide) ?_
              exact rfl
          · have eqa : qv = (av % m) := eqa
            refine go_iload (q := 181) K at_179 rfl rfl ?_
            refine go_if0 (q := 188) (q' := 184) K at_181 (by decide) rfl rfl (fun hn => cN_no hn (show ¬ (1 : Int32) = (0 : Int32) from (by decide))) (fun _ => ?_)
            refine go_iconst (q := 185) K at_184 (1 : Int32) rfl rfl ?_
            refine go_goto (q := 189) K at_185 (by decide) rfl ?_
            refine go_istore (q := 191) K at_189 #[.val (.int xx), .val (.int yy), .val (.int zz), .val (.int ww), .val (.int ff), .val (.int m), .val (.int av), .val (.int bv), .val (.int qv), .val (.int (1 : Int32)), .val (.int (0 : Int32)), .val (.ref ah1), .val (.int (av % m)), .val (.int (own_adv (bv % m) (1 : Int32) m)), .val (.int (0 : Int32)), .val (.int (1 : Int32)), .val (.int (0 : Int32)), .val (.int (1 : Int32))] rfl rfl ?_
            refine go_goto (q := 219) K at_191 (by decide) rfl ?_
            refine go_aload (q := 221) K at_219 rfl rfl rfl ?_
            refine go_iload (q := 223) K at_221 rfl rfl ?_
            refine go_callV (q := 226) (W := 0) K (wd hw 170 rfl) (wd hw 171 rfl) (wd hw 172 rfl) (wd hw 140 rfl) (wd hw 3 rfl) (wd hw 141 rfl) (wd hw 87 rfl) rfl q0h5 [(.int qv)] [] (state l Z a0 hw _ _ _ _ _ _ _ n0 q15h5 q17h5 hq.1 (by rw [eqa]; exact (own_setA (by simpa [own_K0_len] using ha.2.1)))) at_223 (ps := [.int]) (by decide +kernel) rfl rfl rfl (by decide) rfl (by decide) (by decide) (by decide) (by decide) rfl ?_
            rintro _ _ ⟨rfl, rfl⟩
            show Go pP l eE _ sS mM _ bB tT cC n0 _ h5 2 21 (mkF mM 226 #[.val (.int xx), .val (.int yy), .val (.int zz), .val (.int ww), .val (.int ff), .val (.int m), .val (.int av), .val (.int bv), .val (.int qv), .val (.int (1 : Int32)), .val (.int (0 : Int32)), .val (.ref ah1), .val (.int (av % m)), .val (.int (own_adv (bv % m) (1 : Int32) m)), .val (.int (0 : Int32)), .val (.int (1 : Int32)), .val (.int (0 : Int32)), .val (.int (1 : Int32))] [(.int (own_st (-2 : Int32)))])
            refine go_eqI (y := (1 : Int32)) (by decide) ?_
            refine go_iload (q := 228) K at_226 rfl rfl ?_
            refine go_icmp (q := 235) (q' := 231) K at_228 (by decide) rfl rfl (fun hn => cN_no hn (show (1 : Int32) = (1 : Int32) from (by decide))) (fun _ => ?_)
            refine go_iconst (q := 232) K at_231 (1 : Int32) rfl rfl ?_
            refine go_goto (q := 236) K at_232 (by decide) rfl ?_
            refine go_iret K at_236 rfl (Or.inr (Or.inl rfl)) rfl (by decide) (by decide) ?_
            exact rfl
        · have hab := own_natne ha.1 hb_.1 ehh
          have f3 := (f2.keep Kh3 (allS (Nat.le_trans (own_ge p0_) (Nat.le_of_eq gah1.symm)) (allS (Nat.le_trans (own_ge f1) gkah2) all0)))
          refine go_callV (q := 86) (W := 0) K (wd hw 84 rfl) (wd hw 85 rfl) (wd hw 87 rfl) (wd hw 86 rfl) (wd hw 3 rfl) (wd hw 88 rfl) (wd hw 87 rfl) rfl q0h3 [(.int bv)] [] (putU l Z a0 hw _ _ _ _ _ _ _ _ _ _ _ _ _ n0 f3 p1_ p2_ p3_ p4_ p5_ q0h3 (Nat.le_trans (own_ge p0_) (Nat.le_of_eq gah1.symm)) hm2 q17h2 hbv0 q1h3 q2h3 q3h3 q4h3 q5h3 q6h3 q7h3 q8h3 q9h3 q10h3 q11h3 q12h3 q13h3 q14h3 q15h3 q16h3 q17h3 hb_.1 (Nat.le_trans (own_ge f1) gkah2) (own_nel (Xah1).lt gkah2) (by simp [own_K0_len]) (own_setN hab (own_K0_at hb_.2.1)) (own_neg hbv0).1 hb_.2.2.1) at_83 (ps := [.int]) (by decide +kernel) rfl rfl rfl (by decide) rfl (by decide) (by decide) (by decide) (by decide) rfl ?_
          rintro _ h4 ⟨pr2h4, po2h4, re2h4, rfl, Kh4, q0h4, q1h4, q2h4, q3h4, q4h4, q5h4, q6h4, q7h4, q8h4, q9h4, q10h4, q11h4, q12h4, q13h4, q14h4, q15h4, q16h4, q17h4⟩
          show Go pP l eE _ sS mM _ bB tT cC n0 _ h4 2 21 (mkF mM 86 #[.val (.int xx), .val (.int yy), .val (.int zz), .val (.int ww), .val (.int ff), .val (.int m), .val (.int av), .val (.int bv), .val (.int qv), .val (.int (1 : Int32)), .val (.int (0 : Int32)), .val (.ref ah1), .val (.int (av % m)), .unset, .unset, .unset, .unset, .unset] [(.int (bv % m))])
          refine go_istore (q := 88) K at_86 #[.val (.int xx), .val (.int yy), .val (.int zz), .val (.int ww), .val (.int ff), .val (.int m), .val (.int av), .val (.int bv), .val (.int qv), .val (.int (1 : Int32)), .val (.int (0 : Int32)), .val (.ref ah1), .val (.int (av % m)), .val (.int (bv % m)), .unset, .unset, .unset, .unset] rfl rfl ?_
          refine go_iload (q := 90) K at_88 rfl rfl ?_
          refine go_if0 (q := 101) (q' := 93) K at_90 (by decide) rfl rfl (fun hn => cN_no hn (show ¬ (1 : Int32) = (0 : Int32) from (by decide))) (fun _ => ?_)
          refine go_aload (q := 95) K at_93 rfl rfl rfl ?_
          refine go_iload (q := 97) K at_95 rfl rfl ?_
          have f4 := (f3.keep Kh4 (allS (Nat.le_trans (own_ge p0_) (Nat.le_of_eq gah1.symm)) (allS (Nat.le_trans (own_ge f1) gkah2) all0)))
          refine go_callV (q := 100) (W := 0) K (wd hw 173 rfl) (wd hw 174 rfl) (wd hw 176 rfl) (wd hw 175 rfl) (wd hw 3 rfl) (wd hw 177 rfl) (wd hw 87 rfl) rfl q0h4 [(.int av)] [] (rmH l Z a0 hw _ _ _ _ _ _ _ _ _ _ _ _ _ n0 f4 p1_ p2_ p3_ p4_ p5_ q0h4 (Nat.le_trans (own_ge p0_) (Nat.le_of_eq gah1.symm)) hm2 q17h2 hav0 q1h4 q2h4 q3h4 q4h4 q5h4 q6h4 q7h4 q8h4 q9h4 q10h4 q11h4 q12h4 q13h4 q14h4 q15h4 q16h4 q17h4 ha.1 (Nat.le_trans (own_ge f1) gkah2) (own_nel (Xah1).lt gkah2) (by simp [own_K0_len]) p6_ (own_setN hab.symm (own_setA (by simpa [own_K0_len] using ha.2.1)))) at_97 (ps := [.int]) (by decide +kernel) rfl rfl rfl (by decide) rfl (by decide) (by decide) (by decide) (by decide) rfl ?_
          rintro _ h5 ⟨pr2h5, mu2h5, rfl, Kh5, q0h5, q1h5, q2h5, q3h5, q4h5, q5h5, q6h5, q7h5, q8h5, q9h5, q10h5, q11h5, q12h5, q13h5, q14h5, q15h5, q16h5, q17h5⟩
          show Go pP l eE _ sS mM _ bB tT cC n0 _ h5 2 21 (mkF mM 100 #[.val (.int xx), .val (.int yy), .val (.int zz), .val (.int ww), .val (.int ff), .val (.int m), .val (.int av), .val (.int bv), .val (.int qv), .val (.int (1 : Int32)), .val (.int (0 : Int32)), .val (.ref ah1), .val (.int (av % m)), .val (.int (bv % m)), .unset, .unset, .unset, .unset] [(.int (av % m))])
          refine go_pop (q := 101) K at_100 rfl rfl ?_
          refine go_iload (q := 103) K at_101 rfl rfl ?_
          refine go_if0 (q := 114) (q' := 106) K at_103 (by decide) rfl rfl (fun _ => ?_) (fun hn => cN_no2 hn (show (0 : Int32) = (0 : Int32) from (by decide)))
          refine go_iload (q := 116) K at_114 rfl rfl ?_
          refine go_iload (q := 118) K at_116 rfl rfl ?_
          refine go_icmp (q := 125) (q' := 121) K at_118 (by decide) rfl rfl (fun _ => ?_) (fun hn => cN_no2 hn (show ¬ av = bv from eab))
          refine go_iconst (q := 126) K at_125 (0 : Int32) rfl rfl ?_
          refine go_istore (q := 128) K at_126 #[.val (.int xx), .val (.int yy), .val (.int zz), .val (.int ww), .val (.int ff), .val (.int m), .val (.int av), .val (.int bv), .val (.int qv), .val (.int (1 : Int32)), .val (.int (0 : Int32)), .val (.ref ah1), .val (.int (av % m)), .val (.int (bv % m)), .val (.int (0 : Int32)), .unset, .unset, .unset] rfl rfl ?_
          refine go_iload (q := 130) K at_128 rfl rfl ?_
          refine go_if0 (q := 143) (q' := 133) K at_130 (by decide) rfl rfl (fun _ => ?_) (fun hn => cN_no2 hn (show ¬ (1 : Int32) = (0 : Int32) from (by decide)))
          refine go_iconst (q := 144) K at_143 (1 : Int32) rfl rfl ?_
          refine go_goto (q := 148) K at_144 (by decide) rfl ?_
          refine go_istore (q := 150) K at_148 #[.val (.int xx), .val (.int yy), .val (.int zz), .val (.int ww), .val (.int ff), .val (.int m), .val (.int av), .val (.int bv), .val (.int qv), .val (.int (1 : Int32)), .val (.int (0 : Int32)), .val (.ref ah1), .val (.int (av % m)), .val (.int (bv % m)), .val (.int (0 : Int32)), .val (.int (1 : Int32)), .unset, .unset] rfl rfl ?_
          refine go_iload (q := 152) K at_150 rfl rfl ?_
          refine go_if0 (q := 165) (q' := 155) K at_152 (by decide) rfl rfl (fun hn => cN_no hn (show (0 : Int32) = (0 : Int32) from (by decide))) (fun _ => ?_)
          refine go_iload (q := 157) K at_155 rfl rfl ?_
          refine go_if0 (q := 169) (q' := 160) K at_157 (by decide) rfl rfl (fun _ => ?_) (fun hn => cN_no2 hn (show (0 : Int32) = (0 : Int32) from (by decide)))
          refine go_iconst (q := 170) K at_169 (0 : Int32) rfl rfl ?_
          refine go_istore (q := 172) K at_170 #[.val (.int xx), .val (.int yy), .val (.int zz), .val (.int ww), .val (.int ff), .val (.int m), .val (.int av), .val (.int bv), .val (.int qv), .val (.int (1 : Int32)), .val (.int (0 : Int32)), .val (.ref ah1), .val (.int (av % m)), .val (.int (bv % m)), .val (.int (0 : Int32)), .val (.int (1 : Int32)), .val (.int (0 : Int32)), .unset] rfl rfl ?_
          refine go_iload (q := 174) K at_172 rfl rfl ?_
          refine go_iload (q := 176) K at_174 rfl rfl ?_
          refine go_icmp (q := 194) (q' := 179) K at_176 (by decide) rfl rfl (fun eqa => ?_) (fun eqa => ?_)
          · have eqa : ¬ qv = (av % m) := eqa
            refine go_iload (q := 196) K at_194 rfl rfl ?_
            refine go_iload (q := 198) K at_196 rfl rfl ?_
            refine go_icmp (q := 216) (q' := 201) K at_198 (by decide) rfl rfl (fun eqb => ?_) (fun eqb => ?_)
            · have eqb : ¬ qv = (bv % m) := eqb
              refine go_iconst (q := 217) K at_216 (0 : Int32) rfl rfl ?_
              refine go_istore (q := 219) K at_217 #[.val (.int xx), .val (.int yy), .val (.int zz), .val (.int ww), .val (.int ff), .val (.int m), .val (.int av), .val (.int bv), .val (.int qv), .val (.int (1 : Int32)), .val (.int (0 : Int32)), .val (.ref ah1), .val (.int (av % m)), .val (.int (bv % m)), .val (.int (0 : Int32)), .val (.int (1 : Int32)), .val (.int (0 : Int32)), .val (.int (0 : Int32))] rfl rfl ?_
              refine go_aload (q := 221) K at_219 rfl rfl rfl ?_
              refine go_iload (q := 223) K at_221 rfl rfl ?_
              refine go_callV (q := 226) (W := 0) K (wd hw 170 rfl) (wd hw 171 rfl) (wd hw 172 rfl) (wd hw 140 rfl) (wd hw 3 rfl) (wd hw 141 rfl) (wd hw 87 rfl) rfl q0h5 [(.int qv)] [] (state l Z a0 hw _ _ _ _ _ _ _ n0 q15h5 q17h5 hq.1 (own_setN (own_natne ha.1 hq.1 (fun z => eqa z.symm)) (own_setN (own_natne hb_.1 hq.1 (fun z => eqb z.symm)) (own_setN (own_natne ha.1 hq.1 (fun z => eqa z.symm)) (own_K0_at hq.2.1))))) at_223 (ps := [.int]) (by decide +kernel) rfl rfl rfl (by decide) rfl (by decide) (by decide) (by decide) (by decide) rfl ?_
              rintro _ _ ⟨rfl, rfl⟩
              show Go pP l eE _ sS mM _ bB tT cC n0 _ h5 2 21 (mkF mM 226 #[.val (.int xx), .val (.int yy), .val (.int zz), .val (.int ww), .val (.int ff), .val (.int m), .val (.int av), .val (.int bv), .val (.int qv), .val (.int (1 : Int32)), .val (.int (0 : Int32)), .val (.ref ah1), .val (.int (av % m)), .val (.int (bv % m)), .val (.int (0 : Int32)), .val (.int (1 : Int32)), .val (.int (0 : Int32)), .val (.int (0 : Int32))] [(.int (own_st (-1 : Int32)))])
              refine go_eqI (y := (0 : Int32)) (by decide) ?_
              refine go_iload (q := 228) K at_226 rfl rfl ?_
              refine go_icmp (q := 235) (q' := 231) K at_228 (by decide) rfl rfl (fun hn => cN_no hn (show (0 : Int32) = (0 : Int32) from (by decide))) (fun _ => ?_)
              refine go_iconst (q := 232) K at_231 (1 : Int32) rfl rfl ?_
              refine go_goto (q := 236) K at_232 (by decide) rfl ?_
              refine go_iret K at_236 rfl (Or.inr (Or.inl rfl)) rfl (by decide) (by decide) ?_
              exact rfl
            · have eqb : qv = (bv % m) := eqb
              refine go_iload (q := 203) K at_201 rfl rfl ?_
              refine go_if0 (q := 210) (q' := 206) K at_203 (by decide) rfl rfl (fun _ => ?_) (fun hn => cN_no2 hn (show (0 : Int32) = (0 : Int32) from (by decide)))
              refine go_iconst (q := 211) K at_210 (2 : Int32) rfl rfl ?_
              refine go_istore (q := 213) K at_211 #[.val (.int xx), .val (.int yy), .val (.int zz), .val (.int ww), .val (.int ff), .val (.int m), .val (.int av), .val (.int bv), .val (.int qv), .val (.int (1 : Int32)), .val (.int (0 : Int32)), .val (.ref ah1), .val (.int (av % m)), .val (.int (bv % m)), .val (.int (0 : Int32)), .val (.int (1 : Int32)), .val (.int (0 : Int32)), .val (.int (2 : Int32))] rfl rfl ?_
              refine go_goto (q := 219) K at_213 (by decide) rfl ?_
              refine go_aload (q := 221) K at_219 rfl rfl rfl ?_
              refine go_iload (q := 223) K at_221 rfl rfl ?_
              refine go_callV (q := 226) (W := 0) K (wd hw 170 rfl) (wd hw 171 rfl) (wd hw 172 rfl) (wd hw 140 rfl) (wd hw 3 rfl) (wd hw 141 rfl) (wd hw 87 rfl) rfl q0h5 [(.int qv)] [] (state l Z a0 hw _ _ _ _ _ _ _ n0 q15h5 q17h5 hq.1 (by rw [eqb]; exact (own_setN hab (own_setA (by simpa [own_K0_len] using hb_.2.1))))) at_223 (ps := [.int]) (by decide +kernel) rfl rfl rfl (by decide) rfl (by decide) (by decide) (by decide) (by decide) rfl ?_
              rintro _ _ ⟨rfl, rfl⟩
              show Go pP l eE _ sS mM _ bB tT cC n0 _ h5 2 21 (mkF mM 226 #[.val (.int xx), .val (.int yy), .val (.int zz), .val (.int ww), .val (.int ff), .val (.int m), .val (.int av), .val (.int bv), .val (.int qv), .val (.int (1 : Int32)), .val (.int (0 : Int32)), .val (.ref ah1), .val (.int (av % m)), .val (.int (bv % m)), .val (.int (0 : Int32)), .val (.int (1 : Int32)), .val (.int (0 : Int32)), .val (.int (2 : Int32))] [(.int (own_st bv))])
              refine go_eqI (y := (2 : Int32)) (own_st2 hbv0) ?_
              refine go_iload (q := 228) K at_226 rfl rfl ?_
              refine go_icmp (q := 235) (q' := 231) K at_228 (by decide) rfl rfl (fun hn => cN_no hn (show (2 : Int32) = (2 : Int32) from (by decide))) (fun _ => ?_)
              refine go_iconst (q := 232) K at_231 (1 : Int32) rfl rfl ?_
              refine go_goto (q := 236) K at_232 (by decide) rfl ?_
              refine go_iret K at_236 rfl (Or.inr (Or.inl rfl)) rfl (by decide) (by decide) ?_
              exact rfl
          · have eqa : qv = (av % m) := eqa
            refine go_iload (q := 181) K at_179 rfl rfl ?_
            refine go_if0 (q := 188) (q' := 184) K at_181 (by decide) rfl rfl (fun hn => cN_no hn (show ¬ (1 : Int32) = (0 : Int32) from (by decide))) (fun _ => ?_)
            refine go_iconst (q := 185) K at_184 (1 : Int32) rfl rfl ?_
            refine go_goto (q := 189) K at_185 (by decide) rfl ?_
            refine go_istore (q := 191) K at_189 #[.val (.int xx), .val (.int yy), .val (.int zz), .val (.int ww), .val (.int ff), .val (.int m), .val (.int av), .val (.int bv), .val (.int qv), .val (.int (1 : Int32)), .val (.int (0 : Int32)), .val (.ref ah1), .val (.int (av % m)), .val (.int (bv % m)), .val (.int (0 : Int32)), .val (.int (1 : Int32)), .val (.int (0 : Int32)), .val (.int (1 : Int32))] rfl rfl ?_
            refine go_goto (q := 219) K at_191 (by decide) rfl ?_
            refine go_aload (q := 221) K at_219 rfl rfl rfl ?_
            refine go_iload (q := 223) K at_221 rfl rfl ?_
            refine go_callV (q := 226) (W := 0) K (wd hw 170 rfl) (wd hw 171 rfl) (wd hw 172 rfl) (wd hw 140 rfl) (wd hw 3 rfl) (wd hw 141 rfl) (wd hw 87 rfl) rfl q0h5 [(.int qv)] [] (state l Z a0 hw _ _ _ _ _ _ _ n0 q15h5 q17h5 hq.1 (by rw [eqa]; exact (own_setA (by simpa [own_K0_len] using ha.2.1)))) at_223 (ps := [.int]) (by decide +kernel) rfl rfl rfl (by decide) rfl (by decide) (by decide) (by decide) (by decide) rfl ?_
            rintro _ _ ⟨rfl, rfl⟩
            show Go pP l eE _ sS mM _ bB tT cC n0 _ h5 2 21 (mkF mM 226 #[.val (.int xx), .val (.int yy), .val (.int zz), .val (.int ww), .val (.int ff), .val (.int m), .val (.int av), .val (.int bv), .val (.int qv), .val (.int (1 : Int32)), .val (.int (0 : Int32)), .val (.ref ah1), .val (.int (av % m)), .val (.int (bv % m)), .val (.int (0 : Int32)), .val (.int (1 : Int32)), .val (.int (0 : Int32)), .val (.int (1 : Int32))] [(.int (own_st (-2 : Int32)))])
            refine go_eqI (y := (1 : Int32)) (by decide) ?_
            refine go_iload (q := 228) K at_226 rfl rfl ?_
            refine go_icmp (q := 235) (q' := 231) K at_228 (by decide) rfl rfl (fun hn => cN_no hn (show (1 : Int32) = (1 : Int32) from (by decide))) (fun _ => ?_)
            refine go_iconst (q := 232) K at_231 (1 : Int32) rfl rfl ?_
            refine go_goto (q := 236) K at_232 (by decide) rfl ?_
            refine go_iret K at_236 rfl (Or.inr (Or.inl rfl)) rfl (by decide) (by decide) ?_
            exact rfl
    · have hc46 : ¬ (ff &&& (2 : Int32)) = (0 : Int32) := hc46
      refine go_iconst (q := 50) K at_49 (1 : Int32) rfl rfl ?_
      refine go_goto (q := 54) K at_50 (by decide) rfl ?_
      refine go_istore (q := 56) K at_54 #[.val (.int xx), .val (.int yy), .val (.int zz), .val (.int ww), .val (.int ff), .val (.int m), .val (.int av), .val (.int bv), .val (.int qv), .val (.int (1 : Int32)), .val (.int (1 : Int32)), .unset, .unset, .unset, .unset, .unset, .unset, .unset] rfl rfl ?_
      refine go_new (q := 59) (sz := 16) K (wd hw 1 rfl) (wd hw 2 rfl) (wd hw 3 rfl) at_56 (by decide) (by decide) rfl ?_
      intro h1 ah1 gah1 Eh1 Xah1 Dah1
      refine go_dup (q := 60) K at_59 rfl rfl ?_
      have f1 := (p0_.ext Eh1)
      refine go_getS (q := 63) K (wd hw 4 rfl) Via.refl (p1_.ext f1.2) at_60 rfl ?_
      refine go_iload (q := 65) K at_63 rfl rfl ?_
      refine go_callI (q := 68) (W := 1) K (wd hw 7 rfl) (wd hw 8 rfl) (wd hw 3 rfl) (wd hw 9 rfl) rfl [(.ref lin), (.int m)] [(.ref ah1)] (ctorL l Z a0 hw _ _ _ _ n0 f1 p1_ p2_ p3_ p4_ p5_ Xah1 (Nat.le_trans (own_ge p0_) (Nat.le_of_eq gah1.symm)) hm2 (Dah1 (Or.inr (wd hw 22 rfl)) (ty := (.object "com/example/dispersa/dispersa/internal/ProbeSequence")) (by decide +kernel)) (Dah1 (Or.inr (wd hw 24 rfl)) (ty := .boolean) (by decide +kernel)) (Dah1 (Or.inr (wd hw 26 rfl)) (ty := .boolean) (by decide +kernel)) (Dah1 (Or.inr (wd hw 28 rfl)) (ty := .boolean) (by decide +kernel)) (Dah1 (Or.inl (wd hw 30 rfl)) (ty := .boolean) (by decide +kernel)) (Dah1 (Or.inl (wd hw 32 rfl)) (ty := .boolean) (by decide +kernel)) (Dah1 (Or.inl (wd hw 54 rfl)) (ty := .int) (by decide +kernel)) (Dah1 (Or.inl (wd hw 63 rfl)) (ty := .int) (by decide +kernel)) (Dah1 (Or.inl (wd hw 66 rfl)) (ty := .boolean) (by decide +kernel)) (Dah1 (Or.inl (wd hw 72 rfl)) (ty := .boolean) (by decide +kernel)) (Dah1 (Or.inl (wd hw 74 rfl)) (ty := .int) (by decide +kernel)) (Dah1 (Or.inl (wd hw 76 rfl)) (ty := .int) (by decide +kernel)) (Dah1 (Or.inl (wd hw 147 rfl)) (ty := .long) (by decide +kernel)) (Dah1 (Or.inl (wd hw 149 rfl)) (ty := .int) (by decide +kernel)) (Dah1 (Or.inr (wd hw 79 rfl)) (ty := (.array .int)) (by decide +kernel)) (Dah1 (Or.inl (wd hw 210 rfl)) (ty := .boolean) (by decide +kernel))) at_65 (ps := [(.object "com/example/dispersa/dispersa/internal/ProbeSequence"), .int]) (by decide +kernel) rfl rfl rfl (by decide) rfl (by decide) (by decide) (by decide) (by decide) rfl ?_
      rintro _ h2 ⟨kah2, klh2, mkh2, rfl, Kh2, gkah2, q0h2, q1h2, q2h2, q3h2, q4h2, q5h2, q6h2, q7h2, q8h2, q9h2, q10h2, q11h2, q12h2, q13h2, q14h2, q15h2, q16h2, q17h2, q18h2⟩
      show Go pP l eE _ sS mM _ bB tT cC n0 _ h2 2 21 (mkF mM 68 #[.val (.int xx), .val (.int yy), .val (.int zz), .val (.int ww), .val (.int ff), .val (.int m), .val (.int av), .val (.int bv), .val (.int qv), .val (.int (1 : Int32)), .val (.int (1 : Int32)), .unset, .unset, .unset, .unset, .unset, .unset, .unset] [(.ref ah1)])
      refine go_astore (q := 70) K at_68 #[.val (.int xx), .val (.int yy), .val (.int zz), .val (.int ww), .val (.int ff), .val (.int m), .val (.int av), .val (.int bv), .val (.int qv), .val (.int (1 : Int32)), .val (.int (1 : Int32)), .val (.ref ah1), .unset, .unset, .unset, .unset, .unset, .unset] rfl rfl rfl ?_
      refine go_aload (q := 72) K at_70 rfl rfl rfl ?_
      refine go_iload (q := 74) K at_72 rfl rfl ?_
      have f2 := (f1.keep Kh2 (allS (Nat.le_trans (own_ge p0_) (Nat.le_of_eq gah1.symm)) all0))
      refine go_callV (q := 77) (W := 0) K (wd hw 84 rfl) (wd hw 85 rfl) (wd hw 87 rfl) (wd hw 86 rfl) (wd hw 3 rfl) (wd hw 88 rfl) (wd hw 87 rfl) rfl q0h2 [(.int av)] [] (putU l Z a0 hw _ _ _ _ _ _ _ _ _ _ _ _ _ n0 f2 p1_ p2_ p3_ p4_ p5_ q0h2 (Nat.le_trans (own_ge p0_) (Nat.le_of_eq gah1.symm)) hm2 q17h2 hav0 q1h2 q2h2 q3h2 q4h2 q5h2 q6h2 q7h2 q8h2 q9h2 q10h2 q11h2 q12h2 q13h2 q14h2 q15h2 q16h2 q18h2 ha.1 (Nat.le_trans (own_ge f1) gkah2) (own_nel (Xah1).lt gkah2) (by simp [own_K0_len]) (own_K0_at ha.2.1) (own_neg hav0).1 ha.2.2.1) at_74 (ps := [.int]) (by decide +kernel) rfl rfl rfl (by decide) rfl (by decide) (by decide) (by decide) (by decide) rfl ?_
      rintro _ h3 ⟨pr2h3, po2h3, re2h3, rfl, Kh3, q0h3, q1h3, q2h3, q3h3, q4h3, q5h3, q6h3, q7h3, q8h3, q9h3, q10h3, q11h3, q12h3, q13h3, q14h3, q15h3, q16h3, q17h3⟩
      show Go pP l eE _ sS mM _ bB tT cC n0 _ h3 2 21 (mkF mM 77 #[.val (.int xx), .val (.int yy), .val (.int zz), .val (.int ww), .val (.int ff), .val (.int m), .val (.int av), .val (.int bv), .val (.int qv), .val (.int (1 : Int32)), .val (.int (1 : Int32)), .val (.ref ah1), .unset, .unset, .unset, .unset, .unset, .unset] [(.int (av % m))])
      refine go_istore (q := 79) K at_77 #[.val (.int xx), .val (.int yy), .val (.int zz), .val (.int ww), .val (.int ff), .val (.int m), .val (.int av), .val (.int bv), .val (.int qv), .val (.int (1 : Int32)), .val (.int (1 : Int32)), .val (.ref ah1), .val (.int (av % m)), .unset, .unset, .unset, .unset, .unset] rfl rfl ?_
      refine go_aload (q := 81) K at_79 rfl rfl rfl ?_
      refine go_iload (q := 83) K at_81 rfl rfl ?_
      by_cases eab : av = bv
      · subst eab
        have f3 := (f2.keep Kh3 (allS (Nat.le_trans (own_ge p0_) (Nat.le_of_eq gah1.symm)) (allS (Nat.le_trans (own_ge f1) gkah2) all0)))
        refine go_callV (q := 86) (W := 0) K (wd hw 84 rfl) (wd hw 85 rfl) (wd hw 87 rfl) (wd hw 86 rfl) (wd hw 3 rfl) (wd hw 88 rfl) (wd hw 87 rfl) rfl q0h3 [(.int av)] [] (putH l Z a0 hw _ _ _ _ _ _ _ _ _ _ _ _ _ n0 f3 p1_ p2_ p3_ p4_ p5_ q0h3 (Nat.le_trans (own_ge p0_) (Nat.le_of_eq gah1.symm)) hm2 q17h2 hav0 q1h3 q2h3 q3h3 q4h3 q5h3 q6h3 q7h3 q8h3 q9h3 q10h3 q11h3 q12h3 q13h3 q14h3 q15h3 q16h3 q17h3 ha.1 (Nat.le_trans (own_ge f1) gkah2) (own_nel (Xah1).lt gkah2) (by simp [own_K0_len]) (own_setA (by simpa [own_K0_len] using ha.2.1))) at_83 (ps := [.int]) (by decide +kernel) rfl rfl rfl (by decide) rfl (by decide) (by decide) (by decide) (by decide) rfl ?_
        rintro _ h4 ⟨pr2h4, po2h4, rfl, Kh4, q0h4, q1h4, q2h4, q3h4, q4h4, q5h4, q6h4, q7h4, q8h4, q9h4, q10h4, q11h4, q12h4, q13h4, q14h4, q15h4, q16h4⟩
        show Go pP l eE _ sS mM _ bB tT cC n0 _ h4 2 21 (mkF mM 86 #[.val (.int xx), .val (.int yy), .val (.int zz), .val (.int ww), .val (.int ff), .val (.int m), .val (.int av), .val (.int av), .val (.int qv), .val (.int (1 : Int32)), .val (.int (1 : Int32)), .val (.ref ah1), .val (.int (av % m)), .unset, .unset, .unset, .unset, .unset] [(.int (av % m))])
        refine go_istore (q := 88) K at_86 #[.val (.int xx), .val (.int yy), .val (.int zz), .val (.int ww), .val (.int ff), .val (.int m), .val (.int av), .val (.int av), .val (.int qv), .val (.int (1 : Int32)), .val (.int (1 : Int32)), .val (.ref ah1), .val (.int (av % m)), .val (.int (av % m)), .unset, .unset, .unset, .unset] rfl rfl ?_
        refine go_iload (q := 90) K at_88 rfl rfl ?_
        refine go_if0 (q := 101) (q' := 93) K at_90 (by decide) rfl rfl (fun hn => cN_no hn (show ¬ (1 : Int32) = (0 : Int32) from (by decide))) (fun _ => ?_)
        refine go_aload (q := 95) K at_93 rfl rfl rfl ?_
        refine go_iload (q := 97) K at_95 rfl rfl ?_
        have f4 := (f3.keep Kh4 (allS (Nat.le_trans (own_ge p0_) (Nat.le_of_eq gah1.symm)) all0))
        have f5 := (q17h3.keep Kh4 (ninS ((own_nel (Xah1).lt gkah2)).symm nin0))
        refine go_callV (q := 100) (W := 0) K (wd hw 173 rfl) (wd hw 174 rfl) (wd hw 176 rfl) (wd hw 175 rfl) (wd hw 3 rfl) (wd hw 177 rfl) (wd hw 87 rfl) rfl q0h4 [(.int av)] [] (rmH l Z a0 hw _ _ _ _ _ _ _ _ _ _ _ _ _ n0 f4 p1_ p2_ p3_ p4_ p5_ q0h4 (Nat.le_trans (own_ge p0_) (Nat.le_of_eq gah1.symm)) hm2 q17h2 hav0 q1h4 q2h4 q3h4 q4h4 q5h4 q6h4 q7h4 q8h4 q9h4 q10h4 q11h4 q12h4 q13h4 q14h4 q15h4 q16h4 f5 ha.1 (Nat.le_trans (own_ge f1) gkah2) (own_nel (Xah1).lt gkah2) (by simp [own_K0_len]) p6_ (own_setA (by simpa [own_K0_len] using ha.2.1))) at_97 (ps := [.int]) (by decide +kernel) rfl rfl rfl (by decide) rfl (by decide) (by decide) (by decide) (by decide) rfl ?_
        rintro _ h5 ⟨pr2h5, mu2h5, rfl, Kh5, q0h5, q1h5, q2h5, q3h5, q4h5, q5h5, q6h5, q7h5, q8h5, q9h5, q10h5, q11h5, q12h5, q13h5, q14h5, q15h5, q16h5, q17h5⟩
        show Go pP l eE _ sS mM _ bB tT cC n0 _ h5 2 21 (mkF mM 100 #[.val (.int xx), .val (.int yy), .val (.int zz), .val (.int ww), .val (.int ff), .val (.int m), .val (.int av), .val (.int av), .val (.int qv), .val (.int (1 : Int32)), .val (.int (1 : Int32)), .val (.ref ah1), .val (.int (av % m)), .val (.int (av % m)), .unset, .unset, .unset, .unset] [(.int (av % m))])
        refine go_pop (q := 101) K at_100 rfl rfl ?_
        refine go_iload (q := 103) K at_101 rfl rfl ?_
        refine go_if0 (q := 114) (q' := 106) K at_103 (by decide) rfl rfl (fun hn => cN_no hn (show ¬ (1 : Int32) = (0 : Int32) from (by decide))) (fun _ => ?_)
        refine go_aload (q := 108) K at_106 rfl rfl rfl ?_
        refine go_iload (q := 110) K at_108 rfl rfl ?_
        have hx_ := own_next ha.1 ha.2.2.2 hm2
        have f6 := (f4.keep Kh5 (allS (Nat.le_trans (own_ge p0_) (Nat.le_of_eq gah1.symm)) (allS (Nat.le_trans (own_ge f1) gkah2) all0)))
        refine go_callV (q := 113) (W := 0) K (wd hw 173 rfl) (wd hw 174 rfl) (wd hw 176 rfl) (wd hw 175 rfl) (wd hw 3 rfl) (wd hw 177 rfl) (wd hw 87 rfl) rfl q0h5 [(.int av)] [] (rmU l Z a0 hw _ _ _ _ _ _ _ _ _ _ _ _ _ n0 f6 p1_ p2_ p3_ p4_ p5_ q0h5 (Nat.le_trans (own_ge p0_) (Nat.le_of_eq gah1.symm)) hm2 q17h2 hav0 q1h5 q2h5 q3h5 q4h5 q5h5 q6h5 q7h5 q8h5 q9h5 q10h5 q11h5 q12h5 q13h5 q14h5 q15h5 q16h5 q17h5 ha.1 (Nat.le_trans (own_ge f1) gkah2) (own_nel (Xah1).lt gkah2) (by simp [own_K0_len]) p6_ (own_setA (by simpa [own_K0_len] using ha.2.1)) (own_neg hav0).2 hx_.1 (own_setN (own_natne ha.1 hx_.1 hx_.2.2.2) (own_setN (own_natne ha.1 hx_.1 hx_.2.2.2) (own_K0_at hx_.2.1))) (own_neg hav0).1) at_110 (ps := [.int]) (by decide +kernel) rfl rfl rfl (by decide) rfl (by decide) (by decide) (by decide) (by decide) rfl ?_
        rintro _ h6 ⟨pr2h6, mu2h6, rfl, Kh6, q0h6, q1h6, q2h6, q3h6, q4h6, q5h6, q6h6, q7h6, q8h6, q9h6, q10h6, q11h6, q12h6, q13h6, q14h6, q15h6, q16h6, q17h6⟩
        show Go pP l eE _ sS mM _ bB tT cC n0 _ h6 2 21 (mkF mM 113 #[.val (.int xx), .val (.int yy), .val (.int zz), .val (.int ww), .val (.int ff), .val (.int m), .val (.int av), .val (.int av), .val (.int qv), .val (.int (1 : Int32)), .val (.int (1 : Int32)), .val (.ref ah1), .val (.int (av % m)), .val (.int (av % m)), .unset, .unset, .unset, .unset] [(.int (-1 : Int32))])
        refine go_pop (q := 114) K at_113 rfl rfl ?_
        refine go_iload (q := 116) K at_114 rfl rfl ?_
        refine go_iload (q := 118) K at_116 rfl rfl ?_
        refine go_icmp (q := 125) (q' := 121) K at_118 (by decide) rfl rfl (fun hn => cN_no hn (show av = av from rfl)) (fun _ => ?_)
        refine go_iconst (q := 122) K at_121 (1 : Int32) rfl rfl ?_
        refine go_goto (q := 126) K at_122 (by decide) rfl ?_
        refine go_istore (q := 128) K at_126 #[.val (.int xx), .val (.int yy), .val (.int zz), .val (.int ww), .val (.int ff), .val (.int m), .val (.int av), .val (.int av), .val (.int qv), .val (.int (1 : Int32)), .val (.int (1 : Int32)), .val (.ref ah1), .val (.int (av % m)), .val (.int (av % m)), .val (.int (1 : Int32)), .unset, .unset, .unset] rfl rfl ?_
        refine go_iload (q := 130) K at_128 rfl rfl ?_
        refine go_if0 (q := 143) (q' := 133) K at_130 (by decide) rfl rfl (fun _ => ?_) (fun hn => cN_no2 hn (show ¬ (1 : Int32) = (0 : Int32) from (by decide)))
        refine go_iconst (q := 144) K at_143 (1 : Int32) rfl rfl ?_
        refine go_goto (q := 148) K at_144 (by decide) rfl ?_
        refine go_istore (q := 150) K at_148 #[.val (.int xx), .val (.int yy), .val (.int zz), .val (.int ww), .val (.int ff), .val (.int m), .val (.int av), .val (.int av), .val (.int qv), .val (.int (1 : Int32)), .val (.int (1 : Int32)), .val (.ref ah1), .val (.int (av % m)), .val (.int (av % m)), .val (.int (1 : Int32)), .val (.int (1 : Int32)), .unset, .unset] rfl rfl ?_
        refine go_iload (q := 152) K at_150 rfl rfl ?_
        refine go_if0 (q := 165) (q' := 155) K at_152 (by decide) rfl rfl (fun _ => ?_) (fun hn => cN_no2 hn (show ¬ (1 : Int32) = (0 : Int32) from (by decide)))
        refine go_iconst (q := 166) K at_165 (1 : Int32) rfl rfl ?_
        refine go_goto (q := 170) K at_166 (by decide) rfl ?_
        refine go_istore (q := 172) K at_170 #[.val (.int xx), .val (.int yy), .val (.int zz), .val (.int ww), .val (.int ff), .val (.int m), .val (.int av), .val (.int av), .val (.int qv), .val (.int (1 : Int32)), .val (.int (1 : Int32)), .val (.ref ah1), .val (.int (av % m)), .val (.int (av % m)), .val (.int (1 : Int32)), .val (.int (1 : Int32)), .val (.int (1 : Int32)), .unset] rfl rfl ?_
        refine go_iload (q := 174) K at_172 rfl rfl ?_
        refine go_iload (q := 176) K at_174 rfl rfl ?_
        refine go_icmp (q := 194) (q' := 179) K at_176 (by decide) rfl rfl (fun eqa => ?_) (fun eqa => ?_)
        · have eqa : ¬ qv = (av % m) := eqa
          refine go_iload (q := 196) K at_194 rfl rfl ?_
          refine go_iload (q := 198) K at_196 rfl rfl ?_
          refine go_icmp (q := 216) (q' := 201) K at_198 (by decide) rfl rfl (fun _ => ?_) (fun hn => cN_no2 hn (show ¬ qv = (av % m) from eqa))
          refine go_iconst (q := 217) K at_216 (0 : Int32) rfl rfl ?_
          refine go_istore (q := 219) K at_217 #[.val (.int xx), .val (.int yy), .val (.int zz), .val (.int ww), .val (.int ff), .val (.int m), .val (.int av), .val (.int av), .val (.int qv), .val (.int (1 : Int32)), .val (.int (1 : Int32)), .val (.ref ah1), .val (.int (av % m)), .val (.int (av % m)), .val (.int (1 : Int32)), .val (.int (1 : Int32)), .val (.int (1 : Int32)), .val (.int (0 : Int32))] rfl rfl ?_
          refine go_aload (q := 221) K at_219 rfl rfl rfl ?_
          refine go_iload (q := 223) K at_221 rfl rfl ?_
          refine go_callV (q := 226) (W := 0) K (wd hw 170 rfl) (wd hw 171 rfl) (wd hw 172 rfl) (wd hw 140 rfl) (wd hw 3 rfl) (wd hw 141 rfl) (wd hw 87 rfl) rfl q0h6 [(.int qv)] [] (state l Z a0 hw _ _ _ _ _ _ _ n0 q15h6 q17h6 hq.1 (own_setN (own_natne ha.1 hq.1 (fun z => eqa z.symm)) (own_setN (own_natne ha.1 hq.1 (fun z => eqa z.symm)) (own_K0_at hq.2.1)))) at_223 (ps := [.int]) (by decide +kernel) rfl rfl rfl (by decide) rfl (by decide) (by decide) (by decide) (by decide) rfl ?_
          rintro _ _ ⟨rfl, rfl⟩
          show Go pP l eE _ sS mM _ bB tT cC n0 _ h6 2 21 (mkF mM 226 #[.val (.int xx), .val (.int yy), .val (.int zz), .val (.int ww), .val (.int ff), .val (.int m), .val (.int av), .val (.int av), .val (.int qv), .val (.int (1 : Int32)), .val (.int (1 : Int32)), .val (.ref ah1), .val (.int (av % m)), .val (.int (av % m)), .val (.int (1 : Int32)), .val (.int (1 : Int32)), .val (.int (1 : Int32)), .val (.int (0 : Int32))] [(.int (own_st (-1 : Int32)))])
          refine go_eqI (y := (0 : Int32)) (by decide) ?_
          refine go_iload (q := 228) K at_226 rfl rfl ?_
          refine go_icmp (q := 235) (q' := 231) K at_228 (by decide) rfl rfl (fun hn => cN_no hn (show (0 : Int32) = (0 : Int32) from (by decide))) (fun _ => ?_)
          refine go_iconst (q := 232) K at_231 (1 : Int32) rfl rfl ?_
          refine go_goto (q := 236) K at_232 (by decide) rfl ?_
          refine go_iret K at_236 rfl (Or.inr (Or.inl rfl)) rfl (by decide) (by decide) ?_
          exact rfl
        · have eqa : qv = (av % m) := eqa
          refine go_iload (q := 181) K at_179 rfl rfl ?_
          refine go_if0 (q := 188) (q' := 184) K at_181 (by decide) rfl rfl (fun hn => cN_no hn (show ¬ (1 : Int32) = (0 : Int32) from (by decide))) (fun _ => ?_)
          refine go_iconst (q := 185) K at_184 (1 : Int32) rfl rfl ?_
          refine go_goto (q := 189) K at_185 (by decide) rfl ?_
          refine go_istore (q := 191) K at_189 #[.val (.int xx), .val (.int yy), .val (.int zz), .val (.int ww), .val (.int ff), .val (.int m), .val (.int av), .val (.int av), .val (.int qv), .val (.int (1 : Int32)), .val (.int (1 : Int32)), .val (.ref ah1), .val (.int (av % m)), .val (.int (av % m)), .val (.int (1 : Int32)), .val (.int (1 : Int32)), .val (.int (1 : Int32)), .val (.int (1 : Int32))] rfl rfl ?_
          refine go_goto (q := 219) K at_191 (by decide) rfl ?_
          refine go_aload (q := 221) K at_219 rfl rfl rfl ?_
          refine go_iload (q := 223) K at_221 rfl rfl ?_
          refine go_callV (q := 226) (W := 0) K (wd hw 170 rfl) (wd hw 171 rfl) (wd hw 172 rfl) (wd hw 140 rfl) (wd hw 3 rfl) (wd hw 141 rfl) (wd hw 87 rfl) rfl q0h6 [(.int qv)] [] (state l Z a0 hw _ _ _ _ _ _ _ n0 q15h6 q17h6 hq.1 (by rw [eqa]; exact (own_setA (by simpa [own_K0_len] using ha.2.1)))) at_223 (ps := [.int]) (by decide +kernel) rfl rfl rfl (by decide) rfl (by decide) (by decide) (by decide) (by decide) rfl ?_
          rintro _ _ ⟨rfl, rfl⟩
          show Go pP l eE _ sS mM _ bB tT cC n0 _ h6 2 21 (mkF mM 226 #[.val (.int xx), .val (.int yy), .val (.int zz), .val (.int ww), .val (.int ff), .val (.int m), .val (.int av), .val (.int av), .val (.int qv), .val (.int (1 : Int32)), .val (.int (1 : Int32)), .val (.ref ah1), .val (.int (av % m)), .val (.int (av % m)), .val (.int (1 : Int32)), .val (.int (1 : Int32)), .val (.int (1 : Int32)), .val (.int (1 : Int32))] [(.int (own_st (-2 : Int32)))])
          refine go_eqI (y := (1 : Int32)) (by decide) ?_
          refine go_iload (q := 228) K at_226 rfl rfl ?_
          refine go_icmp (q := 235) (q' := 231) K at_228 (by decide) rfl rfl (fun hn => cN_no hn (show (1 : Int32) = (1 : Int32) from (by decide))) (fun _ => ?_)
          refine go_iconst (q := 232) K at_231 (1 : Int32) rfl rfl ?_
          refine go_goto (q := 236) K at_232 (by decide) rfl ?_
          refine go_iret K at_236 rfl (Or.inr (Or.inl rfl)) rfl (by decide) (by decide) ?_
          exact rfl
      · by_cases ehh : (av % m) = (bv % m)
        · have hx_ := own_next hb_.1 hb_.2.2.2 hm2
          have f3 := (f2.keep Kh3 (allS (Nat.le_trans (own_ge p0_) (Nat.le_of_eq gah1.symm)) (allS (Nat.le_trans (own_ge f1) gkah2) all0)))
          refine go_callV (q := 86) (W := 0) K (wd hw 84 rfl) (wd hw 85 rfl) (wd hw 87 rfl) (wd hw 86 rfl) (wd hw 3 rfl) (wd hw 88 rfl) (wd hw 87 rfl) rfl q0h3 [(.int bv)] [] (putX l Z a0 hw _ _ _ _ _ _ _ _ _ _ _ _ _ _ n0 f3 p1_ p2_ p3_ p4_ p5_ q0h3 (Nat.le_trans (own_ge p0_) (Nat.le_of_eq gah1.symm)) hm2 q17h2 hbv0 q1h3 q2h3 q3h3 q4h3 q5h3 q6h3 q7h3 q8h3 q9h3 q10h3 q11h3 q12h3 q13h3 q14h3 q15h3 q16h3 q17h3 hb_.1 (Nat.le_trans (own_ge f1) gkah2) (own_nel (Xah1).lt gkah2) (by simp [own_K0_len]) (by rw [← ehh]; exact (own_setA (by simpa [own_K0_len] using ha.2.1))) hav0 eab hx_.1 (own_setN (by rw [ehh]; exact own_natne hb_.1 hx_.1 hx_.2.2.2) (own_K0_at hx_.2.1)) (own_neg hbv0).1 hx_.2.2.1) at_83 (ps := [.int]) (by decide +kernel) rfl rfl rfl (by decide) rfl (by decide) (by decide) (by decide) (by decide) rfl ?_
          rintro _ h4 ⟨pr2h4, po2h4, re2h4, rfl, Kh4, q0h4, q1h4, q2h4, q3h4, q4h4, q5h4, q6h4, q7h4, q8h4, q9h4, q10h4, q11h4, q12h4, q13h4, q14h4, q15h4, q16h4, q17h4⟩
          show Go pP l eE _ sS mM _ bB tT cC n0 _ h4 2 21 (mkF mM 86 #[.val (.int xx), .val (.int yy), .val (.int zz), .val (.int ww), .val (.int ff), .val (.int m), .val (.int av), .val (.int bv), .val (.int qv), .val (.int (1 : Int32)), .val (.int (1 : Int32)), .val (.ref ah1), .val (.int (av % m)), .unset, .unset, .unset, .unset, .unset] [(.int (own_adv (bv % m) (1 : Int32) m))])
          refine go_istore (q := 88) K at_86 #[.val (.int xx), .val (.int yy), .val (.int zz), .val (.int ww), .val (.int ff), .val (.int m), .val (.int av), .val (.int bv), .val (.int qv), .val (.int (1 : Int32)), .val (.int (1 : Int32)), .val (.ref ah1), .val (.int (av % m)), .val (.int (own_adv (bv % m) (1 : Int32) m)), .unset, .unset, .unset, .unset] rfl rfl ?_
          refine go_iload (q := 90) K at_88 rfl rfl ?_
          refine go_if0 (q := 101) (q' := 93) K at_90 (by decide) rfl rfl (fun hn => cN_no hn (show ¬ (1 : Int32) = (0 : Int32) from (by decide))) (fun _ => ?_)
          refine go_aload (q := 95) K at_93 rfl rfl rfl ?_
          refine go_iload (q := 97) K at_95 rfl rfl ?_
          have f4 := (f3.keep Kh4 (allS (Nat.le_trans (own_ge p0_) (Nat.le_of_eq gah1.symm)) (allS (Nat.le_trans (own_ge f1) gkah2) all0)))
          refine go_callV (q := 100) (W := 0) K (wd hw 173 rfl) (wd hw 174 rfl) (wd hw 176 rfl) (wd hw 175 rfl) (wd hw 3 rfl) (wd hw 177 rfl) (wd hw 87 rfl) rfl q0h4 [(.int av)] [] (rmH l Z a0 hw _ _ _ _ _ _ _ _ _ _ _ _ _ n0 f4 p1_ p2_ p3_ p4_ p5_ q0h4 (Nat.le_trans (own_ge p0_) (Nat.le_of_eq gah1.symm)) hm2 q17h2 hav0 q1h4 q2h4 q3h4 q4h4 q5h4 q6h4 q7h4 q8h4 q9h4 q10h4 q11h4 q12h4 q13h4 q14h4 q15h4 q16h4 q17h4 ha.1 (Nat.le_trans (own_ge f1) gkah2) (own_nel (Xah1).lt gkah2) (by simp [own_K0_len]) p6_ (own_setN (by rw [ehh]; exact (own_natne hb_.1 hx_.1 hx_.2.2.2).symm) (own_setA (by simpa [own_K0_len] using ha.2.1)))) at_97 (ps := [.int]) (by decide +kernel) rfl rfl rfl (by decide) rfl (by decide) (by decide) (by decide) (by decide) rfl ?_
          rintro _ h5 ⟨pr2h5, mu2h5, rfl, Kh5, q0h5, q1h5, q2h5, q3h5, q4h5, q5h5, q6h5, q7h5, q8h5, q9h5, q10h5, q11h5, q12h5, q13h5, q14h5, q15h5, q16h5, q17h5⟩
          show Go pP l eE _ sS mM _ bB tT cC n0 _ h5 2 21 (mkF mM 100 #[.val (.int xx), .val (.int yy), .val (.int zz), .val (.int ww), .val (.int ff), .val (.int m), .val (.int av), .val (.int bv), .val (.int qv), .val (.int (1 : Int32)), .val (.int (1 : Int32)), .val (.ref ah1), .val (.int (av % m)), .val (.int (own_adv (bv % m) (1 : Int32) m)), .unset, .unset, .unset, .unset] [(.int (av % m))])
          refine go_pop (q := 101) K at_100 rfl rfl ?_
          refine go_iload (q := 103) K at_101 rfl rfl ?_
          refine go_if0 (q := 114) (q' := 106) K at_103 (by decide) rfl rfl (fun hn => cN_no hn (show ¬ (1 : Int32) = (0 : Int32) from (by decide))) (fun _ => ?_)
          refine go_aload (q := 108) K at_106 rfl rfl rfl ?_
          refine go_iload (q := 110) K at_108 rfl rfl ?_
          have f5 := (f4.keep Kh5 (allS (Nat.le_trans (own_ge p0_) (Nat.le_of_eq gah1.symm)) (allS (Nat.le_trans (own_ge f1) gkah2) all0)))
          refine go_callV (q := 113) (W := 0) K (wd hw 173 rfl) (wd hw 174 rfl) (wd hw 176 rfl) (wd hw 175 rfl) (wd hw 3 rfl) (wd hw 177 rfl) (wd hw 87 rfl) rfl q0h5 [(.int bv)] [] (rmM l Z a0 hw _ _ _ _ _ _ _ _ _ _ _ _ _ n0 f5 p1_ p2_ p3_ p4_ p5_ q0h5 (Nat.le_trans (own_ge p0_) (Nat.le_of_eq gah1.symm)) hm2 q17h2 hbv0 q1h5 q2h5 q3h5 q4h5 q5h5 q6h5 q7h5 q8h5 q9h5 q10h5 q11h5 q12h5 q13h5 q14h5 q15h5 q16h5 q17h5 hb_.1 (Nat.le_trans (own_ge f1) gkah2) (own_nel (Xah1).lt gkah2) (by simp [own_K0_len]) p6_ (by rw [← ehh]; exact (own_setA (by simpa [own_K0_len] using ha.2.1))) (own_neg hbv0).2 hx_.1 (own_setN (by rw [ehh]; exact own_natne hb_.1 hx_.1 hx_.2.2.2) (own_setA (by simpa [own_K0_len] using hx_.2.1)))) at_110 (ps := [.int]) (by decide +kernel) rfl rfl rfl (by decide) rfl (by decide) (by decide) (by decide) (by decide) rfl ?_
          rintro _ h6 ⟨pr2h6, mu2h6, rfl, Kh6, q0h6, q1h6, q2h6, q3h6, q4h6, q5h6, q6h6, q7h6, q8h6, q9h6, q10h6, q11h6, q12h6, q13h6, q14h6, q15h6, q16h6, q17h6⟩
          show Go pP l eE _ sS mM _ bB tT cC n0 _ h6 2 21 (mkF mM 113 #[.val (.int xx), .val (.int yy), .val (.int zz), .val (.int ww), .val (.int ff), .val (.int m), .val (.int av), .val (.int bv), .val (.int qv), .val (.int (1 : Int32)), .val (.int (1 : Int32)), .val (.ref ah1), .val (.int (av % m)), .val (.int (own_adv (bv % m) (1 : Int32) m)), .unset, .unset, .unset, .unset] [(.int (own_adv (bv % m) (1 : Int32) m))])
          refine go_pop (q := 114) K at_113 rfl rfl ?_
          refine go_iload (q := 116) K at_114 rfl rfl ?_
          refine go_iload (q := 118) K at_116 rfl rfl ?_
          refine go_icmp (q := 125) (q' := 121) K at_118 (by decide) rfl rfl (fun _ => ?_) (fun hn => cN_no2 hn (show ¬ av = bv from eab))
          refine go_iconst (q := 126) K at_125 (0 : Int32) rfl rfl ?_
          refine go_istore (q := 128) K at_126 #[.val (.int xx), .val (.int yy), .val (.int zz), .val (.int ww), .val (.int ff), .val (.int m), .val (.int av), .val (.int bv), .val (.int qv), .val (.int (1 : Int32)), .val (.int (1 : Int32)), .val (.ref ah1), .val (.int (av % m)), .val (.int (own_adv (bv % m) (1 : Int32) m)), .val (.int (0 : Int32)), .unset, .unset, .unset] rfl rfl ?_
          refine go_iload (q := 130) K at_128 rfl rfl ?_
          refine go_if0 (q := 143) (q' := 133) K at_130 (by decide) rfl rfl (fun _ => ?_) (fun hn => cN_no2 hn (show ¬ (1 : Int32) = (0 : Int32) from (by decide)))
          refine go_iconst (q := 144) K at_143 (1 : Int32) rfl rfl ?_
          refine go_goto (q := 148) K at_144 (by decide) rfl ?_
          refine go_istore (q := 150) K at_148 #[.val (.int xx), .val (.int yy), .val (.int zz), .val (.int ww), .val (.int ff), .val (.int m), .val (.int av), .val (.int bv), .val (.int qv), .val (.int (1 : Int32)), .val (.int (1 : Int32)), .val (.ref ah1), .val (.int (av % m)), .val (.int (own_adv (bv % m) (1 : Int32) m)), .val (.int (0 : Int32)), .val (.int (1 : Int32)), .unset, .unset] rfl rfl ?_
          refine go_iload (q := 152) K at_150 rfl rfl ?_
          refine go_if0 (q := 165) (q' := 155) K at_152 (by decide) rfl rfl (fun _ => ?_) (fun hn => cN_no2 hn (show ¬ (1 : Int32) = (0 : Int32) from (by decide)))
          refine go_iconst (q := 166) K at_165 (1 : Int32) rfl rfl ?_
          refine go_goto (q := 170) K at_166 (by decide) rfl ?_
          refine go_istore (q := 172) K at_170 #[.val (.int xx), .val (.int yy), .val (.int zz), .val (.int ww), .val (.int ff), .val (.int m), .val (.int av), .val (.int bv), .val (.int qv), .val (.int (1 : Int32)), .val (.int (1 : Int32)), .val (.ref ah1), .val (.int (av % m)), .val (.int (own_adv (bv % m) (1 : Int32) m)), .val (.int (0 : Int32)), .val (.int (1 : Int32)), .val (.int (1 : Int32)), .unset] rfl rfl ?_
          refine go_iload (q := 174) K at_172 rfl rfl ?_
          refine go_iload (q := 176) K at_174 rfl rfl ?_
          refine go_icmp (q := 194) (q' := 179) K at_176 (by decide) rfl rfl (fun eqa => ?_) (fun eqa => ?_)
          · have eqa : ¬ qv = (av % m) := eqa
            refine go_iload (q := 196) K at_194 rfl rfl ?_
            refine go_iload (q := 198) K at_196 rfl rfl ?_
            refine go_icmp (q := 216) (q' := 201) K at_198 (by decide) rfl rfl (fun eqb => ?_) (fun eqb => ?_)
            · have eqb : ¬ qv = (own_adv (bv % m) (1 : Int32) m) := eqb
              refine go_iconst (q := 217) K at_216 (0 : Int32) rfl rfl ?_
              refine go_istore (q := 219) K at_217 #[.val (.int xx), .val (.int yy), .val (.int zz), .val (.int ww), .val (.int ff), .val (.int m), .val (.int av), .val (.int bv), .val (.int qv), .val (.int (1 : Int32)), .val (.int (1 : Int32)), .val (.ref ah1), .val (.int (av % m)), .val (.int (own_adv (bv % m) (1 : Int32) m)), .val (.int (0 : Int32)), .val (.int (1 : Int32)), .val (.int (1 : Int32)), .val (.int (0 : Int32))] rfl rfl ?_
              refine go_aload (q := 221) K at_219 rfl rfl rfl ?_
              refine go_iload (q := 223) K at_221 rfl rfl ?_
              refine go_callV (q := 226) (W := 0) K (wd hw 170 rfl) (wd hw 171 rfl) (wd hw 172 rfl) (wd hw 140 rfl) (wd hw 3 rfl) (wd hw 141 rfl) (wd hw 87 rfl) rfl q0h6 [(.int qv)] [] (state l Z a0 hw _ _ _ _ _ _ _ n0 q15h6 q17h6 hq.1 (own_setN (own_natne hx_.1 hq.1 (fun z => eqb z.symm)) (own_setN (own_natne ha.1 hq.1 (fun z => eqa z.symm)) (own_setN (own_natne hx_.1 hq.1 (fun z => eqb z.symm)) (own_setN (own_natne ha.1 hq.1 (fun z => eqa z.symm)) (own_K0_at hq.2.1)))))) at_223 (ps := [.int]) (by decide +kernel) rfl rfl rfl (by decide) rfl (by decide) (by decide) (by decide) (by decide) rfl ?_
              rintro _ _ ⟨rfl, rfl⟩
              show Go pP l eE _ sS mM _ bB tT cC n0 _ h6 2 21 (mkF mM 226 #[.val (.int xx), .val (.int yy), .val (.int zz), .val (.int ww), .val (.int ff), .val (.int m), .val (.int av), .val (.int bv), .val (.int qv), .val (.int (1 : Int32)), .val (.int (1 : Int32)), .val (.ref ah1), .val (.int (av % m)), .val (.int (own_adv (bv % m) (1 : Int32) m)), .val (.int (0 : Int32)), .val (.int (1 : Int32)), .val (.int (1 : Int32)), .val (.int (0 : Int32))] [(.int (own_st (-1 : Int32)))])
              refine go_eqI (y := (0 : Int32)) (by decide) ?_
              refine go_iload (q := 228) K at_226 rfl rfl ?_
              refine go_icmp (q := 235) (q' := 231) K at_228 (by decide) rfl rfl (fun hn => cN_no hn (show (0 : Int32) = (0 : Int32) from (by decide))) (fun _ => ?_)
              refine go_iconst (q := 232) K at_231 (1 : Int32) rfl rfl ?_
              refine go_goto (q := 236) K at_232 (by decide) rfl ?_
              refine go_iret K at_236 rfl (Or.inr (Or.inl rfl)) rfl (by decide) (by decide) ?_
              exact rfl
            · have eqb : qv = (own_adv (bv % m) (1 : Int32) m) := eqb
              refine go_iload (q := 203) K at_201 rfl rfl ?_
              refine go_if0 (q := 210) (q' := 206) K at_203 (by decide) rfl rfl (fun hn => cN_no hn (show ¬ (1 : Int32) = (0 : Int32) from (by decide))) (fun _ => ?_)
              refine go_iconst (q := 207) K at_206 (1 : Int32) rfl rfl ?_
              refine go_goto (q := 211) K at_207 (by decide) rfl ?_
              refine go_istore (q := 213) K at_211 #[.val (.int xx), .val (.int yy), .val (.int zz), .val (.int ww), .val (.int ff), .val (.int m), .val (.int av), .val (.int bv), .val (.int qv), .val (.int (1 : Int32)), .val (.int (1 : Int32)), .val (.ref ah1), .val (.int (av % m)), .val (.int (own_adv (bv % m) (1 : Int32) m)), .val (.int (0 : Int32)), .val (.int (1 : Int32)), .val (.int (1 : Int32)), .val (.int (1 : Int32))] rfl rfl ?_
              refine go_goto (q := 219) K at_213 (by decide) rfl ?_
              refine go_aload (q := 221) K at_219 rfl rfl rfl ?_
              refine go_iload (q := 223) K at_221 rfl rfl ?_
              refine go_callV (q := 226) (W := 0) K (wd hw 170 rfl) (wd hw 171 rfl) (wd hw 172 rfl) (wd hw 140 rfl) (wd hw 3 rfl) (wd hw 141 rfl) (wd hw 87 rfl) rfl q0h6 [(.int qv)] [] (state l Z a0 hw _ _ _ _ _ _ _ n0 q15h6 q17h6 hq.1 (by rw [eqb]; exact (own_setA (by simpa [own_K0_len] using hx_.2.1)))) at_223 (ps := [.int]) (by decide +kernel) rfl rfl rfl (by decide) rfl (by decide) (by decide) (by decide) (by decide) rfl ?_
              rintro _ _ ⟨rfl, rfl⟩
              show Go pP l eE _ sS mM _ bB tT cC n0 _ h6 2 21 (mkF mM 226 #[.val (.int xx), .val (.int yy), .val (.int zz), .val (.int ww), .val (.int ff), .val (.int m), .val (.int av), .val (.int bv), .val (.int qv), .val (.int (1 : Int32)), .val (.int (1 : Int32)), .val (.ref ah1), .val (.int (av % m)), .val (.int (own_adv (bv % m) (1 : Int32) m)), .val (.int (0 : Int32)), .val (.int (1 : Int32)), .val (.int (1 : Int32)), .val (.int (1 : Int32))] [(.int (own_st (-2 : Int32)))])
              refine go_eqI (y := (1 : Int32)) (by decide) ?_
              refine go_iload (q := 228) K at_226 rfl rfl ?_
              refine go_icmp (q := 235) (q' := 231) K at_228 (by decide) rfl rfl (fun hn => cN_no hn (show (1 : Int32) = (1 : Int32) from (by decide))) (fun _ => ?_)
              refine go_iconst (q := 232) K at_231 (1 : Int32) rfl rfl ?_
              refine go_goto (q := 236) K at_232 (by decide) rfl ?_
              refine go_iret K at_236 rfl (Or.inr (Or.inl rfl)) rfl (by decide) (by decide) ?_
              exact rfl
          · have eqa : qv = (av % m) := eqa
            refine go_iload (q := 181) K at_179 rfl rfl ?_
            refine go_if0 (q := 188) (q' := 184) K at_181 (by decide) rfl rfl (fun hn => cN_no hn (show ¬ (1 : Int32) = (0 : Int32) from (by decide))) (fun _ => ?_)
            refine go_iconst (q := 185) K at_184 (1 : Int32) rfl rfl ?_
            refine go_goto (q := 189) K at_185 (by decide) rfl ?_
            refine go_istore (q := 191) K at_189 #[.val (.int xx), .val (.int yy), .val (.int zz), .val (.int ww), .val (.int ff), .val (.int m), .val (.int av), .val (.int bv), .val (.int qv), .val (.int (1 : Int32)), .val (.int (1 : Int32)), .val (.ref ah1), .val (.int (av % m)), .val (.int (own_adv (bv % m) (1 : Int32) m)), .val (.int (0 : Int32)), .val (.int (1 : Int32)), .val (.int (1 : Int32)), .val (.int (1 : Int32))] rfl rfl ?_
            refine go_goto (q := 219) K at_191 (by decide) rfl ?_
            refine go_aload (q := 221) K at_219 rfl rfl rfl ?_
            refine go_iload (q := 223) K at_221 rfl rfl ?_
            refine go_callV (q := 226) (W := 0) K (wd hw 170 rfl) (wd hw 171 rfl) (wd hw 172 rfl) (wd hw 140 rfl) (wd hw 3 rfl) (wd hw 141 rfl) (wd hw 87 rfl) rfl q0h6 [(.int qv)] [] (state l Z a0 hw _ _ _ _ _ _ _ n0 q15h6 q17h6 hq.1 (by rw [eqa]; exact (own_setN (by rw [ehh]; exact (own_natne hb_.1 hx_.1 hx_.2.2.2).symm) (own_setA (by simpa [own_K0_len] using ha.2.1))))) at_223 (ps := [.int]) (by decide +kernel) rfl rfl rfl (by decide) rfl (by decide) (by decide) (by decide) (by decide) rfl ?_
            rintro _ _ ⟨rfl, rfl⟩
            show Go pP l eE _ sS mM _ bB tT cC n0 _ h6 2 21 (mkF mM 226 #[.val (.int xx), .val (.int yy), .val (.int zz), .val (.int ww), .val (.int ff), .val (.int m), .val (.int av), .val (.int bv), .val (.int qv), .val (.int (1 : Int32)), .val (.int (1 : Int32)), .val (.ref ah1), .val (.int (av % m)), .val (.int (own_adv (bv % m) (1 : Int32) m)), .val (.int (0 : Int32)), .val (.int (1 : Int32)), .val (.int (1 : Int32)), .val (.int (1 : Int32))] [(.int (own_st (-2 : Int32)))])
            refine go_eqI (y := (1 : Int32)) (by decide) ?_
            refine go_iload (q := 228) K at_226 rfl rfl ?_
            refine go_icmp (q := 235) (q' := 231) K at_228 (by decide) rfl rfl (fun hn => cN_no hn (show (1 : Int32) = (1 : Int32) from (by decide))) (fun _ => ?_)
            refine go_iconst (q := 232) K at_231 (1 : Int32) rfl rfl ?_
            refine go_goto (q := 236) K at_232 (by decide) rfl ?_
            refine go_iret K at_236 rfl (Or.inr (Or.inl rfl)) rfl (by decide) (by decide) ?_
            exact rfl
        · have hab := own_natne ha.1 hb_.1 ehh
          have f3 := (f2.keep Kh3 (allS (Nat.le_trans (own_ge p0_) (Nat.le_of_eq gah1.symm)) (allS (Nat.le_trans (own_ge f1) gkah2) all0)))
          refine go_callV (q := 86) (W := 0) K (wd hw 84 rfl) (wd hw 85 rfl) (wd hw 87 rfl) (wd hw 86 rfl) (wd hw 3 rfl) (wd hw 88 rfl) (wd hw 87 rfl) rfl q0h3 [(.int bv)] [] (putU l Z a0 hw _ _ _ _ _ _ _ _ _ _ _ _ _ n0 f3 p1_ p2_ p3_ p4_ p5_ q0h3 (Nat.le_trans (own_ge p0_) (Nat.le_of_eq gah1.symm)) hm2 q17h2 hbv0 q1h3 q2h3 q3h3 q4h3 q5h3 q6h3 q7h3 q8h3 q9h3 q10h3 q11h3 q12h3 q13h3 q14h3 q15h3 q16h3 q17h3 hb_.1 (Nat.le_trans (own_ge f1) gkah2) (own_nel (Xah1).lt gkah2) (by simp [own_K0_len]) (own_setN hab (own_K0_at hb_.2.1)) (own_neg hbv0).1 hb_.2.2.1) at_83 (ps := [.int]) (by decide +kernel) rfl rfl rfl (by decide) rfl (by decide) (by decide) (by decide) (by decide) rfl ?_
          rintro _ h4 ⟨pr2h4, po2h4, re2h4, rfl, Kh4, q0h4, q1h4, q2h4, q3h4, q4h4, q5h4, q6h4, q7h4, q8h4, q9h4, q10h4, q11h4, q12h4, q13h4, q14h4, q15h4, q16h4, q17h4⟩
          show Go pP l eE _ sS mM _ bB tT cC n0 _ h4 2 21 (mkF mM 86 #[.val (.int xx), .val (.int yy), .val (.int zz), .val (.int ww), .val (.int ff), .val (.int m), .val (.int av), .val (.int bv), .val (.int qv), .val (.int (1 : Int32)), .val (.int (1 : Int32)), .val (.ref ah1), .val (.int (av % m)), .unset, .unset, .unset, .unset, .unset] [(.int (bv % m))])
          refine go_istore (q := 88) K at_86 #[.val (.int xx), .val (.int yy), .val (.int zz), .val (.int ww), .val (.int ff), .val (.int m), .val (.int av), .val (.int bv), .val (.int qv), .val (.int (1 : Int32)), .val (.int (1 : Int32)), .val (.ref ah1), .val (.int (av % m)), .val (.int (bv % m)), .unset, .unset, .unset, .unset] rfl rfl ?_
          refine go_iload (q := 90) K at_88 rfl rfl ?_
          refine go_if0 (q := 101) (q' := 93) K at_90 (by decide) rfl rfl (fun hn => cN_no hn (show ¬ (1 : Int32) = (0 : Int32) from (by decide))) (fun _ => ?_)
          refine go_aload (q := 95) K at_93 rfl rfl rfl ?_
          refine go_iload (q := 97) K at_95 rfl rfl ?_
          have f4 := (f3.keep Kh4 (allS (Nat.le_trans (own_ge p0_) (Nat.le_of_eq gah1.symm)) (allS (Nat.le_trans (own_ge f1) gkah2) all0)))
          refine go_callV (q := 100) (W := 0) K (wd hw 173 rfl) (wd hw 174 rfl) (wd hw 176 rfl) (wd hw 175 rfl) (wd hw 3 rfl) (wd hw 177 rfl) (wd hw 87 rfl) rfl q0h4 [(.int av)] [] (rmH l Z a0 hw _ _ _ _ _ _ _ _ _ _ _ _ _ n0 f4 p1_ p2_ p3_ p4_ p5_ q0h4 (Nat.le_trans (own_ge p0_) (Nat.le_of_eq gah1.symm)) hm2 q17h2 hav0 q1h4 q2h4 q3h4 q4h4 q5h4 q6h4 q7h4 q8h4 q9h4 q10h4 q11h4 q12h4 q13h4 q14h4 q15h4 q16h4 q17h4 ha.1 (Nat.le_trans (own_ge f1) gkah2) (own_nel (Xah1).lt gkah2) (by simp [own_K0_len]) p6_ (own_setN hab.symm (own_setA (by simpa [own_K0_len] using ha.2.1)))) at_97 (ps := [.int]) (by decide +kernel) rfl rfl rfl (by decide) rfl (by decide) (by decide) (by decide) (by decide) rfl ?_
          rintro _ h5 ⟨pr2h5, mu2h5, rfl, Kh5, q0h5, q1h5, q2h5, q3h5, q4h5, q5h5, q6h5, q7h5, q8h5, q9h5, q10h5, q11h5, q12h5, q13h5, q14h5, q15h5, q16h5, q17h5⟩
          show Go pP l eE _ sS mM _ bB tT cC n0 _ h5 2 21 (mkF mM 100 #[.val (.int xx), .val (.int yy), .val (.int zz), .val (.int ww), .val (.int ff), .val (.int m), .val (.int av), .val (.int bv), .val (.int qv), .val (.int (1 : Int32)), .val (.int (1 : Int32)), .val (.ref ah1), .val (.int (av % m)), .val (.int (bv % m)), .unset, .unset, .unset, .unset] [(.int (av % m))])
          refine go_pop (q := 101) K at_100 rfl rfl ?_
          refine go_iload (q := 103) K at_101 rfl rfl ?_
          refine go_if0 (q := 114) (q' := 106) K at_103 (by decide) rfl rfl (fun hn => cN_no hn (show ¬ (1 : Int32) = (0 : Int32) from (by decide))) (fun _ => ?_)
          refine go_aload (q := 108) K at_106 rfl rfl rfl ?_
          refine go_iload (q := 110) K at_108 rfl rfl ?_
          have f5 := (f4.keep Kh5 (allS (Nat.le_trans (own_ge p0_) (Nat.le_of_eq gah1.symm)) (allS (Nat.le_trans (own_ge f1) gkah2) all0)))
          refine go_callV (q := 113) (W := 0) K (wd hw 173 rfl) (wd hw 174 rfl) (wd hw 176 rfl) (wd hw 175 rfl) (wd hw 3 rfl) (wd hw 177 rfl) (wd hw 87 rfl) rfl q0h5 [(.int bv)] [] (rmH l Z a0 hw _ _ _ _ _ _ _ _ _ _ _ _ _ n0 f5 p1_ p2_ p3_ p4_ p5_ q0h5 (Nat.le_trans (own_ge p0_) (Nat.le_of_eq gah1.symm)) hm2 q17h2 hbv0 q1h5 q2h5 q3h5 q4h5 q5h5 q6h5 q7h5 q8h5 q9h5 q10h5 q11h5 q12h5 q13h5 q14h5 q15h5 q16h5 q17h5 hb_.1 (Nat.le_trans (own_ge f1) gkah2) (own_nel (Xah1).lt gkah2) (by simp [own_K0_len]) p6_ (own_setN hab (own_setA (by simpa [own_K0_len] using hb_.2.1)))) at_110 (ps := [.int]) (by decide +kernel) rfl rfl rfl (by decide) rfl (by decide) (by decide) (by decide) (by decide) rfl ?_
          rintro _ h6 ⟨pr2h6, mu2h6, rfl, Kh6, q0h6, q1h6, q2h6, q3h6, q4h6, q5h6, q6h6, q7h6, q8h6, q9h6, q10h6, q11h6, q12h6, q13h6, q14h6, q15h6, q16h6, q17h6⟩
          show Go pP l eE _ sS mM _ bB tT cC n0 _ h6 2 21 (mkF mM 113 #[.val (.int xx), .val (.int yy), .val (.int zz), .val (.int ww), .val (.int ff), .val (.int m), .val (.int av), .val (.int bv), .val (.int qv), .val (.int (1 : Int32)), .val (.int (1 : Int32)), .val (.ref ah1), .val (.int (av % m)), .val (.int (bv % m)), .unset, .unset, .unset, .unset] [(.int (bv % m))])
          refine go_pop (q := 114) K at_113 rfl rfl ?_
          refine go_iload (q := 116) K at_114 rfl rfl ?_
          refine go_iload (q := 118) K at_116 rfl rfl ?_
          refine go_icmp (q := 125) (q' := 121) K at_118 (by decide) rfl rfl (fun _ => ?_) (fun hn => cN_no2 hn (show ¬ av = bv from eab))
          refine go_iconst (q := 126) K at_125 (0 : Int32) rfl rfl ?_
          refine go_istore (q := 128) K at_126 #[.val (.int xx), .val (.int yy), .val (.int zz), .val (.int ww), .val (.int ff), .val (.int m), .val (.int av), .val (.int bv), .val (.int qv), .val (.int (1 : Int32)), .val (.int (1 : Int32)), .val (.ref ah1), .val (.int (av % m)), .val (.int (bv % m)), .val (.int (0 : Int32)), .unset, .unset, .unset] rfl rfl ?_
          refine go_iload (q := 130) K at_128 rfl rfl ?_
          refine go_if0 (q := 143) (q' := 133) K at_130 (by decide) rfl rfl (fun _ => ?_) (fun hn => cN_no2 hn (show ¬ (1 : Int32) = (0 : Int32) from (by decide)))
          refine go_iconst (q := 144) K at_143 (1 : Int32) rfl rfl ?_
          refine go_goto (q := 148) K at_144 (by decide) rfl ?_
          refine go_istore (q := 150) K at_148 #[.val (.int xx), .val (.int yy), .val (.int zz), .val (.int ww), .val (.int ff), .val (.int m), .val (.int av), .val (.int bv), .val (.int qv), .val (.int (1 : Int32)), .val (.int (1 : Int32)), .val (.ref ah1), .val (.int (av % m)), .val (.int (bv % m)), .val (.int (0 : Int32)), .val (.int (1 : Int32)), .unset, .unset] rfl rfl ?_
          refine go_iload (q := 152) K at_150 rfl rfl ?_
          refine go_if0 (q := 165) (q' := 155) K at_152 (by decide) rfl rfl (fun _ => ?_) (fun hn => cN_no2 hn (show ¬ (1 : Int32) = (0 : Int32) from (by decide)))
          refine go_iconst (q := 166) K at_165 (1 : Int32) rfl rfl ?_
          refine go_goto (q := 170) K at_166 (by decide) rfl ?_
          refine go_istore (q := 172) K at_170 #[.val (.int xx), .val (.int yy), .val (.int zz), .val (.int ww), .val (.int ff), .val (.int m), .val (.int av), .val (.int bv), .val (.int qv), .val (.int (1 : Int32)), .val (.int (1 : Int32)), .val (.ref ah1), .val (.int (av % m)), .val (.int (bv % m)), .val (.int (0 : Int32)), .val (.int (1 : Int32)), .val (.int (1 : Int32)), .unset] rfl rfl ?_
          refine go_iload (q := 174) K at_172 rfl rfl ?_
          refine go_iload (q := 176) K at_174 rfl rfl ?_
          refine go_icmp (q := 194) (q' := 179) K at_176 (by decide) rfl rfl (fun eqa => ?_) (fun eqa => ?_)
          · have eqa : ¬ qv = (av % m) := eqa
            refine go_iload (q := 196) K at_194 rfl rfl ?_
            refine go_iload (q := 198) K at_196 rfl rfl ?_
            refine go_icmp (q := 216) (q' := 201) K at_198 (by decide) rfl rfl (fun eqb => ?_) (fun eqb => ?_)
            · have eqb : ¬ qv = (bv % m) := eqb
              refine go_iconst (q := 217) K at_216 (0 : Int32) rfl rfl ?_
              refine go_istore (q := 219) K at_217 #[.val (.int xx), .val (.int yy), .val (.int zz), .val (.int ww), .val (.int ff), .val (.int m), .val (.int av), .val (.int bv), .val (.int qv), .val (.int (1 : Int32)), .val (.int (1 : Int32)), .val (.ref ah1), .val (.int (av % m)), .val (.int (bv % m)), .val (.int (0 : Int32)), .val (.int (1 : Int32)), .val (.int (1 : Int32)), .val (.int (0 : Int32))] rfl rfl ?_
              refine go_aload (q := 221) K at_219 rfl rfl rfl ?_
              refine go_iload (q := 223) K at_221 rfl rfl ?_
              refine go_callV (q := 226) (W := 0) K (wd hw 170 rfl) (wd hw 171 rfl) (wd hw 172 rfl) (wd hw 140 rfl) (wd hw 3 rfl) (wd hw 141 rfl) (wd hw 87 rfl) rfl q0h6 [(.int qv)] [] (state l Z a0 hw _ _ _ _ _ _ _ n0 q15h6 q17h6 hq.1 (own_setN (own_natne hb_.1 hq.1 (fun z => eqb z.symm)) (own_setN (own_natne ha.1 hq.1 (fun z => eqa z.symm)) (own_setN (own_natne hb_.1 hq.1 (fun z => eqb z.symm)) (own_setN (own_natne ha.1 hq.1 (fun z => eqa z.symm)) (own_K0_at hq.2.1)))))) at_223 (ps := [.int]) (by decide +kernel) rfl rfl rfl (by decide) rfl (by decide) (by decide) (by decide) (by decide) rfl ?_
              rintro _ _ ⟨rfl, rfl⟩
              show Go pP l eE _ sS mM _ bB tT cC n0 _ h6 2 21 (mkF mM 226 #[.val (.int xx), .val (.int yy), .val (.int zz), .val (.int ww), .val (.int ff), .val (.int m), .val (.int av), .val (.int bv), .val (.int qv), .val (.int (1 : Int32)), .val (.int (1 : Int32)), .val (.ref ah1), .val (.int (av % m)), .val (.int (bv % m)), .val (.int (0 : Int32)), .val (.int (1 : Int32)), .val (.int (1 : Int32)), .val (.int (0 : Int32))] [(.int (own_st (-1 : Int32)))])
              refine go_eqI (y := (0 : Int32)) (by decide) ?_
              refine go_iload (q := 228) K at_226 rfl rfl ?_
              refine go_icmp (q := 235) (q' := 231) K at_228 (by decide) rfl rfl (fun hn => cN_no hn (show (0 : Int32) = (0 : Int32) from (by decide))) (fun _ => ?_)
              refine go_iconst (q := 232) K at_231 (1 : Int32) rfl rfl ?_
              refine go_goto (q := 236) K at_232 (by decide) rfl ?_
              refine go_iret K at_236 rfl (Or.inr (Or.inl rfl)) rfl (by decide) (by decide) ?_
              exact rfl
            · have eqb : qv = (bv % m) := eqb
              refine go_iload (q := 203) K at_201 rfl rfl ?_
              refine go_if0 (q := 210) (q' := 206) K at_203 (by decide) rfl rfl (fun hn => cN_no hn (show ¬ (1 : Int32) = (0 : Int32) from (by decide))) (fun _ => ?_)
              refine go_iconst (q := 207) K at_206 (1 : Int32) rfl rfl ?_
              refine go_goto (q := 211) K at_207 (by decide) rfl ?_
              refine go_istore (q := 213) K at_211 #[.val (.int xx), .val (.int yy), .val (.int zz), .val (.int ww), .val (.int ff), .val (.int m), .val (.int av), .val (.int bv), .val (.int qv), .val (.int (1 : Int32)), .val (.int (1 : Int32)), .val (.ref ah1), .val (.int (av % m)), .val (.int (bv % m)), .val (.int (0 : Int32)), .val (.int (1 : Int32)), .val (.int (1 : Int32)), .val (.int (1 : Int32))] rfl rfl ?_
              refine go_goto (q := 219) K at_213 (by decide) rfl ?_
              refine go_aload (q := 221) K at_219 rfl rfl rfl ?_
              refine go_iload (q := 223) K at_221 rfl rfl ?_
              refine go_callV (q := 226) (W := 0) K (wd hw 170 rfl) (wd hw 171 rfl) (wd hw 172 rfl) (wd hw 140 rfl) (wd hw 3 rfl) (wd hw 141 rfl) (wd hw 87 rfl) rfl q0h6 [(.int qv)] [] (state l Z a0 hw _ _ _ _ _ _ _ n0 q15h6 q17h6 hq.1 (by rw [eqb]; exact (own_setA (by simpa [own_K0_len] using hb_.2.1)))) at_223 (ps := [.int]) (by decide +kernel) rfl rfl rfl (by decide) rfl (by decide) (by decide) (by decide) (by decide) rfl ?_
              rintro _ _ ⟨rfl, rfl⟩
              show Go pP l eE _ sS mM _ bB tT cC n0 _ h6 2 21 (mkF mM 226 #[.val (.int xx), .val (.int yy), .val (.int zz), .val (.int ww), .val (.int ff), .val (.int m), .val (.int av), .val (.int bv), .val (.int qv), .val (.int (1 : Int32)), .val (.int (1 : Int32)), .val (.ref ah1), .val (.int (av % m)), .val (.int (bv % m)), .val (.int (0 : Int32)), .val (.int (1 : Int32)), .val (.int (1 : Int32)), .val (.int (1 : Int32))] [(.int (own_st (-2 : Int32)))])
              refine go_eqI (y := (1 : Int32)) (by decide) ?_
              refine go_iload (q := 228) K at_226 rfl rfl ?_
              refine go_icmp (q := 235) (q' := 231) K at_228 (by decide) rfl rfl (fun hn => cN_no hn (show (1 : Int32) = (1 : Int32) from (by decide))) (fun _ => ?_)
              refine go_iconst (q := 232) K at_231 (1 : Int32) rfl rfl ?_
              refine go_goto (q := 236) K at_232 (by decide) rfl ?_
              refine go_iret K at_236 rfl (Or.inr (Or.inl rfl)) rfl (by decide) (by decide) ?_
              exact rfl
          · have eqa : qv = (av % m) := eqa
            refine go_iload (q := 181) K at_179 rfl rfl ?_
            refine go_if0 (q := 188) (q' := 184) K at_181 (by decide) rfl rfl (fun hn => cN_no hn (show ¬ (1 : Int32) = (0 : Int32) from (by decide))) (fun _ => ?_)
            refine go_iconst (q := 185) K at_184 (1 : Int32) rfl rfl ?_
            refine go_goto (q := 189) K at_185 (by decide) rfl ?_
            refine go_istore (q := 191) K at_189 #[.val (.int xx), .val (.int yy), .val (.int zz), .val (.int ww), .val (.int ff), .val (.int m), .val (.int av), .val (.int bv), .val (.int qv), .val (.int (1 : Int32)), .val (.int (1 : Int32)), .val (.ref ah1), .val (.int (av % m)), .val (.int (bv % m)), .val (.int (0 : Int32)), .val (.int (1 : Int32)), .val (.int (1 : Int32)), .val (.int (1 : Int32))] rfl rfl ?_
            refine go_goto (q := 219) K at_191 (by decide) rfl ?_
            refine go_aload (q := 221) K at_219 rfl rfl rfl ?_
            refine go_iload (q := 223) K at_221 rfl rfl ?_
            refine go_callV (q := 226) (W := 0) K (wd hw 170 rfl) (wd hw 171 rfl) (wd hw 172 rfl) (wd hw 140 rfl) (wd hw 3 rfl) (wd hw 141 rfl) (wd hw 87 rfl) rfl q0h6 [(.int qv)] [] (state l Z a0 hw _ _ _ _ _ _ _ n0 q15h6 q17h6 hq.1 (by rw [eqa]; exact (own_setN hab.symm (own_setA (by simpa [own_K0_len] using ha.2.1))))) at_223 (ps := [.int]) (by decide +kernel) rfl rfl rfl (by decide) rfl (by decide) (by decide) (by decide) (by decide) rfl ?_
            rintro _ _ ⟨rfl, rfl⟩
            show Go pP l eE _ sS mM _ bB tT cC n0 _ h6 2 21 (mkF mM 226 #[.val (.int xx), .val (.int yy), .val (.int zz), .val (.int ww), .val (.int ff), .val (.int m), .val (.int av), .val (.int bv), .val (.int qv), .val (.int (1 : Int32)), .val (.int (1 : Int32)), .val (.ref ah1), .val (.int (av % m)), .val (.int (bv % m)), .val (.int (0 : Int32)), .val (.int (1 : Int32)), .val (.int (1 : Int32)), .val (.int (1 : Int32))] [(.int (own_st (-2 : Int32)))])
            refine go_eqI (y := (1 : Int32)) (by decide) ?_
            refine go_iload (q := 228) K at_226 rfl rfl ?_
            refine go_icmp (q := 235) (q' := 231) K at_228 (by decide) rfl rfl (fun hn => cN_no hn (show (1 : Int32) = (1 : Int32) from (by decide))) (fun _ => ?_)
            refine go_iconst (q := 232) K at_231 (1 : Int32) rfl rfl ?_
            refine go_goto (q := 236) K at_232 (by decide) rfl ?_
            refine go_iret K at_236 rfl (Or.inr (Or.inl rfl)) rfl (by decide) (by decide) ?_
            exact rfl
theorem own_fldI {s : State} {args : Array Value} {t : Term} {x : Addr} {C n d : String} {z : Int32} (ht : t.eval args s none [] s = some (.ref x)) (h : (Cond.eq (.field t C n d) (.int z)).value args s none s [] = some true) : Fld s s.heap x C n d (.int z) := by
  obtain ⟨u, y, h1, h2, k1, k2⟩ := cmp_v (Or.inl h)
  cases h2
  obtain ⟨u', rfl⟩ := k2
  have e : u' = z := gotT (Cond.eq_ints h1 (Term.int_eval z)) h
  subst e
  exact Fld.start (by rw [← fld_at ht]; exact h1)
set_option maxRecDepth 65536 in
set_option maxHeartbeats 40000000 in
theorem comes_1 {Post : Tables → Env → Array Value → State → Outcome → State → Prop} (hpost : ∀ tb e args s v u, (limb_1_1.after args s (.returned v) u = true ∧ limb_1_2.after args s (.returned v) u = true ∧ True) → FrameEnd s (.returned v) u (Jvm.fieldLocs frame_1_writes args s ++ Jvm.arrayLocs frame_1_arrays args s ++ Jvm.staticLocs frame_1_statics s) 16 128 → Post tb e args s (.returned v) u) :
    ArmFor flags0 classFile x code maxLocals ret World_1 tables_1 room_1 Calls_1 rest_1 Pre_1 Post := by
  intro l hfl _ _ p e ha hc hk s m args below hf hA hF happ hP
  obtain ⟨hcalls, hrest, hpre⟩ := hP
  obtain ⟨-, -, -, hnamed, -, -, -, hat⟩ := (Spec.applies_iff hf).mp happ
  obtain ⟨hg, hn⟩ := and_e (Cond.before_iff.mp (show (Jvm.Cond.and given_1 narrow_1).before args s = true from hpre))
  obtain ⟨hcnt, hg0⟩ := and_e hg
  obtain ⟨ha0, hg1⟩ := and_e hg0
  obtain ⟨ha1, hg2⟩ := and_e hg1
  obtain ⟨ha2, hg3⟩ := and_e hg2
  obtain ⟨ha3, hg4⟩ := and_e hg3
  have ha4 := hg4
  obtain ⟨w0, w1, w2, w3, w4, rfl⟩ : ∃ w0 w1 w2 w3 w4 : Value, args = #[w0, w1, w2, w3, w4] := by
    have hs : args.size = 5 := by simpa [Cond.value, given_1] using hcnt
    obtain ⟨L⟩ := args
    match L, hs with
    | [w0, w1, w2, w3, w4], _ => exact ⟨w0, w1, w2, w3, w4, rfl⟩
  have hw := fun d (hd : d ∈ tables_1) => atoms_spec (ws := Jvm.Cond.code x code maxLocals ret :: tables_1) hat d (List.mem_cons_of_mem _ hd)
  have hfit : Fit s := fun {y c} hc i hi => by
    obtain ⟨ha, rfl⟩ := Array.getElem?_eq_some_iff.mp hc
    have q := List.all_eq_true.mp ((Array.all_eq_true_iff_forall_mem.mp hF) _ (Array.getElem_mem ha)) i (List.mem_range.mpr hi)
    simpa [Array.getElem?_eq_getElem hi] using q
  obtain ⟨i0, ea0⟩ := is_v ha0
  obtain rfl : w0 = (.int i0) := Option.some.inj ea0
  obtain ⟨i1, ea1⟩ := is_v ha1
  obtain rfl : w1 = (.int i1) := Option.some.inj ea1
  obtain ⟨i2, ea2⟩ := is_v ha2
  obtain rfl : w2 = (.int i2) := Option.some.inj ea2
  obtain ⟨i3, ea3⟩ := is_v ha3
  obtain rfl : w3 = (.int i3) := Option.some.inj ea3
  obtain ⟨i4, ea4⟩ := is_v ha4
  obtain rfl : w4 = (.int i4) := Option.some.inj ea4
  obtain ⟨hn0, hn1⟩ := and_e hn
  obtain ⟨hn2, hn3⟩ := and_e hn1
  obtain ⟨hn4, hn5⟩ := and_e hn3
  obtain ⟨hn6, hn7⟩ := and_e hn5
  obtain ⟨lin, elin⟩ := exa_v hn0
  have Slin : Sta s s.heap "com/example/dispersa/dispersa/internal/ProbeSequence" "LINEAR" "Lcom/example/dispersa/dispersa/internal/ProbeSequence;" (.ref lin) := Sta.start elin (Or.inr ⟨(wd hw 5 rfl), (wd hw 6 rfl)⟩)
  obtain ⟨u, y, hu1, hu2, ku1, ku2⟩ := cmp_v (Or.inl hn7)
  cases hu2
  obtain ⟨u', rfl⟩ := ku2
  obtain rfl : u' = 1 := gotT (Cond.eq_ints hu1 (Term.int_eval 1)) hn7
  have Sad : Sta s s.heap "com/example/dispersa/dispersa/internal/SlotTable" "$assertionsDisabled" "Z" (.int 1) := Sta.start hu1 (Or.inr ⟨(wd hw 13 rfl), (wd hw 200 rfl)⟩)
  obtain ⟨n, o, h1, h2, h3, _, L, rfl, ⟨rfl, N⟩, hq⟩ := law_met l s _ hw i0 i1 i2 i3 i4 lin s.heap s.heap.size (Old.start s) Slin (Exa.start elin hn0) (own_fldI elin hn2) (own_fldI elin hn4) (own_fldI elin hn6) Sad p e ha hc hk s m _ below hf ((Spec.applies_iff_loose hf).mp happ).1 ⟨rfl, State.Warmed39.refl s, rfl⟩ trivial
  refine ⟨n, _, h1, h2, h3, hpost _ _ _ _ _ _ ⟨Cond.after_iff.mpr rfl, Cond.after_iff.mpr (eq_i res_at (Term.int_eval (1)) rfl), trivial⟩ ⟨hq.1, hq.2.1, (hq.2.2.sift fun y hy => Or.inr (N y hy)).mono (by decide) (by decide)⟩⟩
theorem main_1_1 : Claimed_1_1 := comes_1 fun _ _ _ _ _ _ h hF => ⟨h.1, hF⟩
theorem main_1_2 : Claimed_1_2 := comes_1 fun _ _ _ _ _ _ h hF => ⟨h.2.1, hF⟩
end Jvm.Pilot.@@N@@
namespace Jvm.Pilot.@@N@@
open Jvm Jvm.ClassFile Sem Op Lib Jvm.Free Jvm.Stand Jvm.Pilot.@@N@@.Jvm.D
/-! MADE BY PROGRAM (witnessworld.py) out of the Statement's table words and the real class files: 18 classes; the members and pool entries that the words name. The judged class is class 1, her method 1. -/
namespace start1
open Jvm.ClassFile
def u (s : String) : CpInfo := .utf8 (stringToUtf16 s)
/-- a pool by its gaps: so many unusable entries, then the entry; so many at the end -/
def gap : Nat → List CpInfo → List CpInfo
  | 0, r => r
  | n + 1, r => .unusable :: gap n r
def poolList (es : List (Nat × CpInfo)) (last : Nat) : List CpInfo := es.foldr (fun e r => gap e.1 (e.2 :: r)) (gap last [])
def pool (es : List (Nat × CpInfo)) (last : Nat) : Array CpInfo := ⟨poolList es last⟩
def fileOf (pool : Array CpInfo) (this : Nat) (attrs : Array Attribute := #[]) (ms : Array MethodInfo := #[]) (fl : Nat := 33) (sup : Nat := 0) (ifs : Array Nat := #[]) (fds : Array FieldInfo := #[]) : ClassFile where
  minorVersion := 0
  majorVersion := 65
  constantPool := pool
  accessFlags := fl
  thisClass := this
  superClass := sup
  interfaces := ifs
  fields := fds
  methods := ms
  attributes := attrs
def plain (name : String) (sup : Option ClassId) : Class where
  name := name
  kind := .ordinary
  loader := none
  accessFlags := 33
  super := sup
  interfaces := #[]
  cf := none
  fields := #[]
  methods := #[]
  instanceTypes := #[]
  staticTypes := #[]
  resolved := #[]
  callSites := []
  init := .initialized
  statics := none
  mirror := none

def pool0 : Array CpInfo := pool [(5, u "<init>"), (0, u "()V"), (1, .class_ 10), (1, u "java/lang/Object")] 113

def k0c0 : Code := { maxStack := 0, maxLocals := 1, code := object_method_1_code, exceptionTable := #[], attributes := #[] }
def k0m0 : Method := { name := "<init>", desc := "()V", sig := { parameters := [], returnType := none }, accessFlags := 1, code := some k0c0 }
/-- java/lang/Object -/
def k0 : Class := { plain "java/lang/Object" none with
  accessFlags := 33
  interfaces := #[]
  cf := some (fileOf pool0 8 #[] #[{ accessFlags := 1, nameIndex := 5, descriptorIndex := 6, attributes := #[] }] 33 0 #[] #[])
  fields := #[]
  methods := #[k0m0]
  instanceTypes := #[]
  staticTypes := #[]
  resolved := Array.replicate 124 none
  statics := none }

def pool1 : Array CpInfo := pool [(2, .class_ 4), (1, u "java/lang/Object"), (0, u "<init>"), (0, u "()V"), (0, .integer 2147483647), (0, .class_ 9), (0, u "com/example/dispersa/dispersa/internal/LayoutTable"), (0, .fieldref 11 12), (0, .class_ 13), (0, .nameAndType 14 15), (0, u "com/example/dispersa/dispersa/internal/ProbeSequence"), (0, u "LINEAR"), (0, u "Lcom/example/dispersa/dispersa/internal/ProbeSequence;"), (0, .methodref 8 17), (0, .nameAndType 5 18), (0, u "(Lcom/example/dispersa/dispersa/internal/ProbeSequence;I)V"), (0, .methodref 8 20), (0, .nameAndType 21 22), (0, u "put"), (0, u "(I)I"), (0, .methodref 8 24), (0, .nameAndType 25 22), (0, u "remove"), (0, .methodref 8 27), (0, .nameAndType 28 22), (0, u "state"), (0, .class_ 30), (0, u "com/example/dispersa/dispersa/internal/LayoutTableStatePinLaw"), (2, u "law"), (0, u "(IIIII)Z")] 3

def k1m0 : Method := { name := "<init>", desc := "()V", sig := { parameters := [], returnType := none }, accessFlags := 1, code := none }
def k1c1 : Code := { maxStack := 4, maxLocals := 18, code := code, exceptionTable := #[], attributes := #[] }
def k1m1 : Method := { name := "law", desc := "(IIIII)Z", sig := { parameters := [.int, .int, .int, .int, .int], returnType := some .boolean }, accessFlags := 9, code := some k1c1 }
/-- com/example/dispersa/dispersa/internal/LayoutTableStatePinLaw -/
def k1 : Class := { plain "com/example/dispersa/dispersa/internal/LayoutTableStatePinLaw" (some 0) with
  accessFlags := 49
  interfaces := #[]
  cf := some (fileOf pool1 29 #[] #[{ accessFlags := 1, nameIndex := 5, descriptorIndex := 6, attributes := #[] }, { accessFlags := 9, nameIndex := 33, descriptorIndex := 34, attributes := #[] }] 49 2 #[] #[])
  fields := #[]
  methods := #[k1m0, k1m1]
  instanceTypes := #[]
  staticTypes := #[]
  resolved := Array.replicate 38 none
  statics := none }

def pool2 : Array CpInfo := pool [(1, .class_ 2), (0, u "java/lang/Cloneable"), (0, .class_ 4), (0, u "java/lang/Object")] 2

/-- java/lang/Cloneable -/
def k2 : Class := { plain "java/lang/Cloneable" (some 0) with
  accessFlags := 1537
  interfaces := #[]
  cf := some (fileOf pool2 1 #[] #[] 1537 3 #[] #[])
  fields := #[]
  methods := #[]
  instanceTypes := #[]
  staticTypes := #[]
  resolved := Array.replicate 7 none
  statics := none }

def pool3 : Array CpInfo := pool [(1, .class_ 2), (0, u "java/lang/Integer"), (0, .class_ 4), (0, u "com/example/dispersa/dispersa/internal/SlotTable"), (0, .methodref 3 6), (0, .nameAndType 7 8), (0, u "<init>"), (0, u "(Lcom/example/dispersa/dispersa/internal/ProbeSequence;IZZZ)V"), (0, .methodref 10 11), (0, .class_ 12), (0, .nameAndType 7 13), (0, u "java/lang/Object"), (0, u "()V"), (7, .fieldref 3 22), (0, .nameAndType 23 24), (0, u "probing"), (0, u "Lcom/example/dispersa/dispersa/internal/ProbeSequence;"), (0, .fieldref 3 26), (0, .nameAndType 27 28), (0, u "bounded"), (0, u "Z"), (0, .fieldref 3 30), (0, .nameAndType 31 28), (0, u "marksHomes"), (0, .fieldref 3 33), (0, .nameAndType 34 28), (0, u "ordersRuns"), (0, .fieldref 3 36), (0, .nameAndType 37 28), (0, u "counting"), (0, .fieldref 3 39), (0, .nameAndType 40 28), (0, u "stopsAtReach"), (0, .methodref 3 42), (0, .nameAndType 43 44), (0, u "reset"), (0, u "(I)V"), (0, .fieldref 3 46), (0, .nameAndType 47 48), (0, u "length"), (0, u "I"), (0, .fieldref 3 50), (0, .nameAndType 51 48), (0, u "markers"), (0, .fieldref 3 53), (0, .nameAndType 54 55), (0, u "probes"), (0, u "J"), (0, .fieldref 3 57), (0, .nameAndType 58 28), (0, u "goesOn"), (5, .fieldref 3 65), (0, .nameAndType 66 28), (0, u "linear"), (0, .fieldref 3 68), (0, .nameAndType 69 48), (0, u "position"), (0, .fieldref 3 71), (0, .nameAndType 72 48), (0, u "reach"), (3, u "()Z"), (0, .fieldref 78 79), (0, .class_ 80), (0, .nameAndType 81 24), (0, u "com/example/dispersa/dispersa/internal/ProbeSequence"), (0, u "LINEAR"), (0, .methodref 3 83), (0, .nameAndType 84 76), (0, u "computeGoesOn"), (0, .methodref 3 86), (0, .nameAndType 87 88), (0, u "state"), (0, u "(I)I"), (13, u "(II)I"), (0, .methodref 3 104), (0, .nameAndType 105 106), (0, u "home"), (0, u "(J)I"), (0, .methodref 78 108), (0, .nameAndType 109 110), (0, u "step"), (0, u "(JI)I"), (0, .methodref 78 112), (0, .nameAndType 113 114), (0, u "growth"), (0, u "()I"), (0, .methodref 3 116), (0, .nameAndType 117 114), (0, u "compared"), (0, .integer 2147483648), (0, .methodref 3 120), (0, .nameAndType 121 122), (0, u "holds"), (0, u "(IJLjava/lang/Object;Z)Z"), (0, .methodref 3 124), (0, .nameAndType 125 126), (0, u "stop"), (0, u "(III)I"), (0, .methodref 3 128), (0, .nameAndType 129 126), (0, u "advance"), (10, u "(JLjava/lang/Object;)I"), (3, .methodref 3 145), (0, .nameAndType 146 140), (0, u "locateAlong"), (0, .methodref 3 148), (0, .nameAndType 149 150), (0, u "unused"), (0, u "(I)Z"), (0, .fieldref 3 152), (0, .nameAndType 153 48), (0, u "mask"), (0, .methodref 3 155), (0, .nameAndType 156 110), (0, u "homeIn"), (27, .methodref 3 185), (0, .nameAndType 186 187), (0, u "entered"), (0, u "(JI)V"), (36, .methodref 3 225), (0, .nameAndType 226 110), (0, u "homeOf"), (0, .methodref 1 228), (0, .nameAndType 229 102), (0, u "remainderUnsigned"), (0, .fieldref 3 231), (0, .nameAndType 232 28), (0, u "$assertionsDisabled"), (2, .methodref 78 236), (0, .nameAndType 237 150), (0, u "fits"), (10, .methodref 1 249), (0, .nameAndType 250 88), (0, u "bitCount"), (46, .class_ 298), (0, u "java/lang/Cloneable"), (0, u "MAX_LENGTH"), (2, u "FULL"), (0, u "PAST_REACH"), (0, u "UNUSED"), (1, u "MARKER"), (1, u "ENTRY"), (1, u "AT_HOME"), (0, u "NEAR"), (0, u "WITHIN_EIGHT"), (0, u "FAR"), (1, u "REACH_BITS"), (0, u "STRAY_GROUP_SHIFT"), (1, u "PLACES"), (1, u "NEVER_USED"), (0, u "MARKED"), (0, u "(Lcom/example/dispersa/dispersa/internal/ProbeSequence;IZ)V"), (11, u "find"), (0, u "locate"), (11, u "occupy"), (0, u "(IJI)V"), (0, u "vacate")] 29

def k3c0 : Code := { maxStack := 6, maxLocals := 4, code := prog_109_method_1_code, exceptionTable := #[], attributes := #[] }
def k3m0 : Method := { name := "<init>", desc := "(Lcom/example/dispersa/dispersa/internal/ProbeSequence;IZ)V", sig := { parameters := [(.object "com/example/dispersa/dispersa/internal/ProbeSequence"), .int, .boolean], returnType := none }, accessFlags := 0, code := some k3c0 }
def k3c1 : Code := { maxStack := 3, maxLocals := 6, code := prog_109_method_2_code, exceptionTable := #[], attributes := #[] }
def k3m1 : Method := { name := "<init>", desc := "(Lcom/example/dispersa/dispersa/internal/ProbeSequence;IZZZ)V", sig := { parameters := [(.object "com/example/dispersa/dispersa/internal/ProbeSequence"), .int, .boolean, .boolean, .boolean], returnType := none }, accessFlags := 0, code := some k3c1 }
def k3c2 : Code := { maxStack := 1, maxLocals := 1, code := prog_109_method_8_code, exceptionTable := #[], attributes := #[] }
def k3m2 : Method := { name := "position", desc := "()I", sig := { parameters := [], returnType := some .int }, accessFlags := 17, code := some k3c2 }
def k3c3 : Code := { maxStack := 2, maxLocals := 1, code := prog_109_method_16_code, exceptionTable := #[], attributes := #[] }
def k3m3 : Method := { name := "computeGoesOn", desc := "()Z", sig := { parameters := [], returnType := some .boolean }, accessFlags := 2, code := some k3c3 }
def k3m4 : Method := { name := "state", desc := "(I)I", sig := { parameters := [.int], returnType := some .int }, accessFlags := 1024, code := none }
def k3c5 : Code := { maxStack := 2, maxLocals := 2, code := prog_109_method_19_code, exceptionTable := #[], attributes := #[] }
def k3m5 : Method := { name := "unused", desc := "(I)Z", sig := { parameters := [.int], returnType := some .boolean }, accessFlags := 0, code := some k3c5 }
def k3m6 : Method := { name := "holds", desc := "(IJLjava/lang/Object;Z)Z", sig := { parameters := [.int, .long, (.object "java/lang/Object"), .boolean], returnType := some .boolean }, accessFlags := 1024, code := none }
def k3c7 : Code := { maxStack := 6, maxLocals := 13, code := prog_109_method_29_code, exceptionTable := #[], attributes := #[] }
def k3m7 : Method := { name := "find", desc := "(JLjava/lang/Object;)I", sig := { parameters := [.long, (.object "java/lang/Object")], returnType := some .int }, accessFlags := 16, code := some k3c7 }
def k3c8 : Code := { maxStack := 4, maxLocals := 4, code := prog_109_method_30_code, exceptionTable := #[], attributes := #[] }
def k3m8 : Method := { name := "locate", desc := "(JLjava/lang/Object;)I", sig := { parameters := [.long, (.object "java/lang/Object")], returnType := some .int }, accessFlags := 16, code := some k3c8 }
def k3c9 : Code := { maxStack := 6, maxLocals := 10, code := prog_109_method_31_code, exceptionTable := #[], attributes := #[] }
def k3m9 : Method := { name := "locateAlong", desc := "(JLjava/lang/Object;)I", sig := { parameters := [.long, (.object "java/lang/Object")], returnType := some .int }, accessFlags := 2, code := some k3c9 }
def k3c10 : Code := { maxStack := 2, maxLocals := 1, code := prog_109_method_54_code, exceptionTable := #[], attributes := #[] }
def k3m10 : Method := { name := "compared", desc := "()I", sig := { parameters := [], returnType := some .int }, accessFlags := 2, code := some k3c10 }
def k3c11 : Code := { maxStack := 5, maxLocals := 4, code := prog_109_method_55_code, exceptionTable := #[], attributes := #[] }
def k3m11 : Method := { name := "entered", desc := "(JI)V", sig := { parameters := [.long, .int], returnType := none }, accessFlags := 2, code := some k3c11 }
def k3c12 : Code := { maxStack := 3, maxLocals := 3, code := prog_109_method_57_code, exceptionTable := #[], attributes := #[] }
def k3m12 : Method := { name := "home", desc := "(J)I", sig := { parameters := [.long], returnType := some .int }, accessFlags := 16, code := some k3c12 }
def k3c13 : Code := { maxStack := 2, maxLocals := 3, code := prog_109_method_58_code, exceptionTable := #[], attributes := #[] }
def k3m13 : Method := { name := "homeOf", desc := "(JI)I", sig := { parameters := [.long, .int], returnType := some .int }, accessFlags := 8, code := some k3c13 }
def k3c14 : Code := { maxStack := 2, maxLocals := 3, code := prog_109_method_59_code, exceptionTable := #[], attributes := #[] }
def k3m14 : Method := { name := "homeIn", desc := "(JI)I", sig := { parameters := [.long, .int], returnType := some .int }, accessFlags := 8, code := some k3c14 }
def k3c15 : Code := { maxStack := 2, maxLocals := 4, code := prog_109_method_62_code, exceptionTable := #[], attributes := #[] }
def k3m15 : Method := { name := "advance", desc := "(III)I", sig := { parameters := [.int, .int, .int], returnType := some .int }, accessFlags := 10, code := some k3c15 }
def k3c16 : Code := { maxStack := 5, maxLocals := 4, code := prog_109_method_63_code, exceptionTable := #[], attributes := #[] }
def k3m16 : Method := { name := "stop", desc := "(III)I", sig := { parameters := [.int, .int, .int], returnType := some .int }, accessFlags := 2, code := some k3c16 }
def k3c17 : Code := { maxStack := 4, maxLocals := 5, code := prog_109_method_64_code, exceptionTable := #[], attributes := #[] }
def k3m17 : Method := { name := "occupy", desc := "(IJI)V", sig := { parameters := [.int, .long, .int], returnType := none }, accessFlags := 16, code := some k3c17 }
def k3c18 : Code := { maxStack := 3, maxLocals := 2, code := prog_109_method_65_code, exceptionTable := #[], attributes := #[] }
def k3m18 : Method := { name := "vacate", desc := "(I)V", sig := { parameters := [.int], returnType := none }, accessFlags := 16, code := some k3c18 }
def k3c19 : Code := { maxStack := 4, maxLocals := 2, code := prog_109_method_66_code, exceptionTable := #[], attributes := #[] }
def k3m19 : Method := { name := "reset", desc := "(I)V", sig := { parameters := [.int], returnType := none }, accessFlags := 16, code := some k3c19 }
/-- com/example/dispersa/dispersa/internal/SlotTable -/
def k3 : Class := { plain "com/example/dispersa/dispersa/internal/SlotTable" (some 0) with
  accessFlags := 1057
  interfaces := #[2]
  cf := some (fileOf pool3 3 #[] #[{ accessFlags := 0, nameIndex := 7, descriptorIndex := 322, attributes := #[] }, { accessFlags := 0, nameIndex := 7, descriptorIndex := 8, attributes := #[] }, { accessFlags := 17, nameIndex := 69, descriptorIndex := 114, attributes := #[] }, { accessFlags := 2, nameIndex := 84, descriptorIndex := 76, attributes := #[] }, { accessFlags := 1024, nameIndex := 87, descriptorIndex := 88, attributes := #[] }, { accessFlags := 0, nameIndex := 149, descriptorIndex := 150, attributes := #[] }, { accessFlags := 1024, nameIndex := 121, descriptorIndex := 122, attributes := #[] }, { accessFlags := 16, nameIndex := 334, descriptorIndex := 140, attributes := #[] }, { accessFlags := 16, nameIndex := 335, descriptorIndex := 140, attributes := #[] }, { accessFlags := 2, nameIndex := 146, descriptorIndex := 140, attributes := #[] }, { accessFlags := 2, nameIndex := 117, descriptorIndex := 114, attributes := #[] }, { accessFlags := 2, nameIndex := 186, descriptorIndex := 187, attributes := #[] }, { accessFlags := 16, nameIndex := 105, descriptorIndex := 106, attributes := #[] }, { accessFlags := 8, nameIndex := 226, descriptorIndex := 110, attributes := #[] }, { accessFlags := 8, nameIndex := 156, descriptorIndex := 110, attributes := #[] }, { accessFlags := 10, nameIndex := 129, descriptorIndex := 126, attributes := #[] }, { accessFlags := 2, nameIndex := 125, descriptorIndex := 126, attributes := #[] }, { accessFlags := 16, nameIndex := 347, descriptorIndex := 348, attributes := #[] }, { accessFlags := 16, nameIndex := 349, descriptorIndex := 44, attributes := #[] }, { accessFlags := 16, nameIndex := 43, descriptorIndex := 44, attributes := #[] }] 1057 10 #[297] #[{ accessFlags := 25, nameIndex := 299, descriptorIndex := 48, attributes := #[] }, { accessFlags := 24, nameIndex := 302, descriptorIndex := 48, attributes := #[] }, { accessFlags := 24, nameIndex := 303, descriptorIndex := 48, attributes := #[] }, { accessFlags := 24, nameIndex := 304, descriptorIndex := 48, attributes := #[] }, { accessFlags := 24, nameIndex := 306, descriptorIndex := 48, attributes := #[] }, { accessFlags := 24, nameIndex := 308, descriptorIndex := 48, attributes := #[] }, { accessFlags := 24, nameIndex := 310, descriptorIndex := 48, attributes := #[] }, { accessFlags := 24, nameIndex := 311, descriptorIndex := 48, attributes := #[] }, { accessFlags := 24, nameIndex := 312, descriptorIndex := 48, attributes := #[] }, { accessFlags := 24, nameIndex := 313, descriptorIndex := 48, attributes := #[] }, { accessFlags := 24, nameIndex := 315, descriptorIndex := 48, attributes := #[] }, { accessFlags := 24, nameIndex := 316, descriptorIndex := 48, attributes := #[] }, { accessFlags := 26, nameIndex := 318, descriptorIndex := 48, attributes := #[] }, { accessFlags := 24, nameIndex := 320, descriptorIndex := 48, attributes := #[] }, { accessFlags := 24, nameIndex := 321, descriptorIndex := 48, attributes := #[] }, { accessFlags := 18, nameIndex := 23, descriptorIndex := 24, attributes := #[] }, { accessFlags := 18, nameIndex := 27, descriptorIndex := 28, attributes := #[] }, { accessFlags := 2, nameIndex := 37, descriptorIndex := 28, attributes := #[] }, { accessFlags := 2, nameIndex := 47, descriptorIndex := 48, attributes := #[] }, { accessFlags := 2, nameIndex := 153, descriptorIndex := 48, attributes := #[] }, { accessFlags := 2, nameIndex := 66, descriptorIndex := 28, attributes := #[] }, { accessFlags := 2, nameIndex := 40, descriptorIndex := 28, attributes := #[] }, { accessFlags := 2, nameIndex := 58, descriptorIndex := 28, attributes := #[] }, { accessFlags := 2, nameIndex := 51, descriptorIndex := 48, attributes := #[] }, { accessFlags := 2, nameIndex := 54, descriptorIndex := 55, attributes := #[] }, { accessFlags := 2, nameIndex := 69, descriptorIndex := 48, attributes := #[] }, { accessFlags := 2, nameIndex := 72, descriptorIndex := 48, attributes := #[] }, { accessFlags := 18, nameIndex := 34, descriptorIndex := 28, attributes := #[] }, { accessFlags := 18, nameIndex := 31, descriptorIndex := 28, attributes := #[] }, { accessFlags := 4120, nameIndex := 232, descriptorIndex := 28, attributes := #[] }])
  fields := #[{ name := "MAX_LENGTH", type := .int, accessFlags := 25, slot := 0, constantValue := 0 }, { name := "FULL", type := .int, accessFlags := 24, slot := 1, constantValue := 0 }, { name := "PAST_REACH", type := .int, accessFlags := 24, slot := 2, constantValue := 0 }, { name := "UNUSED", type := .int, accessFlags := 24, slot := 3, constantValue := 0 }, { name := "MARKER", type := .int, accessFlags := 24, slot := 4, constantValue := 0 }, { name := "ENTRY", type := .int, accessFlags := 24, slot := 5, constantValue := 0 }, { name := "AT_HOME", type := .int, accessFlags := 24, slot := 6, constantValue := 0 }, { name := "NEAR", type := .int, accessFlags := 24, slot := 7, constantValue := 0 }, { name := "WITHIN_EIGHT", type := .int, accessFlags := 24, slot := 8, constantValue := 0 }, { name := "FAR", type := .int, accessFlags := 24, slot := 9, constantValue := 0 }, { name := "REACH_BITS", type := .int, accessFlags := 24, slot := 10, constantValue := 0 }, { name := "STRAY_GROUP_SHIFT", type := .int, accessFlags := 24, slot := 11, constantValue := 0 }, { name := "PLACES", type := .int, accessFlags := 26, slot := 12, constantValue := 0 }, { name := "NEVER_USED", type := .int, accessFlags := 24, slot := 13, constantValue := 0 }, { name := "MARKED", type := .int, accessFlags := 24, slot := 14, constantValue := 0 }, { name := "probing", type := (.object "com/example/dispersa/dispersa/internal/ProbeSequence"), accessFlags := 18, slot := 0, constantValue := 0 }, { name := "bounded", type := .boolean, accessFlags := 18, slot := 1, constantValue := 0 }, { name := "counting", type := .boolean, accessFlags := 2, slot := 2, constantValue := 0 }, { name := "length", type := .int, accessFlags := 2, slot := 3, constantValue := 0 }, { name := "mask", type := .int, accessFlags := 2, slot := 4, constantValue := 0 }, { name := "linear", type := .boolean, accessFlags := 2, slot := 5, constantValue := 0 }, { name := "stopsAtReach", type := .boolean, accessFlags := 2, slot := 6, constantValue := 0 }, { name := "goesOn", type := .boolean, accessFlags := 2, slot := 7, constantValue := 0 }, { name := "markers", type := .int, accessFlags := 2, slot := 8, constantValue := 0 }, { name := "probes", type := .long, accessFlags := 2, slot := 9, constantValue := 0 }, { name := "position", type := .int, accessFlags := 2, slot := 10, constantValue := 0 }, { name := "reach", type := .int, accessFlags := 2, slot := 11, constantValue := 0 }, { name := "ordersRuns", type := .boolean, accessFlags := 18, slot := 12, constantValue := 0 }, { name := "marksHomes", type := .boolean, accessFlags := 18, slot := 13, constantValue := 0 }, { name := "$assertionsDisabled", type := .boolean, accessFlags := 4120, slot := 15, constantValue := 0 }]
  methods := #[k3m0, k3m1, k3m2, k3m3, k3m4, k3m5, k3m6, k3m7, k3m8, k3m9, k3m10, k3m11, k3m12, k3m13, k3m14, k3m15, k3m16, k3m17, k3m18, k3m19]
  instanceTypes := #[(.object "com/example/dispersa/dispersa/internal/ProbeSequence"), .boolean, .boolean, .int, .int, .boolean, .boolean, .boolean, .int, .long, .int, .int, .boolean, .boolean]
  staticTypes := #[.int, .int, .int, .int, .int, .int, .int, .int, .int, .int, .int, .int, .int, .int, .int, .boolean]
  resolved := Array.replicate 379 none
  statics := some 0 }

def pool4 : Array CpInfo := pool [(1, .methodref 2 3), (0, .class_ 4), (0, .nameAndType 5 6), (0, u "com/example/dispersa/dispersa/internal/SlotTable"), (0, u "<init>"), (0, u "(Lcom/example/dispersa/dispersa/internal/ProbeSequence;IZ)V"), (0, .fieldref 8 9), (0, .class_ 10), (0, .nameAndType 11 12), (0, u "com/example/dispersa/dispersa/internal/LayoutTable"), (0, u "keys"), (0, u "[I"), (0, .methodref 14 15), (0, .class_ 16), (0, .nameAndType 17 18), (0, u "java/util/Arrays"), (0, u "fill"), (0, u "([II)V"), (0, .methodref 8 20), (0, .nameAndType 21 22), (0, u "hashOf"), (0, u "(I)J"), (0, .methodref 8 24), (0, .nameAndType 25 26), (0, u "find"), (0, u "(JLjava/lang/Object;)I"), (0, .integer 2147483648), (0, .fieldref 8 29), (0, .nameAndType 30 31), (0, u "turnedAway"), (0, u "Z"), (0, .methodref 8 33), (0, .nameAndType 34 35), (0, u "position"), (0, u "()I"), (0, .methodref 8 37), (0, .nameAndType 38 39), (0, u "occupy"), (0, u "(IJI)V"), (0, .methodref 8 41), (0, .nameAndType 42 43), (0, u "search"), (0, u "(I)I"), (0, .methodref 8 45), (0, .nameAndType 46 47), (0, u "vacate"), (0, u "(I)V"), (0, .methodref 8 49), (0, .nameAndType 50 26), (0, u "locate"), (0, u "UNUSED_SLOT"), (0, u "I"), (2, u "REMOVED"), (1, u "(Lcom/example/dispersa/dispersa/internal/ProbeSequence;I)V"), (2, u "put"), (1, u "remove"), (2, u "state"), (0, u "holds"), (0, u "(IJLjava/lang/Object;Z)Z")] 2

def k4c0 : Code := { maxStack := 4, maxLocals := 3, code := prog_86_method_1_code, exceptionTable := #[], attributes := #[] }
def k4m0 : Method := { name := "<init>", desc := "(Lcom/example/dispersa/dispersa/internal/ProbeSequence;I)V", sig := { parameters := [(.object "com/example/dispersa/dispersa/internal/ProbeSequence"), .int], returnType := none }, accessFlags := 1, code := some k4c0 }
def k4c1 : Code := { maxStack := 5, maxLocals := 5, code := prog_86_method_2_code, exceptionTable := #[], attributes := #[] }
def k4m1 : Method := { name := "put", desc := "(I)I", sig := { parameters := [.int], returnType := some .int }, accessFlags := 1, code := some k4c1 }
def k4c2 : Code := { maxStack := 3, maxLocals := 3, code := prog_86_method_3_code, exceptionTable := #[], attributes := #[] }
def k4m2 : Method := { name := "remove", desc := "(I)I", sig := { parameters := [.int], returnType := some .int }, accessFlags := 1, code := some k4c2 }
def k4c3 : Code := { maxStack := 4, maxLocals := 3, code := prog_86_method_4_code, exceptionTable := #[], attributes := #[] }
def k4m3 : Method := { name := "search", desc := "(I)I", sig := { parameters := [.int], returnType := some .int }, accessFlags := 1, code := some k4c3 }
def k4c4 : Code := { maxStack := 2, maxLocals := 2, code := prog_86_method_7_code, exceptionTable := #[], attributes := #[] }
def k4m4 : Method := { name := "state", desc := "(I)I", sig := { parameters := [.int], returnType := some .int }, accessFlags := 0, code := some k4c4 }
def k4c5 : Code := { maxStack := 3, maxLocals := 6, code := prog_86_method_8_code, exceptionTable := #[], attributes := #[] }
def k4m5 : Method := { name := "holds", desc := "(IJLjava/lang/Object;Z)Z", sig := { parameters := [.int, .long, (.object "java/lang/Object"), .boolean], returnType := some .boolean }, accessFlags := 0, code := some k4c5 }
def k4c6 : Code := { maxStack := 4, maxLocals := 1, code := prog_86_method_9_code, exceptionTable := #[], attributes := #[] }
def k4m6 : Method := { name := "hashOf", desc := "(I)J", sig := { parameters := [.int], returnType := some .long }, accessFlags := 10, code := some k4c6 }
/-- com/example/dispersa/dispersa/internal/LayoutTable -/
def k4 : Class := { plain "com/example/dispersa/dispersa/internal/LayoutTable" (some 3) with
  accessFlags := 49
  interfaces := #[]
  cf := some (fileOf pool4 8 #[] #[{ accessFlags := 1, nameIndex := 5, descriptorIndex := 57, attributes := #[] }, { accessFlags := 1, nameIndex := 60, descriptorIndex := 43, attributes := #[] }, { accessFlags := 1, nameIndex := 62, descriptorIndex := 43, attributes := #[] }, { accessFlags := 1, nameIndex := 42, descriptorIndex := 43, attributes := #[] }, { accessFlags := 0, nameIndex := 65, descriptorIndex := 43, attributes := #[] }, { accessFlags := 0, nameIndex := 66, descriptorIndex := 67, attributes := #[] }, { accessFlags := 10, nameIndex := 21, descriptorIndex := 22, attributes := #[] }] 49 2 #[] #[{ accessFlags := 25, nameIndex := 51, descriptorIndex := 52, attributes := #[] }, { accessFlags := 25, nameIndex := 55, descriptorIndex := 52, attributes := #[] }, { accessFlags := 18, nameIndex := 11, descriptorIndex := 12, attributes := #[] }, { accessFlags := 2, nameIndex := 30, descriptorIndex := 31, attributes := #[] }])
  fields := #[{ name := "UNUSED_SLOT", type := .int, accessFlags := 25, slot := 0, constantValue := 0 }, { name := "REMOVED", type := .int, accessFlags := 25, slot := 1, constantValue := 0 }, { name := "keys", type := (.array .int), accessFlags := 18, slot := 14, constantValue := 0 }, { name := "turnedAway", type := .boolean, accessFlags := 2, slot := 15, constantValue := 0 }]
  methods := #[k4m0, k4m1, k4m2, k4m3, k4m4, k4m5, k4m6]
  instanceTypes := #[(.object "com/example/dispersa/dispersa/internal/ProbeSequence"), .boolean, .boolean, .int, .int, .boolean, .boolean, .boolean, .int, .long, .int, .int, .boolean, .boolean, (.array .int), .boolean]
  staticTypes := #[.int, .int]
  resolved := Array.replicate 70 none
  statics := none }

def pool5 : Array CpInfo := pool [(1, .class_ 2), (0, u "java/lang/constant/Constable"), (0, .class_ 4), (0, u "java/lang/Object")] 6

/-- java/lang/constant/Constable -/
def k5 : Class := { plain "java/lang/constant/Constable" (some 0) with
  accessFlags := 1537
  interfaces := #[]
  cf := some (fileOf pool5 1 #[] #[] 1537 3 #[] #[])
  fields := #[]
  methods := #[]
  instanceTypes := #[]
  staticTypes := #[]
  resolved := Array.replicate 11 none
  statics := none }

def pool6 : Array CpInfo := pool [(1, .class_ 2), (0, u "java/lang/Comparable"), (0, .class_ 4), (0, u "java/lang/Object")] 7

/-- java/lang/Comparable -/
def k6 : Class := { plain "java/lang/Comparable" (some 0) with
  accessFlags := 1537
  interfaces := #[]
  cf := some (fileOf pool6 1 #[] #[] 1537 3 #[] #[])
  fields := #[]
  methods := #[]
  instanceTypes := #[]
  staticTypes := #[]
  resolved := Array.replicate 12 none
  statics := none }

def pool7 : Array CpInfo := pool [(1, .class_ 2), (0, u "java/io/Serializable"), (0, .class_ 4), (0, u "java/lang/Object")] 2

/-- java/io/Serializable -/
def k7 : Class := { plain "java/io/Serializable" (some 0) with
  accessFlags := 1537
  interfaces := #[]
  cf := some (fileOf pool7 1 #[] #[] 1537 3 #[] #[])
  fields := #[]
  methods := #[]
  instanceTypes := #[]
  staticTypes := #[]
  resolved := Array.replicate 7 none
  statics := none }

def pool8 : Array CpInfo := pool [(2, .class_ 4), (1, u "java/lang/Enum"), (0, u "name"), (0, u "Ljava/lang/String;"), (0, .fieldref 2 8), (0, .nameAndType 9 10), (0, u "ordinal"), (0, u "I"), (1, .class_ 14), (1, u "java/lang/Object"), (4, u "hash"), (86, .class_ 108), (1, u "java/lang/Enum$EnumDesc"), (2, .class_ 112), (0, u "java/lang/constant/Constable"), (0, .class_ 114), (0, u "java/lang/Comparable"), (0, .class_ 116), (0, u "java/io/Serializable"), (9, u "()I")] 77

def k8c0 : Code := { maxStack := 1, maxLocals := 1, code := jdk_37_method_2_code, exceptionTable := #[], attributes := #[] }
def k8m0 : Method := { name := "ordinal", desc := "()I", sig := { parameters := [], returnType := some .int }, accessFlags := 17, code := some k8c0 }
/-- java/lang/Enum -/
def k8 : Class := { plain "java/lang/Enum" (some 0) with
  accessFlags := 1057
  interfaces := #[5, 6, 7]
  cf := some (fileOf pool8 2 #[.nestMembers #[106]] #[{ accessFlags := 17, nameIndex := 9, descriptorIndex := 126, attributes := #[] }] 1057 12 #[111, 113, 115] #[{ accessFlags := 18, nameIndex := 5, descriptorIndex := 6, attributes := #[] }, { accessFlags := 18, nameIndex := 9, descriptorIndex := 10, attributes := #[] }, { accessFlags := 2, nameIndex := 19, descriptorIndex := 10, attributes := #[] }])
  fields := #[{ name := "name", type := (.object "java/lang/String"), accessFlags := 18, slot := 0, constantValue := 0 }, { name := "ordinal", type := .int, accessFlags := 18, slot := 1, constantValue := 0 }, { name := "hash", type := .int, accessFlags := 2, slot := 2, constantValue := 0 }]
  methods := #[k8m0]
  instanceTypes := #[(.object "java/lang/String"), .int, .int]
  staticTypes := #[]
  resolved := Array.replicate 204 none
  statics := none }

def pool9 : Array CpInfo := pool [(1, .class_ 2), (0, u "com/example/dispersa/dispersa/internal/ProbeSequence"), (2, u "LINEAR"), (0, u "Lcom/example/dispersa/dispersa/internal/ProbeSequence;"), (2, u "QUADRATIC"), (2, u "DOUBLE"), (2, u "$VALUES"), (0, u "[Lcom/example/dispersa/dispersa/internal/ProbeSequence;"), (6, .class_ 25), (1, u "java/lang/Enum"), (6, .fieldref 1 33), (0, .nameAndType 34 35), (0, u "growth"), (0, u "I"), (0, .fieldref 1 37), (0, .nameAndType 38 39), (0, u "hashedStep"), (0, u "Z"), (0, .methodref 41 42), (0, .class_ 43), (0, .nameAndType 44 45), (0, u "java/lang/Integer"), (0, u "remainderUnsigned"), (0, u "(II)I"), (2, .integer 1073741824), (0, .methodref 1 50), (0, .nameAndType 51 52), (0, u "ordinal"), (0, u "()I"), (8, u "(I)Z"), (17, u "step"), (0, u "(JI)I"), (1, u "fits")] 5

def k9c0 : Code := { maxStack := 4, maxLocals := 4, code := prog_99_method_4_code, exceptionTable := #[], attributes := #[] }
def k9m0 : Method := { name := "step", desc := "(JI)I", sig := { parameters := [.long, .int], returnType := some .int }, accessFlags := 0, code := some k9c0 }
def k9c1 : Code := { maxStack := 1, maxLocals := 1, code := prog_99_method_5_code, exceptionTable := #[], attributes := #[] }
def k9m1 : Method := { name := "growth", desc := "()I", sig := { parameters := [], returnType := some .int }, accessFlags := 0, code := some k9c1 }
def k9c2 : Code := { maxStack := 4, maxLocals := 2, code := prog_99_method_6_code, exceptionTable := #[], attributes := #[] }
def k9m2 : Method := { name := "fits", desc := "(I)Z", sig := { parameters := [.int], returnType := some .boolean }, accessFlags := 1, code := some k9c2 }
/-- com/example/dispersa/dispersa/internal/ProbeSequence -/
def k9 : Class := { plain "com/example/dispersa/dispersa/internal/ProbeSequence" (some 8) with
  accessFlags := 16433
  interfaces := #[]
  cf := some (fileOf pool9 1 #[] #[{ accessFlags := 0, nameIndex := 79, descriptorIndex := 80, attributes := #[] }, { accessFlags := 0, nameIndex := 34, descriptorIndex := 52, attributes := #[] }, { accessFlags := 1, nameIndex := 82, descriptorIndex := 61, attributes := #[] }] 16433 23 #[] #[{ accessFlags := 16409, nameIndex := 5, descriptorIndex := 6, attributes := #[] }, { accessFlags := 16409, nameIndex := 9, descriptorIndex := 6, attributes := #[] }, { accessFlags := 16409, nameIndex := 12, descriptorIndex := 6, attributes := #[] }, { accessFlags := 18, nameIndex := 34, descriptorIndex := 35, attributes := #[] }, { accessFlags := 18, nameIndex := 38, descriptorIndex := 39, attributes := #[] }, { accessFlags := 4122, nameIndex := 15, descriptorIndex := 16, attributes := #[] }])
  fields := #[{ name := "LINEAR", type := (.object "com/example/dispersa/dispersa/internal/ProbeSequence"), accessFlags := 16409, slot := 0, constantValue := 0 }, { name := "QUADRATIC", type := (.object "com/example/dispersa/dispersa/internal/ProbeSequence"), accessFlags := 16409, slot := 1, constantValue := 0 }, { name := "DOUBLE", type := (.object "com/example/dispersa/dispersa/internal/ProbeSequence"), accessFlags := 16409, slot := 2, constantValue := 0 }, { name := "growth", type := .int, accessFlags := 18, slot := 3, constantValue := 0 }, { name := "hashedStep", type := .boolean, accessFlags := 18, slot := 4, constantValue := 0 }, { name := "$VALUES", type := (.array (.object "com/example/dispersa/dispersa/internal/ProbeSequence")), accessFlags := 4122, slot := 3, constantValue := 0 }]
  methods := #[k9m0, k9m1, k9m2]
  instanceTypes := #[(.object "java/lang/String"), .int, .int, .int, .boolean]
  staticTypes := #[(.object "com/example/dispersa/dispersa/internal/ProbeSequence"), (.object "com/example/dispersa/dispersa/internal/ProbeSequence"), (.object "com/example/dispersa/dispersa/internal/ProbeSequence"), (.array (.object "com/example/dispersa/dispersa/internal/ProbeSequence"))]
  resolved := Array.replicate 88 none
  statics := some 1 }

def pool10 : Array CpInfo := pool [(2, .class_ 4), (1, u "java/lang/Object"), (0, u "<init>"), (0, u "()V"), (1, .class_ 10), (1, u "java/lang/Number"), (2, .class_ 14), (0, u "java/io/Serializable"), (0, u "serialVersionUID"), (0, u "J")] 20

def k10m0 : Method := { name := "<init>", desc := "()V", sig := { parameters := [], returnType := none }, accessFlags := 1, code := none }
/-- java/lang/Number -/
def k10 : Class := { plain "java/lang/Number" (some 0) with
  accessFlags := 1057
  interfaces := #[7]
  cf := some (fileOf pool10 8 #[] #[{ accessFlags := 1, nameIndex := 5, descriptorIndex := 6, attributes := #[] }] 1057 2 #[13] #[{ accessFlags := 26, nameIndex := 15, descriptorIndex := 16, attributes := #[] }])
  fields := #[{ name := "serialVersionUID", type := .long, accessFlags := 26, slot := 0, constantValue := 0 }]
  methods := #[k10m0]
  instanceTypes := #[]
  staticTypes := #[.long]
  resolved := Array.replicate 37 none
  statics := none }

def pool11 : Array CpInfo := pool [(1, .class_ 2), (0, u "java/lang/constant/ConstantDesc"), (0, .class_ 4), (0, u "java/lang/Object")] 32

/-- java/lang/constant/ConstantDesc -/
def k11 : Class := { plain "java/lang/constant/ConstantDesc" (some 0) with
  accessFlags := 1537
  interfaces := #[]
  cf := some (fileOf pool11 1 #[] #[] 1537 3 #[] #[])
  fields := #[]
  methods := #[]
  instanceTypes := #[]
  staticTypes := #[]
  resolved := Array.replicate 37 none
  statics := none }

def pool12 : Array CpInfo := pool [(1, .class_ 2), (0, u "java/lang/Integer"), (16, u "digits"), (0, u "[C"), (17, .methodref 1 39), (0, .nameAndType 40 41), (0, u "toUnsignedLong"), (0, u "(I)J"), (12, u "(I)I"), (5, u "(II)I"), (24, u "DigitOnes"), (0, u "[B"), (2, u "DigitTens"), (99, .class_ 190), (0, u "java/lang/Integer$IntegerCache"), (3, u "I"), (8, .class_ 204), (0, u "java/lang/Number"), (2, u "value"), (54, .long 4294967295), (2, .integer 1431655765), (0, .integer 858993459), (0, .integer 252645135), (34, u "TYPE"), (0, u "Ljava/lang/Class;"), (0, .class_ 305), (0, u "java/lang/Comparable"), (0, .class_ 307), (0, u "java/lang/constant/Constable"), (0, .class_ 309), (0, u "java/lang/constant/ConstantDesc"), (0, u "MIN_VALUE"), (1, u "MAX_VALUE"), (3, u "SIZE"), (1, u "BYTES"), (1, u "serialVersionUID"), (0, u "J"), (80, u "remainderUnsigned"), (4, u "bitCount")] 45

def k12c0 : Code := { maxStack := 4, maxLocals := 1, code := jdk_33_method_42_code, exceptionTable := #[], attributes := #[] }
def k12m0 : Method := { name := "toUnsignedLong", desc := "(I)J", sig := { parameters := [.int], returnType := some .long }, accessFlags := 9, code := some k12c0 }
def k12c1 : Code := { maxStack := 4, maxLocals := 2, code := jdk_33_method_44_code, exceptionTable := #[], attributes := #[] }
def k12m1 : Method := { name := "remainderUnsigned", desc := "(II)I", sig := { parameters := [.int, .int], returnType := some .int }, accessFlags := 9, code := some k12c1 }
def k12c2 : Code := { maxStack := 3, maxLocals := 1, code := jdk_33_method_49_code, exceptionTable := #[], attributes := #[] }
def k12m2 : Method := { name := "bitCount", desc := "(I)I", sig := { parameters := [.int], returnType := some .int }, accessFlags := 9, code := some k12c2 }
/-- java/lang/Integer -/
def k12 : Class := { plain "java/lang/Integer" (some 10) with
  accessFlags := 49
  interfaces := #[6, 5, 11]
  cf := some (fileOf pool12 1 #[.nestMembers #[189]] #[{ accessFlags := 9, nameIndex := 40, descriptorIndex := 41, attributes := #[] }, { accessFlags := 9, nameIndex := 402, descriptorIndex := 60, attributes := #[] }, { accessFlags := 9, nameIndex := 407, descriptorIndex := 54, attributes := #[] }] 49 203 #[304, 306, 308] #[{ accessFlags := 25, nameIndex := 310, descriptorIndex := 194, attributes := #[] }, { accessFlags := 25, nameIndex := 312, descriptorIndex := 194, attributes := #[] }, { accessFlags := 25, nameIndex := 302, descriptorIndex := 303, attributes := #[] }, { accessFlags := 24, nameIndex := 19, descriptorIndex := 20, attributes := #[] }, { accessFlags := 24, nameIndex := 89, descriptorIndex := 86, attributes := #[] }, { accessFlags := 24, nameIndex := 85, descriptorIndex := 86, attributes := #[] }, { accessFlags := 18, nameIndex := 207, descriptorIndex := 194, attributes := #[] }, { accessFlags := 25, nameIndex := 316, descriptorIndex := 194, attributes := #[] }, { accessFlags := 25, nameIndex := 318, descriptorIndex := 194, attributes := #[] }, { accessFlags := 26, nameIndex := 320, descriptorIndex := 321, attributes := #[] }])
  fields := #[{ name := "MIN_VALUE", type := .int, accessFlags := 25, slot := 0, constantValue := 0 }, { name := "MAX_VALUE", type := .int, accessFlags := 25, slot := 1, constantValue := 0 }, { name := "TYPE", type := (.object "java/lang/Class"), accessFlags := 25, slot := 2, constantValue := 0 }, { name := "digits", type := (.array .char), accessFlags := 24, slot := 3, constantValue := 0 }, { name := "DigitTens", type := (.array .byte), accessFlags := 24, slot := 4, constantValue := 0 }, { name := "DigitOnes", type := (.array .byte), accessFlags := 24, slot := 5, constantValue := 0 }, { name := "value", type := .int, accessFlags := 18, slot := 0, constantValue := 0 }, { name := "SIZE", type := .int, accessFlags := 25, slot := 6, constantValue := 0 }, { name := "BYTES", type := .int, accessFlags := 25, slot := 7, constantValue := 0 }, { name := "serialVersionUID", type := .long, accessFlags := 26, slot := 8, constantValue := 0 }]
  methods := #[k12m0, k12m1, k12m2]
  instanceTypes := #[.int]
  staticTypes := #[.int, .int, (.object "java/lang/Class"), (.array .char), (.array .byte), (.array .byte), .int, .int, .long]
  resolved := Array.replicate 453 none
  statics := none }

def pool13 : Array CpInfo := pool [(2, .class_ 4), (1, u "java/lang/Object"), (0, u "<init>"), (0, u "()V"), (7, .class_ 16), (1, u "java/util/Arrays"), (57, .class_ 76), (1, u "java/util/Arrays$NaturalOrder"), (36, .class_ 115), (1, u "java/util/Arrays$LegacyMergeSort"), (1, u "Z"), (257, .class_ 376), (0, u "java/util/Arrays$ArrayList"), (68, u "$assertionsDisabled"), (269, u "MIN_ARRAY_SORT_GRAN"), (0, u "I"), (2, u "INSERTIONSORT_THRESHOLD"), (120, u "fill"), (4, u "([II)V"), (129, .class_ 976), (0, u "java/util/Arrays$ArrayItr")] 52

def k13m0 : Method := { name := "<init>", desc := "()V", sig := { parameters := [], returnType := none }, accessFlags := 2, code := none }
def k13c1 : Code := { maxStack := 3, maxLocals := 4, code := jdk_65_method_103_code, exceptionTable := #[], attributes := #[] }
def k13m1 : Method := { name := "fill", desc := "([II)V", sig := { parameters := [(.array .int), .int], returnType := none }, accessFlags := 9, code := some k13c1 }
/-- java/util/Arrays -/
def k13 : Class := { plain "java/util/Arrays" (some 0) with
  accessFlags := 49
  interfaces := #[]
  cf := some (fileOf pool13 14 #[.nestMembers #[975, 375, 113, 74]] #[{ accessFlags := 2, nameIndex := 5, descriptorIndex := 6, attributes := #[] }, { accessFlags := 9, nameIndex := 840, descriptorIndex := 845, attributes := #[] }] 49 2 #[] #[{ accessFlags := 26, nameIndex := 715, descriptorIndex := 716, attributes := #[] }, { accessFlags := 26, nameIndex := 719, descriptorIndex := 716, attributes := #[] }, { accessFlags := 4120, nameIndex := 445, descriptorIndex := 117, attributes := #[] }])
  fields := #[{ name := "MIN_ARRAY_SORT_GRAN", type := .int, accessFlags := 26, slot := 0, constantValue := 0 }, { name := "INSERTIONSORT_THRESHOLD", type := .int, accessFlags := 26, slot := 1, constantValue := 0 }, { name := "$assertionsDisabled", type := .boolean, accessFlags := 4120, slot := 2, constantValue := 0 }]
  methods := #[k13m0, k13m1]
  instanceTypes := #[]
  staticTypes := #[.int, .int, .boolean]
  resolved := Array.replicate 1029 none
  statics := none }

/-- the primitive byte -/
def k14 : Class := { plain "byte" none with kind := .primitive 'B', accessFlags := 0x411 }
/-- [B -/
def k15 : Class := { plain "[B" (some 0) with kind := .array 14 .byte, interfaces := #[2, 7], accessFlags := 1041 }

/-- the primitive int -/
def k16 : Class := { plain "int" none with kind := .primitive 'I', accessFlags := 0x411 }
/-- [I -/
def k17 : Class := { plain "[I" (some 0) with kind := .array 16 .int, interfaces := #[2, 7], accessFlags := 1041 }

def heap : Heap := #[{ cls := 3, slots := #[.int 0, .int 0, .int 0, .int 0, .int 0, .int 0, .int 0, .int 0, .int 0, .int 0, .int 0, .int 0, .int 0, .int 0, .int 0, .int 1], vm := .statics 3 },
  { cls := 9, slots := #[.ref 2, .null, .null, .null], vm := .statics 9 },
  { cls := 9, slots := #[.null, .int 0, .int 0, .int 0, .int 0], vm := .none }]
def classes : Array Class := #[k0, k1, k2, k3, k4, k5, k6, k7, k8, k9, k10, k11, k12, k13, k14, k15, k16, k17]
def interned : List (Array UInt16 × Addr) := []
def slotsUsed : Nat := 25
def theMethod : MethodId := ⟨1, 1⟩
def args0 : Array Value := #[.int 5, .int 7, .int 9, .int 2, .int 1]
def aboutOver (below : List Frame) : State where
  vm := { classes := classes, interned := interned.toArray }
  heap := heap
  slotsUsed := slotsUsed
  threads := #[{ frames := .invoking theMethod args0 :: below }]
def below0 : List Frame := [.native { method := ⟨0, 0⟩, args := #[] }]
def about1 : State := aboutOver below0
def p0 : Program := .bare "" "" ""
def e0 : Env := launch0.env 0 0 0
theorem w_frames : about1.frames = Frame.invoking theMethod args0 :: below0 := rfl
set_option maxRecDepth 65536 in
theorem w_args : argsFit about1.vm theMethod args0 = true := by decide +kernel
set_option maxRecDepth 65536 in
theorem w_heap : heapFits about1 = true := by decide +kernel
set_option maxRecDepth 65536 in
theorem w_runnable : about1.curStatus? = some .runnable := by decide +kernel
set_option maxRecDepth 65536 in
theorem w_alone : about1.alone = true := by decide +kernel
set_option maxRecDepth 65536 in
theorem w_named : about1.methodNamed? x = some theMethod := by decide +kernel
set_option maxRecDepth 65536 in
theorem w_hears : about1.hears theMethod below0 = true := by decide +kernel
set_option maxRecDepth 65536 in
theorem w_ripe : about1.ripe theMethod args0 below0 = true := by decide +kernel
theorem w_running : about1.status = .running := rfl
set_option maxRecDepth 65536 in
theorem w_room : about1.hasRoom e0.platform room_1 = true :=
  launch0.hasRoom_least _ room_1 (by decide +kernel) (by decide +kernel) (by decide +kernel) (by decide +kernel) (by decide +kernel) (by decide +kernel)
theorem allAtoms_all (ts : List Jvm.Cond) (a : Array Jvm.Value) (st : Jvm.State) : (allAtoms ts).before a st = ts.all (fun c => c.before a st) := by
  induction ts with
  | nil => rfl
  | cons c t ih =>
    show (Jvm.Cond.and c (allAtoms t)).before a st = _
    rw [Jvm.Cond.before_and, ih, List.all_cons]
def words1 : List Jvm.Cond := Jvm.Cond.code x code maxLocals ret :: tables_1
/-- a 'code' word, met by the world's own term for the bytes: nothing is compared byte by byte -/
theorem code_word {y : MethodName} {bytes : ByteArray} {mx : Nat} {rt : Option FieldType} {a : Array Value} {s : State} {m : MethodId} {meth : Method} {c : Code} (h1 : s.methodNamed? y = some m) (h2 : s.vm.method? m = some meth) (h3 : meth.code = some c) (h4 : c.code = bytes)
    (h5 : (c.maxLocals == mx && c.exceptionTable.isEmpty && decide (c.maxStack ≤ mostOperands) && decide (meth.sig.returnType = rt) && !meth.locks && decide (parseMethodDescriptor y.desc = some meth.sig)) = true) : (Jvm.Cond.code y bytes mx rt).before a s = true := by
  simp only [Bool.and_eq_true, beq_iff_eq, Bool.not_eq_true', decide_eq_true_eq] at h5
  obtain ⟨⟨⟨⟨⟨g1, g2⟩, g3⟩, g4⟩, g5⟩, g6⟩ := h5
  simp [Cond.before, Cond.holds, Cond.value, h1, h2, h3, h4, g1, g2, g3, g4, g5, g6]
def isCode : Jvm.Cond → Bool
  | .code _ _ _ _ => true
  | _ => false
theorem all_split {L : List Jvm.Cond} {P : Jvm.Cond → Bool} (h1 : L.all (fun c => isCode c || P c) = true) (h2 : ∀ c ∈ L.filter isCode, P c = true) : L.all P = true := by
  refine List.all_eq_true.mpr fun c hc => ?_
  have h := List.all_eq_true.mp h1 c hc
  rcases Bool.eq_false_or_eq_true (isCode c) with hi | hi
  · exact h2 c (List.mem_filter.mpr ⟨hc, hi⟩)
  · simpa [hi] using h
set_option maxRecDepth 65536 in
theorem w_c0 : (Jvm.Cond.code x code maxLocals ret).before args0 about1 = true := code_word (m := ⟨1, 1⟩) (meth := k1m1) (c := k1c1) (by decide +kernel) rfl rfl rfl (by decide +kernel)
set_option maxRecDepth 65536 in
theorem w_c1 : (Jvm.Cond.code ({ cls := "com/example/dispersa/dispersa/internal/LayoutTable", name := "<init>", desc := "(Lcom/example/dispersa/dispersa/internal/ProbeSequence;I)V" } : Jvm.MethodName) prog_86_method_1_code (3 : Nat) (Option.none : Option Jvm.ClassFile.FieldType)).before args0 about1 = true := code_word (m := ⟨4, 0⟩) (meth := k4m0) (c := k4c0) (by decide +kernel) rfl rfl rfl (by decide +kernel)
set_option maxRecDepth 65536 in
theorem w_c2 : (Jvm.Cond.code ({ cls := "com/example/dispersa/dispersa/internal/SlotTable", name := "<init>", desc := "(Lcom/example/dispersa/dispersa/internal/ProbeSequence;IZ)V" } : Jvm.MethodName) prog_109_method_1_code (4 : Nat) (Option.none : Option Jvm.ClassFile.FieldType)).before args0 about1 = true := code_word (m := ⟨3, 0⟩) (meth := k3m0) (c := k3c0) (by decide +kernel) rfl rfl rfl (by decide +kernel)
set_option maxRecDepth 65536 in
theorem w_c3 : (Jvm.Cond.code ({ cls := "com/example/dispersa/dispersa/internal/SlotTable", name := "<init>", desc := "(Lcom/example/dispersa/dispersa/internal/ProbeSequence;IZZZ)V" } : Jvm.MethodName) prog_109_method_2_code (6 : Nat) (Option.none : Option Jvm.ClassFile.FieldType)).before args0 about1 = true := code_word (m := ⟨3, 1⟩) (meth := k3m1) (c := k3c1) (by decide +kernel) rfl rfl rfl (by decide +kernel)
set_option maxRecDepth 65536 in
theorem w_c4 : (Jvm.Cond.code ({ cls := "java/lang/Object", name := "<init>", desc := "()V" } : Jvm.MethodName) object_method_1_code (1 : Nat) (Option.none : Option Jvm.ClassFile.FieldType)).before args0 about1 = true := code_word (m := ⟨0, 0⟩) (meth := k0m0) (c := k0c0) (by decide +kernel) rfl rfl rfl (by decide +kernel)
set_option maxRecDepth 65536 in
theorem w_c5 : (Jvm.Cond.code ({ cls := "com/example/dispersa/dispersa/internal/SlotTable", name := "reset", desc := "(I)V" } : Jvm.MethodName) prog_109_method_66_code (2 : Nat) (Option.none : Option Jvm.ClassFile.FieldType)).before args0 about1 = true := code_word (m := ⟨3, 19⟩) (meth := k3m19) (c := k3c19) (by decide +kernel) rfl rfl rfl (by decide +kernel)
set_option maxRecDepth 65536 in
theorem w_c6 : (Jvm.Cond.code ({ cls := "com/example/dispersa/dispersa/internal/ProbeSequence", name := "fits", desc := "(I)Z" } : Jvm.MethodName) prog_99_method_6_code (2 : Nat) (Option.some Jvm.ClassFile.FieldType.boolean)).before args0 about1 = true := code_word (m := ⟨9, 2⟩) (meth := k9m2) (c := k9c2) (by decide +kernel) rfl rfl rfl (by decide +kernel)
set_option maxRecDepth 65536 in
theorem w_c7 : (Jvm.Cond.code ({ cls := "java/lang/Enum", name := "ordinal", desc := "()I" } : Jvm.MethodName) jdk_37_method_2_code (1 : Nat) (Option.some Jvm.ClassFile.FieldType.int)).before args0 about1 = true := code_word (m := ⟨8, 0⟩) (meth := k8m0) (c := k8c0) (by decide +kernel) rfl rfl rfl (by decide +kernel)
set_option maxRecDepth 65536 in
theorem w_c8 : (Jvm.Cond.code ({ cls := "java/lang/Integer", name := "bitCount", desc := "(I)I" } : Jvm.MethodName) jdk_33_method_49_code (1 : Nat) (Option.some Jvm.ClassFile.FieldType.int)).before args0 about1 = true := code_word (m := ⟨12, 2⟩) (meth := k12m2) (c := k12c2) (by decide +kernel) rfl rfl rfl (by decide +kernel)
set_option maxRecDepth 65536 in
theorem w_c9 : (Jvm.Cond.code ({ cls := "com/example/dispersa/dispersa/internal/SlotTable", name := "computeGoesOn", desc := "()Z" } : Jvm.MethodName) prog_109_method_16_code (1 : Nat) (Option.some Jvm.ClassFile.FieldType.boolean)).before args0 about1 = true := code_word (m := ⟨3, 3⟩) (meth := k3m3) (c := k3c3) (by decide +kernel) rfl rfl rfl (by decide +kernel)
set_option maxRecDepth 65536 in
theorem w_c10 : (Jvm.Cond.code ({ cls := "java/util/Arrays", name := "fill", desc := "([II)V" } : Jvm.MethodName) jdk_65_method_103_code (4 : Nat) (Option.none : Option Jvm.ClassFile.FieldType)).before args0 about1 = true := code_word (m := ⟨13, 1⟩) (meth := k13m1) (c := k13c1) (by decide +kernel) rfl rfl rfl (by decide +kernel)
set_option maxRecDepth 65536 in
theorem w_c11 : (Jvm.Cond.code ({ cls := "com/example/dispersa/dispersa/internal/LayoutTable", name := "put", desc := "(I)I" } : Jvm.MethodName) prog_86_method_2_code (5 : Nat) (Option.some Jvm.ClassFile.FieldType.int)).before args0 about1 = true := code_word (m := ⟨4, 1⟩) (meth := k4m1) (c := k4c1) (by decide +kernel) rfl rfl rfl (by decide +kernel)
set_option maxRecDepth 65536 in
theorem w_c12 : (Jvm.Cond.code ({ cls := "com/example/dispersa/dispersa/internal/LayoutTable", name := "hashOf", desc := "(I)J" } : Jvm.MethodName) prog_86_method_9_code (1 : Nat) (Option.some Jvm.ClassFile.FieldType.long)).before args0 about1 = true := code_word (m := ⟨4, 6⟩) (meth := k4m6) (c := k4c6) (by decide +kernel) rfl rfl rfl (by decide +kernel)
set_option maxRecDepth 65536 in
theorem w_c13 : (Jvm.Cond.code ({ cls := "com/example/dispersa/dispersa/internal/SlotTable", name := "find", desc := "(JLjava/lang/Object;)I" } : Jvm.MethodName) prog_109_method_29_code (13 : Nat) (Option.some Jvm.ClassFile.FieldType.int)).before args0 about1 = true := code_word (m := ⟨3, 7⟩) (meth := k3m7) (c := k3c7) (by decide +kernel) rfl rfl rfl (by decide +kernel)
set_option maxRecDepth 65536 in
theorem w_c14 : (Jvm.Cond.code ({ cls := "com/example/dispersa/dispersa/internal/SlotTable", name := "home", desc := "(J)I" } : Jvm.MethodName) prog_109_method_57_code (3 : Nat) (Option.some Jvm.ClassFile.FieldType.int)).before args0 about1 = true := code_word (m := ⟨3, 12⟩) (meth := k3m12) (c := k3c12) (by decide +kernel) rfl rfl rfl (by decide +kernel)
set_option maxRecDepth 65536 in
theorem w_c15 : (Jvm.Cond.code ({ cls := "com/example/dispersa/dispersa/internal/SlotTable", name := "homeOf", desc := "(JI)I" } : Jvm.MethodName) prog_109_method_58_code (3 : Nat) (Option.some Jvm.ClassFile.FieldType.int)).before args0 about1 = true := code_word (m := ⟨3, 13⟩) (meth := k3m13) (c := k3c13) (by decide +kernel) rfl rfl rfl (by decide +kernel)
set_option maxRecDepth 65536 in
theorem w_c16 : (Jvm.Cond.code ({ cls := "java/lang/Integer", name := "remainderUnsigned", desc := "(II)I" } : Jvm.MethodName) jdk_33_method_44_code (2 : Nat) (Option.some Jvm.ClassFile.FieldType.int)).before args0 about1 = true := code_word (m := ⟨12, 1⟩) (meth := k12m1) (c := k12c1) (by decide +kernel) rfl rfl rfl (by decide +kernel)
set_option maxRecDepth 65536 in
theorem w_c17 : (Jvm.Cond.code ({ cls := "java/lang/Integer", name := "toUnsignedLong", desc := "(I)J" } : Jvm.MethodName) jdk_33_method_42_code (1 : Nat) (Option.some Jvm.ClassFile.FieldType.long)).before args0 about1 = true := code_word (m := ⟨12, 0⟩) (meth := k12m0) (c := k12c0) (by decide +kernel) rfl rfl rfl (by decide +kernel)
set_option maxRecDepth 65536 in
theorem w_c18 : (Jvm.Cond.code ({ cls := "com/example/dispersa/dispersa/internal/ProbeSequence", name := "step", desc := "(JI)I" } : Jvm.MethodName) prog_99_method_4_code (4 : Nat) (Option.some Jvm.ClassFile.FieldType.int)).before args0 about1 = true := code_word (m := ⟨9, 0⟩) (meth := k9m0) (c := k9c0) (by decide +kernel) rfl rfl rfl (by decide +kernel)
set_option maxRecDepth 65536 in
theorem w_c19 : (Jvm.Cond.code ({ cls := "com/example/dispersa/dispersa/internal/ProbeSequence", name := "growth", desc := "()I" } : Jvm.MethodName) prog_99_method_5_code (1 : Nat) (Option.some Jvm.ClassFile.FieldType.int)).before args0 about1 = true := code_word (m := ⟨9, 1⟩) (meth := k9m1) (c := k9c1) (by decide +kernel) rfl rfl rfl (by decide +kernel)
set_option maxRecDepth 65536 in
theorem w_c20 : (Jvm.Cond.code ({ cls := "com/example/dispersa/dispersa/internal/SlotTable", name := "compared", desc := "()I" } : Jvm.MethodName) prog_109_method_54_code (1 : Nat) (Option.some Jvm.ClassFile.FieldType.int)).before args0 about1 = true := code_word (m := ⟨3, 10⟩) (meth := k3m10) (c := k3c10) (by decide +kernel) rfl rfl rfl (by decide +kernel)
set_option maxRecDepth 65536 in
theorem w_c21 : (Jvm.Cond.code ({ cls := "com/example/dispersa/dispersa/internal/LayoutTable", name := "holds", desc := "(IJLjava/lang/Object;Z)Z" } : Jvm.MethodName) prog_86_method_8_code (6 : Nat) (Option.some Jvm.ClassFile.FieldType.boolean)).before args0 about1 = true := code_word (m := ⟨4, 5⟩) (meth := k4m5) (c := k4c5) (by decide +kernel) rfl rfl rfl (by decide +kernel)
set_option maxRecDepth 65536 in
theorem w_c22 : (Jvm.Cond.code ({ cls := "com/example/dispersa/dispersa/internal/LayoutTable", name := "state", desc := "(I)I" } : Jvm.MethodName) prog_86_method_7_code (2 : Nat) (Option.some Jvm.ClassFile.FieldType.int)).before args0 about1 = true := code_word (m := ⟨4, 4⟩) (meth := k4m4) (c := k4c4) (by decide +kernel) rfl rfl rfl (by decide +kernel)
set_option maxRecDepth 65536 in
theorem w_c23 : (Jvm.Cond.code ({ cls := "com/example/dispersa/dispersa/internal/SlotTable", name := "stop", desc := "(III)I" } : Jvm.MethodName) prog_109_method_63_code (4 : Nat) (Option.some Jvm.ClassFile.FieldType.int)).before args0 about1 = true := code_word (m := ⟨3, 16⟩) (meth := k3m16) (c := k3c16) (by decide +kernel) rfl rfl rfl (by decide +kernel)
set_option maxRecDepth 65536 in
theorem w_c24 : (Jvm.Cond.code ({ cls := "com/example/dispersa/dispersa/internal/SlotTable", name := "position", desc := "()I" } : Jvm.MethodName) prog_109_method_8_code (1 : Nat) (Option.some Jvm.ClassFile.FieldType.int)).before args0 about1 = true := code_word (m := ⟨3, 2⟩) (meth := k3m2) (c := k3c2) (by decide +kernel) rfl rfl rfl (by decide +kernel)
set_option maxRecDepth 65536 in
theorem w_c25 : (Jvm.Cond.code ({ cls := "com/example/dispersa/dispersa/internal/SlotTable", name := "occupy", desc := "(IJI)V" } : Jvm.MethodName) prog_109_method_64_code (5 : Nat) (Option.none : Option Jvm.ClassFile.FieldType)).before args0 about1 = true := code_word (m := ⟨3, 17⟩) (meth := k3m17) (c := k3c17) (by decide +kernel) rfl rfl rfl (by decide +kernel)
set_option maxRecDepth 65536 in
theorem w_c26 : (Jvm.Cond.code ({ cls := "com/example/dispersa/dispersa/internal/SlotTable", name := "entered", desc := "(JI)V" } : Jvm.MethodName) prog_109_method_55_code (4 : Nat) (Option.none : Option Jvm.ClassFile.FieldType)).before args0 about1 = true := code_word (m := ⟨3, 11⟩) (meth := k3m11) (c := k3c11) (by decide +kernel) rfl rfl rfl (by decide +kernel)
set_option maxRecDepth 65536 in
theorem w_c27 : (Jvm.Cond.code ({ cls := "com/example/dispersa/dispersa/internal/SlotTable", name := "advance", desc := "(III)I" } : Jvm.MethodName) prog_109_method_62_code (4 : Nat) (Option.some Jvm.ClassFile.FieldType.int)).before args0 about1 = true := code_word (m := ⟨3, 15⟩) (meth := k3m15) (c := k3c15) (by decide +kernel) rfl rfl rfl (by decide +kernel)
set_option maxRecDepth 65536 in
theorem w_c28 : (Jvm.Cond.code ({ cls := "com/example/dispersa/dispersa/internal/LayoutTable", name := "remove", desc := "(I)I" } : Jvm.MethodName) prog_86_method_3_code (3 : Nat) (Option.some Jvm.ClassFile.FieldType.int)).before args0 about1 = true := code_word (m := ⟨4, 2⟩) (meth := k4m2) (c := k4c2) (by decide +kernel) rfl rfl rfl (by decide +kernel)
set_option maxRecDepth 65536 in
theorem w_c29 : (Jvm.Cond.code ({ cls := "com/example/dispersa/dispersa/internal/LayoutTable", name := "search", desc := "(I)I" } : Jvm.MethodName) prog_86_method_4_code (3 : Nat) (Option.some Jvm.ClassFile.FieldType.int)).before args0 about1 = true := code_word (m := ⟨4, 3⟩) (meth := k4m3) (c := k4c3) (by decide +kernel) rfl rfl rfl (by decide +kernel)
set_option maxRecDepth 65536 in
theorem w_c30 : (Jvm.Cond.code ({ cls := "com/example/dispersa/dispersa/internal/SlotTable", name := "locate", desc := "(JLjava/lang/Object;)I" } : Jvm.MethodName) prog_109_method_30_code (4 : Nat) (Option.some Jvm.ClassFile.FieldType.int)).before args0 about1 = true := code_word (m := ⟨3, 8⟩) (meth := k3m8) (c := k3c8) (by decide +kernel) rfl rfl rfl (by decide +kernel)
set_option maxRecDepth 65536 in
theorem w_c31 : (Jvm.Cond.code ({ cls := "com/example/dispersa/dispersa/internal/SlotTable", name := "locateAlong", desc := "(JLjava/lang/Object;)I" } : Jvm.MethodName) prog_109_method_31_code (10 : Nat) (Option.some Jvm.ClassFile.FieldType.int)).before args0 about1 = true := code_word (m := ⟨3, 9⟩) (meth := k3m9) (c := k3c9) (by decide +kernel) rfl rfl rfl (by decide +kernel)
set_option maxRecDepth 65536 in
theorem w_c32 : (Jvm.Cond.code ({ cls := "com/example/dispersa/dispersa/internal/SlotTable", name := "vacate", desc := "(I)V" } : Jvm.MethodName) prog_109_method_65_code (2 : Nat) (Option.none : Option Jvm.ClassFile.FieldType)).before args0 about1 = true := code_word (m := ⟨3, 18⟩) (meth := k3m18) (c := k3c18) (by decide +kernel) rfl rfl rfl (by decide +kernel)
set_option maxRecDepth 65536 in
theorem w_c33 : (Jvm.Cond.code ({ cls := "com/example/dispersa/dispersa/internal/SlotTable", name := "homeIn", desc := "(JI)I" } : Jvm.MethodName) prog_109_method_59_code (3 : Nat) (Option.some Jvm.ClassFile.FieldType.int)).before args0 about1 = true := code_word (m := ⟨3, 14⟩) (meth := k3m14) (c := k3c14) (by decide +kernel) rfl rfl rfl (by decide +kernel)
set_option maxRecDepth 65536 in
theorem w_c34 : (Jvm.Cond.code ({ cls := "com/example/dispersa/dispersa/internal/SlotTable", name := "unused", desc := "(I)Z" } : Jvm.MethodName) prog_109_method_19_code (2 : Nat) (Option.some Jvm.ClassFile.FieldType.boolean)).before args0 about1 = true := code_word (m := ⟨3, 5⟩) (meth := k3m5) (c := k3c5) (by decide +kernel) rfl rfl rfl (by decide +kernel)
def codes1 : List Jvm.Cond := [Jvm.Cond.code x code maxLocals ret, Jvm.Cond.code ({ cls := "com/example/dispersa/dispersa/internal/LayoutTable", name := "<init>", desc := "(Lcom/example/dispersa/dispersa/internal/ProbeSequence;I)V" } : Jvm.MethodName) prog_86_method_1_code (3 : Nat) (Option.none : Option Jvm.ClassFile.FieldType), Jvm.Cond.code ({ cls := "com/example/dispersa/dispersa/internal/SlotTable", name := "<init>", desc := "(Lcom/example/dispersa/dispersa/internal/ProbeSequence;IZ)V" } : Jvm.MethodName) prog_109_method_1_code (4 : Nat) (Option.none : Option Jvm.ClassFile.FieldType), Jvm.Cond.code ({ cls := "com/example/dispersa/dispersa/internal/SlotTable", name := "<init>", desc := "(Lcom/example/dispersa/dispersa/internal/ProbeSequence;IZZZ)V" } : Jvm.MethodName) prog_109_method_2_code (6 : Nat) (Option.none : Option Jvm.ClassFile.FieldType), Jvm.Cond.code ({ cls := "java/lang/Object", name := "<init>", desc := "()V" } : Jvm.MethodName) object_method_1_code (1 : Nat) (Option.none : Option Jvm.ClassFile.FieldType), Jvm.Cond.code ({ cls := "com/example/dispersa/dispersa/internal/SlotTable", name := "reset", desc := "(I)V" } : Jvm.MethodName) prog_109_method_66_code (2 : Nat) (Option.none : Option Jvm.ClassFile.FieldType), Jvm.Cond.code ({ cls := "com/example/dispersa/dispersa/internal/ProbeSequence", name := "fits", desc := "(I)Z" } : Jvm.MethodName) prog_99_method_6_code (2 : Nat) (Option.some Jvm.ClassFile.FieldType.boolean), Jvm.Cond.code ({ cls := "java/lang/Enum", name := "ordinal", desc := "()I" } : Jvm.MethodName) jdk_37_method_2_code (1 : Nat) (Option.some Jvm.ClassFile.FieldType.int), Jvm.Cond.code ({ cls := "java/lang/Integer", name := "bitCount", desc := "(I)I" } : Jvm.MethodName) jdk_33_method_49_code (1 : Nat) (Option.some Jvm.ClassFile.FieldType.int), Jvm.Cond.code ({ cls := "com/example/dispersa/dispersa/internal/SlotTable", name := "computeGoesOn", desc := "()Z" } : Jvm.MethodName) prog_109_method_16_code (1 : Nat) (Option.some Jvm.ClassFile.FieldType.boolean), Jvm.Cond.code ({ cls := "java/util/Arrays", name := "fill", desc := "([II)V" } : Jvm.MethodName) jdk_65_method_103_code (4 : Nat) (Option.none : Option Jvm.ClassFile.FieldType), Jvm.Cond.code ({ cls := "com/example/dispersa/dispersa/internal/LayoutTable", name := "put", desc := "(I)I" } : Jvm.MethodName) prog_86_method_2_code (5 : Nat) (Option.some Jvm.ClassFile.FieldType.int), Jvm.Cond.code ({ cls := "com/example/dispersa/dispersa/internal/LayoutTable", name := "hashOf", desc := "(I)J" } : Jvm.MethodName) prog_86_method_9_code (1 : Nat) (Option.some Jvm.ClassFile.FieldType.long), Jvm.Cond.code ({ cls := "com/example/dispersa/dispersa/internal/SlotTable", name := "find", desc := "(JLjava/lang/Object;)I" } : Jvm.MethodName) prog_109_method_29_code (13 : Nat) (Option.some Jvm.ClassFile.FieldType.int), Jvm.Cond.code ({ cls := "com/example/dispersa/dispersa/internal/SlotTable", name := "home", desc := "(J)I" } : Jvm.MethodName) prog_109_method_57_code (3 : Nat) (Option.some Jvm.ClassFile.FieldType.int), Jvm.Cond.code ({ cls := "com/example/dispersa/dispersa/internal/SlotTable", name := "homeOf", desc := "(JI)I" } : Jvm.MethodName) prog_109_method_58_code (3 : Nat) (Option.some Jvm.ClassFile.FieldType.int), Jvm.Cond.code ({ cls := "java/lang/Integer", name := "remainderUnsigned", desc := "(II)I" } : Jvm.MethodName) jdk_33_method_44_code (2 : Nat) (Option.some Jvm.ClassFile.FieldType.int), Jvm.Cond.code ({ cls := "java/lang/Integer", name := "toUnsignedLong", desc := "(I)J" } : Jvm.MethodName) jdk_33_method_42_code (1 : Nat) (Option.some Jvm.ClassFile.FieldType.long), Jvm.Cond.code ({ cls := "com/example/dispersa/dispersa/internal/ProbeSequence", name := "step", desc := "(JI)I" } : Jvm.MethodName) prog_99_method_4_code (4 : Nat) (Option.some Jvm.ClassFile.FieldType.int), Jvm.Cond.code ({ cls := "com/example/dispersa/dispersa/internal/ProbeSequence", name := "growth", desc := "()I" } : Jvm.MethodName) prog_99_method_5_code (1 : Nat) (Option.some Jvm.ClassFile.FieldType.int), Jvm.Cond.code ({ cls := "com/example/dispersa/dispersa/internal/SlotTable", name := "compared", desc := "()I" } : Jvm.MethodName) prog_109_method_54_code (1 : Nat) (Option.some Jvm.ClassFile.FieldType.int), Jvm.Cond.code ({ cls := "com/example/dispersa/dispersa/internal/LayoutTable", name := "holds", desc := "(IJLjava/lang/Object;Z)Z" } : Jvm.MethodName) prog_86_method_8_code (6 : Nat) (Option.some Jvm.ClassFile.FieldType.boolean), Jvm.Cond.code ({ cls := "com/example/dispersa/dispersa/internal/LayoutTable", name := "state", desc := "(I)I" } : Jvm.MethodName) prog_86_method_7_code (2 : Nat) (Option.some Jvm.ClassFile.FieldType.int), Jvm.Cond.code ({ cls := "com/example/dispersa/dispersa/internal/SlotTable", name := "stop", desc := "(III)I" } : Jvm.MethodName) prog_109_method_63_code (4 : Nat) (Option.some Jvm.ClassFile.FieldType.int), Jvm.Cond.code ({ cls := "com/example/dispersa/dispersa/internal/SlotTable", name := "position", desc := "()I" } : Jvm.MethodName) prog_109_method_8_code (1 : Nat) (Option.some Jvm.ClassFile.FieldType.int), Jvm.Cond.code ({ cls := "com/example/dispersa/dispersa/internal/SlotTable", name := "occupy", desc := "(IJI)V" } : Jvm.MethodName) prog_109_method_64_code (5 : Nat) (Option.none : Option Jvm.ClassFile.FieldType), Jvm.Cond.code ({ cls := "com/example/dispersa/dispersa/internal/SlotTable", name := "entered", desc := "(JI)V" } : Jvm.MethodName) prog_109_method_55_code (4 : Nat) (Option.none : Option Jvm.ClassFile.FieldType), Jvm.Cond.code ({ cls := "com/example/dispersa/dispersa/internal/SlotTable", name := "advance", desc := "(III)I" } : Jvm.MethodName) prog_109_method_62_code (4 : Nat) (Option.some Jvm.ClassFile.FieldType.int), Jvm.Cond.code ({ cls := "com/example/dispersa/dispersa/internal/LayoutTable", name := "remove", desc := "(I)I" } : Jvm.MethodName) prog_86_method_3_code (3 : Nat) (Option.some Jvm.ClassFile.FieldType.int), Jvm.Cond.code ({ cls := "com/example/dispersa/dispersa/internal/LayoutTable", name := "search", desc := "(I)I" } : Jvm.MethodName) prog_86_method_4_code (3 : Nat) (Option.some Jvm.ClassFile.FieldType.int), Jvm.Cond.code ({ cls := "com/example/dispersa/dispersa/internal/SlotTable", name := "locate", desc := "(JLjava/lang/Object;)I" } : Jvm.MethodName) prog_109_method_30_code (4 : Nat) (Option.some Jvm.ClassFile.FieldType.int), Jvm.Cond.code ({ cls := "com/example/dispersa/dispersa/internal/SlotTable", name := "locateAlong", desc := "(JLjava/lang/Object;)I" } : Jvm.MethodName) prog_109_method_31_code (10 : Nat) (Option.some Jvm.ClassFile.FieldType.int), Jvm.Cond.code ({ cls := "com/example/dispersa/dispersa/internal/SlotTable", name := "vacate", desc := "(I)V" } : Jvm.MethodName) prog_109_method_65_code (2 : Nat) (Option.none : Option Jvm.ClassFile.FieldType), Jvm.Cond.code ({ cls := "com/example/dispersa/dispersa/internal/SlotTable", name := "homeIn", desc := "(JI)I" } : Jvm.MethodName) prog_109_method_59_code (3 : Nat) (Option.some Jvm.ClassFile.FieldType.int), Jvm.Cond.code ({ cls := "com/example/dispersa/dispersa/internal/SlotTable", name := "unused", desc := "(I)Z" } : Jvm.MethodName) prog_109_method_19_code (2 : Nat) (Option.some Jvm.ClassFile.FieldType.boolean)]
set_option maxRecDepth 65536 in
theorem codes_eq : words1.filter isCode = codes1 := rfl
theorem w_codes : ∀ c ∈ words1.filter isCode, c.before args0 about1 = true := by
  rw [codes_eq]
  intro c hc
  simp only [codes1, List.mem_cons, List.not_mem_nil, or_false] at hc
  rcases hc with rfl | rfl | rfl | rfl | rfl | rfl | rfl | rfl | rfl | rfl | rfl | rfl | rfl | rfl | rfl | rfl | rfl | rfl | rfl | rfl | rfl | rfl | rfl | rfl | rfl | rfl | rfl | rfl | rfl | rfl | rfl | rfl | rfl | rfl | rfl
  · exact w_c0
  · exact w_c1
  · exact w_c2
  · exact w_c3
  · exact w_c4
  · exact w_c5
  · exact w_c6
  · exact w_c7
  · exact w_c8
  · exact w_c9
  · exact w_c10
  · exact w_c11
  · exact w_c12
  · exact w_c13
  · exact w_c14
  · exact w_c15
  · exact w_c16
  · exact w_c17
  · exact w_c18
  · exact w_c19
  · exact w_c20
  · exact w_c21
  · exact w_c22
  · exact w_c23
  · exact w_c24
  · exact w_c25
  · exact w_c26
  · exact w_c27
  · exact w_c28
  · exact w_c29
  · exact w_c30
  · exact w_c31
  · exact w_c32
  · exact w_c33
  · exact w_c34
set_option maxRecDepth 65536 in
theorem w_t1 : (words1.take 24).all (fun c => isCode c || c.before args0 about1) = true := by decide +kernel
set_option maxRecDepth 65536 in
theorem w_t2 : ((words1.drop 24).take 24).all (fun c => isCode c || c.before args0 about1) = true := by decide +kernel
set_option maxRecDepth 65536 in
theorem w_t3 : (((words1.drop 24).drop 24).take 24).all (fun c => isCode c || c.before args0 about1) = true := by decide +kernel
set_option maxRecDepth 65536 in
theorem w_t4 : ((((words1.drop 24).drop 24).drop 24).take 24).all (fun c => isCode c || c.before args0 about1) = true := by decide +kernel
set_option maxRecDepth 65536 in
theorem w_t5 : (((((words1.drop 24).drop 24).drop 24).drop 24).take 24).all (fun c => isCode c || c.before args0 about1) = true := by decide +kernel
set_option maxRecDepth 65536 in
theorem w_t6 : ((((((words1.drop 24).drop 24).drop 24).drop 24).drop 24).take 24).all (fun c => isCode c || c.before args0 about1) = true := by decide +kernel
set_option maxRecDepth 65536 in
theorem w_t7 : (((((((words1.drop 24).drop 24).drop 24).drop 24).drop 24).drop 24).take 24).all (fun c => isCode c || c.before args0 about1) = true := by decide +kernel
set_option maxRecDepth 65536 in
theorem w_t8 : ((((((((words1.drop 24).drop 24).drop 24).drop 24).drop 24).drop 24).drop 24).take 24).all (fun c => isCode c || c.before args0 about1) = true := by decide +kernel
set_option maxRecDepth 65536 in
theorem w_t9 : ((((((((words1.drop 24).drop 24).drop 24).drop 24).drop 24).drop 24).drop 24).drop 24).all (fun c => isCode c || c.before args0 about1) = true := by decide +kernel
theorem w_tables : (allAtoms (Jvm.Cond.code x code maxLocals ret :: tables_1)).before args0 about1 = true := by
  rw [allAtoms_all]
  show words1.all (fun c => c.before args0 about1) = true
  refine all_split ?_ w_codes
  rw [← List.take_append_drop 24 words1, List.all_append, w_t1, ← List.take_append_drop 24 (words1.drop 24), List.all_append, w_t2, ← List.take_append_drop 24 ((words1.drop 24).drop 24), List.all_append, w_t3, ← List.take_append_drop 24 (((words1.drop 24).drop 24).drop 24), List.all_append, w_t4, ← List.take_append_drop 24 ((((words1.drop 24).drop 24).drop 24).drop 24), List.all_append, w_t5, ← List.take_append_drop 24 (((((words1.drop 24).drop 24).drop 24).drop 24).drop 24), List.all_append, w_t6, ← List.take_append_drop 24 ((((((words1.drop 24).drop 24).drop 24).drop 24).drop 24).drop 24), List.all_append, w_t7, ← List.take_append_drop 24 (((((((words1.drop 24).drop 24).drop 24).drop 24).drop 24).drop 24).drop 24), List.all_append, w_t8, w_t9]
  rfl
set_option maxRecDepth 65536 in
theorem w_case : (Jvm.Cond.and given_1 narrow_1).before args0 about1 = true := by decide +kernel
theorem w_applies : (headSpec (Jvm.Cond.code x code maxLocals ret :: tables_1) room_1).applies x e0.platform about1 = true :=
  (Spec.applies_iff w_frames).mpr ⟨w_running, w_runnable, w_alone, w_named, w_hears, w_ripe, w_room, w_tables⟩
theorem atStart : AtStart classFile x code maxLocals ret World_1 tables_1 room_1 Calls_1 rest_1 Pre_1 launch0 p0 e0 about1 theMethod args0 below0 :=
  ⟨lists_1, trivial, launch0.admits_env _ _ _, launch0.least_env, fairChoices_fair.cas, fairChoices_fair.clock, w_frames, w_args, w_heap, w_applies, trivial, trivial, w_case⟩
end start1
theorem witness_1 : WitnessClaimed_1 := ⟨start1.p0, start1.e0, start1.about1, start1.theMethod, start1.args0, start1.below0, start1.atStart⟩
end Jvm.Pilot.@@N@@
