import JvmDerived
import JvmDerived.Pilot.@@N@@Statement
import JvmDerived.Pilot.@@N@@Code
set_option linter.unusedVariables false
set_option linter.unusedSimpArgs false
namespace Jvm.Pilot.@@N@@
open Jvm Jvm.ClassFile Sem Op Lib Jvm.Free Jvm.Stand Jvm.LawKit Jvm.RoadKit Bundle Jvm.Pilot.@@N@@.Jvm.D
theorem wd {Z : State} {a0 : Array Value} (hw : ∀ d ∈ tables_1, d.before a0 Z = true) (i : Nat) {d : Jvm.Cond} (e : tables_1[i]? = some d) : d.before a0 Z = true := hw _ (List.mem_of_getElem? e)
section Layer
variable {p : Program} {l : Launch} {e : Env} {R : Room} {s : State} {m : MethodId} {args : Array Value} {below : List Frame} {meth : Method} {c : Code} {Z : State} {a0 : Array Value}
variable {own nm : String} {bytes : ByteArray} {maxL : Nat} {ret : Option FieldType} {n0 : Nat} {Q : Option Value → Heap → Prop} {h : Heap} {k n : Nat} {pc q : Nat} {ls : Array Slot} {st : List Value}
/-- what stays fixed while one body is walked -/
def Cx (p : Program) (s : State) (m : MethodId) (meth : Method) (c : Code) (Z : State) (own nm : String) (bytes : ByteArray) (maxL : Nat) (ret : Option FieldType) : Prop :=
  p.tables.exec = Jvm.exec ∧ Z.Warmed39 s.vm ∧ s.vm.findClass own = some m.cls ∧ c.code = bytes ∧ c.maxLocals = maxL ∧ meth.sig.returnType = ret ∧ meth.locks = false ∧ meth.name = nm
/-- from this frame, over a heap h, with k cells and n slots made, the body ends and Q holds -/
def Go (p : Program) (l : Launch) (e : Env) (R : Room) (s : State) (m : MethodId) (args : Array Value) (below : List Frame) (meth : Method) (c : Code) (n0 : Nat) (Q : Option Value → Heap → Prop) (h : Heap) (k n : Nat) (g : JFrame) : Prop :=
  ∀ T L, Stand p l e R s m args below meth c T L k n → Fr n0 L → T.heap = h →
    ∃ s₂ o, Steps p.tables e below (T.setTop g) s₂ ∧ s₂.status = .running ∧ Ended s₂ below o ∧ ∃ v L', o = .returned v ∧ (Q v s₂.heap ∧ Fr n0 L') ∧ FrameEnd s o s₂ L' R.cells R.slots
theorem Go.of {g g' : JFrame} (f : ∀ T target, At T m c below → Steps p.tables e below (T.setTop g') target → Steps p.tables e below (T.setTop g) target) (r : Go p l e R s m args below meth c n0 Q h k n g') : Go p l e R s m args below meth c n0 Q h k n g := fun T L X N eT => by
  obtain ⟨s₂, o, hs, z⟩ := r T L X N eT
  exact ⟨s₂, o, f T _ X.here hs, z⟩
theorem Go.ofX {g g' : JFrame} (f : ∀ T L target, Stand p l e R s m args below meth c T L k n → T.heap = h → Steps p.tables e below (T.setTop g') target → Steps p.tables e below (T.setTop g) target) (r : Go p l e R s m args below meth c n0 Q h k n g') : Go p l e R s m args below meth c n0 Q h k n g := fun T L X N eT => by
  obtain ⟨s₂, o, hs, z⟩ := r T L X N eT
  exact ⟨s₂, o, f T L _ X eT hs, z⟩
theorem Go.mono {Q' : Option Value → Heap → Prop} {g : JFrame} (r : Go p l e R s m args below meth c n0 Q h k n g) (f : ∀ v h', Q v h' → Q' v h') : Go p l e R s m args below meth c n0 Q' h k n g := fun T L X N eT => by
  obtain ⟨s₂, o, hs, h1, h2, v, L', h3, h4, h5⟩ := r T L X N eT
  exact ⟨s₂, o, hs, h1, h2, v, L', h3, ⟨f _ _ h4.1, h4.2⟩, h5⟩
theorem Go.less {g : JFrame} {k' n' : Nat} (r : Go p l e R s m args below meth c n0 Q h k' n' g) (hk : k ≤ k') (hn : n ≤ n') : Go p l e R s m args below meth c n0 Q h k n g := fun T L X N eT => r T L (X.more hk hn) N eT
theorem Go.at {g : JFrame} {h' : Heap} (r : Go p l e R s m args below meth c n0 Q h' k n g) (q : h = h') : Go p l e R s m args below meth c n0 Q h k n g := q ▸ r

theorem go_eqI {x y : Int32} {stl : List Value} (hxy : x = y) (r : Go p l e R s m args below meth c n0 Q h k n (mkF m pc ls (.int y :: stl))) : Go p l e R s m args below meth c n0 Q h k n (mkF m pc ls (.int x :: stl)) := hxy ▸ r
theorem go_eqJ {x y : Int64} {stl : List Value} (hxy : x = y) (r : Go p l e R s m args below meth c n0 Q h k n (mkF m pc ls (.long y :: stl))) : Go p l e R s m args below meth c n0 Q h k n (mkF m pc ls (.long x :: stl)) := hxy ▸ r

theorem go_nameI {x : Int32} {stl : List Value} (r : ∀ z, z = x → Go p l e R s m args below meth c n0 Q h k n (mkF m pc ls (.int z :: stl))) : Go p l e R s m args below meth c n0 Q h k n (mkF m pc ls (.int x :: stl)) := r x rfl
theorem go_nameJ {x : Int64} {stl : List Value} (r : ∀ z, z = x → Go p l e R s m args below meth c n0 Q h k n (mkF m pc ls (.long z :: stl))) : Go p l e R s m args below meth c n0 Q h k n (mkF m pc ls (.long x :: stl)) := r x rfl

theorem go_aloadN (K : Cx p s m meth c Z own nm bytes maxL ret) {i : Fin 4} {v : Value} (hd : decode bytes pc = .ok (.aload_n i, 1)) (hl : ls[i.val]? = some (.val v)) (hv : v.isRef = true) (hq : pc + 1 = q) (r : Go p l e R s m args below meth c n0 Q h k n (mkF m q ls (v :: st))) : Go p l e R s m args below meth c n0 Q h k n (mkF m pc ls st) := by
  subst hq; exact Go.of (fun T tg A => XS.aloadN A K.1 rfl (hb K.2.2.2.1 hd) hl hv) r
theorem go_aload (K : Cx p s m meth c Z own nm bytes maxL ret) {i : Nat} {v : Value} (hd : decode bytes pc = .ok (.aload i, 2)) (hl : ls[i]? = some (.val v)) (hv : v.isRef = true) (hq : pc + 2 = q) (r : Go p l e R s m args below meth c n0 Q h k n (mkF m q ls (v :: st))) : Go p l e R s m args below meth c n0 Q h k n (mkF m pc ls st) := by
  subst hq; exact Go.of (fun T tg A => XS.aload A K.1 rfl (hb K.2.2.2.1 hd) hl hv) r
theorem go_iloadN (K : Cx p s m meth c Z own nm bytes maxL ret) {i : Fin 4} {v : Int32} (hd : decode bytes pc = .ok (.iload_n i, 1)) (hl : ls[i.val]? = some (.val (.int v))) (hq : pc + 1 = q) (r : Go p l e R s m args below meth c n0 Q h k n (mkF m q ls (.int v :: st))) : Go p l e R s m args below meth c n0 Q h k n (mkF m pc ls st) := by
  subst hq; exact Go.of (fun T tg A => XS.iloadN A K.1 rfl (hb K.2.2.2.1 hd) hl) r
theorem go_iload (K : Cx p s m meth c Z own nm bytes maxL ret) {i : Nat} {v : Int32} (hd : decode bytes pc = .ok (.iload i, 2)) (hl : ls[i]? = some (.val (.int v))) (hq : pc + 2 = q) (r : Go p l e R s m args below meth c n0 Q h k n (mkF m q ls (.int v :: st))) : Go p l e R s m args below meth c n0 Q h k n (mkF m pc ls st) := by
  subst hq; exact Go.of (fun T tg A => XS.iload A K.1 rfl (hb K.2.2.2.1 hd) hl) r
theorem go_lloadN (K : Cx p s m meth c Z own nm bytes maxL ret) {i : Fin 4} {v : Int64} (hd : decode bytes pc = .ok (.lload_n i, 1)) (hl : ls[i.val]? = some (.val (.long v))) (hq : pc + 1 = q) (r : Go p l e R s m args below meth c n0 Q h k n (mkF m q ls (.long v :: st))) : Go p l e R s m args below meth c n0 Q h k n (mkF m pc ls st) := by
  subst hq; exact Go.of (fun T tg A => XT.lloadN A K.1 rfl (hb K.2.2.2.1 hd) hl) r
theorem go_lload (K : Cx p s m meth c Z own nm bytes maxL ret) {i : Nat} {v : Int64} (hd : decode bytes pc = .ok (.lload i, 2)) (hl : ls[i]? = some (.val (.long v))) (hq : pc + 2 = q) (r : Go p l e R s m args below meth c n0 Q h k n (mkF m q ls (.long v :: st))) : Go p l e R s m args below meth c n0 Q h k n (mkF m pc ls st) := by
  subst hq; exact Go.of (fun T tg A => XT.lload A K.1 rfl (hb K.2.2.2.1 hd) hl) r
theorem go_iconst (K : Cx p s m meth c Z own nm bytes maxL ret) {i : Int} (hd : decode bytes pc = .ok (.iconst i, 1)) (v : Int32) (hv : Int32.ofInt i = v) (hq : pc + 1 = q) (r : Go p l e R s m args below meth c n0 Q h k n (mkF m q ls (.int v :: st))) : Go p l e R s m args below meth c n0 Q h k n (mkF m pc ls st) := by
  subst hq; exact Go.of (fun T tg A => XT.iconstV A K.1 rfl v (hb K.2.2.2.1 hd) hv) r
theorem go_bipush (K : Cx p s m meth c Z own nm bytes maxL ret) {i : Int} (hd : decode bytes pc = .ok (.bipush i, 2)) (v : Int32) (hv : (Int8.ofInt i).toInt32 = v) (hq : pc + 2 = q) (r : Go p l e R s m args below meth c n0 Q h k n (mkF m q ls (.int v :: st))) : Go p l e R s m args below meth c n0 Q h k n (mkF m pc ls st) := by
  subst hq; exact Go.of (fun T tg A => XT.bipushV A K.1 rfl v (hb K.2.2.2.1 hd) hv) r
theorem go_sipush (K : Cx p s m meth c Z own nm bytes maxL ret) {i : Int} (hd : decode bytes pc = .ok (.sipush i, 3)) (v : Int32) (hv : (Int16.ofInt i).toInt32 = v) (hq : pc + 3 = q) (r : Go p l e R s m args below meth c n0 Q h k n (mkF m q ls (.int v :: st))) : Go p l e R s m args below meth c n0 Q h k n (mkF m pc ls st) := by
  subst hq; exact Go.of (fun T tg A => XT.sipushV A K.1 rfl v (hb K.2.2.2.1 hd) hv) r
theorem go_lconst (K : Cx p s m meth c Z own nm bytes maxL ret) {i : Fin 2} (hd : decode bytes pc = .ok (.lconst i, 1)) (v : Int64) (hv : Int64.ofNat i = v) (hq : pc + 1 = q) (r : Go p l e R s m args below meth c n0 Q h k n (mkF m q ls (.long v :: st))) : Go p l e R s m args below meth c n0 Q h k n (mkF m pc ls st) := by
  subst hq; exact Go.of (fun T tg A => XT.lconstV A K.1 rfl v (hb K.2.2.2.1 hd) hv) r
theorem go_aconst_null (K : Cx p s m meth c Z own nm bytes maxL ret)  (hd : decode bytes pc = .ok (.aconst_null, 1))  (hq : pc + 1 = q) (r : Go p l e R s m args below meth c n0 Q h k n (mkF m q ls (.null :: st))) : Go p l e R s m args below meth c n0 Q h k n (mkF m pc ls st) := by
  subst hq; exact Go.of (fun T tg A => XS.aconstNull A K.1 rfl (hb K.2.2.2.1 hd)) r
theorem go_iadd (K : Cx p s m meth c Z own nm bytes maxL ret) {x y : Int32} (hd : decode bytes pc = .ok (.iadd, 1))  (hq : pc + 1 = q) (r : Go p l e R s m args below meth c n0 Q h k n (mkF m q ls (.int (x + y) :: st))) : Go p l e R s m args below meth c n0 Q h k n (mkF m pc ls (.int y :: .int x :: st)) := by
  subst hq; exact Go.of (fun T tg A => XS.iadd A K.1 rfl (hb K.2.2.2.1 hd) rfl) r
theorem go_isub (K : Cx p s m meth c Z own nm bytes maxL ret) {x y : Int32} (hd : decode bytes pc = .ok (.isub, 1))  (hq : pc + 1 = q) (r : Go p l e R s m args below meth c n0 Q h k n (mkF m q ls (.int (x - y) :: st))) : Go p l e R s m args below meth c n0 Q h k n (mkF m pc ls (.int y :: .int x :: st)) := by
  subst hq; exact Go.of (fun T tg A => XS.isub A K.1 rfl (hb K.2.2.2.1 hd) rfl) r
theorem go_iand (K : Cx p s m meth c Z own nm bytes maxL ret) {x y : Int32} (hd : decode bytes pc = .ok (.iand, 1))  (hq : pc + 1 = q) (r : Go p l e R s m args below meth c n0 Q h k n (mkF m q ls (.int (x &&& y) :: st))) : Go p l e R s m args below meth c n0 Q h k n (mkF m pc ls (.int y :: .int x :: st)) := by
  subst hq; exact Go.of (fun T tg A => XS.iand A K.1 rfl (hb K.2.2.2.1 hd) rfl) r
theorem go_imul (K : Cx p s m meth c Z own nm bytes maxL ret) {x y : Int32} (hd : decode bytes pc = .ok (.imul, 1))  (hq : pc + 1 = q) (r : Go p l e R s m args below meth c n0 Q h k n (mkF m q ls (.int (x * y) :: st))) : Go p l e R s m args below meth c n0 Q h k n (mkF m pc ls (.int y :: .int x :: st)) := by
  subst hq; exact Go.of (fun T tg A => XS.imul A K.1 rfl (hb K.2.2.2.1 hd) rfl) r
theorem go_ixor (K : Cx p s m meth c Z own nm bytes maxL ret) {x y : Int32} (hd : decode bytes pc = .ok (.ixor, 1))  (hq : pc + 1 = q) (r : Go p l e R s m args below meth c n0 Q h k n (mkF m q ls (.int (x ^^^ y) :: st))) : Go p l e R s m args below meth c n0 Q h k n (mkF m pc ls (.int y :: .int x :: st)) := by
  subst hq; exact Go.of (fun T tg A => XT.ixor A K.1 rfl (hb K.2.2.2.1 hd) rfl) r
theorem go_ior (K : Cx p s m meth c Z own nm bytes maxL ret) {x y : Int32} (hd : decode bytes pc = .ok (.ior, 1))  (hq : pc + 1 = q) (r : Go p l e R s m args below meth c n0 Q h k n (mkF m q ls (.int (x ||| y) :: st))) : Go p l e R s m args below meth c n0 Q h k n (mkF m pc ls (.int y :: .int x :: st)) := by
  subst hq; exact Go.of (fun T tg A => XT.ior A K.1 rfl (hb K.2.2.2.1 hd) rfl) r
theorem go_ishl (K : Cx p s m meth c Z own nm bytes maxL ret) {x y : Int32} (hd : decode bytes pc = .ok (.ishl, 1))  (hq : pc + 1 = q) (r : Go p l e R s m args below meth c n0 Q h k n (mkF m q ls (.int (x <<< (y &&& 31)) :: st))) : Go p l e R s m args below meth c n0 Q h k n (mkF m pc ls (.int y :: .int x :: st)) := by
  subst hq; exact Go.of (fun T tg A => XT.ishl A K.1 rfl (hb K.2.2.2.1 hd) rfl) r
theorem go_ishr (K : Cx p s m meth c Z own nm bytes maxL ret) {x y : Int32} (hd : decode bytes pc = .ok (.ishr, 1))  (hq : pc + 1 = q) (r : Go p l e R s m args below meth c n0 Q h k n (mkF m q ls (.int (x >>> (y &&& 31)) :: st))) : Go p l e R s m args below meth c n0 Q h k n (mkF m pc ls (.int y :: .int x :: st)) := by
  subst hq; exact Go.of (fun T tg A => XT.ishr A K.1 rfl (hb K.2.2.2.1 hd) rfl) r
theorem go_iushr (K : Cx p s m meth c Z own nm bytes maxL ret) {x y : Int32} (hd : decode bytes pc = .ok (.iushr, 1))  (hq : pc + 1 = q) (r : Go p l e R s m args below meth c n0 Q h k n (mkF m q ls (.int (XT.ushr x y) :: st))) : Go p l e R s m args below meth c n0 Q h k n (mkF m pc ls (.int y :: .int x :: st)) := by
  subst hq; exact Go.of (fun T tg A => XT.iushr A K.1 rfl (hb K.2.2.2.1 hd) rfl) r
theorem go_ladd (K : Cx p s m meth c Z own nm bytes maxL ret) {x y : Int64} (hd : decode bytes pc = .ok (.ladd, 1))  (hq : pc + 1 = q) (r : Go p l e R s m args below meth c n0 Q h k n (mkF m q ls (.long (x + y) :: st))) : Go p l e R s m args below meth c n0 Q h k n (mkF m pc ls (.long y :: .long x :: st)) := by
  subst hq; exact Go.of (fun T tg A => XT.ladd A K.1 rfl (hb K.2.2.2.1 hd) rfl) r
theorem go_lsub (K : Cx p s m meth c Z own nm bytes maxL ret) {x y : Int64} (hd : decode bytes pc = .ok (.lsub, 1))  (hq : pc + 1 = q) (r : Go p l e R s m args below meth c n0 Q h k n (mkF m q ls (.long (x - y) :: st))) : Go p l e R s m args below meth c n0 Q h k n (mkF m pc ls (.long y :: .long x :: st)) := by
  subst hq; exact Go.of (fun T tg A => XT.lsub A K.1 rfl (hb K.2.2.2.1 hd) rfl) r
theorem go_lmul (K : Cx p s m meth c Z own nm bytes maxL ret) {x y : Int64} (hd : decode bytes pc = .ok (.lmul, 1))  (hq : pc + 1 = q) (r : Go p l e R s m args below meth c n0 Q h k n (mkF m q ls (.long (x * y) :: st))) : Go p l e R s m args below meth c n0 Q h k n (mkF m pc ls (.long y :: .long x :: st)) := by
  subst hq; exact Go.of (fun T tg A => XT.lmul A K.1 rfl (hb K.2.2.2.1 hd) rfl) r
theorem go_land (K : Cx p s m meth c Z own nm bytes maxL ret) {x y : Int64} (hd : decode bytes pc = .ok (.land, 1))  (hq : pc + 1 = q) (r : Go p l e R s m args below meth c n0 Q h k n (mkF m q ls (.long (x &&& y) :: st))) : Go p l e R s m args below meth c n0 Q h k n (mkF m pc ls (.long y :: .long x :: st)) := by
  subst hq; exact Go.of (fun T tg A => XT.land A K.1 rfl (hb K.2.2.2.1 hd) rfl) r
theorem go_lor (K : Cx p s m meth c Z own nm bytes maxL ret) {x y : Int64} (hd : decode bytes pc = .ok (.lor, 1))  (hq : pc + 1 = q) (r : Go p l e R s m args below meth c n0 Q h k n (mkF m q ls (.long (x ||| y) :: st))) : Go p l e R s m args below meth c n0 Q h k n (mkF m pc ls (.long y :: .long x :: st)) := by
  subst hq; exact Go.of (fun T tg A => XT.lor A K.1 rfl (hb K.2.2.2.1 hd) rfl) r
theorem go_lxor (K : Cx p s m meth c Z own nm bytes maxL ret) {x y : Int64} (hd : decode bytes pc = .ok (.lxor, 1))  (hq : pc + 1 = q) (r : Go p l e R s m args below meth c n0 Q h k n (mkF m q ls (.long (x ^^^ y) :: st))) : Go p l e R s m args below meth c n0 Q h k n (mkF m pc ls (.long y :: .long x :: st)) := by
  subst hq; exact Go.of (fun T tg A => XT.lxor A K.1 rfl (hb K.2.2.2.1 hd) rfl) r
theorem go_lshl (K : Cx p s m meth c Z own nm bytes maxL ret) {x : Int64} {y : Int32} (hd : decode bytes pc = .ok (.lshl, 1))  (hq : pc + 1 = q) (r : Go p l e R s m args below meth c n0 Q h k n (mkF m q ls (.long (x <<< (y.toInt64 &&& 63)) :: st))) : Go p l e R s m args below meth c n0 Q h k n (mkF m pc ls (.int y :: .long x :: st)) := by
  subst hq; exact Go.of (fun T tg A => XT.lshl A K.1 rfl (hb K.2.2.2.1 hd) rfl) r
theorem go_lshr (K : Cx p s m meth c Z own nm bytes maxL ret) {x : Int64} {y : Int32} (hd : decode bytes pc = .ok (.lshr, 1))  (hq : pc + 1 = q) (r : Go p l e R s m args below meth c n0 Q h k n (mkF m q ls (.long (x >>> (y.toInt64 &&& 63)) :: st))) : Go p l e R s m args below meth c n0 Q h k n (mkF m pc ls (.int y :: .long x :: st)) := by
  subst hq; exact Go.of (fun T tg A => XT.lshr A K.1 rfl (hb K.2.2.2.1 hd) rfl) r
theorem go_lushr (K : Cx p s m meth c Z own nm bytes maxL ret) {x : Int64} {y : Int32} (hd : decode bytes pc = .ok (.lushr, 1))  (hq : pc + 1 = q) (r : Go p l e R s m args below meth c n0 Q h k n (mkF m q ls (.long (XT.ushrL x y) :: st))) : Go p l e R s m args below meth c n0 Q h k n (mkF m pc ls (.int y :: .long x :: st)) := by
  subst hq; exact Go.of (fun T tg A => XT.lushr A K.1 rfl (hb K.2.2.2.1 hd) rfl) r
theorem go_idiv (K : Cx p s m meth c Z own nm bytes maxL ret) {x y : Int32} (hd : decode bytes pc = .ok (.idiv, 1)) (hy : y ≠ 0) (hq : pc + 1 = q) (r : Go p l e R s m args below meth c n0 Q h k n (mkF m q ls (.int (x / y) :: st))) : Go p l e R s m args below meth c n0 Q h k n (mkF m pc ls (.int y :: .int x :: st)) := by
  subst hq; exact Go.of (fun T tg A => XS.idiv A K.1 rfl (hb K.2.2.2.1 hd) rfl hy) r
theorem go_irem (K : Cx p s m meth c Z own nm bytes maxL ret) {x y : Int32} (hd : decode bytes pc = .ok (.irem, 1)) (hy : y ≠ 0) (hq : pc + 1 = q) (r : Go p l e R s m args below meth c n0 Q h k n (mkF m q ls (.int (x % y) :: st))) : Go p l e R s m args below meth c n0 Q h k n (mkF m pc ls (.int y :: .int x :: st)) := by
  subst hq; exact Go.ofX (fun T L tg S _ => iremM S K.1 rfl (hb K.2.2.2.1 hd) rfl hy) r
theorem go_ldiv (K : Cx p s m meth c Z own nm bytes maxL ret) {x y : Int64} (hd : decode bytes pc = .ok (.ldiv, 1)) (hy : y ≠ 0) (hq : pc + 1 = q) (r : Go p l e R s m args below meth c n0 Q h k n (mkF m q ls (.long (x / y) :: st))) : Go p l e R s m args below meth c n0 Q h k n (mkF m pc ls (.long y :: .long x :: st)) := by
  subst hq; exact Go.of (fun T tg A => XT.ldiv A K.1 rfl (hb K.2.2.2.1 hd) rfl hy) r
theorem go_lrem (K : Cx p s m meth c Z own nm bytes maxL ret) {x y : Int64} (hd : decode bytes pc = .ok (.lrem, 1)) (hy : y ≠ 0) (hq : pc + 1 = q) (r : Go p l e R s m args below meth c n0 Q h k n (mkF m q ls (.long (x % y) :: st))) : Go p l e R s m args below meth c n0 Q h k n (mkF m pc ls (.long y :: .long x :: st)) := by
  subst hq; rw [← lrem_mod x y] at r; exact Go.of (fun T tg A => XT.lrem A K.1 rfl (hb K.2.2.2.1 hd) rfl hy) r
theorem go_ineg (K : Cx p s m meth c Z own nm bytes maxL ret) {x : Int32} (hd : decode bytes pc = .ok (.ineg, 1))  (hq : pc + 1 = q) (r : Go p l e R s m args below meth c n0 Q h k n (mkF m q ls (.int (-x) :: st))) : Go p l e R s m args below meth c n0 Q h k n (mkF m pc ls (.int x :: st)) := by
  subst hq; exact Go.of (fun T tg A => XS.ineg A K.1 rfl (hb K.2.2.2.1 hd) rfl) r
theorem go_lneg (K : Cx p s m meth c Z own nm bytes maxL ret) {x : Int64} (hd : decode bytes pc = .ok (.lneg, 1))  (hq : pc + 1 = q) (r : Go p l e R s m args below meth c n0 Q h k n (mkF m q ls (.long (-x) :: st))) : Go p l e R s m args below meth c n0 Q h k n (mkF m pc ls (.long x :: st)) := by
  subst hq; exact Go.of (fun T tg A => XT.lneg A K.1 rfl (hb K.2.2.2.1 hd) rfl) r
theorem go_i2l (K : Cx p s m meth c Z own nm bytes maxL ret) {x : Int32} (hd : decode bytes pc = .ok (.i2l, 1))  (hq : pc + 1 = q) (r : Go p l e R s m args below meth c n0 Q h k n (mkF m q ls (.long (x.toInt64) :: st))) : Go p l e R s m args below meth c n0 Q h k n (mkF m pc ls (.int x :: st)) := by
  subst hq; exact Go.of (fun T tg A => XT.i2l A K.1 rfl (hb K.2.2.2.1 hd) rfl) r
theorem go_l2i (K : Cx p s m meth c Z own nm bytes maxL ret) {x : Int64} (hd : decode bytes pc = .ok (.l2i, 1))  (hq : pc + 1 = q) (r : Go p l e R s m args below meth c n0 Q h k n (mkF m q ls (.int (x.toInt32) :: st))) : Go p l e R s m args below meth c n0 Q h k n (mkF m pc ls (.long x :: st)) := by
  subst hq; exact Go.of (fun T tg A => XT.l2i A K.1 rfl (hb K.2.2.2.1 hd) rfl) r
theorem go_i2b (K : Cx p s m meth c Z own nm bytes maxL ret) {x : Int32} (hd : decode bytes pc = .ok (.i2b, 1))  (hq : pc + 1 = q) (r : Go p l e R s m args below meth c n0 Q h k n (mkF m q ls (.int (x.toInt8.toInt32) :: st))) : Go p l e R s m args below meth c n0 Q h k n (mkF m pc ls (.int x :: st)) := by
  subst hq; exact Go.of (fun T tg A => XT.i2b A K.1 rfl (hb K.2.2.2.1 hd) rfl) r
theorem go_i2c (K : Cx p s m meth c Z own nm bytes maxL ret) {x : Int32} (hd : decode bytes pc = .ok (.i2c, 1))  (hq : pc + 1 = q) (r : Go p l e R s m args below meth c n0 Q h k n (mkF m q ls (.int (x.toUInt32.toUInt16.toUInt32.toInt32) :: st))) : Go p l e R s m args below meth c n0 Q h k n (mkF m pc ls (.int x :: st)) := by
  subst hq; exact Go.of (fun T tg A => XT.i2c A K.1 rfl (hb K.2.2.2.1 hd) rfl) r
theorem go_i2s (K : Cx p s m meth c Z own nm bytes maxL ret) {x : Int32} (hd : decode bytes pc = .ok (.i2s, 1))  (hq : pc + 1 = q) (r : Go p l e R s m args below meth c n0 Q h k n (mkF m q ls (.int (x.toInt16.toInt32) :: st))) : Go p l e R s m args below meth c n0 Q h k n (mkF m pc ls (.int x :: st)) := by
  subst hq; exact Go.of (fun T tg A => XT.i2s A K.1 rfl (hb K.2.2.2.1 hd) rfl) r
theorem go_lcmp (K : Cx p s m meth c Z own nm bytes maxL ret) {x y : Int64} (hd : decode bytes pc = .ok (.lcmp, 1))  (hq : pc + 1 = q) (r : Go p l e R s m args below meth c n0 Q h k n (mkF m q ls (.int (XT.cmpL x y) :: st))) : Go p l e R s m args below meth c n0 Q h k n (mkF m pc ls (.long y :: .long x :: st)) := by
  subst hq; exact Go.of (fun T tg A => XT.lcmp A K.1 rfl (hb K.2.2.2.1 hd) rfl) r
theorem go_dup (K : Cx p s m meth c Z own nm bytes maxL ret) {x : Value} (hd : decode bytes pc = .ok (.dup, 1)) (hc : x.category = 1) (hq : pc + 1 = q) (r : Go p l e R s m args below meth c n0 Q h k n (mkF m q ls (x :: x :: st))) : Go p l e R s m args below meth c n0 Q h k n (mkF m pc ls (x :: st)) := by
  subst hq; exact Go.of (fun T tg A => XS.dup A K.1 rfl (hb K.2.2.2.1 hd) rfl hc) r
theorem go_pop (K : Cx p s m meth c Z own nm bytes maxL ret) {x : Value} (hd : decode bytes pc = .ok (.pop, 1)) (hc : x.category = 1) (hq : pc + 1 = q) (r : Go p l e R s m args below meth c n0 Q h k n (mkF m q ls st)) : Go p l e R s m args below meth c n0 Q h k n (mkF m pc ls (x :: st)) := by
  subst hq; exact Go.of (fun T tg A => XT.pop A K.1 rfl (hb K.2.2.2.1 hd) rfl hc) r
theorem go_dup_x1 (K : Cx p s m meth c Z own nm bytes maxL ret) {x y : Value} (hd : decode bytes pc = .ok (.dup_x1, 1)) (hc : x.category = 1) (hc2 : y.category = 1) (hq : pc + 1 = q) (r : Go p l e R s m args below meth c n0 Q h k n (mkF m q ls (x :: y :: x :: st))) : Go p l e R s m args below meth c n0 Q h k n (mkF m pc ls (x :: y :: st)) := by
  subst hq; exact Go.of (fun T tg A => XT.dupX1 A K.1 rfl (hb K.2.2.2.1 hd) rfl hc hc2) r
theorem go_dup2L (K : Cx p s m meth c Z own nm bytes maxL ret) {x : Int64} (hd : decode bytes pc = .ok (.dup2, 1))  (hq : pc + 1 = q) (r : Go p l e R s m args below meth c n0 Q h k n (mkF m q ls (.long x :: .long x :: st))) : Go p l e R s m args below meth c n0 Q h k n (mkF m pc ls (.long x :: st)) := by
  subst hq; exact Go.of (fun T tg A => XT.dup2L A K.1 rfl (hb K.2.2.2.1 hd) rfl) r
theorem go_istoreN (K : Cx p s m meth c Z own nm bytes maxL ret) {i : Fin 4} {x : Int32} (hd : decode bytes pc = .ok (.istore_n i, 1)) (l' : Array Slot) (hl : storeLocals ls i.val (.int x) = some l') (hq : pc + 1 = q) (r : Go p l e R s m args below meth c n0 Q h k n (mkF m q l' st)) : Go p l e R s m args below meth c n0 Q h k n (mkF m pc ls (.int x :: st)) := by
  subst hq; exact Go.of (fun T tg A => XS.istoreN A K.1 rfl (hb K.2.2.2.1 hd) rfl hl) r
theorem go_istore (K : Cx p s m meth c Z own nm bytes maxL ret) {i : Nat} {x : Int32} (hd : decode bytes pc = .ok (.istore i, 2)) (l' : Array Slot) (hl : storeLocals ls i (.int x) = some l') (hq : pc + 2 = q) (r : Go p l e R s m args below meth c n0 Q h k n (mkF m q l' st)) : Go p l e R s m args below meth c n0 Q h k n (mkF m pc ls (.int x :: st)) := by
  subst hq; exact Go.of (fun T tg A => XS.istore A K.1 rfl (hb K.2.2.2.1 hd) rfl hl) r
theorem go_lstoreN (K : Cx p s m meth c Z own nm bytes maxL ret) {i : Fin 4} {x : Int64} (hd : decode bytes pc = .ok (.lstore_n i, 1)) (l' : Array Slot) (hl : storeLocals ls i.val (.long x) = some l') (hq : pc + 1 = q) (r : Go p l e R s m args below meth c n0 Q h k n (mkF m q l' st)) : Go p l e R s m args below meth c n0 Q h k n (mkF m pc ls (.long x :: st)) := by
  subst hq; exact Go.of (fun T tg A => XT.lstoreN A K.1 rfl (hb K.2.2.2.1 hd) rfl hl) r
theorem go_lstore (K : Cx p s m meth c Z own nm bytes maxL ret) {i : Nat} {x : Int64} (hd : decode bytes pc = .ok (.lstore i, 2)) (l' : Array Slot) (hl : storeLocals ls i (.long x) = some l') (hq : pc + 2 = q) (r : Go p l e R s m args below meth c n0 Q h k n (mkF m q l' st)) : Go p l e R s m args below meth c n0 Q h k n (mkF m pc ls (.long x :: st)) := by
  subst hq; exact Go.of (fun T tg A => XT.lstore A K.1 rfl (hb K.2.2.2.1 hd) rfl hl) r
theorem go_astoreN (K : Cx p s m meth c Z own nm bytes maxL ret) {i : Fin 4} {x : Value} (hd : decode bytes pc = .ok (.astore_n i, 1)) (l' : Array Slot) (hv : x.isRef = true) (hl : storeLocals ls i.val x = some l') (hq : pc + 1 = q) (r : Go p l e R s m args below meth c n0 Q h k n (mkF m q l' st)) : Go p l e R s m args below meth c n0 Q h k n (mkF m pc ls (x :: st)) := by
  subst hq; exact Go.of (fun T tg A => XS.astoreN A K.1 rfl (hb K.2.2.2.1 hd) rfl hv hl) r
theorem go_astore (K : Cx p s m meth c Z own nm bytes maxL ret) {i : Nat} {x : Value} (hd : decode bytes pc = .ok (.astore i, 2)) (l' : Array Slot) (hv : x.isRef = true) (hl : storeLocals ls i x = some l') (hq : pc + 2 = q) (r : Go p l e R s m args below meth c n0 Q h k n (mkF m q l' st)) : Go p l e R s m args below meth c n0 Q h k n (mkF m pc ls (x :: st)) := by
  subst hq; exact Go.of (fun T tg A => XS.astore A K.1 rfl (hb K.2.2.2.1 hd) rfl hv hl) r
theorem go_iinc (K : Cx p s m meth c Z own nm bytes maxL ret) {i : Nat} {z : Int} {x : Int32} (hd : decode bytes pc = .ok (.iinc i z, 3)) (v : Int32) (l' : Array Slot) (hv : Int32.ofInt z = v) (hl : ls[i]? = some (.val (.int x))) (hl' : storeLocals ls i (.int (x + v)) = some l') (hq : pc + 3 = q) (r : Go p l e R s m args below meth c n0 Q h k n (mkF m q l' st)) : Go p l e R s m args below meth c n0 Q h k n (mkF m pc ls st) := by
  subst hq; exact Go.of (fun T tg A => XT.iincV A K.1 rfl v (hb K.2.2.2.1 hd) hv hl hl') r
theorem go_goto (K : Cx p s m meth c Z own nm bytes maxL ret)  {o : Int} (hd : decode bytes pc = .ok (.goto o, 3))  (ho : 0 ≤ (pc : Int) + o) (hq : ((pc : Int) + o).toNat = q) (r : Go p l e R s m args below meth c n0 Q h k n (mkF m q ls st)) : Go p l e R s m args below meth c n0 Q h k n (mkF m pc ls st) := by
  exact Go.of (fun T tg A => XS.goto A K.1 rfl rfl (hb K.2.2.2.1 hd) ho hq) r
def cP : ClassFile.Cond → Int32 → Int32 → Prop
  | .eq, x, y => x = y
  | .ne, x, y => ¬ x = y
  | .lt, x, y => x < y
  | .ge, x, y => ¬ x < y
  | .gt, x, y => y < x
  | .le, x, y => ¬ y < x
theorem cP_t {cd : ClassFile.Cond} {x y : Int32} (h : cP cd x y) : if_icmp.holds cd x y = true := by
  cases cd
  · exact XT.ii_eq_t h
  · exact XT.ii_ne_t h
  · exact XT.ii_lt_t h
  · exact XT.ii_ge_t h
  · exact XT.ii_gt_t h
  · exact XT.ii_le_t h
def cN : ClassFile.Cond → Int32 → Int32 → Prop
  | .eq, x, y => ¬ x = y
  | .ne, x, y => x = y
  | .lt, x, y => ¬ x < y
  | .ge, x, y => x < y
  | .gt, x, y => ¬ y < x
  | .le, x, y => y < x
theorem cN_no {cd : ClassFile.Cond} {x y : Int32} {G : Prop} (h : cP cd x y) (h' : cN cd x y) : G := by
  cases cd <;> first | exact absurd h h' | exact absurd h' h
theorem cN_no2 {cd : ClassFile.Cond} {x y : Int32} {G : Prop} (h' : cN cd x y) (h : cP cd x y) : G := cN_no h h'
theorem cP_or (cd : ClassFile.Cond) (x y : Int32) : cP cd x y ∨ cN cd x y := by
  cases cd
  · exact Classical.em (x = y)
  · exact (Classical.em (x = y)).symm
  · exact Classical.em (x < y)
  · exact (Classical.em (x < y)).symm
  · exact Classical.em (y < x)
  · exact (Classical.em (y < x)).symm
theorem cP_f {cd : ClassFile.Cond} {x y : Int32} (h : cN cd x y) : if_icmp.holds cd x y = false := by
  cases cd
  · exact XT.ii_eq_f h
  · exact XT.ii_ne_f h
  · exact XT.ii_lt_f h
  · exact XT.ii_ge_f h
  · exact XT.ii_gt_f h
  · exact XT.ii_le_f h

theorem go_icmp (K : Cx p s m meth c Z own nm bytes maxL ret) {cd : ClassFile.Cond} {x y : Int32} {o : Int} {q' : Nat} (hd : decode bytes pc = .ok (.if_icmp cd o, 3)) (ho : 0 ≤ (pc : Int) + o) (hq : ((pc : Int) + o).toNat = q) (hq' : pc + 3 = q') (r : cP cd x y → Go p l e R s m args below meth c n0 Q h k n (mkF m q ls st)) (r' : cN cd x y → Go p l e R s m args below meth c n0 Q h k n (mkF m q' ls st)) : Go p l e R s m args below meth c n0 Q h k n (mkF m pc ls (.int y :: .int x :: st)) := by
  subst hq'; rcases cP_or cd x y with hc | hc
  · exact Go.of (fun T tg A => XS.icmpYes A K.1 rfl rfl (hb K.2.2.2.1 hd) rfl (cP_t hc) ho hq) (r hc)
  · exact Go.of (fun T tg A => XS.icmpNo A K.1 rfl (hb K.2.2.2.1 hd) rfl (cP_f hc)) (r' hc)
theorem go_if0 (K : Cx p s m meth c Z own nm bytes maxL ret) {cd : ClassFile.Cond} {x : Int32} {o : Int} {q' : Nat} (hd : decode bytes pc = .ok (.ifCond cd o, 3)) (ho : 0 ≤ (pc : Int) + o) (hq : ((pc : Int) + o).toNat = q) (hq' : pc + 3 = q') (r : cP cd x 0 → Go p l e R s m args below meth c n0 Q h k n (mkF m q ls st)) (r' : cN cd x 0 → Go p l e R s m args below meth c n0 Q h k n (mkF m q' ls st)) : Go p l e R s m args below meth c n0 Q h k n (mkF m pc ls (.int x :: st)) := by
  subst hq'; rcases cP_or cd x 0 with hc | hc
  · exact Go.of (fun T tg A => XS.ifYes A K.1 rfl rfl (hb K.2.2.2.1 hd) rfl (by rw [if0]; exact cP_t hc) ho hq) (r hc)
  · exact Go.of (fun T tg A => XS.ifNo A K.1 rfl (hb K.2.2.2.1 hd) rfl (by rw [if0]; exact cP_f hc)) (r' hc)
def cL : ClassFile.Cond → Int64 → Int64 → Prop
  | .eq, x, y => x = y
  | .ne, x, y => ¬ x = y
  | .lt, x, y => x < y
  | .ge, x, y => ¬ x < y
  | .gt, x, y => y < x
  | .le, x, y => ¬ y < x
theorem cL_t {cd : ClassFile.Cond} {x y : Int64} (h : cL cd x y) : ifCond.holds cd (XT.cmpL x y) = true := by
  cases cd
  · exact XT.ll_eq_t h
  · exact XT.ll_ne_t h
  · exact XT.ll_lt_t h
  · exact XT.ll_ge_t h
  · exact XT.ll_gt_t h
  · exact XT.ll_le_t h
def cLN : ClassFile.Cond → Int64 → Int64 → Prop
  | .eq, x, y => ¬ x = y
  | .ne, x, y => x = y
  | .lt, x, y => ¬ x < y
  | .ge, x, y => x < y
  | .gt, x, y => ¬ y < x
  | .le, x, y => y < x
theorem cLN_no {cd : ClassFile.Cond} {x y : Int64} {G : Prop} (h : cL cd x y) (h' : cLN cd x y) : G := by
  cases cd <;> first | exact absurd h h' | exact absurd h' h
theorem cLN_no2 {cd : ClassFile.Cond} {x y : Int64} {G : Prop} (h' : cLN cd x y) (h : cL cd x y) : G := cLN_no h h'
theorem cL_or (cd : ClassFile.Cond) (x y : Int64) : cL cd x y ∨ cLN cd x y := by
  cases cd
  · exact Classical.em (x = y)
  · exact (Classical.em (x = y)).symm
  · exact Classical.em (x < y)
  · exact (Classical.em (x < y)).symm
  · exact Classical.em (y < x)
  · exact (Classical.em (y < x)).symm
theorem cL_f {cd : ClassFile.Cond} {x y : Int64} (h : cLN cd x y) : ifCond.holds cd (XT.cmpL x y) = false := by
  cases cd
  · exact XT.ll_eq_f h
  · exact XT.ll_ne_f h
  · exact XT.ll_lt_f h
  · exact XT.ll_ge_f h
  · exact XT.ll_gt_f h
  · exact XT.ll_le_f h

theorem go_ifL (K : Cx p s m meth c Z own nm bytes maxL ret) {cd : ClassFile.Cond} {x y : Int64} {o : Int} {q' : Nat} (hd : decode bytes pc = .ok (.ifCond cd o, 3)) (ho : 0 ≤ (pc : Int) + o) (hq : ((pc : Int) + o).toNat = q) (hq' : pc + 3 = q') (r : cL cd x y → Go p l e R s m args below meth c n0 Q h k n (mkF m q ls st)) (r' : cLN cd x y → Go p l e R s m args below meth c n0 Q h k n (mkF m q' ls st)) : Go p l e R s m args below meth c n0 Q h k n (mkF m pc ls (.int (XT.cmpL x y) :: st)) := by
  subst hq'; rcases cL_or cd x y with hc | hc
  · exact Go.of (fun T tg A => XS.ifYes A K.1 rfl rfl (hb K.2.2.2.1 hd) rfl (cL_t hc) ho hq) (r hc)
  · exact Go.of (fun T tg A => XS.ifNo A K.1 rfl (hb K.2.2.2.1 hd) rfl (cL_f hc)) (r' hc)
theorem go_ifnullY (K : Cx p s m meth c Z own nm bytes maxL ret)  {o : Int} (hd : decode bytes pc = .ok (.ifnull o, 3))  (ho : 0 ≤ (pc : Int) + o) (hq : ((pc : Int) + o).toNat = q) (r : Go p l e R s m args below meth c n0 Q h k n (mkF m q ls st)) : Go p l e R s m args below meth c n0 Q h k n (mkF m pc ls (.null :: st)) := by
  exact Go.of (fun T tg A => XS.ifnullYes A K.1 rfl rfl (hb K.2.2.2.1 hd) rfl ho hq) r
theorem go_ifnullN (K : Cx p s m meth c Z own nm bytes maxL ret) {a : Addr} {o : Int} (hd : decode bytes pc = .ok (.ifnull o, 3))  (hq : pc + 3 = q) (r : Go p l e R s m args below meth c n0 Q h k n (mkF m q ls st)) : Go p l e R s m args below meth c n0 Q h k n (mkF m pc ls (.ref a :: st)) := by
  subst hq; exact Go.of (fun T tg A => XS.ifnullNo A K.1 rfl (hb K.2.2.2.1 hd) rfl) r
theorem go_ifnonnullY (K : Cx p s m meth c Z own nm bytes maxL ret) {a : Addr} {o : Int} (hd : decode bytes pc = .ok (.ifnonnull o, 3))  (ho : 0 ≤ (pc : Int) + o) (hq : ((pc : Int) + o).toNat = q) (r : Go p l e R s m args below meth c n0 Q h k n (mkF m q ls st)) : Go p l e R s m args below meth c n0 Q h k n (mkF m pc ls (.ref a :: st)) := by
  exact Go.of (fun T tg A => XT.ifnonnullYes A K.1 rfl rfl (hb K.2.2.2.1 hd) rfl ho hq) r
theorem go_ifnonnullN (K : Cx p s m meth c Z own nm bytes maxL ret) {o : Int} (hd : decode bytes pc = .ok (.ifnonnull o, 3))  (hq : pc + 3 = q) (r : Go p l e R s m args below meth c n0 Q h k n (mkF m q ls st)) : Go p l e R s m args below meth c n0 Q h k n (mkF m pc ls (.null :: st)) := by
  subst hq; exact Go.of (fun T tg A => XT.ifnonnullNo A K.1 rfl (hb K.2.2.2.1 hd) rfl) r
def cA : ClassFile.ACond → Value → Value → Prop
  | .eq, x, y => x = y
  | .ne, x, y => ¬ x = y
def cAN : ClassFile.ACond → Value → Value → Prop
  | .eq, x, y => ¬ x = y
  | .ne, x, y => x = y
theorem cAN_no {cd : ClassFile.ACond} {x y : Value} {G : Prop} (h : cA cd x y) (h' : cAN cd x y) : G := by
  cases cd <;> first | exact absurd h h' | exact absurd h' h
theorem cAN_no2 {cd : ClassFile.ACond} {x y : Value} {G : Prop} (h' : cAN cd x y) (h : cA cd x y) : G := cAN_no h h'
theorem cA_or (cd : ClassFile.ACond) (x y : Value) : cA cd x y ∨ cAN cd x y := by
  cases cd
  · exact Classical.em (x = y)
  · exact (Classical.em (x = y)).symm
theorem cA_v {cd : ClassFile.ACond} {x y : Value} {b : Bool} (hb : decide (x = y) = b) : (acV cd b = true ↔ cA cd x y) := by
  subst hb; cases cd <;> simp [acV, cA]

theorem go_acmp (K : Cx p s m meth c Z own nm bytes maxL ret) {cd : ClassFile.ACond} {x y : Value} {o : Int} {q' : Nat} (hd : decode bytes pc = .ok (.if_acmp cd o, 3)) (h1 : x.isRef = true) (h2 : y.isRef = true) (ho : 0 ≤ (pc : Int) + o) (hq : ((pc : Int) + o).toNat = q) (hq' : pc + 3 = q') (r : cA cd x y → Go p l e R s m args below meth c n0 Q h k n (mkF m q ls st)) (r' : cAN cd x y → Go p l e R s m args below meth c n0 Q h k n (mkF m q' ls st)) : Go p l e R s m args below meth c n0 Q h k n (mkF m pc ls (y :: x :: st)) := by
  subst hq'; rcases cA_or cd x y with hc | hc
  · exact Go.ofX (fun T L tg S _ => acmp S K.1 rfl h1 h2 rfl (hb K.2.2.2.1 hd) rfl rfl ho (by rw [if_pos ((cA_v rfl).mpr hc)]; exact hq.symm)) (r hc)
  · exact Go.ofX (fun T L tg S _ => acmp S K.1 rfl h1 h2 rfl (hb K.2.2.2.1 hd) rfl rfl ho (by rw [if_neg (fun z => cAN_no ((cA_v rfl).mp z) hc)])) (r' hc)
theorem go_ldcI (K : Cx p s m meth c Z own nm bytes maxL ret) {i : Nat} {v : Int32} (wc : (Cond.constant own i v).before a0 Z = true) (hd : decode bytes pc = .ok (.ldc i, 2)) (hq : pc + 2 = q) (r : Go p l e R s m args below meth c n0 Q h k n (mkF m q ls (.int v :: st))) : Go p l e R s m args below meth c n0 Q h k n (mkF m pc ls st) := by
  subst hq; exact Go.ofX (fun T L tg S _ => S.ldcI K.1 K.2.2.1 (mvT K.2.1 wc) rfl (hb K.2.2.2.1 hd)) r
theorem go_ldcWI (K : Cx p s m meth c Z own nm bytes maxL ret) {i : Nat} {v : Int32} (wc : (Cond.constant own i v).before a0 Z = true) (hd : decode bytes pc = .ok (.ldc_w i, 3)) (hq : pc + 3 = q) (r : Go p l e R s m args below meth c n0 Q h k n (mkF m q ls (.int v :: st))) : Go p l e R s m args below meth c n0 Q h k n (mkF m pc ls st) := by
  subst hq; exact Go.ofX (fun T L tg S _ => S.ldcWI K.1 K.2.2.1 (mvT K.2.1 wc) rfl (hb K.2.2.2.1 hd)) r
theorem go_ldc2J (K : Cx p s m meth c Z own nm bytes maxL ret) {i : Nat} {v : Int64} (wc : (Cond.constantLong own i v).before a0 Z = true) (hd : decode bytes pc = .ok (.ldc2_w i, 3)) (hq : pc + 3 = q) (r : Go p l e R s m args below meth c n0 Q h k n (mkF m q ls (.long v :: st))) : Go p l e R s m args below meth c n0 Q h k n (mkF m pc ls st) := by
  subst hq; exact Go.ofX (fun T L tg S _ => S.ldc2J K.1 K.2.2.1 (mvT K.2.1 wc) rfl (hb K.2.2.2.1 hd)) r
theorem go_ldcF (K : Cx p s m meth c Z own nm bytes maxL ret) {i : Nat} {v : UInt32} (wc : (Cond.constantFloat own i v).before a0 Z = true) (hd : decode bytes pc = .ok (.ldc i, 2)) (hq : pc + 2 = q) (r : Go p l e R s m args below meth c n0 Q h k n (mkF m q ls (.float v :: st))) : Go p l e R s m args below meth c n0 Q h k n (mkF m pc ls st) := by
  subst hq; exact Go.ofX (fun T L tg S _ => S.ldcFloatC K.1 K.2.2.1 (mvT K.2.1 wc) (g := mkF m pc ls st) rfl (hb K.2.2.2.1 hd) tg) r
theorem lswAt {tb : Tables} [Ours tb] {e : Env} {below : List Frame} {T target : State} {m : MethodId} {c : Code} {g : JFrame} (h : At T m c below) (hx : tb.exec = Jvm.exec) (hg : g.method = m) {dflt o : Int} {prs : Array (Int × Int)} {len pc0 pc' : Nat} (hpc : g.pc = pc0) (hd : decode c.code g.pc = .ok (.lookupswitch dflt prs, len)) {i : Int32} {rest : List Value} (hs : g.stack = .int i :: rest)
    (hinc : (prs.toList.zip (prs.toList.drop 1)).all (fun (a, next) => a.1 < next.1) = true) (hoff : lookupswitch.offset prs.toList dflt i.toInt = o) (ho : 0 ≤ (pc0 : Int) + o) (hp : ((pc0 : Int) + o).toNat = pc')
    (hr : Steps tb e below (T.setTop { g with pc := pc', stack := rest }) target) : Steps tb e below (T.setTop g) target := by
  subst hg hpc hp
  jvm_step h [h.top, hx, hd, hs, lookupswitch.wp_chain, hoff, ho]
  exact ⟨by simpa using hinc, hr⟩
theorem go_lsw (K : Cx p s m meth c Z own nm bytes maxL ret) {dflt o : Int} {prs : Array (Int × Int)} {len : Nat} {x : Int32} (hd : decode bytes pc = .ok (.lookupswitch dflt prs, len)) (hinc : (prs.toList.zip (prs.toList.drop 1)).all (fun (a, next) => a.1 < next.1) = true) (hoff : lookupswitch.offset prs.toList dflt x.toInt = o) (ho : 0 ≤ (pc : Int) + o) (hq : ((pc : Int) + o).toNat = q)
    (r : Go p l e R s m args below meth c n0 Q h k n (mkF m q ls st)) : Go p l e R s m args below meth c n0 Q h k n (mkF m pc ls (.int x :: st)) :=
  by exact Go.of (fun T tg A => lswAt (g := mkF m pc ls (.int x :: st)) A K.1 rfl (pc0 := pc) (pc' := q) rfl (hb K.2.2.2.1 hd) rfl hinc hoff ho hq) r
theorem go_tsw (K : Cx p s m meth c Z own nm bytes maxL ret) {dflt low high o : Int} {offs : Array Int} {len : Nat} {x : Int32} (hd : decode bytes pc = .ok (.tableswitch dflt low high offs, len)) (hin : ¬ (x.toInt < low ∨ x.toInt > high)) (hoff : offs[(x.toInt - low).toNat]? = some o) (ho : 0 ≤ (pc : Int) + o) (hq : ((pc : Int) + o).toNat = q)
    (r : Go p l e R s m args below meth c n0 Q h k n (mkF m q ls st)) : Go p l e R s m args below meth c n0 Q h k n (mkF m pc ls (.int x :: st)) :=
  by exact Go.of (fun T tg A => XS.tswIn (g := mkF m pc ls (.int x :: st)) A K.1 rfl (pc0 := pc) (pc' := q) rfl (hb K.2.2.2.1 hd) rfl hin hoff ho hq) r

theorem go_return (K : Cx p s m meth c Z own nm bytes maxL ret) (hd : decode bytes pc = .ok (.return_, 1)) (hr : ret = none) (hk : k ≤ R.cells) (hn : n ≤ R.slots) (hQ : Q none h) : Go p l e R s m args below meth c n0 Q h k n (mkF m pc ls []) := fun T L S N eT => by
  obtain ⟨fs, hr', hrun, hended, hW, hsame⟩ := S.leave (v := none) (fun _ => rfl) K.2.2.2.2.2.2.1
  exact ⟨_, _, S.returnOut K.1 (K.2.2.2.2.2.1.trans hr) (hb K.2.2.2.1 hd) hr', hrun, hended, _, _, rfl, ⟨by show Q none T.heap; rw [eT]; exact hQ, N⟩, ⟨_, rfl⟩, hW, hsame.mono hk hn⟩
theorem go_ret (K : Cx p s m meth c Z own nm bytes maxL ret) {v : Value} {t : FieldType} {i : Instr} (hd : decode bytes pc = .ok (i, 1)) (hr : ret = some t) (hnw : narrow t v = v) (hi : (i = .ireturn ∧ (t = .int ∨ t = .boolean ∨ t = .byte ∨ t = .char ∨ t = .short) ∧ ∃ z, v = .int z) ∨ (i = .lreturn ∧ t = .long ∧ ∃ z, v = .long z) ∨ (i = .dreturn ∧ t = .double ∧ ∃ z, v = .double z) ∨ (i = .freturn ∧ t = .float ∧ ∃ z, v = .float z) ∨ (i = .areturn ∧ t.isReference = true ∧ v.isRef = true)) (hk : k ≤ R.cells) (hn : n ≤ R.slots) (hQ : Q (some v) h) : Go p l e R s m args below meth c n0 Q h k n (mkF m pc ls (v :: st)) := fun T L S N eT => by
  obtain ⟨fs, hr', hrun, hended, hW, hsame⟩ := S.leave (v := some v) (fun z => by rw [K.2.2.2.2.2.1, hr] at z; cases z) K.2.2.2.2.2.2.1
  exact ⟨_, _, retOut S K.1 (K.2.2.2.2.2.1.trans hr) hnw hi (hb K.2.2.2.1 hd) hr', hrun, hended, _, _, rfl, ⟨by show Q (some v) T.heap; rw [eT]; exact hQ, N⟩, ⟨_, rfl⟩, hW, hsame.mono hk hn⟩
theorem go_iret (K : Cx p s m meth c Z own nm bytes maxL ret) {v : Int32} {t : FieldType} (hd : decode bytes pc = .ok (.ireturn, 1)) (hr : ret = some t) (ht : t = .int ∨ t = .boolean ∨ t = .byte ∨ t = .char ∨ t = .short) (hnw : narrow t (.int v) = .int v) (hk : k ≤ R.cells) (hn : n ≤ R.slots) (hQ : Q (some (.int v)) h) : Go p l e R s m args below meth c n0 Q h k n (mkF m pc ls (.int v :: st)) :=
  go_ret K hd hr hnw (Or.inl ⟨rfl, ht, v, rfl⟩) hk hn hQ
theorem go_lret (K : Cx p s m meth c Z own nm bytes maxL ret) {v : Int64} (hd : decode bytes pc = .ok (.lreturn, 1)) (hr : ret = some .long) (hk : k ≤ R.cells) (hn : n ≤ R.slots) (hQ : Q (some (.long v)) h) : Go p l e R s m args below meth c n0 Q h k n (mkF m pc ls (.long v :: st)) :=
  go_ret K hd hr rfl (Or.inr (Or.inl ⟨rfl, rfl, v, rfl⟩)) hk hn hQ
theorem go_aret (K : Cx p s m meth c Z own nm bytes maxL ret) {v : Value} {t : FieldType} (hd : decode bytes pc = .ok (.areturn, 1)) (hr : ret = some t) (ht : t.isReference = true) (hv : v.isRef = true) (hnw : narrow t v = v) (hk : k ≤ R.cells) (hn : n ≤ R.slots) (hQ : Q (some v) h) : Go p l e R s m args below meth c n0 Q h k n (mkF m pc ls (v :: st)) :=
  go_ret K hd hr hnw (Or.inr (Or.inr (Or.inr (Or.inr ⟨rfl, ht, hv⟩)))) hk hn hQ
/-- a body's contract: called with just these arguments over the heap h it comes back, Q holds, and nothing below n0 was written -/
def Met (l : Launch) (y : MethodName) (bytes : ByteArray) (maxL : Nat) (ret : Option FieldType) (ws : List Jvm.Cond) (R : Room) (as' : Array Value) (Z : State) (h : Heap) (n0 : Nat) (Q : Option Value → Heap → Prop) : Prop :=
  MetFree l y (head1 (Jvm.Cond.code y bytes maxL ret :: ws) R) (fun a U => a = as' ∧ Z.Warmed39 U.vm ∧ U.heap = h) (fun _ _ _ _ _ => True) (fun _ U o U' => ∃ v L, o = .returned v ∧ (Q v U'.heap ∧ Fr n0 L) ∧ FrameEnd U o U' L R.cells R.slots)
theorem Met.of {y : MethodName} {ws : List Jvm.Cond} {as' : Array Value} (hp : plainFor y = true)
    (body : ∀ (p : Program) (e : Env) (s : State) (m : MethodId) (below : List Frame) (meth : Method) (c : Code), Cx p s m meth c Z y.cls y.name bytes maxL ret → Go p l e R s m as' below meth c n0 Q h 0 0 (entryFrame m as' maxL)) : Met l y bytes maxL ret ws R as' Z h n0 Q := by
  refine MetFree.of_bodySF hp hisR ?_
  intro p e s m args below meth c s₁ Bd hml0 hP hK
  obtain ⟨rfl, hZ, hh⟩ := hP
  have hown : s.vm.findClass y.cls = some m.cls := findClass_of_methodNamed Bd.named
  have hnm := (name_of_methodNamed Bd.named Bd.method).1
  exact body p e s m below meth c ⟨Bd.exec, hZ, hown, Bd.bytes, hml0, Bd.returns, Bd.notSynchronized, hnm⟩ s₁ [] (Stand.of_body Bd) (Fr.nil n0) (by rw [← hh, Bd.state]; rfl)
theorem Met.mono {y : MethodName} {ws : List Jvm.Cond} {as' : Array Value} {Q' : Option Value → Heap → Prop} (M : Met l y bytes maxL ret ws R as' Z h n0 Q) (f : ∀ v h', Q v h' → Q' v h') : Met l y bytes maxL ret ws R as' Z h n0 Q' := by
  intro p e ha hc hk s m args below hf happ hP hK
  obtain ⟨n, o, h1, h2, h3, v, L, h4, h5, h6⟩ := M p e ha hc hk s m args below hf happ hP hK
  exact ⟨n, o, h1, h2, h3, v, L, h4, ⟨f _ _ h5.1, h5.2⟩, h6⟩
theorem Go.entry {maxL' : Nat} {as' : Array Value} (hl : argsToLocals as' maxL' = ls) (r : Go p l e R s m args below meth c n0 Q h k n (mkF m 0 ls [])) : Go p l e R s m args below meth c n0 Q h k n (entryFrame m as' maxL') := by
  subst hl; exact r

/-- what a static call by contract needs -/
theorem go_callS (K : Cx p s m meth c Z own nm bytes maxL ret) {y : MethodName} {bytes' : ByteArray} {maxL' : Nat} {ret' : Option FieldType} {rm : Room} {W i : Nat} {Q' : Option Value → Heap → Prop} {ps : List FieldType}
    (w1 : (Cond.methodLink own i y).before a0 Z = true) (w2 : (Cond.static y).before a0 Z = true) (w3 : (Cond.initialized y.cls).before a0 Z = true) (w4 : (Cond.code y bytes' maxL' ret').before a0 Z = true)
    (argsL rest : List Value) (hM : Met l y bytes' maxL' ret' [] rm argsL.toArray Z h n0 Q') (hd : decode bytes pc = .ok (.invokestatic i, 3)) (hpd : parseMethodDescriptor y.desc = some ⟨ps, ret'⟩) (hlen : argsL.length = ps.length) (hst : st = argsL.reverse ++ rest)
    (hls : ls.size = maxL) (hy : y.cls ≠ "java/lang/invoke/MethodHandle" ∧ y.cls ≠ "java/lang/invoke/VarHandle") (hW : (rest.map fun v => v.category).sum = W) (hfr : rm.frames + 1 ≤ R.frames) (hlo : W + (maxL' + 11) + rm.locals ≤ R.locals) (hce : k + rm.cells ≤ R.cells) (hsl : n + rm.slots ≤ R.slots) (hq : pc + 3 = q)
    (r : ∀ v h', Q' v h' → Go p l e R s m args below meth c n0 Q h' (k + rm.cells) (n + rm.slots) (mkF m q ls (v.toList ++ rest))) : Go p l e R s m args below meth c n0 Q h k n (mkF m pc ls st) := fun T L S N eT => by
  subst hq hst
  obtain ⟨v, _, B, -, X, ⟨Lc, hQ, l1, y1, z1⟩, stp⟩ := Jvm.LawKit.callS S K.1 (y := y) K.2.2.1 (mvT K.2.1 w1) (mvT K.2.1 w2) (mvT K.2.1 w3) (mvT K.2.1 w4) hy (backOf (W := W) (Q := fun v h' L => Q' v h' ∧ Fr n0 L) hM K.2.1 w4 w3 hfr hlo) (g := mkF m pc ls (argsL.reverse ++ rest)) rfl (hls.trans K.2.2.2.2.1.symm) (argsL := argsL) (rest := rest) (lenOf hpd hlen) rfl (by show 2 * 0 + _ ≤ _; rw [hW]; omega) (hb K.2.2.2.1 hd) (fun _ _ => ⟨rfl, eT, hce, hsl⟩)
  obtain ⟨T', L', k', n'⟩ := B
  dsimp only [Pt.U, Pt.locs, Pt.cells, Pt.slots] at X l1 y1 z1 stp hQ
  subst l1 y1 z1
  obtain ⟨s₂, o, hs, z⟩ := r v _ hQ.1 T' _ X (Fr.app N hQ.2) rfl
  exact ⟨s₂, o, stp _ hs, z⟩
theorem go_callI (K : Cx p s m meth c Z own nm bytes maxL ret) {y : MethodName} {bytes' : ByteArray} {maxL' : Nat} {rm : Room} {W i : Nat} {Q' : Option Value → Heap → Prop} {ps : List FieldType} {a : Addr}
    (w1 : (Cond.methodLink own i y).before a0 Z = true) (w2 : (Cond.instanceMethod y).before a0 Z = true) (w3 : (Cond.initialized y.cls).before a0 Z = true) (w4 : (Cond.code y bytes' maxL' none).before a0 Z = true) (hy1 : y.name = "<init>")
    (argsL rest : List Value) (hM : Met l y bytes' maxL' none [] rm (.ref a :: argsL).toArray Z h n0 Q') (hd : decode bytes pc = .ok (.invokespecial i, 3)) (hpd : parseMethodDescriptor y.desc = some ⟨ps, none⟩) (hlen : argsL.length = ps.length) (hst : st = argsL.reverse ++ .ref a :: rest)
    (hls : ls.size = maxL) (hy : y.cls ≠ "java/lang/invoke/MethodHandle" ∧ y.cls ≠ "java/lang/invoke/VarHandle") (hW : (rest.map fun v => v.category).sum = W) (hfr : rm.frames + 1 ≤ R.frames) (hlo : W + (maxL' + 11) + rm.locals ≤ R.locals) (hce : k + rm.cells ≤ R.cells) (hsl : n + rm.slots ≤ R.slots) (hq : pc + 3 = q)
    (r : ∀ v h', Q' v h' → Go p l e R s m args below meth c n0 Q h' (k + rm.cells) (n + rm.slots) (mkF m q ls (v.toList ++ rest))) : Go p l e R s m args below meth c n0 Q h k n (mkF m pc ls st) := fun T L S N eT => by
  subst hq hst
  obtain ⟨v, _, B, -, X, ⟨Lc, hQ, l1, y1, z1⟩, stp⟩ := S.specialBack K.1 (y := y) hy1 K.2.2.1 (mvT K.2.1 w1) (mvT K.2.1 w2) (mvT K.2.1 w4) hy (backOf (W := W) (Q := fun v h' L => Q' v h' ∧ Fr n0 L) hM K.2.1 w4 w3 hfr hlo) (g := mkF m pc ls (argsL.reverse ++ .ref a :: rest)) rfl (hls.trans K.2.2.2.2.1.symm) (Steps.refl _) (a := a) (argsL := argsL) (rest := rest) (lenOf hpd hlen) rfl (by show 2 * 0 + _ ≤ _; rw [hW]; omega) (hb K.2.2.2.1 hd) (fun _ _ => ⟨rfl, eT, hce, hsl⟩)
  obtain ⟨T', L', k', n'⟩ := B
  dsimp only [Pt.U, Pt.locs, Pt.cells, Pt.slots] at X l1 y1 z1 stp hQ
  subst l1 y1 z1
  obtain ⟨s₂, o, hs, z⟩ := r v _ hQ.1 T' _ X (Fr.app N hQ.2) rfl
  exact ⟨s₂, o, stp.trans hs, z⟩
theorem nf_of {y yf : MethodName} {Cf : String} (w : (Cond.selects Cf yf yf).before args s = true) (hyf : yf.cls = y.cls) : NotFace s y := fun r0 h0 => by
  obtain ⟨c2, r2, m2, -, -, q3, -, kP, hkP, hkPi⟩ := Cond.selects_spec w
  have hcl : m2.cls = r0.cls := by
    have e1 := findClass_of_methodNamed q3
    have e2 := findClass_of_methodNamed h0
    rw [hyf] at e1
    exact Option.some.inj (e1.symm.trans e2)
  rw [hcl] at hkP
  exact ⟨kP, hkP, hkPi⟩
theorem go_callV (K : Cx p s m meth c Z own nm bytes maxL ret) {y yz yf : MethodName} {C Cf : String} {bytes' : ByteArray} {maxL' : Nat} {ret' : Option FieldType} {rm : Room} {W i : Nat} {Q' : Option Value → Heap → Prop} {ps : List FieldType} {a : Addr}
    (w1 : (Cond.methodLink own i y).before a0 Z = true) (w2 : (Cond.declares y).before a0 Z = true) (w3 : (Cond.selects C y yz).before a0 Z = true) (w4 : (Cond.instanceMethod yz).before a0 Z = true) (w5 : (Cond.initialized yz.cls).before a0 Z = true) (w6 : (Cond.code yz bytes' maxL' ret').before a0 Z = true) (w7 : (Cond.selects Cf yf yf).before a0 Z = true) (hyf : yf.cls = y.cls)
    (E : Exa Z h a C) (argsL rest : List Value) (hM : Met l yz bytes' maxL' ret' [] rm (.ref a :: argsL).toArray Z h n0 Q') (hd : decode bytes pc = .ok (.invokevirtual i, 3)) (hpd : parseMethodDescriptor y.desc = some ⟨ps, ret'⟩) (hlen : argsL.length = ps.length) (hst : st = argsL.reverse ++ .ref a :: rest)
    (hls : ls.size = maxL) (hy : y.cls ≠ "java/lang/invoke/MethodHandle" ∧ y.cls ≠ "java/lang/invoke/VarHandle") (hW : (rest.map fun v => v.category).sum = W) (hfr : rm.frames + 1 ≤ R.frames) (hlo : W + (maxL' + 11) + rm.locals ≤ R.locals) (hce : k + rm.cells ≤ R.cells) (hsl : n + rm.slots ≤ R.slots) (hq : pc + 3 = q)
    (r : ∀ v h', Q' v h' → Go p l e R s m args below meth c n0 Q h' (k + rm.cells) (n + rm.slots) (mkF m q ls (v.toList ++ rest))) : Go p l e R s m args below meth c n0 Q h k n (mkF m pc ls st) := fun T L S N eT => by
  subst hq hst
  obtain ⟨cq, kq, qa, qb, qc⟩ := isOf K.2.1 eT E
  obtain ⟨v, _, B, -, X, ⟨Lc, hQ, l1, y1, z1⟩, stp⟩ := S.virtualBack K.1 (y := y) (z := yz) K.2.2.1 (mvT K.2.1 w1) (mvT K.2.1 w2) (nf_of (args := #[]) (mvT K.2.1 w7) hyf) (mvT K.2.1 w3) (mvT K.2.1 w4) hy (backOf (W := W) (Q := fun v h' L => Q' v h' ∧ Fr n0 L) hM K.2.1 w6 w5 hfr hlo) qa qc (g := mkF m pc ls (argsL.reverse ++ .ref a :: rest)) rfl (hls.trans K.2.2.2.2.1.symm) (Steps.refl _) (argsL := argsL) (rest := rest) (lenOf hpd hlen) rfl (by show 2 * 0 + _ ≤ _; rw [hW]; omega) (hb K.2.2.2.1 hd) (fun _ _ => ⟨rfl, eT, hce, hsl⟩)
  obtain ⟨T', L', k', n'⟩ := B
  dsimp only [Pt.U, Pt.locs, Pt.cells, Pt.slots] at X l1 y1 z1 stp hQ
  subst l1 y1 z1
  obtain ⟨s₂, o, hs, z⟩ := r v _ hQ.1 T' _ X (Fr.app N hQ.2) rfl
  exact ⟨s₂, o, stp.trans hs, z⟩

/-! the heap: fields, statics, objects -/
theorem go_getF (K : Cx p s m meth c Z own nm bytes maxL ret) {R0 O f d : String} {i : Nat} {a : Addr} {v : Value} (w1 : (Cond.fieldLink own i R0 f d).before a0 Z = true) (via : Via Z R0 O f d) (F : Fld Z h a O f d v) (hd : decode bytes pc = .ok (.getfield i, 3)) (hq : pc + 3 = q)
    (r : Go p l e R s m args below meth c n0 Q h k n (mkF m q ls (v :: st))) : Go p l e R s m args below meth c n0 Q h k n (mkF m pc ls (.ref a :: st)) := fun T L S N eT => by
  subst hq
  obtain ⟨T', X, e', stp⟩ := getF S K.1 K.2.1 K.2.2.1 (host := "") (Or.inl w1) via eT F (g := mkF m pc ls (.ref a :: st)) rfl rfl (hb K.2.2.2.1 hd)
  obtain ⟨s₂, o, hs, z⟩ := r T' L X N e'
  exact ⟨s₂, o, stp _ hs, z⟩
theorem go_getS (K : Cx p s m meth c Z own nm bytes maxL ret) {R0 O f d : String} {i : Nat} {v : Value} (w1 : (Cond.fieldLink own i R0 f d).before a0 Z = true) (via : Via Z R0 O f d) (F : Sta Z h O f d v) (hd : decode bytes pc = .ok (.getstatic i, 3)) (hq : pc + 3 = q)
    (r : Go p l e R s m args below meth c n0 Q h k n (mkF m q ls (v :: st))) : Go p l e R s m args below meth c n0 Q h k n (mkF m pc ls st) := fun T L S N eT => by
  subst hq
  obtain ⟨T', X, e', stp⟩ := getS S K.1 K.2.1 (host := "") K.2.2.1 w1 via eT F (g := mkF m pc ls st) rfl (hb K.2.2.2.1 hd)
  obtain ⟨s₂, o, hs, z⟩ := r T' L X N e'
  exact ⟨s₂, o, stp _ hs, z⟩
theorem go_putF (K : Cx p s m meth c Z own nm bytes maxL ret) {R0 O f d C : String} {i kk : Nat} {ty : FieldType} {a : Addr} {v old : Value} (w1 : (Cond.fieldLink own i R0 f d).before a0 Z = true) (via : Via Z R0 O f d) (F : Fld Z h a O f d old) (E : Exa Z h a C)
    (Ly : (Cond.lays C O f d).before a0 Z = true ∨ ((Cond.laysFinal C O f d).before a0 Z = true ∧ own = O ∧ nm = "<init>")) (wi : (Cond.instantiable C kk).before a0 Z = true) (hty : parseFieldDescriptor d = some ty) (hnw : narrow ty v = v) (hf : fits ty v = true) (ha : n0 ≤ a)
    (hd : decode bytes pc = .ok (.putfield i, 3)) (hq : pc + 3 = q)
    (r : ∀ h', Wr h h' a (Jvm.RoadKit.slotOf Z O f d) v → Go p l e R s m args below meth c n0 Q h' k n (mkF m q ls st)) : Go p l e R s m args below meth c n0 Q h k n (mkF m pc ls (v :: .ref a :: st)) := fun T L S N eT => by
  subst hq
  obtain ⟨T', h', X, e', W, stp⟩ := putF S K.1 K.2.1 K.2.2.1 (host := "") (Or.inl w1) via eT F E (Ly.imp id fun z => ⟨z.1, z.2.1, K.2.2.2.2.2.2.2.trans z.2.2⟩) wi hty hnw hf (g := mkF m pc ls (v :: .ref a :: st)) rfl rfl (hb K.2.2.2.1 hd)
  obtain ⟨s₂, o, hs, z⟩ := r h' W T' _ X (Fr.snoc X N ha) e'
  exact ⟨s₂, o, stp _ hs, z⟩
theorem go_new (K : Cx p s m meth c Z own nm bytes maxL ret) {C : String} {i sz : Nat} (w1 : (Cond.classLink own i C).before a0 Z = true) (w2 : (Cond.instantiable C sz).before a0 Z = true) (w3 : (Cond.initialized C).before a0 Z = true) (hd : decode bytes pc = .ok (.new i, 3)) (hce : k + 1 ≤ R.cells) (hsl : n + sz ≤ R.slots) (hq : pc + 3 = q)
    (r : ∀ h' a, a = h.size → Ext h h' → Exa Z h' a C → (∀ {O f d : String} {ty : FieldType}, Laid Z a0 C O f d → parseFieldDescriptor d = some ty → Fld Z h' a O f d (defaultValue ty)) → Go p l e R s m args below meth c n0 Q h' (k + 1) (n + sz) (mkF m q ls (.ref a :: st))) : Go p l e R s m args below meth c n0 Q h k n (mkF m pc ls st) := fun T L S N eT => by
  subst hq
  obtain ⟨T', h', X, e', E, A, D, -, stp⟩ := newO S K.1 K.2.1 K.2.2.1 w1 w2 w3 eT (g := mkF m pc ls st) rfl (hb K.2.2.2.1 hd) hce hsl
  obtain ⟨s₂, o, hs, z⟩ := r h' _ rfl E A D T' _ X N e'
  exact ⟨s₂, o, stp _ hs, z⟩
theorem go_initO (K : Cx p s m meth c Z own nm bytes maxL ret) {i : Nat} {a : Addr} (w1 : (Cond.methodLink own i Lib.objectInit).before a0 Z = true) (w2 : (Cond.instanceMethod Lib.objectInit).before a0 Z = true) (w3 : (Cond.code Lib.objectInit ⟨#[0xb1]⟩ 1 none).before a0 Z = true) (hd : decode bytes pc = .ok (.invokespecial i, 3)) {W : Nat} (hls : ls.size = maxL) (hW : (st.map fun v => v.category).sum = W) (hfr : 1 ≤ R.frames) (hlo : W + 12 ≤ R.locals) (hq : pc + 3 = q)
    (r : Go p l e R s m args below meth c n0 Q h k n (mkF m q ls st)) : Go p l e R s m args below meth c n0 Q h k n (mkF m pc ls (.ref a :: st)) := fun T L S N eT => by
  subst hq
  obtain ⟨T', X, e', stp⟩ := initO S K.1 K.2.1 K.2.2.1 w1 w2 w3 eT (g := mkF m pc ls (.ref a :: st)) rfl (hls.trans K.2.2.2.2.1.symm) rfl (hb K.2.2.2.1 hd) hfr (W := W) (by show 2 * 0 + _ ≤ _; rw [hW]; omega) hlo
  obtain ⟨s₂, o, hs, z⟩ := r T' L X N e'
  exact ⟨s₂, o, stp _ hs, z⟩
/-! arrays: a known array and the list of what it holds -/
def Ary (Z : State) (h : Heap) (a : Addr) (kl : ClassId) (ty : FieldType) (vs : List Value) : Prop := ∃ cl : Cell, Arr Z h a cl ty ∧ cl.cls = kl ∧ cl.slots.toList = vs ∧ vs.length < 2 ^ 31
theorem Ary.lt {a : Addr} {kl : ClassId} {ty : FieldType} {vs : List Value} (F : Ary Z h a kl ty vs) : a < h.size := by obtain ⟨cl, A, -⟩ := F; exact A.lt
theorem Ary.ext {h' : Heap} {a : Addr} {kl : ClassId} {ty : FieldType} {vs : List Value} (F : Ary Z h a kl ty vs) (E : Ext h h') : Ary Z h' a kl ty vs := by obtain ⟨cl, A, r⟩ := F; exact ⟨cl, A.ext E, r⟩
theorem Ary.other {h' : Heap} {a b : Addr} {sl : Nat} {v : Value} {kl : ClassId} {ty : FieldType} {vs : List Value} (F : Ary Z h b kl ty vs) (W : Wr h h' a sl v) (q : b ≠ a) : Ary Z h' b kl ty vs := by obtain ⟨cl, A, r⟩ := F; exact ⟨cl, A.other W q, r⟩
theorem Ary.keep {h' : Heap} {ws : List Addr} {a : Addr} {kl : ClassId} {ty : FieldType} {vs : List Value} (F : Ary Z h a kl ty vs) (K : Keep h h' ws) (q : a ∉ ws) : Ary Z h' a kl ty vs := by obtain ⟨cl, A, r⟩ := F; exact ⟨cl, ⟨K.2.1 a cl A.1 q, A.2⟩, r⟩
theorem Ary.set {h' : Heap} {a : Addr} {j : Nat} {v : Value} {kl : ClassId} {ty : FieldType} {vs : List Value} (F : Ary Z h a kl ty vs) (W : Wr h h' a j v) : Ary Z h' a kl ty (vs.set j v) := by
  obtain ⟨cl, A, r1, r2, r3⟩ := F
  refine ⟨_, A.same W, r1, ?_, by simpa using r3⟩
  subst r2
  simp [Cell.setSlot]
theorem ary_in {cl : Cell} {vs : List Value} {j : Int32} (r2 : cl.slots.toList = vs) (hj0 : ¬ j < 0) (hj : j.toNatClampNeg < vs.length) : ¬ (j < 0 ∨ cl.slots.size ≤ j.toNatClampNeg) := by
  subst r2
  rintro (q | q)
  · exact hj0 q
  · simp at hj; omega

theorem go_iaload (K : Cx p s m meth c Z own nm bytes maxL ret) {a : Addr} {kl : ClassId} {vs : List Value} {j : Int32} {v : Int32} (F : Ary Z h a kl .int vs) (hj0 : ¬ j < 0) (hj : vs[j.toNatClampNeg]? = some (.int v)) (hd : decode bytes pc = .ok (.iaload, 1)) (hq : pc + 1 = q)
    (r : Go p l e R s m args below meth c n0 Q h k n (mkF m q ls ((.int v) :: st))) : Go p l e R s m args below meth c n0 Q h k n (mkF m pc ls (.int j :: .ref a :: st)) := by
  subst hq
  obtain ⟨cl, A, r1, r2, r3⟩ := F
  refine Go.ofX (fun T L tg S eT => S.iaload K.1 (j := j) (v := (.int v)) (by rw [eT]; exact A.1) (State.isArrayOf_alike K.2.1.alike A.2.1) A.2.2 (ary_in r2 hj0 (List.getElem?_eq_some_iff.mp hj).1) (by rw [← hj, ← r2]; simp) (g := mkF m pc ls (.int j :: .ref a :: st)) rfl rfl (hb K.2.2.2.1 hd) tg) r
theorem go_laload (K : Cx p s m meth c Z own nm bytes maxL ret) {a : Addr} {kl : ClassId} {vs : List Value} {j : Int32} {v : Int64} (F : Ary Z h a kl .long vs) (hj0 : ¬ j < 0) (hj : vs[j.toNatClampNeg]? = some (.long v)) (hd : decode bytes pc = .ok (.laload, 1)) (hq : pc + 1 = q)
    (r : Go p l e R s m args below meth c n0 Q h k n (mkF m q ls ((.long v) :: st))) : Go p l e R s m args below meth c n0 Q h k n (mkF m pc ls (.int j :: .ref a :: st)) := by
  subst hq
  obtain ⟨cl, A, r1, r2, r3⟩ := F
  refine Go.ofX (fun T L tg S eT => S.laload K.1 (j := j) (v := (.long v)) (by rw [eT]; exact A.1) (State.isArrayOf_alike K.2.1.alike A.2.1) A.2.2 (ary_in r2 hj0 (List.getElem?_eq_some_iff.mp hj).1) (by rw [← hj, ← r2]; simp) (g := mkF m pc ls (.int j :: .ref a :: st)) rfl rfl (hb K.2.2.2.1 hd) tg) r
theorem go_caload (K : Cx p s m meth c Z own nm bytes maxL ret) {a : Addr} {kl : ClassId} {vs : List Value} {j : Int32} {v : Int32} (F : Ary Z h a kl .char vs) (hj0 : ¬ j < 0) (hj : vs[j.toNatClampNeg]? = some (.int v)) (hd : decode bytes pc = .ok (.caload, 1)) (hq : pc + 1 = q)
    (r : Go p l e R s m args below meth c n0 Q h k n (mkF m q ls ((.int v) :: st))) : Go p l e R s m args below meth c n0 Q h k n (mkF m pc ls (.int j :: .ref a :: st)) := by
  subst hq
  obtain ⟨cl, A, r1, r2, r3⟩ := F
  refine Go.ofX (fun T L tg S eT => S.caload K.1 (j := j) (v := (.int v)) (by rw [eT]; exact A.1) (State.isArrayOf_alike K.2.1.alike A.2.1) A.2.2 (ary_in r2 hj0 (List.getElem?_eq_some_iff.mp hj).1) (by rw [← hj, ← r2]; simp) (g := mkF m pc ls (.int j :: .ref a :: st)) rfl rfl (hb K.2.2.2.1 hd) tg) r
theorem go_baload (K : Cx p s m meth c Z own nm bytes maxL ret) {a : Addr} {kl : ClassId} {vs : List Value} {j : Int32} {v : Int32} (F : Ary Z h a kl .byte vs) (hj0 : ¬ j < 0) (hj : vs[j.toNatClampNeg]? = some (.int v)) (hd : decode bytes pc = .ok (.baload, 1)) (hq : pc + 1 = q)
    (r : Go p l e R s m args below meth c n0 Q h k n (mkF m q ls ((.int v) :: st))) : Go p l e R s m args below meth c n0 Q h k n (mkF m pc ls (.int j :: .ref a :: st)) := by
  subst hq
  obtain ⟨cl, A, r1, r2, r3⟩ := F
  refine Go.ofX (fun T L tg S eT => S.baloadBytes K.1 (j := j) (v := (.int v)) (by rw [eT]; exact A.1) (State.isArrayOf_alike K.2.1.alike A.2.1) A.2.2 (ary_in r2 hj0 (List.getElem?_eq_some_iff.mp hj).1) (by rw [← hj, ← r2]; simp) (g := mkF m pc ls (.int j :: .ref a :: st)) rfl rfl (hb K.2.2.2.1 hd) tg) r
theorem go_aaload (K : Cx p s m meth c Z own nm bytes maxL ret) {a : Addr} {kl : ClassId} {vs : List Value} {j : Int32} {v : Value} {ty : FieldType} (F : Ary Z h a kl ty vs) (ht : ty.isReference = true) (hv : v.isRef = true) (hj0 : ¬ j < 0) (hj : vs[j.toNatClampNeg]? = some v) (hd : decode bytes pc = .ok (.aaload, 1)) (hq : pc + 1 = q)
    (r : Go p l e R s m args below meth c n0 Q h k n (mkF m q ls (v :: st))) : Go p l e R s m args below meth c n0 Q h k n (mkF m pc ls (.int j :: .ref a :: st)) := by
  subst hq
  obtain ⟨cl, A, r1, r2, r3⟩ := F
  refine Go.ofX (fun T L tg S eT => S.aaload K.1 (j := j) (v := v) (by rw [eT]; exact A.1) (State.isArrayOf_alike K.2.1.alike A.2.1) ht A.2.2 (ary_in r2 hj0 (List.getElem?_eq_some_iff.mp hj).1) (by rw [← hj, ← r2]; simp) (g := mkF m pc ls (.int j :: .ref a :: st)) rfl rfl (hb K.2.2.2.1 hd) tg) r
theorem go_arraylength (K : Cx p s m meth c Z own nm bytes maxL ret) {a : Addr} {kl : ClassId} {vs : List Value} {ty : FieldType} {z : Int32} (F : Ary Z h a kl ty vs) (hz : vs.length.toInt32 = z) (hd : decode bytes pc = .ok (.arraylength, 1)) (hq : pc + 1 = q)
    (r : Go p l e R s m args below meth c n0 Q h k n (mkF m q ls (.int z :: st))) : Go p l e R s m args below meth c n0 Q h k n (mkF m pc ls (.ref a :: st)) := by
  subst hq
  obtain ⟨cl, A, r1, r2, r3⟩ := F
  have e1 : cl.slots.size.toInt32 = z := by rw [← hz, ← r2]; simp
  subst e1
  refine Go.ofX (fun T L tg S eT => S.arraylength K.1 (cell := cl) (by rw [eT]; exact A.1) (State.isArrayOf_alike K.2.1.alike A.2.1) (g := mkF m pc ls (.ref a :: st)) rfl (rest := st) rfl (hb K.2.2.2.1 hd) tg) r
theorem go_iastore (K : Cx p s m meth c Z own nm bytes maxL ret) {a : Addr} {kl : ClassId} {vs : List Value} {j : Int32} {v : Int32} (F : Ary Z h a kl .int vs) (hj0 : ¬ j < 0) (hj : j.toNatClampNeg < vs.length) (ha : n0 ≤ a) (hd : decode bytes pc = .ok (.iastore, 1)) (hq : pc + 1 = q)
    (r : ∀ h', Wr h h' a j.toNatClampNeg (.int v) → Ary Z h' a kl .int (vs.set j.toNatClampNeg (.int v)) → Go p l e R s m args below meth c n0 Q h' k n (mkF m q ls st)) : Go p l e R s m args below meth c n0 Q h k n (mkF m pc ls (.int v :: .int j :: .ref a :: st)) := fun T L S N eT => by
  subst hq
  obtain ⟨cl, A, r1, r2, r3⟩ := id F
  obtain ⟨T', h', X, e', W, stp⟩ := stI S K.1 K.2.1 eT A (j := j) (x := v) (ary_in r2 hj0 hj) (g := mkF m pc ls (.int v :: .int j :: .ref a :: st)) rfl rfl (hb K.2.2.2.1 hd)
  obtain ⟨s₂, o, hs, z⟩ := r h' W (F.set W) T' _ X (Fr.snoc X N ha) e'
  exact ⟨s₂, o, stp _ hs, z⟩
theorem go_lastore (K : Cx p s m meth c Z own nm bytes maxL ret) {a : Addr} {kl : ClassId} {vs : List Value} {j : Int32} {v : Int64} (F : Ary Z h a kl .long vs) (hj0 : ¬ j < 0) (hj : j.toNatClampNeg < vs.length) (ha : n0 ≤ a) (hd : decode bytes pc = .ok (.lastore, 1)) (hq : pc + 1 = q)
    (r : ∀ h', Wr h h' a j.toNatClampNeg (.long v) → Ary Z h' a kl .long (vs.set j.toNatClampNeg (.long v)) → Go p l e R s m args below meth c n0 Q h' k n (mkF m q ls st)) : Go p l e R s m args below meth c n0 Q h k n (mkF m pc ls (.long v :: .int j :: .ref a :: st)) := fun T L S N eT => by
  subst hq
  obtain ⟨cl, A, r1, r2, r3⟩ := id F
  obtain ⟨T', h', X, e', W, stp⟩ := stJ S K.1 K.2.1 eT A (j := j) (x := v) (ary_in r2 hj0 hj) (g := mkF m pc ls (.long v :: .int j :: .ref a :: st)) rfl rfl (hb K.2.2.2.1 hd)
  obtain ⟨s₂, o, hs, z⟩ := r h' W (F.set W) T' _ X (Fr.snoc X N ha) e'
  exact ⟨s₂, o, stp _ hs, z⟩
theorem go_castore (K : Cx p s m meth c Z own nm bytes maxL ret) {a : Addr} {kl : ClassId} {vs : List Value} {j : Int32} {v : Int32} (F : Ary Z h a kl .char vs) (hj0 : ¬ j < 0) (hj : j.toNatClampNeg < vs.length) (ha : n0 ≤ a) (hd : decode bytes pc = .ok (.castore, 1)) (hq : pc + 1 = q)
    (r : ∀ h', Wr h h' a j.toNatClampNeg (.int (nar .char v)) → Ary Z h' a kl .char (vs.set j.toNatClampNeg (.int (nar .char v))) → Go p l e R s m args below meth c n0 Q h' k n (mkF m q ls st)) : Go p l e R s m args below meth c n0 Q h k n (mkF m pc ls (.int v :: .int j :: .ref a :: st)) := fun T L S N eT => by
  subst hq
  obtain ⟨cl, A, r1, r2, r3⟩ := id F
  obtain ⟨T', h', X, e', W, stp⟩ := stC S K.1 K.2.1 eT A (j := j) (x := v) (ary_in r2 hj0 hj) (g := mkF m pc ls (.int v :: .int j :: .ref a :: st)) rfl rfl (hb K.2.2.2.1 hd)
  obtain ⟨s₂, o, hs, z⟩ := r h' W (F.set W) T' _ X (Fr.snoc X N ha) e'
  exact ⟨s₂, o, stp _ hs, z⟩
theorem go_bastore (K : Cx p s m meth c Z own nm bytes maxL ret) {a : Addr} {kl : ClassId} {vs : List Value} {j : Int32} {v : Int32} (F : Ary Z h a kl .byte vs) (hj0 : ¬ j < 0) (hj : j.toNatClampNeg < vs.length) (ha : n0 ≤ a) (hd : decode bytes pc = .ok (.bastore, 1)) (hq : pc + 1 = q)
    (r : ∀ h', Wr h h' a j.toNatClampNeg (.int (nar .byte v)) → Ary Z h' a kl .byte (vs.set j.toNatClampNeg (.int (nar .byte v))) → Go p l e R s m args below meth c n0 Q h' k n (mkF m q ls st)) : Go p l e R s m args below meth c n0 Q h k n (mkF m pc ls (.int v :: .int j :: .ref a :: st)) := fun T L S N eT => by
  subst hq
  obtain ⟨cl, A, r1, r2, r3⟩ := id F
  obtain ⟨T', h', X, e', W, stp⟩ := stB S K.1 K.2.1 eT A (j := j) (x := v) (ary_in r2 hj0 hj) (g := mkF m pc ls (.int v :: .int j :: .ref a :: st)) rfl rfl (hb K.2.2.2.1 hd)
  obtain ⟨s₂, o, hs, z⟩ := r h' W (F.set W) T' _ X (Fr.snoc X N ha) e'
  exact ⟨s₂, o, stp _ hs, z⟩
theorem go_newarray (K : Cx p s m meth c Z own nm bytes maxL ret) {aty : ArrayType} {z : Int32} {num cap : Nat} (w1 : (Cond.arrayClass (newarray.typeOf aty)).before a0 Z = true) (hd : decode bytes pc = .ok (.newarray aty, 2)) (hz : ¬ z < 0) (hzn : z.toNatClampNeg = num) (hcap : num ≤ cap) (hcb : cap * 8 ≤ 536870912) (hce : k + 1 ≤ R.cells) (hsl : n + cap ≤ R.slots) (hq : pc + 2 = q)
    (r : ∀ h' a kl, a = h.size → Ext h h' → Ary Z h' a kl (newarray.typeOf aty) (List.replicate num (defaultValue (newarray.typeOf aty))) → Go p l e R s m args below meth c n0 Q h' (k + 1) (n + cap) (mkF m q ls (.ref a :: st))) : Go p l e R s m args below meth c n0 Q h k n (mkF m pc ls (.int z :: st)) := fun T L S N eT => by
  subst hq hzn
  obtain ⟨T', h', kl, X, e', E, A, stp⟩ := newP S K.1 K.2.1 w1 eT (g := mkF m pc ls (.int z :: st)) rfl (hb K.2.2.2.1 hd) (n := z) (rest := st) rfl hz hcap hcb hce hsl
  obtain ⟨s₂, o, hs, zz⟩ := r h' _ kl rfl E ⟨_, A, rfl, by simp [newA], by simp; omega⟩ T' _ X N e'
  exact ⟨s₂, o, stp _ hs, zz⟩

theorem go_anewarray (K : Cx p s m meth c Z own nm bytes maxL ret) {C : String} {i : Nat} {z : Int32} {num cap : Nat} (w1 : (Cond.classLink own i C).before a0 Z = true) (w2 : (Cond.arrayOver (.object C)).before a0 Z = true) (hd : decode bytes pc = .ok (.anewarray i, 3)) (hz : ¬ z < 0) (hzn : z.toNatClampNeg = num) (hcap : num ≤ cap) (hcb : cap * 8 ≤ 536870912) (hce : k + 1 ≤ R.cells) (hsl : n + cap ≤ R.slots) (hq : pc + 3 = q)
    (r : ∀ h' a kl, a = h.size → Ext h h' → Ary Z h' a kl (.object C) (List.replicate num .null) → Ovr Z kl C → Go p l e R s m args below meth c n0 Q h' (k + 1) (n + cap) (mkF m q ls (.ref a :: st))) : Go p l e R s m args below meth c n0 Q h k n (mkF m pc ls (.int z :: st)) := fun T L S N eT => by
  subst hq hzn
  obtain ⟨T', h', kl, X, e', E, A, O, stp⟩ := newR S K.1 K.2.1 K.2.2.1 w1 w2 eT (g := mkF m pc ls (.int z :: st)) rfl (hb K.2.2.2.1 hd) (n := z) (rest := st) rfl hz hcap hcb hce hsl
  obtain ⟨s₂, o, hs, zz⟩ := r h' _ kl rfl E ⟨_, A, rfl, by simp [newA, defaultValue], by simp; omega⟩ O T' _ X N e'
  exact ⟨s₂, o, stp _ hs, zz⟩
theorem go_aastore (K : Cx p s m meth c Z own nm bytes maxL ret) {a : Addr} {kl : ClassId} {vs : List Value} {j : Int32} {v : Value} {ty : FieldType} (F : Ary Z h a kl ty vs) (hty : ty.isReference = true) (So : Sto Z h a v) (hj0 : ¬ j < 0) (hj : j.toNatClampNeg < vs.length) (ha : n0 ≤ a) (hd : decode bytes pc = .ok (.aastore, 1)) (hq : pc + 1 = q)
    (r : ∀ h', Wr h h' a j.toNatClampNeg v → Ary Z h' a kl ty (vs.set j.toNatClampNeg v) → Go p l e R s m args below meth c n0 Q h' k n (mkF m q ls st)) : Go p l e R s m args below meth c n0 Q h k n (mkF m pc ls (v :: .int j :: .ref a :: st)) := fun T L S N eT => by
  subst hq
  obtain ⟨cl, A, r1, r2, r3⟩ := id F
  obtain ⟨T', h', X, e', W, stp⟩ := stR S K.1 K.2.1 eT A (j := j) (v := v) (ary_in r2 hj0 hj) hty So (g := mkF m pc ls (v :: .int j :: .ref a :: st)) rfl rfl (hb K.2.2.2.1 hd)
  obtain ⟨s₂, o, hs, z⟩ := r h' W (F.set W) T' _ X (Fr.snoc X N ha) e'
  exact ⟨s₂, o, stp _ hs, z⟩
theorem sto_of {a y : Addr} {kl : ClassId} {ty : FieldType} {vs : List Value} {C : String} (F : Ary Z h a kl ty vs) (O : Ovr Z kl C) (Iy : Ins Z h y C true) : Sto Z h a (.ref y) := by
  obtain ⟨cl, A, rfl, -⟩ := F
  exact Sto.of A O Iy
theorem go_checkcast (K : Cx p s m meth c Z own nm bytes maxL ret) {C : String} {i : Nat} {a : Addr} (w1 : (Cond.classLink own i C).before a0 Z = true) (F : Ins Z h a C true) (hd : decode bytes pc = .ok (.checkcast i, 3)) (hq : pc + 3 = q)
    (r : Go p l e R s m args below meth c n0 Q h k n (mkF m q ls (.ref a :: st))) : Go p l e R s m args below meth c n0 Q h k n (mkF m pc ls (.ref a :: st)) := fun T L S N eT => by
  subst hq
  obtain ⟨T', X, e', stp⟩ := castY S K.1 K.2.1 K.2.2.1 w1 eT F (g := mkF m pc ls (.ref a :: st)) rfl rfl (hb K.2.2.2.1 hd)
  obtain ⟨s₂, o, hs, z⟩ := r T' L X N e'
  exact ⟨s₂, o, stp _ hs, z⟩
theorem go_instY (K : Cx p s m meth c Z own nm bytes maxL ret) {C : String} {i : Nat} {a : Addr} (w1 : (Cond.classLink own i C).before a0 Z = true) (F : Ins Z h a C true) (hd : decode bytes pc = .ok (.instanceof i, 3)) (hq : pc + 3 = q)
    (r : Go p l e R s m args below meth c n0 Q h k n (mkF m q ls (.int 1 :: st))) : Go p l e R s m args below meth c n0 Q h k n (mkF m pc ls (.ref a :: st)) := fun T L S N eT => by
  subst hq
  obtain ⟨T', X, e', stp⟩ := instY S K.1 K.2.1 K.2.2.1 w1 eT F (g := mkF m pc ls (.ref a :: st)) rfl rfl (hb K.2.2.2.1 hd)
  obtain ⟨s₂, o, hs, z⟩ := r T' L X N e'
  exact ⟨s₂, o, stp _ hs, z⟩
/-- a virtual call through a subclass's name (the class 'ow' above declares the method) -/
theorem go_callU (K : Cx p s m meth c Z own nm bytes maxL ret) {y yz : MethodName} {C ow : String} {bytes' : ByteArray} {maxL' : Nat} {ret' : Option FieldType} {rm : Room} {W i : Nat} {Q' : Option Value → Heap → Prop} {ps : List FieldType} {a : Addr}
    (w1 : (Cond.methodLink own i y).before a0 Z = true) (w2 : (Cond.declares ⟨ow, y.name, y.desc⟩).before a0 Z = true) (w3 : (Cond.selects C y yz).before a0 Z = true) (w4 : (Cond.instanceMethod yz).before a0 Z = true) (w5 : (Cond.initialized yz.cls).before a0 Z = true) (w6 : (Cond.code yz bytes' maxL' ret').before a0 Z = true) (w7 : (Cond.sameMethod y.cls ow y.name y.desc).before a0 Z = true)
    (E : Exa Z h a C) (argsL rest : List Value) (hM : Met l yz bytes' maxL' ret' [] rm (.ref a :: argsL).toArray Z h n0 Q') (hd : decode bytes pc = .ok (.invokevirtual i, 3)) (hpd : parseMethodDescriptor y.desc = some ⟨ps, ret'⟩) (hlen : argsL.length = ps.length) (hst : st = argsL.reverse ++ .ref a :: rest)
    (hls : ls.size = maxL) (hy : ow ≠ "java/lang/invoke/MethodHandle" ∧ ow ≠ "java/lang/invoke/VarHandle") (hW : (rest.map fun v => v.category).sum = W) (hfr : rm.frames + 1 ≤ R.frames) (hlo : W + (maxL' + 11) + rm.locals ≤ R.locals) (hce : k + rm.cells ≤ R.cells) (hsl : n + rm.slots ≤ R.slots) (hq : pc + 3 = q)
    (r : ∀ v h', Q' v h' → Go p l e R s m args below meth c n0 Q h' (k + rm.cells) (n + rm.slots) (mkF m q ls (v.toList ++ rest))) : Go p l e R s m args below meth c n0 Q h k n (mkF m pc ls st) := fun T L S N eT => by
  subst hq hst
  obtain ⟨cq, kq, qa, qb, qc⟩ := isOf K.2.1 eT E
  obtain ⟨v, _, B, -, X, ⟨Lc, hQ, l1, y1, z1⟩, stp⟩ := S.virtualBackUp K.1 (x := y) (y := yz) K.2.2.1 (mvT K.2.1 w1) (mvT K.2.1 w7) (mvT K.2.1 w2) hy (mvT K.2.1 w3) (mvT K.2.1 w4) (backOf (W := W) (Q := fun v h' L => Q' v h' ∧ Fr n0 L) hM K.2.1 w6 w5 hfr hlo) qa qc (g := mkF m pc ls (argsL.reverse ++ .ref a :: rest)) rfl (hls.trans K.2.2.2.2.1.symm) (Steps.refl _) (argsL := argsL) (rest := rest) (lenOf hpd hlen) rfl (by show 2 * 0 + _ ≤ _; rw [hW]; omega) (hb K.2.2.2.1 hd) (fun _ _ => ⟨rfl, eT, hce, hsl⟩)
  obtain ⟨T', L', k', n'⟩ := B
  dsimp only [Pt.U, Pt.locs, Pt.cells, Pt.slots] at X l1 y1 z1 stp hQ
  subst l1 y1 z1
  obtain ⟨s₂, o, hs, z⟩ := r v _ hQ.1 T' _ X (Fr.app N hQ.2) rfl
  exact ⟨s₂, o, stp.trans hs, z⟩
/-- invokevirtual of a private method -/
theorem go_callP (K : Cx p s m meth c Z own nm bytes maxL ret) {y : MethodName} {C : String} {bytes' : ByteArray} {maxL' : Nat} {ret' : Option FieldType} {rm : Room} {W i : Nat} {Q' : Option Value → Heap → Prop} {ps : List FieldType} {a : Addr} {yf : MethodName} {Cf : String}
    (w1 : (Cond.methodLink own i y).before a0 Z = true) (w2 : (Cond.privateMethod y).before a0 Z = true) (w3 : (Cond.selects Cf yf yf).before a0 Z = true) (hyf : yf.cls = y.cls) (w4 : (Cond.instanceMethod y).before a0 Z = true) (w5 : (Cond.initialized y.cls).before a0 Z = true) (w6 : (Cond.code y bytes' maxL' ret').before a0 Z = true)
    (E : Exa Z h a C) (argsL rest : List Value) (hM : Met l y bytes' maxL' ret' [] rm (.ref a :: argsL).toArray Z h n0 Q') (hd : decode bytes pc = .ok (.invokevirtual i, 3)) (hpd : parseMethodDescriptor y.desc = some ⟨ps, ret'⟩) (hlen : argsL.length = ps.length) (hst : st = argsL.reverse ++ .ref a :: rest)
    (hls : ls.size = maxL) (hy : y.cls ≠ "java/lang/invoke/MethodHandle" ∧ y.cls ≠ "java/lang/invoke/VarHandle") (hW : (rest.map fun v => v.category).sum = W) (hfr : rm.frames + 1 ≤ R.frames) (hlo : W + (maxL' + 11) + rm.locals ≤ R.locals) (hce : k + rm.cells ≤ R.cells) (hsl : n + rm.slots ≤ R.slots) (hq : pc + 3 = q)
    (r : ∀ v h', Q' v h' → Go p l e R s m args below meth c n0 Q h' (k + rm.cells) (n + rm.slots) (mkF m q ls (v.toList ++ rest))) : Go p l e R s m args below meth c n0 Q h k n (mkF m pc ls st) := fun T L S N eT => by
  subst hq hst
  obtain ⟨cell, hcell, hobj⟩ := E.cell
  have hK := backOf (len := 3) (W := W) (R := R) (p := p) (e := e) (below := below) (args := args) (Q := fun v h' L => Q' v h' ∧ Fr n0 L) hM K.2.1 w6 w5 hfr hlo
  obtain ⟨mk, methM, hnamed, hmethM, hstM, habM⟩ := Cond.instanceMethod_spec (mvT (args := args) K.2.1 w4)
  obtain ⟨methM', cM, hmethM', -, -, -, -, -, -, hsigM⟩ := Cond.code_spec hnamed (mvT (args := args) K.2.1 w6)
  cases hmethM.symm.trans hmethM'
  obtain ⟨c2, r2, m2, -, -, q3, -, kP, hkP, hkPi⟩ := Cond.selects_spec (mvT (args := args) K.2.1 w3)
  have hcl : m2.cls = mk.cls := by
    have e1 := findClass_of_methodNamed q3
    have e2 := findClass_of_methodNamed hnamed
    rw [hyf] at e1
    exact Option.some.inj (e1.symm.trans e2)
  rw [hcl] at hkP
  have hpriv : s.PrivateAt y := Cond.privateMethod_at (mvP K.2.1 w2 (args := #[]))
  have hselP : selectMethod e.platform s.vm cell.cls mk = .method mk := selectMethod_private hmethM (hpriv mk methM hnamed hmethM)
  obtain ⟨vm₁, X₁, hstep₁⟩ := S.invokevirtual K.1 K.2.2.1 (mvT K.2.1 w1) hnamed hmethM hstM hkP hkPi hy (a := a) (cell := cell) (by rw [eT]; exact hcell) hobj hselP hmethM habM hkP hkPi (g := mkF m pc ls (argsL.reverse ++ .ref a :: rest)) rfl (argsL := argsL) (rest := rest) (by rw [lenOf hpd hlen _ hsigM]) rfl (hb K.2.2.2.1 hd)
  obtain ⟨v, B, X, ⟨Lc, hQ, l1, y1, z1⟩, hsteps⟩ := hK m meth c ⟨T.setVm vm₁, L, k, n⟩ (mkF m pc ls rest) (.invokevirtual i) mk (.ref a :: argsL).toArray X₁ rfl (hls.trans K.2.2.2.2.1.symm) (hb K.2.2.2.1 hd) (by show 2 * 0 + _ ≤ _; rw [hW]; omega) (X₁.named hnamed) ⟨rfl, eT, hce, hsl⟩
  obtain ⟨T', L', k', n'⟩ := B
  dsimp only [Pt.U, Pt.locs, Pt.cells, Pt.slots] at X l1 y1 z1 hsteps hQ
  subst l1 y1 z1
  obtain ⟨s₂, o, hs, z⟩ := r v _ hQ.1 T' _ X (Fr.app N hQ.2) rfl
  exact ⟨s₂, o, hstep₁ _ fun acts => by rw [doInvoke_state]; exact hsteps.trans hs, z⟩
/-- invokeinterface -/
theorem go_callF (K : Cx p s m meth c Z own nm bytes maxL ret) {y yz : MethodName} {C : String} {bytes' : ByteArray} {maxL' : Nat} {ret' : Option FieldType} {rm : Room} {W i cnt : Nat} {Q' : Option Value → Heap → Prop} {ps : List FieldType} {a : Addr}
    (w1 : (Cond.methodLink own i y).before a0 Z = true) (w2 : (Cond.declares y).before a0 Z = true) (w3 : (Cond.selects C y yz).before a0 Z = true) (w4 : (Cond.instanceMethod yz).before a0 Z = true) (w5 : (Cond.initialized yz.cls).before a0 Z = true) (w6 : (Cond.code yz bytes' maxL' ret').before a0 Z = true) (w7 : (Cond.interfaceMethod y.cls y.cls y.name y.desc).before a0 Z = true) (w8 : (Cond.publicMethod yz).before a0 Z = true) (w9 : (Cond.unhidden C y.name y.desc).before a0 Z = true) (wa : (Cond.castable C y.cls).before a0 Z = true)
    (E : Exa Z h a C) (argsL rest : List Value) (hM : Met l yz bytes' maxL' ret' [] rm (.ref a :: argsL).toArray Z h n0 Q') (hd : decode bytes pc = .ok (.invokeinterface i cnt, 5)) (hpd : parseMethodDescriptor y.desc = some ⟨ps, ret'⟩) (hlen : argsL.length = ps.length) (hst : st = argsL.reverse ++ .ref a :: rest)
    (hls : ls.size = maxL) (hy : y.cls ≠ "java/lang/invoke/MethodHandle" ∧ y.cls ≠ "java/lang/invoke/VarHandle") (hW : (rest.map fun v => v.category).sum = W) (hfr : rm.frames + 1 ≤ R.frames) (hlo : W + (maxL' + 11) + rm.locals ≤ R.locals) (hce : k + rm.cells ≤ R.cells) (hsl : n + rm.slots ≤ R.slots) (hq : pc + 5 = q)
    (r : ∀ v h', Q' v h' → Go p l e R s m args below meth c n0 Q h' (k + rm.cells) (n + rm.slots) (mkF m q ls (v.toList ++ rest))) : Go p l e R s m args below meth c n0 Q h k n (mkF m pc ls st) := fun T L S N eT => by
  subst hq hst
  obtain ⟨cq, kq, qa, qb, qc⟩ := isOf K.2.1 eT E
  obtain ⟨v, _, B, -, X, ⟨Lc, hQ, l1, y1, z1⟩, stp⟩ := S.interfaceBack K.1 (xi := y) (y := yz) K.2.2.1 (mvT K.2.1 w1) (mvT K.2.1 w2) (mvT K.2.1 w7 (by simp [Cond.onTables, Cond.keepsFace, Cond.keeps, Cond.steady, Cond.faceAtom, hy.1, hy.2])) (mvT K.2.1 w3) (mvT K.2.1 w4) (mvT K.2.1 w8) (mvT K.2.1 w9) (mvT K.2.1 wa) hy (backOf (W := W) (Q := fun v h' L => Q' v h' ∧ Fr n0 L) hM K.2.1 w6 w5 hfr hlo) qa qb qc (g := mkF m pc ls (argsL.reverse ++ .ref a :: rest)) rfl (hls.trans K.2.2.2.2.1.symm) (Steps.refl _) (argsL := argsL) (rest := rest) (lenOf hpd hlen) rfl (by show 2 * 0 + _ ≤ _; rw [hW]; omega) (hb K.2.2.2.1 hd) (fun _ _ => ⟨rfl, eT, hce, hsl⟩)
  obtain ⟨T', L', k', n'⟩ := B
  dsimp only [Pt.U, Pt.locs, Pt.cells, Pt.slots] at X l1 y1 z1 stp hQ
  subst l1 y1 z1
  obtain ⟨s₂, o, hs, z⟩ := r v _ hQ.1 T' _ X (Fr.app N hQ.2) rfl
  exact ⟨s₂, o, stp.trans hs, z⟩

end Layer
theorem dhi_0 : decode prog_24_method_6_code 0 = .ok (.aload_n 0, 1) := by decide +kernel
theorem dhi_1 : decode prog_24_method_6_code 1 = .ok (.invokevirtual 61, 3) := by decide +kernel
theorem dhi_4 : decode prog_24_method_6_code 4 = .ok (.aload_n 0, 1) := by decide +kernel
theorem dhi_5 : decode prog_24_method_6_code 5 = .ok (.getfield 54, 3) := by decide +kernel
theorem dhi_8 : decode prog_24_method_6_code 8 = .ok (.iadd, 1) := by decide +kernel
theorem dhi_9 : decode prog_24_method_6_code 9 = .ok (.iconst 1, 1) := by decide +kernel
theorem dhi_10 : decode prog_24_method_6_code 10 = .ok (.isub, 1) := by decide +kernel
theorem dhi_11 : decode prog_24_method_6_code 11 = .ok (.ireturn, 1) := by decide +kernel
theorem dlo_0 : decode prog_24_method_5_code 0 = .ok (.aload_n 0, 1) := by decide +kernel
theorem dlo_1 : decode prog_24_method_5_code 1 = .ok (.getfield 58, 3) := by decide +kernel
theorem dlo_4 : decode prog_24_method_5_code 4 = .ok (.ireturn, 1) := by decide +kernel
set_option maxRecDepth 65536 in
set_option maxHeartbeats 40000000 in
theorem lo_met (l : Launch) (Z : State) (a0 : Array Value) (hw : ∀ d ∈ tables_1, d.before a0 Z = true) (a : Addr) (lo : Int32) (h : Heap) (n0 : Nat) (F : Fld Z h a "com/example/riverstack/riverstack/eval/Category" "lowest" "I" (.int lo)) :
    Met l (⟨"com/example/riverstack/riverstack/eval/Category", "lowest", "()I"⟩ : MethodName) prog_24_method_5_code 1 (some .int) [] ({ frames := 0, cells := 0, slots := 0, locals := 0 } : Room) #[(.ref a)] Z h n0 (fun v h' => v = some (.int lo) ∧ h = h') := by
  refine Met.of (plainFor_of_name (by first | (simp [plainName, overriddenIn]; done) | decide +kernel)) ?_
  intro pP eE sS mM bB tT cC K
  refine Go.entry (ls := #[.val (.ref a)]) rfl ?_
  refine go_aloadN (q := 1) K dlo_0 rfl rfl rfl ?_
  refine go_getF (q := 4) K (wd hw 34 rfl) Via.refl F dlo_1 rfl ?_
  refine go_iret K dlo_4 rfl (Or.inl rfl) rfl (by decide) (by decide) ?_
  exact ⟨rfl, rfl⟩
set_option maxRecDepth 65536 in
set_option maxHeartbeats 40000000 in
theorem hi_met (l : Launch) (Z : State) (a0 : Array Value) (hw : ∀ d ∈ tables_1, d.before a0 Z = true) (a : Addr) (lo cl : Int32) (h : Heap) (n0 : Nat) (E : Exa Z h a "com/example/riverstack/riverstack/eval/Category") (F : Fld Z h a "com/example/riverstack/riverstack/eval/Category" "lowest" "I" (.int lo)) (G : Fld Z h a "com/example/riverstack/riverstack/eval/Category" "classes" "I" (.int cl)) :
    Met l (⟨"com/example/riverstack/riverstack/eval/Category", "highest", "()I"⟩ : MethodName) prog_24_method_6_code 1 (some .int) [] ({ frames := 1, cells := 0, slots := 0, locals := 12 } : Room) #[(.ref a)] Z h n0 (fun v h' => v = some (.int (lo + cl - 1)) ∧ h = h') := by
  refine Met.of (plainFor_of_name (by first | (simp [plainName, overriddenIn]; done) | decide +kernel)) ?_
  intro pP eE sS mM bB tT cC K
  refine Go.entry (ls := #[.val (.ref a)]) rfl ?_
  refine go_aloadN (q := 1) K dhi_0 rfl rfl rfl ?_
  refine go_callV (q := 4) (W := 0) K (wd hw 29 rfl) (wd hw 30 rfl) (wd hw 32 rfl) (wd hw 31 rfl) (wd hw 4 rfl) (wd hw 33 rfl) (wd hw 27 rfl) rfl E [] [] (lo_met l Z a0 hw a lo _ n0 F) dhi_1 (ps := []) (by decide +kernel) rfl rfl rfl (by decide) rfl (by decide) (by decide) (by decide) (by decide) rfl ?_
  rintro _ _ ⟨rfl, rfl⟩
  show Go pP l eE _ sS mM _ bB tT cC n0 _ h 0 0 (mkF mM 4 #[.val (.ref a)] [(.int lo)])
  refine go_aloadN (q := 5) K dhi_4 rfl rfl rfl ?_
  refine go_getF (q := 8) K (wd hw 36 rfl) Via.refl G dhi_5 rfl ?_
  refine go_iadd (q := 9) K dhi_8 rfl ?_
  refine go_iconst (q := 10) K dhi_9 (1 : Int32) rfl rfl ?_
  refine go_isub (q := 11) K dhi_10 rfl ?_
  refine go_iret K dhi_11 rfl (Or.inl rfl) rfl (by decide) (by decide) ?_
  exact ⟨rfl, rfl⟩
def own_cat (Z : State) (nm : String) (lo cl : Int32) (b : Addr) : Prop := Sta Z Z.heap "com/example/riverstack/riverstack/eval/Category" nm "Lcom/example/riverstack/riverstack/eval/Category;" (.ref b) ∧ Exa Z Z.heap b "com/example/riverstack/riverstack/eval/Category" ∧ Fld Z Z.heap b "com/example/riverstack/riverstack/eval/Category" "lowest" "I" (.int lo) ∧ Fld Z Z.heap b "com/example/riverstack/riverstack/eval/Category" "classes" "I" (.int cl)
theorem own_fldI {s : State} {args : Array Value} {t : Term} {x : Addr} {C n d : String} {z : Int32} (ht : t.eval args s none [] s = some (.ref x)) (h : (Cond.eq (.field t C n d) (.int z)).value args s none s [] = some true) : Fld s s.heap x C n d (.int z) := by
  obtain ⟨u, y, h1, h2, k1, k2⟩ := cmp_v (Or.inl h)
  cases h2
  obtain ⟨u', rfl⟩ := k2
  have e : u' = z := gotT (Cond.eq_ints h1 (Term.int_eval z)) h
  subst e
  exact Fld.start (by rw [← fld_at ht]; exact h1)
theorem own_cat_of {s : State} {args : Array Value} {nm : String} {lo cl : Int32} (w1 : (Cond.initialized "com/example/riverstack/riverstack/eval/Category").before args s = true) (w2 : (Cond.laysStatic "com/example/riverstack/riverstack/eval/Category" nm "Lcom/example/riverstack/riverstack/eval/Category;").before args s = true) (hx : (Cond.exactly (.static "com/example/riverstack/riverstack/eval/Category" nm "Lcom/example/riverstack/riverstack/eval/Category;") "com/example/riverstack/riverstack/eval/Category").value args s none s [] = some true)
    (h1 : (Cond.eq (.field (.static "com/example/riverstack/riverstack/eval/Category" nm "Lcom/example/riverstack/riverstack/eval/Category;") "com/example/riverstack/riverstack/eval/Category" "lowest" "I") (.int lo)).value args s none s [] = some true) (h2 : (Cond.eq (.field (.static "com/example/riverstack/riverstack/eval/Category" nm "Lcom/example/riverstack/riverstack/eval/Category;") "com/example/riverstack/riverstack/eval/Category" "classes" "I") (.int cl)).value args s none s [] = some true) : ∃ b, own_cat s nm lo cl b := by
  obtain ⟨b, e⟩ := exa_v hx
  exact ⟨b, Sta.start e (Or.inr ⟨w1, w2⟩), Exa.start e hx, own_fldI e h1, own_fldI e h2⟩
theorem own_ge {Z : State} {n0 : Nat} {h : Heap} (O : Old Z n0 h) : n0 ≤ h.size := O.1 ▸ O.2.1
theorem own_ix9 (xx : Int32) : ¬ ((xx &&& 2147483647) % 9) < 0 ∧ ((xx &&& 2147483647) % 9).toNatClampNeg < 9 := by
  have h1 := c_mask xx 2147483647 31 (by decide) (by decide)
  have h2 := (c_irem (xx &&& 2147483647) 9 9 rfl).1 (by rw [h1]; omega)
  have c0 : (0 : Int32).toInt = 0 := rfl
  rw [Int32.lt_iff_toInt_lt, c0, Int32.toNatClampNeg, h2]
  omega
def own_hs : List Value := [.int 1277, .int 4137, .int 4995, .int 5853, .int 5863, .int 7140, .int 7296, .int 7452, .int 7462]
theorem own_pick {Z : State} (b0 b1 b2 b3 b4 b5 b6 b7 b8 : Addr) (C0 : own_cat Z "HIGH_CARD" 1 1277 b0) (C1 : own_cat Z "PAIR" 1278 2860 b1) (C2 : own_cat Z "TWO_PAIR" 4138 858 b2) (C3 : own_cat Z "THREE_OF_A_KIND" 4996 858 b3) (C4 : own_cat Z "STRAIGHT" 5854 10 b4) (C5 : own_cat Z "FLUSH" 5864 1277 b5) (C6 : own_cat Z "FULL_HOUSE" 7141 156 b6) (C7 : own_cat Z "FOUR_OF_A_KIND" 7297 156 b7) (C8 : own_cat Z "STRAIGHT_FLUSH" 7453 10 b8) : ∀ j, j < 9 → ∃ b nm lo cl hi, ([.ref b0, .ref b1, .ref b2, .ref b3, .ref b4, .ref b5, .ref b6, .ref b7, .ref b8] : List Value)[j]? = some (.ref b) ∧ own_hs[j]? = some (.int hi) ∧ own_cat Z nm lo cl b ∧ lo + cl - 1 = hi := by
  intro j hj
  match j, hj with
  | 0, _ => exact ⟨b0, _, _, _, 1277, rfl, rfl, C0, by decide⟩
  | 1, _ => exact ⟨b1, _, _, _, 4137, rfl, rfl, C1, by decide⟩
  | 2, _ => exact ⟨b2, _, _, _, 4995, rfl, rfl, C2, by decide⟩
  | 3, _ => exact ⟨b3, _, _, _, 5853, rfl, rfl, C3, by decide⟩
  | 4, _ => exact ⟨b4, _, _, _, 5863, rfl, rfl, C4, by decide⟩
  | 5, _ => exact ⟨b5, _, _, _, 7140, rfl, rfl, C5, by decide⟩
  | 6, _ => exact ⟨b6, _, _, _, 7296, rfl, rfl, C6, by decide⟩
  | 7, _ => exact ⟨b7, _, _, _, 7452, rfl, rfl, C7, by decide⟩
  | 8, _ => exact ⟨b8, _, _, _, 7462, rfl, rfl, C8, by decide⟩
  | n + 9, h => omega
set_option maxRecDepth 65536 in
set_option maxHeartbeats 40000000 in
theorem law_met (l : Launch) (Z : State) (a0 : Array Value) (hw : ∀ d ∈ tables_1, d.before a0 Z = true) (xx : Int32) (b0 b1 b2 b3 b4 b5 b6 b7 b8 : Addr) (h : Heap) (n0 : Nat) (O0 : Old Z n0 h) (C0 : own_cat Z "HIGH_CARD" 1 1277 b0) (C1 : own_cat Z "PAIR" 1278 2860 b1) (C2 : own_cat Z "TWO_PAIR" 4138 858 b2) (C3 : own_cat Z "THREE_OF_A_KIND" 4996 858 b3) (C4 : own_cat Z "STRAIGHT" 5854 10 b4) (C5 : own_cat Z "FLUSH" 5864 1277 b5) (C6 : own_cat Z "FULL_HOUSE" 7141 156 b6) (C7 : own_cat Z "FOUR_OF_A_KIND" 7297 156 b7) (C8 : own_cat Z "STRAIGHT_FLUSH" 7453 10 b8) :
    Met l x code maxLocals ret tables_1 room_1 #[(.int xx)] Z h n0 (fun v _ => v = some (.int 1)) := by
  refine Met.of (plainFor_of_name (by first | (simp [plainName, overriddenIn]; done) | decide +kernel)) ?_
  intro pP eE sS mM bB tT cC K
  refine Go.entry (ls := #[.val (.int xx), .unset, .unset, .unset]) rfl ?_
  refine go_iloadN (q := 1) K at_0 rfl rfl ?_
  refine go_ldcI (q := 3) K (wd hw 0 rfl) at_1 rfl ?_
  refine go_iand (q := 4) K at_3 rfl ?_
  refine go_bipush (q := 6) K at_4 (9 : Int32) rfl rfl ?_
  refine go_irem (q := 7) K at_6 (by decide) rfl ?_
  refine go_nameI (fun j hj => ?_)
  have hj2 := own_ix9 xx
  rw [← hj] at hj2
  refine go_istoreN (q := 8) K at_7 #[.val (.int xx), .val (.int j), .unset, .unset] rfl rfl ?_
  refine go_bipush (q := 10) K at_8 (9 : Int32) rfl rfl ?_
  refine go_anewarray (q := 13) (num := 9) (cap := 9) K (wd hw 1 rfl) (wd hw 2 rfl) at_10 (by decide) rfl (by decide) (by decide) (by decide) (by decide) rfl ?_
  intro h1 ar kl gar Eh1 F1 Ov
  have O1 := O0.ext Eh1
  have gar2 : n0 ≤ ar := by rw [gar]; exact own_ge O0
  refine go_dup (q := 14) K at_13 rfl rfl ?_
  refine go_iconst (q := 15) K at_14 (0 : Int32) rfl rfl ?_
  refine go_getS (q := 18) K (wd hw 3 rfl) Via.refl (C0.1.ext O1.2) at_15 rfl ?_
  refine go_aastore (q := 19) K F1 rfl (sto_of F1 Ov (Ins.self (C0.2.1.ext O1.2))) (by decide) (show 0 < 9 from by decide) gar2 at_18 rfl ?_
  intro h2 Wh2 F2
  have O2 := O1.wr Wh2 gar2
  refine go_dup (q := 20) K at_19 rfl rfl ?_
  refine go_iconst (q := 21) K at_20 (1 : Int32) rfl rfl ?_
  refine go_getS (q := 24) K (wd hw 7 rfl) Via.refl (C1.1.ext O2.2) at_21 rfl ?_
  refine go_aastore (q := 25) K F2 rfl (sto_of F2 Ov (Ins.self (C1.2.1.ext O2.2))) (by decide) (show 1 < 9 from by decide) gar2 at_24 rfl ?_
  intro h3 Wh3 F3
  have O3 := O2.wr Wh3 gar2
  refine go_dup (q := 26) K at_25 rfl rfl ?_
  refine go_iconst (q := 27) K at_26 (2 : Int32) rfl rfl ?_
  refine go_getS (q := 30) K (wd hw 9 rfl) Via.refl (C2.1.ext O3.2) at_27 rfl ?_
  refine go_aastore (q := 31) K F3 rfl (sto_of F3 Ov (Ins.self (C2.2.1.ext O3.2))) (by decide) (show 2 < 9 from by decide) gar2 at_30 rfl ?_
  intro h4 Wh4 F4
  have O4 := O3.wr Wh4 gar2
  refine go_dup (q := 32) K at_31 rfl rfl ?_
  refine go_iconst (q := 33) K at_32 (3 : Int32) rfl rfl ?_
  refine go_getS (q := 36) K (wd hw 11 rfl) Via.refl (C3.1.ext O4.2) at_33 rfl ?_
  refine go_aastore (q := 37) K F4 rfl (sto_of F4 Ov (Ins.self (C3.2.1.ext O4.2))) (by decide) (show 3 < 9 from by decide) gar2 at_36 rfl ?_
  intro h5 Wh5 F5
  have O5 := O4.wr Wh5 gar2
  refine go_dup (q := 38) K at_37 rfl rfl ?_
  refine go_iconst (q := 39) K at_38 (4 : Int32) rfl rfl ?_
  refine go_getS (q := 42) K (wd hw 13 rfl) Via.refl (C4.1.ext O5.2) at_39 rfl ?_
  refine go_aastore (q := 43) K F5 rfl (sto_of F5 Ov (Ins.self (C4.2.1.ext O5.2))) (by decide) (show 4 < 9 from by decide) gar2 at_42 rfl ?_
  intro h6 Wh6 F6
  have O6 := O5.wr Wh6 gar2
  refine go_dup (q := 44) K at_43 rfl rfl ?_
  refine go_iconst (q := 45) K at_44 (5 : Int32) rfl rfl ?_
  refine go_getS (q := 48) K (wd hw 15 rfl) Via.refl (C5.1.ext O6.2) at_45 rfl ?_
  refine go_aastore (q := 49) K F6 rfl (sto_of F6 Ov (Ins.self (C5.2.1.ext O6.2))) (by decide) (show 5 < 9 from by decide) gar2 at_48 rfl ?_
  intro h7 Wh7 F7
  have O7 := O6.wr Wh7 gar2
  refine go_dup (q := 50) K at_49 rfl rfl ?_
  refine go_bipush (q := 52) K at_50 (6 : Int32) rfl rfl ?_
  refine go_getS (q := 55) K (wd hw 17 rfl) Via.refl (C6.1.ext O7.2) at_52 rfl ?_
  refine go_aastore (q := 56) K F7 rfl (sto_of F7 Ov (Ins.self (C6.2.1.ext O7.2))) (by decide) (show 6 < 9 from by decide) gar2 at_55 rfl ?_
  intro h8 Wh8 F8
  have O8 := O7.wr Wh8 gar2
  refine go_dup (q := 57) K at_56 rfl rfl ?_
  refine go_bipush (q := 59) K at_57 (7 : Int32) rfl rfl ?_
  refine go_getS (q := 62) K (wd hw 19 rfl) Via.refl (C7.1.ext O8.2) at_59 rfl ?_
  refine go_aastore (q := 63) K F8 rfl (sto_of F8 Ov (Ins.self (C7.2.1.ext O8.2))) (by decide) (show 7 < 9 from by decide) gar2 at_62 rfl ?_
  intro h9 Wh9 F9
  have O9 := O8.wr Wh9 gar2
  refine go_dup (q := 64) K at_63 rfl rfl ?_
  refine go_bipush (q := 66) K at_64 (8 : Int32) rfl rfl ?_
  refine go_getS (q := 69) K (wd hw 21 rfl) Via.refl (C8.1.ext O9.2) at_66 rfl ?_
  refine go_aastore (q := 70) K F9 rfl (sto_of F9 Ov (Ins.self (C8.2.1.ext O9.2))) (by decide) (show 8 < 9 from by decide) gar2 at_69 rfl ?_
  intro h10 Wh10 F10
  have O10 := O9.wr Wh10 gar2
  refine go_astoreN (q := 71) K at_70 #[.val (.int xx), .val (.int j), .val (.ref ar), .unset] rfl rfl rfl ?_
  refine go_bipush (q := 73) K at_71 (9 : Int32) rfl rfl ?_
  refine go_newarray (q := 75) (num := 9) (cap := 9) K (wd hw 23 rfl) at_73 (by decide) rfl (by decide) (by decide) (by decide) (by decide) rfl ?_
  intro h11 br kl2 gbr Eh11 G1
  have O11 := O10.ext Eh11
  have gbr2 : n0 ≤ br := by rw [gbr]; exact own_ge O10
  have hne : ar ≠ br := by rw [gbr]; exact Nat.ne_of_lt F10.lt
  have F11 := F10.ext Eh11
  refine go_dup (q := 76) K at_75 rfl rfl ?_
  refine go_iconst (q := 77) K at_76 (0 : Int32) rfl rfl ?_
  refine go_sipush (q := 80) K at_77 (1277 : Int32) rfl rfl ?_
  refine go_iastore (q := 81) K G1 (by decide) (show 0 < 9 from by decide) gbr2 at_80 rfl ?_
  intro h12 Wh12 G2
  have O12 := O11.wr Wh12 gbr2
  have F12 := F11.other Wh12 hne
  refine go_dup (q := 82) K at_81 rfl rfl ?_
  refine go_iconst (q := 83) K at_82 (1 : Int32) rfl rfl ?_
  refine go_sipush (q := 86) K at_83 (4137 : Int32) rfl rfl ?_
  refine go_iastore (q := 87) K G2 (by decide) (show 1 < 9 from by decide) gbr2 at_86 rfl ?_
  intro h13 Wh13 G3
  have O13 := O12.wr Wh13 gbr2
  have F13 := F12.other Wh13 hne
  refine go_dup (q := 88) K at_87 rfl rfl ?_
  refine go_iconst (q := 89) K at_88 (2 : Int32) rfl rfl ?_
  refine go_sipush (q := 92) K at_89 (4995 : Int32) rfl rfl ?_
  refine go_iastore (q := 93) K G3 (by decide) (show 2 < 9 from by decide) gbr2 at_92 rfl ?_
  intro h14 Wh14 G4
  have O14 := O13.wr Wh14 gbr2
  have F14 := F13.other Wh14 hne
  refine go_dup (q := 94) K at_93 rfl rfl ?_
  refine go_iconst (q := 95) K at_94 (3 : Int32) rfl rfl ?_
  refine go_sipush (q := 98) K at_95 (5853 : Int32) rfl rfl ?_
  refine go_iastore (q := 99) K G4 (by decide) (show 3 < 9 from by decide) gbr2 at_98 rfl ?_
  intro h15 Wh15 G5
  have O15 := O14.wr Wh15 gbr2
  have F15 := F14.other Wh15 hne
  refine go_dup (q := 100) K at_99 rfl rfl ?_
  refine go_iconst (q := 101) K at_100 (4 : Int32) rfl rfl ?_
  refine go_sipush (q := 104) K at_101 (5863 : Int32) rfl rfl ?_
  refine go_iastore (q := 105) K G5 (by decide) (show 4 < 9 from by decide) gbr2 at_104 rfl ?_
  intro h16 Wh16 G6
  have O16 := O15.wr Wh16 gbr2
  have F16 := F15.other Wh16 hne
  refine go_dup (q := 106) K at_105 rfl rfl ?_
  refine go_iconst (q := 107) K at_106 (5 : Int32) rfl rfl ?_
  refine go_sipush (q := 110) K at_107 (7140 : Int32) rfl rfl ?_
  refine go_iastore (q := 111) K G6 (by decide) (show 5 < 9 from by decide) gbr2 at_110 rfl ?_
  intro h17 Wh17 G7
  have O17 := O16.wr Wh17 gbr2
  have F17 := F16.other Wh17 hne
  refine go_dup (q := 112) K at_111 rfl rfl ?_
  refine go_bipush (q := 114) K at_112 (6 : Int32) rfl rfl ?_
  refine go_sipush (q := 117) K at_114 (7296 : Int32) rfl rfl ?_
  refine go_iastore (q := 118) K G7 (by decide) (show 6 < 9 from by decide) gbr2 at_117 rfl ?_
  intro h18 Wh18 G8
  have O18 := O17.wr Wh18 gbr2
  have F18 := F17.other Wh18 hne
  refine go_dup (q := 119) K at_118 rfl rfl ?_
  refine go_bipush (q := 121) K at_119 (7 : Int32) rfl rfl ?_
  refine go_sipush (q := 124) K at_121 (7452 : Int32) rfl rfl ?_
  refine go_iastore (q := 125) K G8 (by decide) (show 7 < 9 from by decide) gbr2 at_124 rfl ?_
  intro h19 Wh19 G9
  have O19 := O18.wr Wh19 gbr2
  have F19 := F18.other Wh19 hne
  refine go_dup (q := 126) K at_125 rfl rfl ?_
  refine go_bipush (q := 128) K at_126 (8 : Int32) rfl rfl ?_
  refine go_sipush (q := 131) K at_128 (7462 : Int32) rfl rfl ?_
  refine go_iastore (q := 132) K G9 (by decide) (show 8 < 9 from by decide) gbr2 at_131 rfl ?_
  intro h20 Wh20 G10
  have O20 := O19.wr Wh20 gbr2
  have F20 := F19.other Wh20 hne
  refine go_astoreN (q := 133) K at_132 #[.val (.int xx), .val (.int j), .val (.ref ar), .val (.ref br)] rfl rfl rfl ?_
  refine go_aloadN (q := 134) K at_133 rfl rfl rfl ?_
  refine go_iloadN (q := 135) K at_134 rfl rfl ?_
  obtain ⟨b, nm, lo, cl, hi, e1, e2, Cb, e3⟩ := own_pick b0 b1 b2 b3 b4 b5 b6 b7 b8 C0 C1 C2 C3 C4 C5 C6 C7 C8 _ hj2.2
  have Fa : Ary Z h20 ar kl (.object "com/example/riverstack/riverstack/eval/Category") [.ref b0, .ref b1, .ref b2, .ref b3, .ref b4, .ref b5, .ref b6, .ref b7, .ref b8] := F20
  have Ga : Ary Z h20 br kl2 .int own_hs := G10
  refine go_aaload (q := 136) K Fa rfl rfl hj2.1 e1 at_135 rfl ?_
  refine go_callV (q := 139) (W := 0) K (wd hw 24 rfl) (wd hw 25 rfl) (wd hw 27 rfl) (wd hw 26 rfl) (wd hw 4 rfl) (wd hw 28 rfl) (wd hw 27 rfl) rfl (Cb.2.1.ext O20.2) [] [] (hi_met l Z a0 hw b lo cl _ n0 (Cb.2.1.ext O20.2) (Cb.2.2.1.ext O20.2) (Cb.2.2.2.ext O20.2)) at_136 (ps := []) (by decide +kernel) rfl rfl rfl (by decide) rfl (by decide) (by decide) (by decide) (by decide) rfl ?_
  rintro _ _ ⟨rfl, rfl⟩
  show Go pP l eE _ sS mM _ bB tT cC n0 _ h20 2 18 (mkF mM 139 #[.val (.int xx), .val (.int j), .val (.ref ar), .val (.ref br)] [(.int (lo + cl - 1))])
  refine go_aloadN (q := 140) K at_139 rfl rfl rfl ?_
  refine go_iloadN (q := 141) K at_140 rfl rfl ?_
  refine go_iaload (q := 142) K Ga hj2.1 e2 at_141 rfl ?_
  refine go_icmp (q := 149) (q' := 145) K at_142 (by decide) rfl rfl (fun hn => cN_no hn (show (lo + cl - 1) = hi from e3)) (fun _ => ?_)
  refine go_iconst (q := 146) K at_145 (1 : Int32) rfl rfl ?_
  refine go_goto (q := 150) K at_146 (by decide) rfl ?_
  refine go_iret K at_150 rfl (Or.inr (Or.inl rfl)) rfl (by decide) (by decide) ?_
  exact rfl
set_option maxRecDepth 65536 in
set_option maxHeartbeats 40000000 in
theorem comes_1 {Post : Tables → Env → Array Value → State → Outcome → State → Prop} (hpost : ∀ tb e args s v u, (limb_1_1.after args s (.returned v) u = true ∧ limb_1_2.after args s (.returned v) u = true ∧ True) → FrameEnd s (.returned v) u (Jvm.fieldLocs frame_1_writes args s ++ Jvm.arrayLocs frame_1_arrays args s ++ Jvm.staticLocs frame_1_statics s) 16 128 → Post tb e args s (.returned v) u) :
    ArmFor flags0 classFile x code maxLocals ret World_1 tables_1 room_1 Calls_1 rest_1 Pre_1 Post := by
  intro l hfl _ _ p e ha hc hk s m args below hf hA hF happ hP
  obtain ⟨hcalls, hrest, hpre⟩ := hP
  obtain ⟨-, -, -, hnamed, -, -, -, hat⟩ := (Spec.applies_iff hf).mp happ
  obtain ⟨hg, hn⟩ := and_e (Cond.before_iff.mp (show (Jvm.Cond.and given_1 narrow_1).before args s = true from hpre))
  obtain ⟨hcnt, hg0⟩ := and_e hg
  have ha0 := hg0
  obtain ⟨w0, rfl⟩ : ∃ w0 : Value, args = #[w0] := by
    have hs : args.size = 1 := by simpa [Cond.value, given_1] using hcnt
    obtain ⟨L⟩ := args
    match L, hs with
    | [w0], _ => exact ⟨w0, rfl⟩
  have hw := fun d (hd : d ∈ tables_1) => atoms_spec (ws := Jvm.Cond.code x code maxLocals ret :: tables_1) hat d (List.mem_cons_of_mem _ hd)
  have hfit : Fit s := fun {y c} hc i hi => by
    obtain ⟨ha, rfl⟩ := Array.getElem?_eq_some_iff.mp hc
    have q := List.all_eq_true.mp ((Array.all_eq_true_iff_forall_mem.mp hF) _ (Array.getElem_mem ha)) i (List.mem_range.mpr hi)
    simpa [Array.getElem?_eq_getElem hi] using q
  obtain ⟨i0, ea0⟩ := is_v ha0
  obtain rfl : w0 = (.int i0) := Option.some.inj ea0
  obtain ⟨hx0, hy0⟩ := and_e hn
  obtain ⟨hx1, hy1⟩ := and_e hy0
  obtain ⟨hx2, hy2⟩ := and_e hy1
  obtain ⟨hx3, hy3⟩ := and_e hy2
  obtain ⟨hx4, hy4⟩ := and_e hy3
  obtain ⟨hx5, hy5⟩ := and_e hy4
  obtain ⟨hx6, hy6⟩ := and_e hy5
  obtain ⟨hx7, hy7⟩ := and_e hy6
  obtain ⟨hx8, hy8⟩ := and_e hy7
  obtain ⟨hx9, hy9⟩ := and_e hy8
  obtain ⟨hx10, hy10⟩ := and_e hy9
  obtain ⟨hx11, hy11⟩ := and_e hy10
  obtain ⟨hx12, hy12⟩ := and_e hy11
  obtain ⟨hx13, hy13⟩ := and_e hy12
  obtain ⟨hx14, hy14⟩ := and_e hy13
  obtain ⟨hx15, hy15⟩ := and_e hy14
  obtain ⟨hx16, hy16⟩ := and_e hy15
  obtain ⟨hx17, hy17⟩ := and_e hy16
  obtain ⟨hx18, hy18⟩ := and_e hy17
  obtain ⟨hx19, hy19⟩ := and_e hy18
  obtain ⟨hx20, hy20⟩ := and_e hy19
  obtain ⟨hx21, hy21⟩ := and_e hy20
  obtain ⟨hx22, hy22⟩ := and_e hy21
  obtain ⟨hx23, hy23⟩ := and_e hy22
  obtain ⟨hx24, hy24⟩ := and_e hy23
  obtain ⟨hx25, hy25⟩ := and_e hy24
  have hx26 := hy25
  obtain ⟨b0, C0⟩ := own_cat_of (wd hw 4 rfl) (wd hw 5 rfl) hx0 hx9 hx10
  obtain ⟨b1, C1⟩ := own_cat_of (wd hw 4 rfl) (wd hw 8 rfl) hx1 hx15 hx16
  obtain ⟨b2, C2⟩ := own_cat_of (wd hw 4 rfl) (wd hw 10 rfl) hx2 hx13 hx14
  obtain ⟨b3, C3⟩ := own_cat_of (wd hw 4 rfl) (wd hw 12 rfl) hx3 hx11 hx12
  obtain ⟨b4, C4⟩ := own_cat_of (wd hw 4 rfl) (wd hw 14 rfl) hx4 hx19 hx20
  obtain ⟨b5, C5⟩ := own_cat_of (wd hw 4 rfl) (wd hw 16 rfl) hx5 hx25 hx26
  obtain ⟨b6, C6⟩ := own_cat_of (wd hw 4 rfl) (wd hw 18 rfl) hx6 hx23 hx24
  obtain ⟨b7, C7⟩ := own_cat_of (wd hw 4 rfl) (wd hw 20 rfl) hx7 hx17 hx18
  obtain ⟨b8, C8⟩ := own_cat_of (wd hw 4 rfl) (wd hw 22 rfl) hx8 hx21 hx22
  obtain ⟨n, o, h1, h2, h3, _, L, rfl, ⟨rfl, N⟩, hq⟩ := law_met l s _ hw i0 b0 b1 b2 b3 b4 b5 b6 b7 b8 s.heap s.heap.size (Old.start s) C0 C1 C2 C3 C4 C5 C6 C7 C8 p e ha hc hk s m _ below hf ((Spec.applies_iff_loose hf).mp happ).1 ⟨rfl, State.Warmed39.refl s, rfl⟩ trivial
  refine ⟨n, _, h1, h2, h3, hpost _ _ _ _ _ _ ⟨Cond.after_iff.mpr rfl, Cond.after_iff.mpr (eq_i res_at (Term.int_eval (1)) rfl), trivial⟩ ⟨hq.1, hq.2.1, (hq.2.2.sift fun y hy => Or.inr (N y hy)).mono (by decide) (by decide)⟩⟩
theorem main_1_1 : Claimed_1_1 := comes_1 fun _ _ _ _ _ _ h hF => ⟨h.1, hF⟩
theorem main_1_2 : Claimed_1_2 := comes_1 fun _ _ _ _ _ _ h hF => ⟨h.2.1, hF⟩
end Jvm.Pilot.@@N@@
namespace Jvm.Pilot.@@N@@
open Jvm Jvm.ClassFile Sem Op Lib Jvm.Free Jvm.Stand Jvm.Pilot.@@N@@.Jvm.D
/-! MADE BY PROGRAM (witnessworld.py) out of the Statement's table words and the real class files: 13 classes; the members and pool entries that the words name. The judged class is class 1, her method 1. -/
namespace start1
open Jvm.ClassFile
def u (s : String) : CpInfo := .utf8 (stringToUtf16 s)
/-- a pool by its gaps: so many unusable entries, then the entry; so many at the end -/
def gap : Nat → List CpInfo → List CpInfo
  | 0, r => r
  | n + 1, r => .unusable :: gap n r
def poolList (es : List (Nat × CpInfo)) (last : Nat) : List CpInfo := es.foldr (fun e r => gap e.1 (e.2 :: r)) (gap last [])
def pool (es : List (Nat × CpInfo)) (last : Nat) : Array CpInfo := ⟨poolList es last⟩
def fileOf (pool : Array CpInfo) (this : Nat) (attrs : Array Attribute := #[]) (ms : Array MethodInfo := #[]) (fl : Nat := 33) (sup : Nat := 0) (ifs : Array Nat := #[]) (fds : Array FieldInfo := #[]) : ClassFile where
  minorVersion := 0
  majorVersion := 65
  constantPool := pool
  accessFlags := fl
  thisClass := this
  superClass := sup
  interfaces := ifs
  fields := fds
  methods := ms
  attributes := attrs
def plain (name : String) (sup : Option ClassId) : Class where
  name := name
  kind := .ordinary
  loader := none
  accessFlags := 33
  super := sup
  interfaces := #[]
  cf := none
  fields := #[]
  methods := #[]
  instanceTypes := #[]
  staticTypes := #[]
  resolved := #[]
  callSites := []
  init := .initialized
  statics := none
  mirror := none

def pool0 : Array CpInfo := pool [(5, u "<init>"), (0, u "()V"), (1, .class_ 10), (1, u "java/lang/Object")] 113

def k0m0 : Method := { name := "<init>", desc := "()V", sig := { parameters := [], returnType := none }, accessFlags := 1, code := none }
/-- java/lang/Object -/
def k0 : Class := { plain "java/lang/Object" none with
  accessFlags := 33
  interfaces := #[]
  cf := some (fileOf pool0 8 #[] #[{ accessFlags := 1, nameIndex := 5, descriptorIndex := 6, attributes := #[] }] 33 0 #[] #[])
  fields := #[]
  methods := #[k0m0]
  instanceTypes := #[]
  staticTypes := #[]
  resolved := Array.replicate 124 none
  statics := none }

def pool1 : Array CpInfo := pool [(2, .class_ 4), (1, u "java/lang/Object"), (0, u "<init>"), (0, u "()V"), (0, .integer 2147483647), (0, .class_ 9), (0, u "com/example/riverstack/riverstack/eval/Category"), (0, .fieldref 8 11), (0, .nameAndType 12 13), (0, u "HIGH_CARD"), (0, u "Lcom/example/riverstack/riverstack/eval/Category;"), (0, .fieldref 8 15), (0, .nameAndType 16 13), (0, u "PAIR"), (0, .fieldref 8 18), (0, .nameAndType 19 13), (0, u "TWO_PAIR"), (0, .fieldref 8 21), (0, .nameAndType 22 13), (0, u "THREE_OF_A_KIND"), (0, .fieldref 8 24), (0, .nameAndType 25 13), (0, u "STRAIGHT"), (0, .fieldref 8 27), (0, .nameAndType 28 13), (0, u "FLUSH"), (0, .fieldref 8 30), (0, .nameAndType 31 13), (0, u "FULL_HOUSE"), (0, .fieldref 8 33), (0, .nameAndType 34 13), (0, u "FOUR_OF_A_KIND"), (0, .fieldref 8 36), (0, .nameAndType 37 13), (0, u "STRAIGHT_FLUSH"), (0, .methodref 8 39), (0, .nameAndType 40 41), (0, u "highest"), (0, u "()I"), (0, .class_ 43), (0, u "com/example/riverstack/riverstack/eval/CategoryHighestPinLaw"), (2, u "law"), (0, u "(I)Z")] 7

def k1m0 : Method := { name := "<init>", desc := "()V", sig := { parameters := [], returnType := none }, accessFlags := 1, code := none }
def k1c1 : Code := { maxStack := 4, maxLocals := 4, code := code, exceptionTable := #[], attributes := #[] }
def k1m1 : Method := { name := "law", desc := "(I)Z", sig := { parameters := [.int], returnType := some .boolean }, accessFlags := 9, code := some k1c1 }
/-- com/example/riverstack/riverstack/eval/CategoryHighestPinLaw -/
def k1 : Class := { plain "com/example/riverstack/riverstack/eval/CategoryHighestPinLaw" (some 0) with
  accessFlags := 49
  interfaces := #[]
  cf := some (fileOf pool1 42 #[] #[{ accessFlags := 1, nameIndex := 5, descriptorIndex := 6, attributes := #[] }, { accessFlags := 9, nameIndex := 46, descriptorIndex := 47, attributes := #[] }] 49 2 #[] #[])
  fields := #[]
  methods := #[k1m0, k1m1]
  instanceTypes := #[]
  staticTypes := #[]
  resolved := Array.replicate 55 none
  statics := none }

def pool2 : Array CpInfo := pool [(1, .class_ 2), (0, u "java/lang/constant/Constable"), (0, .class_ 4), (0, u "java/lang/Object")] 6

/-- java/lang/constant/Constable -/
def k2 : Class := { plain "java/lang/constant/Constable" (some 0) with
  accessFlags := 1537
  interfaces := #[]
  cf := some (fileOf pool2 1 #[] #[] 1537 3 #[] #[])
  fields := #[]
  methods := #[]
  instanceTypes := #[]
  staticTypes := #[]
  resolved := Array.replicate 11 none
  statics := none }

def pool3 : Array CpInfo := pool [(1, .class_ 2), (0, u "java/lang/Comparable"), (0, .class_ 4), (0, u "java/lang/Object")] 7

/-- java/lang/Comparable -/
def k3 : Class := { plain "java/lang/Comparable" (some 0) with
  accessFlags := 1537
  interfaces := #[]
  cf := some (fileOf pool3 1 #[] #[] 1537 3 #[] #[])
  fields := #[]
  methods := #[]
  instanceTypes := #[]
  staticTypes := #[]
  resolved := Array.replicate 12 none
  statics := none }

def pool4 : Array CpInfo := pool [(1, .class_ 2), (0, u "java/io/Serializable"), (0, .class_ 4), (0, u "java/lang/Object")] 2

/-- java/io/Serializable -/
def k4 : Class := { plain "java/io/Serializable" (some 0) with
  accessFlags := 1537
  interfaces := #[]
  cf := some (fileOf pool4 1 #[] #[] 1537 3 #[] #[])
  fields := #[]
  methods := #[]
  instanceTypes := #[]
  staticTypes := #[]
  resolved := Array.replicate 7 none
  statics := none }

def pool5 : Array CpInfo := pool [(2, .class_ 4), (1, u "java/lang/Enum"), (0, u "name"), (0, u "Ljava/lang/String;"), (2, u "ordinal"), (0, u "I"), (1, .class_ 14), (1, u "java/lang/Object"), (4, u "hash"), (86, .class_ 108), (1, u "java/lang/Enum$EnumDesc"), (2, .class_ 112), (0, u "java/lang/constant/Constable"), (0, .class_ 114), (0, u "java/lang/Comparable"), (0, .class_ 116), (0, u "java/io/Serializable")] 87

/-- java/lang/Enum -/
def k5 : Class := { plain "java/lang/Enum" (some 0) with
  accessFlags := 1057
  interfaces := #[2, 3, 4]
  cf := some (fileOf pool5 2 #[.nestMembers #[106]] #[] 1057 12 #[111, 113, 115] #[{ accessFlags := 18, nameIndex := 5, descriptorIndex := 6, attributes := #[] }, { accessFlags := 18, nameIndex := 9, descriptorIndex := 10, attributes := #[] }, { accessFlags := 2, nameIndex := 19, descriptorIndex := 10, attributes := #[] }])
  fields := #[{ name := "name", type := (.object "java/lang/String"), accessFlags := 18, slot := 0, constantValue := 0 }, { name := "ordinal", type := .int, accessFlags := 18, slot := 1, constantValue := 0 }, { name := "hash", type := .int, accessFlags := 2, slot := 2, constantValue := 0 }]
  methods := #[]
  instanceTypes := #[(.object "java/lang/String"), .int, .int]
  staticTypes := #[]
  resolved := Array.replicate 204 none
  statics := none }

def pool6 : Array CpInfo := pool [(1, .class_ 2), (0, u "com/example/riverstack/riverstack/eval/Category"), (2, u "HIGH_CARD"), (0, u "Lcom/example/riverstack/riverstack/eval/Category;"), (2, u "PAIR"), (2, u "TWO_PAIR"), (2, u "THREE_OF_A_KIND"), (2, u "STRAIGHT"), (2, u "FLUSH"), (2, u "FULL_HOUSE"), (2, u "FOUR_OF_A_KIND"), (2, u "STRAIGHT_FLUSH"), (2, u "$VALUES"), (0, u "[Lcom/example/riverstack/riverstack/eval/Category;"), (6, .class_ 43), (1, u "java/lang/Enum"), (8, u "label"), (0, u "Ljava/lang/String;"), (0, .fieldref 1 55), (0, .nameAndType 56 57), (0, u "classes"), (0, u "I"), (0, .fieldref 1 59), (0, .nameAndType 60 57), (0, u "lowest"), (0, .methodref 1 62), (0, .nameAndType 60 63), (0, u "()I"), (2, u "VALUES"), (2, u "highest")] 75

def k6c0 : Code := { maxStack := 1, maxLocals := 1, code := prog_24_method_5_code, exceptionTable := #[], attributes := #[] }
def k6m0 : Method := { name := "lowest", desc := "()I", sig := { parameters := [], returnType := some .int }, accessFlags := 1, code := some k6c0 }
def k6c1 : Code := { maxStack := 2, maxLocals := 1, code := prog_24_method_6_code, exceptionTable := #[], attributes := #[] }
def k6m1 : Method := { name := "highest", desc := "()I", sig := { parameters := [], returnType := some .int }, accessFlags := 1, code := some k6c1 }
/-- com/example/riverstack/riverstack/eval/Category -/
def k6 : Class := { plain "com/example/riverstack/riverstack/eval/Category" (some 5) with
  accessFlags := 16433
  interfaces := #[]
  cf := some (fileOf pool6 1 #[] #[{ accessFlags := 1, nameIndex := 60, descriptorIndex := 63, attributes := #[] }, { accessFlags := 1, nameIndex := 69, descriptorIndex := 63, attributes := #[] }] 16433 41 #[] #[{ accessFlags := 16409, nameIndex := 5, descriptorIndex := 6, attributes := #[] }, { accessFlags := 16409, nameIndex := 9, descriptorIndex := 6, attributes := #[] }, { accessFlags := 16409, nameIndex := 12, descriptorIndex := 6, attributes := #[] }, { accessFlags := 16409, nameIndex := 15, descriptorIndex := 6, attributes := #[] }, { accessFlags := 16409, nameIndex := 18, descriptorIndex := 6, attributes := #[] }, { accessFlags := 16409, nameIndex := 21, descriptorIndex := 6, attributes := #[] }, { accessFlags := 16409, nameIndex := 24, descriptorIndex := 6, attributes := #[] }, { accessFlags := 16409, nameIndex := 27, descriptorIndex := 6, attributes := #[] }, { accessFlags := 16409, nameIndex := 30, descriptorIndex := 6, attributes := #[] }, { accessFlags := 26, nameIndex := 66, descriptorIndex := 34, attributes := #[] }, { accessFlags := 18, nameIndex := 52, descriptorIndex := 53, attributes := #[] }, { accessFlags := 18, nameIndex := 56, descriptorIndex := 57, attributes := #[] }, { accessFlags := 2, nameIndex := 60, descriptorIndex := 57, attributes := #[] }, { accessFlags := 4122, nameIndex := 33, descriptorIndex := 34, attributes := #[] }])
  fields := #[{ name := "HIGH_CARD", type := (.object "com/example/riverstack/riverstack/eval/Category"), accessFlags := 16409, slot := 0, constantValue := 0 }, { name := "PAIR", type := (.object "com/example/riverstack/riverstack/eval/Category"), accessFlags := 16409, slot := 1, constantValue := 0 }, { name := "TWO_PAIR", type := (.object "com/example/riverstack/riverstack/eval/Category"), accessFlags := 16409, slot := 2, constantValue := 0 }, { name := "THREE_OF_A_KIND", type := (.object "com/example/riverstack/riverstack/eval/Category"), accessFlags := 16409, slot := 3, constantValue := 0 }, { name := "STRAIGHT", type := (.object "com/example/riverstack/riverstack/eval/Category"), accessFlags := 16409, slot := 4, constantValue := 0 }, { name := "FLUSH", type := (.object "com/example/riverstack/riverstack/eval/Category"), accessFlags := 16409, slot := 5, constantValue := 0 }, { name := "FULL_HOUSE", type := (.object "com/example/riverstack/riverstack/eval/Category"), accessFlags := 16409, slot := 6, constantValue := 0 }, { name := "FOUR_OF_A_KIND", type := (.object "com/example/riverstack/riverstack/eval/Category"), accessFlags := 16409, slot := 7, constantValue := 0 }, { name := "STRAIGHT_FLUSH", type := (.object "com/example/riverstack/riverstack/eval/Category"), accessFlags := 16409, slot := 8, constantValue := 0 }, { name := "VALUES", type := (.array (.object "com/example/riverstack/riverstack/eval/Category")), accessFlags := 26, slot := 9, constantValue := 0 }, { name := "label", type := (.object "java/lang/String"), accessFlags := 18, slot := 3, constantValue := 0 }, { name := "classes", type := .int, accessFlags := 18, slot := 4, constantValue := 0 }, { name := "lowest", type := .int, accessFlags := 2, slot := 5, constantValue := 0 }, { name := "$VALUES", type := (.array (.object "com/example/riverstack/riverstack/eval/Category")), accessFlags := 4122, slot := 10, constantValue := 0 }]
  methods := #[k6m0, k6m1]
  instanceTypes := #[(.object "java/lang/String"), .int, .int, (.object "java/lang/String"), .int, .int]
  staticTypes := #[(.object "com/example/riverstack/riverstack/eval/Category"), (.object "com/example/riverstack/riverstack/eval/Category"), (.object "com/example/riverstack/riverstack/eval/Category"), (.object "com/example/riverstack/riverstack/eval/Category"), (.object "com/example/riverstack/riverstack/eval/Category"), (.object "com/example/riverstack/riverstack/eval/Category"), (.object "com/example/riverstack/riverstack/eval/Category"), (.object "com/example/riverstack/riverstack/eval/Category"), (.object "com/example/riverstack/riverstack/eval/Category"), (.array (.object "com/example/riverstack/riverstack/eval/Category")), (.array (.object "com/example/riverstack/riverstack/eval/Category"))]
  resolved := Array.replicate 145 none
  statics := some 0 }

def pool7 : Array CpInfo := pool [(1, u "java/lang/Cloneable"), (0, .class_ 1), (0, u "java/lang/Object"), (0, .class_ 3)] 3

/-- java/lang/Cloneable -/
def k7 : Class := { plain "java/lang/Cloneable" (some 0) with
  accessFlags := 1537
  interfaces := #[]
  cf := some (fileOf pool7 2 #[] #[] 1537 4 #[] #[])
  fields := #[]
  methods := #[]
  instanceTypes := #[]
  staticTypes := #[]
  resolved := Array.replicate 8 none
  statics := none }

/-- the primitive byte -/
def k8 : Class := { plain "byte" none with kind := .primitive 'B', accessFlags := 0x411 }
/-- [B -/
def k9 : Class := { plain "[B" (some 0) with kind := .array 8 .byte, interfaces := #[7, 4], accessFlags := 1041 }

/-- the primitive int -/
def k10 : Class := { plain "int" none with kind := .primitive 'I', accessFlags := 0x411 }
/-- [I -/
def k11 : Class := { plain "[I" (some 0) with kind := .array 10 .int, interfaces := #[7, 4], accessFlags := 1041 }

/-- [Lcom/example/riverstack/riverstack/eval/Category; -/
def k12 : Class := { plain "[Lcom/example/riverstack/riverstack/eval/Category;" (some 0) with kind := .array 6 (.object "com/example/riverstack/riverstack/eval/Category"), interfaces := #[7, 4], accessFlags := 1041 }

def heap : Heap := #[{ cls := 6, slots := #[.ref 1, .ref 2, .ref 3, .ref 4, .ref 5, .ref 6, .ref 7, .ref 8, .ref 9, .null, .null], vm := .statics 6 },
  { cls := 6, slots := #[.null, .int 0, .int 0, .null, .int 1277, .int 1], vm := .none },
  { cls := 6, slots := #[.null, .int 1, .int 0, .null, .int 2860, .int 1278], vm := .none },
  { cls := 6, slots := #[.null, .int 2, .int 0, .null, .int 858, .int 4138], vm := .none },
  { cls := 6, slots := #[.null, .int 3, .int 0, .null, .int 858, .int 4996], vm := .none },
  { cls := 6, slots := #[.null, .int 4, .int 0, .null, .int 10, .int 5854], vm := .none },
  { cls := 6, slots := #[.null, .int 5, .int 0, .null, .int 1277, .int 5864], vm := .none },
  { cls := 6, slots := #[.null, .int 6, .int 0, .null, .int 156, .int 7141], vm := .none },
  { cls := 6, slots := #[.null, .int 7, .int 0, .null, .int 156, .int 7297], vm := .none },
  { cls := 6, slots := #[.null, .int 8, .int 0, .null, .int 10, .int 7453], vm := .none }]
def classes : Array Class := #[k0, k1, k2, k3, k4, k5, k6, k7, k8, k9, k10, k11, k12]
def interned : List (Array UInt16 × Addr) := []
def slotsUsed : Nat := 65
def theMethod : MethodId := ⟨1, 1⟩
def args0 : Array Value := #[.int 5]
def aboutOver (below : List Frame) : State where
  vm := { classes := classes, interned := interned.toArray }
  heap := heap
  slotsUsed := slotsUsed
  threads := #[{ frames := .invoking theMethod args0 :: below }]
def below0 : List Frame := [.native { method := ⟨0, 0⟩, args := #[] }]
def about1 : State := aboutOver below0
def p0 : Program := .bare "" "" ""
def e0 : Env := launch0.env 0 0 0
theorem w_frames : about1.frames = Frame.invoking theMethod args0 :: below0 := rfl
set_option maxRecDepth 65536 in
theorem w_args : argsFit about1.vm theMethod args0 = true := by decide +kernel
set_option maxRecDepth 65536 in
theorem w_heap : heapFits about1 = true := by decide +kernel
set_option maxRecDepth 65536 in
theorem w_runnable : about1.curStatus? = some .runnable := by decide +kernel
set_option maxRecDepth 65536 in
theorem w_alone : about1.alone = true := by decide +kernel
set_option maxRecDepth 65536 in
theorem w_named : about1.methodNamed? x = some theMethod := by decide +kernel
set_option maxRecDepth 65536 in
theorem w_hears : about1.hears theMethod below0 = true := by decide +kernel
set_option maxRecDepth 65536 in
theorem w_ripe : about1.ripe theMethod args0 below0 = true := by decide +kernel
theorem w_running : about1.status = .running := rfl
set_option maxRecDepth 65536 in
theorem w_room : about1.hasRoom e0.platform room_1 = true :=
  launch0.hasRoom_least _ room_1 (by decide +kernel) (by decide +kernel) (by decide +kernel) (by decide +kernel) (by decide +kernel) (by decide +kernel)
theorem allAtoms_all (ts : List Jvm.Cond) (a : Array Jvm.Value) (st : Jvm.State) : (allAtoms ts).before a st = ts.all (fun c => c.before a st) := by
  induction ts with
  | nil => rfl
  | cons c t ih =>
    show (Jvm.Cond.and c (allAtoms t)).before a st = _
    rw [Jvm.Cond.before_and, ih, List.all_cons]
def words1 : List Jvm.Cond := Jvm.Cond.code x code maxLocals ret :: tables_1
/-- a 'code' word, met by the world's own term for the bytes: nothing is compared byte by byte -/
theorem code_word {y : MethodName} {bytes : ByteArray} {mx : Nat} {rt : Option FieldType} {a : Array Value} {s : State} {m : MethodId} {meth : Method} {c : Code} (h1 : s.methodNamed? y = some m) (h2 : s.vm.method? m = some meth) (h3 : meth.code = some c) (h4 : c.code = bytes)
    (h5 : (c.maxLocals == mx && c.exceptionTable.isEmpty && decide (c.maxStack ≤ mostOperands) && decide (meth.sig.returnType = rt) && !meth.locks && decide (parseMethodDescriptor y.desc = some meth.sig)) = true) : (Jvm.Cond.code y bytes mx rt).before a s = true := by
  simp only [Bool.and_eq_true, beq_iff_eq, Bool.not_eq_true', decide_eq_true_eq] at h5
  obtain ⟨⟨⟨⟨⟨g1, g2⟩, g3⟩, g4⟩, g5⟩, g6⟩ := h5
  simp [Cond.before, Cond.holds, Cond.value, h1, h2, h3, h4, g1, g2, g3, g4, g5, g6]
def isCode : Jvm.Cond → Bool
  | .code _ _ _ _ => true
  | _ => false
theorem all_split {L : List Jvm.Cond} {P : Jvm.Cond → Bool} (h1 : L.all (fun c => isCode c || P c) = true) (h2 : ∀ c ∈ L.filter isCode, P c = true) : L.all P = true := by
  refine List.all_eq_true.mpr fun c hc => ?_
  have h := List.all_eq_true.mp h1 c hc
  rcases Bool.eq_false_or_eq_true (isCode c) with hi | hi
  · exact h2 c (List.mem_filter.mpr ⟨hc, hi⟩)
  · simpa [hi] using h
set_option maxRecDepth 65536 in
theorem w_c0 : (Jvm.Cond.code x code maxLocals ret).before args0 about1 = true := code_word (m := ⟨1, 1⟩) (meth := k1m1) (c := k1c1) (by decide +kernel) rfl rfl rfl (by decide +kernel)
set_option maxRecDepth 65536 in
theorem w_c1 : (Jvm.Cond.code ({ cls := "com/example/riverstack/riverstack/eval/Category", name := "highest", desc := "()I" } : Jvm.MethodName) prog_24_method_6_code (1 : Nat) (Option.some Jvm.ClassFile.FieldType.int)).before args0 about1 = true := code_word (m := ⟨6, 1⟩) (meth := k6m1) (c := k6c1) (by decide +kernel) rfl rfl rfl (by decide +kernel)
set_option maxRecDepth 65536 in
theorem w_c2 : (Jvm.Cond.code ({ cls := "com/example/riverstack/riverstack/eval/Category", name := "lowest", desc := "()I" } : Jvm.MethodName) prog_24_method_5_code (1 : Nat) (Option.some Jvm.ClassFile.FieldType.int)).before args0 about1 = true := code_word (m := ⟨6, 0⟩) (meth := k6m0) (c := k6c0) (by decide +kernel) rfl rfl rfl (by decide +kernel)
def codes1 : List Jvm.Cond := [Jvm.Cond.code x code maxLocals ret, Jvm.Cond.code ({ cls := "com/example/riverstack/riverstack/eval/Category", name := "highest", desc := "()I" } : Jvm.MethodName) prog_24_method_6_code (1 : Nat) (Option.some Jvm.ClassFile.FieldType.int), Jvm.Cond.code ({ cls := "com/example/riverstack/riverstack/eval/Category", name := "lowest", desc := "()I" } : Jvm.MethodName) prog_24_method_5_code (1 : Nat) (Option.some Jvm.ClassFile.FieldType.int)]
set_option maxRecDepth 65536 in
theorem codes_eq : words1.filter isCode = codes1 := rfl
theorem w_codes : ∀ c ∈ words1.filter isCode, c.before args0 about1 = true := by
  rw [codes_eq]
  intro c hc
  simp only [codes1, List.mem_cons, List.not_mem_nil, or_false] at hc
  rcases hc with rfl | rfl | rfl
  · exact w_c0
  · exact w_c1
  · exact w_c2
set_option maxRecDepth 65536 in
theorem w_t1 : (words1.take 24).all (fun c => isCode c || c.before args0 about1) = true := by decide +kernel
set_option maxRecDepth 65536 in
theorem w_t2 : (words1.drop 24).all (fun c => isCode c || c.before args0 about1) = true := by decide +kernel
theorem w_tables : (allAtoms (Jvm.Cond.code x code maxLocals ret :: tables_1)).before args0 about1 = true := by
  rw [allAtoms_all]
  show words1.all (fun c => c.before args0 about1) = true
  refine all_split ?_ w_codes
  rw [← List.take_append_drop 24 words1, List.all_append, w_t1, w_t2]
  rfl
set_option maxRecDepth 65536 in
theorem w_case : (Jvm.Cond.and given_1 narrow_1).before args0 about1 = true := by decide +kernel
theorem w_applies : (headSpec (Jvm.Cond.code x code maxLocals ret :: tables_1) room_1).applies x e0.platform about1 = true :=
  (Spec.applies_iff w_frames).mpr ⟨w_running, w_runnable, w_alone, w_named, w_hears, w_ripe, w_room, w_tables⟩
theorem atStart : AtStart classFile x code maxLocals ret World_1 tables_1 room_1 Calls_1 rest_1 Pre_1 launch0 p0 e0 about1 theMethod args0 below0 :=
  ⟨lists_1, trivial, launch0.admits_env _ _ _, launch0.least_env, fairChoices_fair.cas, fairChoices_fair.clock, w_frames, w_args, w_heap, w_applies, trivial, trivial, w_case⟩
end start1
theorem witness_1 : WitnessClaimed_1 := ⟨start1.p0, start1.e0, start1.about1, start1.theMethod, start1.args0, start1.below0, start1.atStart⟩
end Jvm.Pilot.@@N@@
