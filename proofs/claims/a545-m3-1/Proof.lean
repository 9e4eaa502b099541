import JvmDerived
import JvmDerived.Pilot.@@N@@Statement
import JvmDerived.Pilot.@@N@@Code
set_option linter.unusedVariables false
set_option linter.unusedSimpArgs false
namespace Jvm.Pilot.@@N@@
open Jvm Jvm.ClassFile Sem Op Lib Jvm.Free Jvm.Stand Jvm.LawKit Jvm.RoadKit Bundle Jvm.Pilot.@@N@@.Jvm.D
theorem wd {Z : State} {a0 : Array Value} (hw : ∀ d ∈ tables_1, d.before a0 Z = true) (i : Nat) {d : Jvm.Cond} (e : tables_1[i]? = some d) : d.before a0 Z = true := hw _ (List.mem_of_getElem? e)
section Layer
variable {p : Program} {l : Launch} {e : Env} {R : Room} {s : State} {m : MethodId} {args : Array Value} {below : List Frame} {meth : Method} {c : Code} {Z : State} {a0 : Array Value}
variable {own nm : String} {bytes : ByteArray} {maxL : Nat} {ret : Option FieldType} {n0 : Nat} {Q : Option Value → Heap → Prop} {h : Heap} {k n : Nat} {pc q : Nat} {ls : Array Slot} {st : List Value}
/-- what stays fixed while one body is walked -/
def Cx (p : Program) (s : State) (m : MethodId) (meth : Method) (c : Code) (Z : State) (own nm : String) (bytes : ByteArray) (maxL : Nat) (ret : Option FieldType) : Prop :=
  p.tables.exec = Jvm.exec ∧ Z.Warmed39 s.vm ∧ s.vm.findClass own = some m.cls ∧ c.code = bytes ∧ c.maxLocals = maxL ∧ meth.sig.returnType = ret ∧ meth.locks = false ∧ meth.name = nm
/-- from this frame, over a heap h, with k cells and n slots made, the body ends and Q holds -/
def Go (p : Program) (l : Launch) (e : Env) (R : Room) (s : State) (m : MethodId) (args : Array Value) (below : List Frame) (meth : Method) (c : Code) (n0 : Nat) (Q : Option Value → Heap → Prop) (h : Heap) (k n : Nat) (g : JFrame) : Prop :=
  ∀ T L, Stand p l e R s m args below meth c T L k n → Fr n0 L → T.heap = h →
    ∃ s₂ o, Steps p.tables e below (T.setTop g) s₂ ∧ s₂.status = .running ∧ Ended s₂ below o ∧ ∃ v L', o = .returned v ∧ (Q v s₂.heap ∧ Fr n0 L') ∧ FrameEnd s o s₂ L' R.cells R.slots
theorem Go.of {g g' : JFrame} (f : ∀ T target, At T m c below → Steps p.tables e below (T.setTop g') target → Steps p.tables e below (T.setTop g) target) (r : Go p l e R s m args below meth c n0 Q h k n g') : Go p l e R s m args below meth c n0 Q h k n g := fun T L X N eT => by
  obtain ⟨s₂, o, hs, z⟩ := r T L X N eT
  exact ⟨s₂, o, f T _ X.here hs, z⟩
theorem Go.ofX {g g' : JFrame} (f : ∀ T L target, Stand p l e R s m args below meth c T L k n → T.heap = h → Steps p.tables e below (T.setTop g') target → Steps p.tables e below (T.setTop g) target) (r : Go p l e R s m args below meth c n0 Q h k n g') : Go p l e R s m args below meth c n0 Q h k n g := fun T L X N eT => by
  obtain ⟨s₂, o, hs, z⟩ := r T L X N eT
  exact ⟨s₂, o, f T L _ X eT hs, z⟩
theorem Go.mono {Q' : Option Value → Heap → Prop} {g : JFrame} (r : Go p l e R s m args below meth c n0 Q h k n g) (f : ∀ v h', Q v h' → Q' v h') : Go p l e R s m args below meth c n0 Q' h k n g := fun T L X N eT => by
  obtain ⟨s₂, o, hs, h1, h2, v, L', h3, h4, h5⟩ := r T L X N eT
  exact ⟨s₂, o, hs, h1, h2, v, L', h3, ⟨f _ _ h4.1, h4.2⟩, h5⟩
theorem Go.less {g : JFrame} {k' n' : Nat} (r : Go p l e R s m args below meth c n0 Q h k' n' g) (hk : k ≤ k') (hn : n ≤ n') : Go p l e R s m args below meth c n0 Q h k n g := fun T L X N eT => r T L (X.more hk hn) N eT
theorem Go.at {g : JFrame} {h' : Heap} (r : Go p l e R s m args below meth c n0 Q h' k n g) (q : h = h') : Go p l e R s m args below meth c n0 Q h k n g := q ▸ r

theorem go_eqI {x y : Int32} {stl : List Value} (hxy : x = y) (r : Go p l e R s m args below meth c n0 Q h k n (mkF m pc ls (.int y :: stl))) : Go p l e R s m args below meth c n0 Q h k n (mkF m pc ls (.int x :: stl)) := hxy ▸ r
theorem go_eqJ {x y : Int64} {stl : List Value} (hxy : x = y) (r : Go p l e R s m args below meth c n0 Q h k n (mkF m pc ls (.long y :: stl))) : Go p l e R s m args below meth c n0 Q h k n (mkF m pc ls (.long x :: stl)) := hxy ▸ r

theorem go_nameI {x : Int32} {stl : List Value} (r : ∀ z, z = x → Go p l e R s m args below meth c n0 Q h k n (mkF m pc ls (.int z :: stl))) : Go p l e R s m args below meth c n0 Q h k n (mkF m pc ls (.int x :: stl)) := r x rfl
theorem go_nameJ {x : Int64} {stl : List Value} (r : ∀ z, z = x → Go p l e R s m args below meth c n0 Q h k n (mkF m pc ls (.long z :: stl))) : Go p l e R s m args below meth c n0 Q h k n (mkF m pc ls (.long x :: stl)) := r x rfl

theorem go_aloadN (K : Cx p s m meth c Z own nm bytes maxL ret) {i : Fin 4} {v : Value} (hd : decode bytes pc = .ok (.aload_n i, 1)) (hl : ls[i.val]? = some (.val v)) (hv : v.isRef = true) (hq : pc + 1 = q) (r : Go p l e R s m args below meth c n0 Q h k n (mkF m q ls (v :: st))) : Go p l e R s m args below meth c n0 Q h k n (mkF m pc ls st) := by
  subst hq; exact Go.of (fun T tg A => XS.aloadN A K.1 rfl (hb K.2.2.2.1 hd) hl hv) r
theorem go_aload (K : Cx p s m meth c Z own nm bytes maxL ret) {i : Nat} {v : Value} (hd : decode bytes pc = .ok (.aload i, 2)) (hl : ls[i]? = some (.val v)) (hv : v.isRef = true) (hq : pc + 2 = q) (r : Go p l e R s m args below meth c n0 Q h k n (mkF m q ls (v :: st))) : Go p l e R s m args below meth c n0 Q h k n (mkF m pc ls st) := by
  subst hq; exact Go.of (fun T tg A => XS.aload A K.1 rfl (hb K.2.2.2.1 hd) hl hv) r
theorem go_iloadN (K : Cx p s m meth c Z own nm bytes maxL ret) {i : Fin 4} {v : Int32} (hd : decode bytes pc = .ok (.iload_n i, 1)) (hl : ls[i.val]? = some (.val (.int v))) (hq : pc + 1 = q) (r : Go p l e R s m args below meth c n0 Q h k n (mkF m q ls (.int v :: st))) : Go p l e R s m args below meth c n0 Q h k n (mkF m pc ls st) := by
  subst hq; exact Go.of (fun T tg A => XS.iloadN A K.1 rfl (hb K.2.2.2.1 hd) hl) r
theorem go_iload (K : Cx p s m meth c Z own nm bytes maxL ret) {i : Nat} {v : Int32} (hd : decode bytes pc = .ok (.iload i, 2)) (hl : ls[i]? = some (.val (.int v))) (hq : pc + 2 = q) (r : Go p l e R s m args below meth c n0 Q h k n (mkF m q ls (.int v :: st))) : Go p l e R s m args below meth c n0 Q h k n (mkF m pc ls st) := by
  subst hq; exact Go.of (fun T tg A => XS.iload A K.1 rfl (hb K.2.2.2.1 hd) hl) r
theorem go_lloadN (K : Cx p s m meth c Z own nm bytes maxL ret) {i : Fin 4} {v : Int64} (hd : decode bytes pc = .ok (.lload_n i, 1)) (hl : ls[i.val]? = some (.val (.long v))) (hq : pc + 1 = q) (r : Go p l e R s m args below meth c n0 Q h k n (mkF m q ls (.long v :: st))) : Go p l e R s m args below meth c n0 Q h k n (mkF m pc ls st) := by
  subst hq; exact Go.of (fun T tg A => XT.lloadN A K.1 rfl (hb K.2.2.2.1 hd) hl) r
theorem go_lload (K : Cx p s m meth c Z own nm bytes maxL ret) {i : Nat} {v : Int64} (hd : decode bytes pc = .ok (.lload i, 2)) (hl : ls[i]? = some (.val (.long v))) (hq : pc + 2 = q) (r : Go p l e R s m args below meth c n0 Q h k n (mkF m q ls (.long v :: st))) : Go p l e R s m args below meth c n0 Q h k n (mkF m pc ls st) := by
  subst hq; exact Go.of (fun T tg A => XT.lload A K.1 rfl (hb K.2.2.2.1 hd) hl) r
theorem go_iconst (K : Cx p s m meth c Z own nm bytes maxL ret) {i : Int} (hd : decode bytes pc = .ok (.iconst i, 1)) (v : Int32) (hv : Int32.ofInt i = v) (hq : pc + 1 = q) (r : Go p l e R s m args below meth c n0 Q h k n (mkF m q ls (.int v :: st))) : Go p l e R s m args below meth c n0 Q h k n (mkF m pc ls st) := by
  subst hq; exact Go.of (fun T tg A => XT.iconstV A K.1 rfl v (hb K.2.2.2.1 hd) hv) r
theorem go_bipush (K : Cx p s m meth c Z own nm bytes maxL ret) {i : Int} (hd : decode bytes pc = .ok (.bipush i, 2)) (v : Int32) (hv : (Int8.ofInt i).toInt32 = v) (hq : pc + 2 = q) (r : Go p l e R s m args below meth c n0 Q h k n (mkF m q ls (.int v :: st))) : Go p l e R s m args below meth c n0 Q h k n (mkF m pc ls st) := by
  subst hq; exact Go.of (fun T tg A => XT.bipushV A K.1 rfl v (hb K.2.2.2.1 hd) hv) r
theorem go_sipush (K : Cx p s m meth c Z own nm bytes maxL ret) {i : Int} (hd : decode bytes pc = .ok (.sipush i, 3)) (v : Int32) (hv : (Int16.ofInt i).toInt32 = v) (hq : pc + 3 = q) (r : Go p l e R s m args below meth c n0 Q h k n (mkF m q ls (.int v :: st))) : Go p l e R s m args below meth c n0 Q h k n (mkF m pc ls st) := by
  subst hq; exact Go.of (fun T tg A => XT.sipushV A K.1 rfl v (hb K.2.2.2.1 hd) hv) r
theorem go_lconst (K : Cx p s m meth c Z own nm bytes maxL ret) {i : Fin 2} (hd : decode bytes pc = .ok (.lconst i, 1)) (v : Int64) (hv : Int64.ofNat i = v) (hq : pc + 1 = q) (r : Go p l e R s m args below meth c n0 Q h k n (mkF m q ls (.long v :: st))) : Go p l e R s m args below meth c n0 Q h k n (mkF m pc ls st) := by
  subst hq; exact Go.of (fun T tg A => XT.lconstV A K.1 rfl v (hb K.2.2.2.1 hd) hv) r
theorem go_aconst_null (K : Cx p s m meth c Z own nm bytes maxL ret)  (hd : decode bytes pc = .ok (.aconst_null, 1))  (hq : pc + 1 = q) (r : Go p l e R s m args below meth c n0 Q h k n (mkF m q ls (.null :: st))) : Go p l e R s m args below meth c n0 Q h k n (mkF m pc ls st) := by
  subst hq; exact Go.of (fun T tg A => XS.aconstNull A K.1 rfl (hb K.2.2.2.1 hd)) r
theorem go_iadd (K : Cx p s m meth c Z own nm bytes maxL ret) {x y : Int32} (hd : decode bytes pc = .ok (.iadd, 1))  (hq : pc + 1 = q) (r : Go p l e R s m args below meth c n0 Q h k n (mkF m q ls (.int (x + y) :: st))) : Go p l e R s m args below meth c n0 Q h k n (mkF m pc ls (.int y :: .int x :: st)) := by
  subst hq; exact Go.of (fun T tg A => XS.iadd A K.1 rfl (hb K.2.2.2.1 hd) rfl) r
theorem go_isub (K : Cx p s m meth c Z own nm bytes maxL ret) {x y : Int32} (hd : decode bytes pc = .ok (.isub, 1))  (hq : pc + 1 = q) (r : Go p l e R s m args below meth c n0 Q h k n (mkF m q ls (.int (x - y) :: st))) : Go p l e R s m args below meth c n0 Q h k n (mkF m pc ls (.int y :: .int x :: st)) := by
  subst hq; exact Go.of (fun T tg A => XS.isub A K.1 rfl (hb K.2.2.2.1 hd) rfl) r
theorem go_iand (K : Cx p s m meth c Z own nm bytes maxL ret) {x y : Int32} (hd : decode bytes pc = .ok (.iand, 1))  (hq : pc + 1 = q) (r : Go p l e R s m args below meth c n0 Q h k n (mkF m q ls (.int (x &&& y) :: st))) : Go p l e R s m args below meth c n0 Q h k n (mkF m pc ls (.int y :: .int x :: st)) := by
  subst hq; exact Go.of (fun T tg A => XS.iand A K.1 rfl (hb K.2.2.2.1 hd) rfl) r
theorem go_imul (K : Cx p s m meth c Z own nm bytes maxL ret) {x y : Int32} (hd : decode bytes pc = .ok (.imul, 1))  (hq : pc + 1 = q) (r : Go p l e R s m args below meth c n0 Q h k n (mkF m q ls (.int (x * y) :: st))) : Go p l e R s m args below meth c n0 Q h k n (mkF m pc ls (.int y :: .int x :: st)) := by
  subst hq; exact Go.of (fun T tg A => XS.imul A K.1 rfl (hb K.2.2.2.1 hd) rfl) r
theorem go_ixor (K : Cx p s m meth c Z own nm bytes maxL ret) {x y : Int32} (hd : decode bytes pc = .ok (.ixor, 1))  (hq : pc + 1 = q) (r : Go p l e R s m args below meth c n0 Q h k n (mkF m q ls (.int (x ^^^ y) :: st))) : Go p l e R s m args below meth c n0 Q h k n (mkF m pc ls (.int y :: .int x :: st)) := by
  subst hq; exact Go.of (fun T tg A => XT.ixor A K.1 rfl (hb K.2.2.2.1 hd) rfl) r
theorem go_ior (K : Cx p s m meth c Z own nm bytes maxL ret) {x y : Int32} (hd : decode bytes pc = .ok (.ior, 1))  (hq : pc + 1 = q) (r : Go p l e R s m args below meth c n0 Q h k n (mkF m q ls (.int (x ||| y) :: st))) : Go p l e R s m args below meth c n0 Q h k n (mkF m pc ls (.int y :: .int x :: st)) := by
  subst hq; exact Go.of (fun T tg A => XT.ior A K.1 rfl (hb K.2.2.2.1 hd) rfl) r
theorem go_ishl (K : Cx p s m meth c Z own nm bytes maxL ret) {x y : Int32} (hd : decode bytes pc = .ok (.ishl, 1))  (hq : pc + 1 = q) (r : Go p l e R s m args below meth c n0 Q h k n (mkF m q ls (.int (x <<< (y &&& 31)) :: st))) : Go p l e R s m args below meth c n0 Q h k n (mkF m pc ls (.int y :: .int x :: st)) := by
  subst hq; exact Go.of (fun T tg A => XT.ishl A K.1 rfl (hb K.2.2.2.1 hd) rfl) r
theorem go_ishr (K : Cx p s m meth c Z own nm bytes maxL ret) {x y : Int32} (hd : decode bytes pc = .ok (.ishr, 1))  (hq : pc + 1 = q) (r : Go p l e R s m args below meth c n0 Q h k n (mkF m q ls (.int (x >>> (y &&& 31)) :: st))) : Go p l e R s m args below meth c n0 Q h k n (mkF m pc ls (.int y :: .int x :: st)) := by
  subst hq; exact Go.of (fun T tg A => XT.ishr A K.1 rfl (hb K.2.2.2.1 hd) rfl) r
theorem go_iushr (K : Cx p s m meth c Z own nm bytes maxL ret) {x y : Int32} (hd : decode bytes pc = .ok (.iushr, 1))  (hq : pc + 1 = q) (r : Go p l e R s m args below meth c n0 Q h k n (mkF m q ls (.int (XT.ushr x y) :: st))) : Go p l e R s m args below meth c n0 Q h k n (mkF m pc ls (.int y :: .int x :: st)) := by
  subst hq; exact Go.of (fun T tg A => XT.iushr A K.1 rfl (hb K.2.2.2.1 hd) rfl) r
theorem go_ladd (K : Cx p s m meth c Z own nm bytes maxL ret) {x y : Int64} (hd : decode bytes pc = .ok (.ladd, 1))  (hq : pc + 1 = q) (r : Go p l e R s m args below meth c n0 Q h k n (mkF m q ls (.long (x + y) :: st))) : Go p l e R s m args below meth c n0 Q h k n (mkF m pc ls (.long y :: .long x :: st)) := by
  subst hq; exact Go.of (fun T tg A => XT.ladd A K.1 rfl (hb K.2.2.2.1 hd) rfl) r
theorem go_lsub (K : Cx p s m meth c Z own nm bytes maxL ret) {x y : Int64} (hd : decode bytes pc = .ok (.lsub, 1))  (hq : pc + 1 = q) (r : Go p l e R s m args below meth c n0 Q h k n (mkF m q ls (.long (x - y) :: st))) : Go p l e R s m args below meth c n0 Q h k n (mkF m pc ls (.long y :: .long x :: st)) := by
  subst hq; exact Go.of (fun T tg A => XT.lsub A K.1 rfl (hb K.2.2.2.1 hd) rfl) r
theorem go_lmul (K : Cx p s m meth c Z own nm bytes maxL ret) {x y : Int64} (hd : decode bytes pc = .ok (.lmul, 1))  (hq : pc + 1 = q) (r : Go p l e R s m args below meth c n0 Q h k n (mkF m q ls (.long (x * y) :: st))) : Go p l e R s m args below meth c n0 Q h k n (mkF m pc ls (.long y :: .long x :: st)) := by
  subst hq; exact Go.of (fun T tg A => XT.lmul A K.1 rfl (hb K.2.2.2.1 hd) rfl) r
theorem go_land (K : Cx p s m meth c Z own nm bytes maxL ret) {x y : Int64} (hd : decode bytes pc = .ok (.land, 1))  (hq : pc + 1 = q) (r : Go p l e R s m args below meth c n0 Q h k n (mkF m q ls (.long (x &&& y) :: st))) : Go p l e R s m args below meth c n0 Q h k n (mkF m pc ls (.long y :: .long x :: st)) := by
  subst hq; exact Go.of (fun T tg A => XT.land A K.1 rfl (hb K.2.2.2.1 hd) rfl) r
theorem go_lor (K : Cx p s m meth c Z own nm bytes maxL ret) {x y : Int64} (hd : decode bytes pc = .ok (.lor, 1))  (hq : pc + 1 = q) (r : Go p l e R s m args below meth c n0 Q h k n (mkF m q ls (.long (x ||| y) :: st))) : Go p l e R s m args below meth c n0 Q h k n (mkF m pc ls (.long y :: .long x :: st)) := by
  subst hq; exact Go.of (fun T tg A => XT.lor A K.1 rfl (hb K.2.2.2.1 hd) rfl) r
theorem go_lxor (K : Cx p s m meth c Z own nm bytes maxL ret) {x y : Int64} (hd : decode bytes pc = .ok (.lxor, 1))  (hq : pc + 1 = q) (r : Go p l e R s m args below meth c n0 Q h k n (mkF m q ls (.long (x ^^^ y) :: st))) : Go p l e R s m args below meth c n0 Q h k n (mkF m pc ls (.long y :: .long x :: st)) := by
  subst hq; exact Go.of (fun T tg A => XT.lxor A K.1 rfl (hb K.2.2.2.1 hd) rfl) r
theorem go_lshl (K : Cx p s m meth c Z own nm bytes maxL ret) {x : Int64} {y : Int32} (hd : decode bytes pc = .ok (.lshl, 1))  (hq : pc + 1 = q) (r : Go p l e R s m args below meth c n0 Q h k n (mkF m q ls (.long (x <<< (y.toInt64 &&& 63)) :: st))) : Go p l e R s m args below meth c n0 Q h k n (mkF m pc ls (.int y :: .long x :: st)) := by
  subst hq; exact Go.of (fun T tg A => XT.lshl A K.1 rfl (hb K.2.2.2.1 hd) rfl) r
theorem go_lshr (K : Cx p s m meth c Z own nm bytes maxL ret) {x : Int64} {y : Int32} (hd : decode bytes pc = .ok (.lshr, 1))  (hq : pc + 1 = q) (r : Go p l e R s m args below meth c n0 Q h k n (mkF m q ls (.long (x >>> (y.toInt64 &&& 63)) :: st))) : Go p l e R s m args below meth c n0 Q h k n (mkF m pc ls (.int y :: .long x :: st)) := by
  subst hq; exact Go.of (fun T tg A => XT.lshr A K.1 rfl (hb K.2.2.2.1 hd) rfl) r
theorem go_lushr (K : Cx p s m meth c Z own nm bytes maxL ret) {x : Int64} {y : Int32} (hd : decode bytes pc = .ok (.lushr, 1))  (hq : pc + 1 = q) (r : Go p l e R s m args below meth c n0 Q h k n (mkF m q ls (.long (XT.ushrL x y) :: st))) : Go p l e R s m args below meth c n0 Q h k n (mkF m pc ls (.int y :: .long x :: st)) := by
  subst hq; exact Go.of (fun T tg A => XT.lushr A K.1 rfl (hb K.2.2.2.1 hd) rfl) r
theorem go_idiv (K : Cx p s m meth c Z own nm bytes maxL ret) {x y : Int32} (hd : decode bytes pc = .ok (.idiv, 1)) (hy : y ≠ 0) (hq : pc + 1 = q) (r : Go p l e R s m args below meth c n0 Q h k n (mkF m q ls (.int (x / y) :: st))) : Go p l e R s m args below meth c n0 Q h k n (mkF m pc ls (.int y :: .int x :: st)) := by
  subst hq; exact Go.of (fun T tg A => XS.idiv A K.1 rfl (hb K.2.2.2.1 hd) rfl hy) r
theorem go_irem (K : Cx p s m meth c Z own nm bytes maxL ret) {x y : Int32} (hd : decode bytes pc = .ok (.irem, 1)) (hy : y ≠ 0) (hq : pc + 1 = q) (r : Go p l e R s m args below meth c n0 Q h k n (mkF m q ls (.int (x % y) :: st))) : Go p l e R s m args below meth c n0 Q h k n (mkF m pc ls (.int y :: .int x :: st)) := by
  subst hq; exact Go.ofX (fun T L tg S _ => iremM S K.1 rfl (hb K.2.2.2.1 hd) rfl hy) r
theorem go_ldiv (K : Cx p s m meth c Z own nm bytes maxL ret) {x y : Int64} (hd : decode bytes pc = .ok (.ldiv, 1)) (hy : y ≠ 0) (hq : pc + 1 = q) (r : Go p l e R s m args below meth c n0 Q h k n (mkF m q ls (.long (x / y) :: st))) : Go p l e R s m args below meth c n0 Q h k n (mkF m pc ls (.long y :: .long x :: st)) := by
  subst hq; exact Go.of (fun T tg A => XT.ldiv A K.1 rfl (hb K.2.2.2.1 hd) rfl hy) r
theorem go_lrem (K : Cx p s m meth c Z own nm bytes maxL ret) {x y : Int64} (hd : decode bytes pc = .ok (.lrem, 1)) (hy : y ≠ 0) (hq : pc + 1 = q) (r : Go p l e R s m args below meth c n0 Q h k n (mkF m q ls (.long (x % y) :: st))) : Go p l e R s m args below meth c n0 Q h k n (mkF m pc ls (.long y :: .long x :: st)) := by
  subst hq; rw [← lrem_mod x y] at r; exact Go.of (fun T tg A => XT.lrem A K.1 rfl (hb K.2.2.2.1 hd) rfl hy) r
theorem go_ineg (K : Cx p s m meth c Z own nm bytes maxL ret) {x : Int32} (hd : decode bytes pc = .ok (.ineg, 1))  (hq : pc + 1 = q) (r : Go p l e R s m args below meth c n0 Q h k n (mkF m q ls (.int (-x) :: st))) : Go p l e R s m args below meth c n0 Q h k n (mkF m pc ls (.int x :: st)) := by
  subst hq; exact Go.of (fun T tg A => XS.ineg A K.1 rfl (hb K.2.2.2.1 hd) rfl) r
theorem go_lneg (K : Cx p s m meth c Z own nm bytes maxL ret) {x : Int64} (hd : decode bytes pc = .ok (.lneg, 1))  (hq : pc + 1 = q) (r : Go p l e R s m args below meth c n0 Q h k n (mkF m q ls (.long (-x) :: st))) : Go p l e R s m args below meth c n0 Q h k n (mkF m pc ls (.long x :: st)) := by
  subst hq; exact Go.of (fun T tg A => XT.lneg A K.1 rfl (hb K.2.2.2.1 hd) rfl) r
theorem go_i2l (K : Cx p s m meth c Z own nm bytes maxL ret) {x : Int32} (hd : decode bytes pc = .ok (.i2l, 1))  (hq : pc + 1 = q) (r : Go p l e R s m args below meth c n0 Q h k n (mkF m q ls (.long (x.toInt64) :: st))) : Go p l e R s m args below meth c n0 Q h k n (mkF m pc ls (.int x :: st)) := by
  subst hq; exact Go.of (fun T tg A => XT.i2l A K.1 rfl (hb K.2.2.2.1 hd) rfl) r
theorem go_l2i (K : Cx p s m meth c Z own nm bytes maxL ret) {x : Int64} (hd : decode bytes pc = .ok (.l2i, 1))  (hq : pc + 1 = q) (r : Go p l e R s m args below meth c n0 Q h k n (mkF m q ls (.int (x.toInt32) :: st))) : Go p l e R s m args below meth c n0 Q h k n (mkF m pc ls (.long x :: st)) := by
  subst hq; exact Go.of (fun T tg A => XT.l2i A K.1 rfl (hb K.2.2.2.1 hd) rfl) r
theorem go_i2b (K : Cx p s m meth c Z own nm bytes maxL ret) {x : Int32} (hd : decode bytes pc = .ok (.i2b, 1))  (hq : pc + 1 = q) (r : Go p l e R s m args below meth c n0 Q h k n (mkF m q ls (.int (x.toInt8.toInt32) :: st))) : Go p l e R s m args below meth c n0 Q h k n (mkF m pc ls (.int x :: st)) := by
  subst hq; exact Go.of (fun T tg A => XT.i2b A K.1 rfl (hb K.2.2.2.1 hd) rfl) r
theorem go_i2c (K : Cx p s m meth c Z own nm bytes maxL ret) {x : Int32} (hd : decode bytes pc = .ok (.i2c, 1))  (hq : pc + 1 = q) (r : Go p l e R s m args below meth c n0 Q h k n (mkF m q ls (.int (x.toUInt32.toUInt16.toUInt32.toInt32) :: st))) : Go p l e R s m args below meth c n0 Q h k n (mkF m pc ls (.int x :: st)) := by
  subst hq; exact Go.of (fun T tg A => XT.i2c A K.1 rfl (hb K.2.2.2.1 hd) rfl) r
theorem go_i2s (K : Cx p s m meth c Z own nm bytes maxL ret) {x : Int32} (hd : decode bytes pc = .ok (.i2s, 1))  (hq : pc + 1 = q) (r : Go p l e R s m args below meth c n0 Q h k n (mkF m q ls (.int (x.toInt16.toInt32) :: st))) : Go p l e R s m args below meth c n0 Q h k n (mkF m pc ls (.int x :: st)) := by
  subst hq; exact Go.of (fun T tg A => XT.i2s A K.1 rfl (hb K.2.2.2.1 hd) rfl) r
theorem go_lcmp (K : Cx p s m meth c Z own nm bytes maxL ret) {x y : Int64} (hd : decode bytes pc = .ok (.lcmp, 1))  (hq : pc + 1 = q) (r : Go p l e R s m args below meth c n0 Q h k n (mkF m q ls (.int (XT.cmpL x y) :: st))) : Go p l e R s m args below meth c n0 Q h k n (mkF m pc ls (.long y :: .long x :: st)) := by
  subst hq; exact Go.of (fun T tg A => XT.lcmp A K.1 rfl (hb K.2.2.2.1 hd) rfl) r
theorem go_dup (K : Cx p s m meth c Z own nm bytes maxL ret) {x : Value} (hd : decode bytes pc = .ok (.dup, 1)) (hc : x.category = 1) (hq : pc + 1 = q) (r : Go p l e R s m args below meth c n0 Q h k n (mkF m q ls (x :: x :: st))) : Go p l e R s m args below meth c n0 Q h k n (mkF m pc ls (x :: st)) := by
  subst hq; exact Go.of (fun T tg A => XS.dup A K.1 rfl (hb K.2.2.2.1 hd) rfl hc) r
theorem go_pop (K : Cx p s m meth c Z own nm bytes maxL ret) {x : Value} (hd : decode bytes pc = .ok (.pop, 1)) (hc : x.category = 1) (hq : pc + 1 = q) (r : Go p l e R s m args below meth c n0 Q h k n (mkF m q ls st)) : Go p l e R s m args below meth c n0 Q h k n (mkF m pc ls (x :: st)) := by
  subst hq; exact Go.of (fun T tg A => XT.pop A K.1 rfl (hb K.2.2.2.1 hd) rfl hc) r
theorem go_dup_x1 (K : Cx p s m meth c Z own nm bytes maxL ret) {x y : Value} (hd : decode bytes pc = .ok (.dup_x1, 1)) (hc : x.category = 1) (hc2 : y.category = 1) (hq : pc + 1 = q) (r : Go p l e R s m args below meth c n0 Q h k n (mkF m q ls (x :: y :: x :: st))) : Go p l e R s m args below meth c n0 Q h k n (mkF m pc ls (x :: y :: st)) := by
  subst hq; exact Go.of (fun T tg A => XT.dupX1 A K.1 rfl (hb K.2.2.2.1 hd) rfl hc hc2) r
theorem go_dup2L (K : Cx p s m meth c Z own nm bytes maxL ret) {x : Int64} (hd : decode bytes pc = .ok (.dup2, 1))  (hq : pc + 1 = q) (r : Go p l e R s m args below meth c n0 Q h k n (mkF m q ls (.long x :: .long x :: st))) : Go p l e R s m args below meth c n0 Q h k n (mkF m pc ls (.long x :: st)) := by
  subst hq; exact Go.of (fun T tg A => XT.dup2L A K.1 rfl (hb K.2.2.2.1 hd) rfl) r
theorem go_istoreN (K : Cx p s m meth c Z own nm bytes maxL ret) {i : Fin 4} {x : Int32} (hd : decode bytes pc = .ok (.istore_n i, 1)) (l' : Array Slot) (hl : storeLocals ls i.val (.int x) = some l') (hq : pc + 1 = q) (r : Go p l e R s m args below meth c n0 Q h k n (mkF m q l' st)) : Go p l e R s m args below meth c n0 Q h k n (mkF m pc ls (.int x :: st)) := by
  subst hq; exact Go.of (fun T tg A => XS.istoreN A K.1 rfl (hb K.2.2.2.1 hd) rfl hl) r
theorem go_istore (K : Cx p s m meth c Z own nm bytes maxL ret) {i : Nat} {x : Int32} (hd : decode bytes pc = .ok (.istore i, 2)) (l' : Array Slot) (hl : storeLocals ls i (.int x) = some l') (hq : pc + 2 = q) (r : Go p l e R s m args below meth c n0 Q h k n (mkF m q l' st)) : Go p l e R s m args below meth c n0 Q h k n (mkF m pc ls (.int x :: st)) := by
  subst hq; exact Go.of (fun T tg A => XS.istore A K.1 rfl (hb K.2.2.2.1 hd) rfl hl) r
theorem go_lstoreN (K : Cx p s m meth c Z own nm bytes maxL ret) {i : Fin 4} {x : Int64} (hd : decode bytes pc = .ok (.lstore_n i, 1)) (l' : Array Slot) (hl : storeLocals ls i.val (.long x) = some l') (hq : pc + 1 = q) (r : Go p l e R s m args below meth c n0 Q h k n (mkF m q l' st)) : Go p l e R s m args below meth c n0 Q h k n (mkF m pc ls (.long x :: st)) := by
  subst hq; exact Go.of (fun T tg A => XT.lstoreN A K.1 rfl (hb K.2.2.2.1 hd) rfl hl) r
theorem go_lstore (K : Cx p s m meth c Z own nm bytes maxL ret) {i : Nat} {x : Int64} (hd : decode bytes pc = .ok (.lstore i, 2)) (l' : Array Slot) (hl : storeLocals ls i (.long x) = some l') (hq : pc + 2 = q) (r : Go p l e R s m args below meth c n0 Q h k n (mkF m q l' st)) : Go p l e R s m args below meth c n0 Q h k n (mkF m pc ls (.long x :: st)) := by
  subst hq; exact Go.of (fun T tg A => XT.lstore A K.1 rfl (hb K.2.2.2.1 hd) rfl hl) r
theorem go_astoreN (K : Cx p s m meth c Z own nm bytes maxL ret) {i : Fin 4} {x : Value} (hd : decode bytes pc = .ok (.astore_n i, 1)) (l' : Array Slot) (hv : x.isRef = true) (hl : storeLocals ls i.val x = some l') (hq : pc + 1 = q) (r : Go p l e R s m args below meth c n0 Q h k n (mkF m q l' st)) : Go p l e R s m args below meth c n0 Q h k n (mkF m pc ls (x :: st)) := by
  subst hq; exact Go.of (fun T tg A => XS.astoreN A K.1 rfl (hb K.2.2.2.1 hd) rfl hv hl) r
theorem go_astore (K : Cx p s m meth c Z own nm bytes maxL ret) {i : Nat} {x : Value} (hd : decode bytes pc = .ok (.astore i, 2)) (l' : Array Slot) (hv : x.isRef = true) (hl : storeLocals ls i x = some l') (hq : pc + 2 = q) (r : Go p l e R s m args below meth c n0 Q h k n (mkF m q l' st)) : Go p l e R s m args below meth c n0 Q h k n (mkF m pc ls (x :: st)) := by
  subst hq; exact Go.of (fun T tg A => XS.astore A K.1 rfl (hb K.2.2.2.1 hd) rfl hv hl) r
theorem go_iinc (K : Cx p s m meth c Z own nm bytes maxL ret) {i : Nat} {z : Int} {x : Int32} (hd : decode bytes pc = .ok (.iinc i z, 3)) (v : Int32) (l' : Array Slot) (hv : Int32.ofInt z = v) (hl : ls[i]? = some (.val (.int x))) (hl' : storeLocals ls i (.int (x + v)) = some l') (hq : pc + 3 = q) (r : Go p l e R s m args below meth c n0 Q h k n (mkF m q l' st)) : Go p l e R s m args below meth c n0 Q h k n (mkF m pc ls st) := by
  subst hq; exact Go.of (fun T tg A => XT.iincV A K.1 rfl v (hb K.2.2.2.1 hd) hv hl hl') r
theorem go_goto (K : Cx p s m meth c Z own nm bytes maxL ret)  {o : Int} (hd : decode bytes pc = .ok (.goto o, 3))  (ho : 0 ≤ (pc : Int) + o) (hq : ((pc : Int) + o).toNat = q) (r : Go p l e R s m args below meth c n0 Q h k n (mkF m q ls st)) : Go p l e R s m args below meth c n0 Q h k n (mkF m pc ls st) := by
  exact Go.of (fun T tg A => XS.goto A K.1 rfl rfl (hb K.2.2.2.1 hd) ho hq) r
def cP : ClassFile.Cond → Int32 → Int32 → Prop
  | .eq, x, y => x = y
  | .ne, x, y => ¬ x = y
  | .lt, x, y => x < y
  | .ge, x, y => ¬ x < y
  | .gt, x, y => y < x
  | .le, x, y => ¬ y < x
theorem cP_t {cd : ClassFile.Cond} {x y : Int32} (h : cP cd x y) : if_icmp.holds cd x y = true := by
  cases cd
  · exact XT.ii_eq_t h
  · exact XT.ii_ne_t h
  · exact XT.ii_lt_t h
  · exact XT.ii_ge_t h
  · exact XT.ii_gt_t h
  · exact XT.ii_le_t h
def cN : ClassFile.Cond → Int32 → Int32 → Prop
  | .eq, x, y => ¬ x = y
  | .ne, x, y => x = y
  | .lt, x, y => ¬ x < y
  | .ge, x, y => x < y
  | .gt, x, y => ¬ y < x
  | .le, x, y => y < x
theorem cN_no {cd : ClassFile.Cond} {x y : Int32} {G : Prop} (h : cP cd x y) (h' : cN cd x y) : G := by
  cases cd <;> first | exact absurd h h' | exact absurd h' h
theorem cN_no2 {cd : ClassFile.Cond} {x y : Int32} {G : Prop} (h' : cN cd x y) (h : cP cd x y) : G := cN_no h h'
theorem cP_or (cd : ClassFile.Cond) (x y : Int32) : cP cd x y ∨ cN cd x y := by
  cases cd
  · exact Classical.em (x = y)
  · exact (Classical.em (x = y)).symm
  · exact Classical.em (x < y)
  · exact (Classical.em (x < y)).symm
  · exact Classical.em (y < x)
  · exact (Classical.em (y < x)).symm
theorem cP_f {cd : ClassFile.Cond} {x y : Int32} (h : cN cd x y) : if_icmp.holds cd x y = false := by
  cases cd
  · exact XT.ii_eq_f h
  · exact XT.ii_ne_f h
  · exact XT.ii_lt_f h
  · exact XT.ii_ge_f h
  · exact XT.ii_gt_f h
  · exact XT.ii_le_f h

theorem go_icmp (K : Cx p s m meth c Z own nm bytes maxL ret) {cd : ClassFile.Cond} {x y : Int32} {o : Int} {q' : Nat} (hd : decode bytes pc = .ok (.if_icmp cd o, 3)) (ho : 0 ≤ (pc : Int) + o) (hq : ((pc : Int) + o).toNat = q) (hq' : pc + 3 = q') (r : cP cd x y → Go p l e R s m args below meth c n0 Q h k n (mkF m q ls st)) (r' : cN cd x y → Go p l e R s m args below meth c n0 Q h k n (mkF m q' ls st)) : Go p l e R s m args below meth c n0 Q h k n (mkF m pc ls (.int y :: .int x :: st)) := by
  subst hq'; rcases cP_or cd x y with hc | hc
  · exact Go.of (fun T tg A => XS.icmpYes A K.1 rfl rfl (hb K.2.2.2.1 hd) rfl (cP_t hc) ho hq) (r hc)
  · exact Go.of (fun T tg A => XS.icmpNo A K.1 rfl (hb K.2.2.2.1 hd) rfl (cP_f hc)) (r' hc)
theorem go_if0 (K : Cx p s m meth c Z own nm bytes maxL ret) {cd : ClassFile.Cond} {x : Int32} {o : Int} {q' : Nat} (hd : decode bytes pc = .ok (.ifCond cd o, 3)) (ho : 0 ≤ (pc : Int) + o) (hq : ((pc : Int) + o).toNat = q) (hq' : pc + 3 = q') (r : cP cd x 0 → Go p l e R s m args below meth c n0 Q h k n (mkF m q ls st)) (r' : cN cd x 0 → Go p l e R s m args below meth c n0 Q h k n (mkF m q' ls st)) : Go p l e R s m args below meth c n0 Q h k n (mkF m pc ls (.int x :: st)) := by
  subst hq'; rcases cP_or cd x 0 with hc | hc
  · exact Go.of (fun T tg A => XS.ifYes A K.1 rfl rfl (hb K.2.2.2.1 hd) rfl (by rw [if0]; exact cP_t hc) ho hq) (r hc)
  · exact Go.of (fun T tg A => XS.ifNo A K.1 rfl (hb K.2.2.2.1 hd) rfl (by rw [if0]; exact cP_f hc)) (r' hc)
def cL : ClassFile.Cond → Int64 → Int64 → Prop
  | .eq, x, y => x = y
  | .ne, x, y => ¬ x = y
  | .lt, x, y => x < y
  | .ge, x, y => ¬ x < y
  | .gt, x, y => y < x
  | .le, x, y => ¬ y < x
theorem cL_t {cd : ClassFile.Cond} {x y : Int64} (h : cL cd x y) : ifCond.holds cd (XT.cmpL x y) = true := by
  cases cd
  · exact XT.ll_eq_t h
  · exact XT.ll_ne_t h
  · exact XT.ll_lt_t h
  · exact XT.ll_ge_t h
  · exact XT.ll_gt_t h
  · exact XT.ll_le_t h
def cLN : ClassFile.Cond → Int64 → Int64 → Prop
  | .eq, x, y => ¬ x = y
  | .ne, x, y => x = y
  | .lt, x, y => ¬ x < y
  | .ge, x, y => x < y
  | .gt, x, y => ¬ y < x
  | .le, x, y => y < x
theorem cLN_no {cd : ClassFile.Cond} {x y : Int64} {G : Prop} (h : cL cd x y) (h' : cLN cd x y) : G := by
  cases cd <;> first | exact absurd h h' | exact absurd h' h
theorem cLN_no2 {cd : ClassFile.Cond} {x y : Int64} {G : Prop} (h' : cLN cd x y) (h : cL cd x y) : G := cLN_no h h'
theorem cL_or (cd : ClassFile.Cond) (x y : Int64) : cL cd x y ∨ cLN cd x y := by
  cases cd
  · exact Classical.em (x = y)
  · exact (Classical.em (x = y)).symm
  · exact Classical.em (x < y)
  · exact (Classical.em (x < y)).symm
  · exact Classical.em (y < x)
  · exact (Classical.em (y < x)).symm
theorem cL_f {cd : ClassFile.Cond} {x y : Int64} (h : cLN cd x y) : ifCond.holds cd (XT.cmpL x y) = false := by
  cases cd
  · exact XT.ll_eq_f h
  · exact XT.ll_ne_f h
  · exact XT.ll_lt_f h
  · exact XT.ll_ge_f h
  · exact XT.ll_gt_f h
  · exact XT.ll_le_f h

theorem go_ifL (K : Cx p s m meth c Z own nm bytes maxL ret) {cd : ClassFile.Cond} {x y : Int64} {o : Int} {q' : Nat} (hd : decode bytes pc = .ok (.ifCond cd o, 3)) (ho : 0 ≤ (pc : Int) + o) (hq : ((pc : Int) + o).toNat = q) (hq' : pc + 3 = q') (r : cL cd x y → Go p l e R s m args below meth c n0 Q h k n (mkF m q ls st)) (r' : cLN cd x y → Go p l e R s m args below meth c n0 Q h k n (mkF m q' ls st)) : Go p l e R s m args below meth c n0 Q h k n (mkF m pc ls (.int (XT.cmpL x y) :: st)) := by
  subst hq'; rcases cL_or cd x y with hc | hc
  · exact Go.of (fun T tg A => XS.ifYes A K.1 rfl rfl (hb K.2.2.2.1 hd) rfl (cL_t hc) ho hq) (r hc)
  · exact Go.of (fun T tg A => XS.ifNo A K.1 rfl (hb K.2.2.2.1 hd) rfl (cL_f hc)) (r' hc)
theorem go_ifnullY (K : Cx p s m meth c Z own nm bytes maxL ret)  {o : Int} (hd : decode bytes pc = .ok (.ifnull o, 3))  (ho : 0 ≤ (pc : Int) + o) (hq : ((pc : Int) + o).toNat = q) (r : Go p l e R s m args below meth c n0 Q h k n (mkF m q ls st)) : Go p l e R s m args below meth c n0 Q h k n (mkF m pc ls (.null :: st)) := by
  exact Go.of (fun T tg A => XS.ifnullYes A K.1 rfl rfl (hb K.2.2.2.1 hd) rfl ho hq) r
theorem go_ifnullN (K : Cx p s m meth c Z own nm bytes maxL ret) {a : Addr} {o : Int} (hd : decode bytes pc = .ok (.ifnull o, 3))  (hq : pc + 3 = q) (r : Go p l e R s m args below meth c n0 Q h k n (mkF m q ls st)) : Go p l e R s m args below meth c n0 Q h k n (mkF m pc ls (.ref a :: st)) := by
  subst hq; exact Go.of (fun T tg A => XS.ifnullNo A K.1 rfl (hb K.2.2.2.1 hd) rfl) r
theorem go_ifnonnullY (K : Cx p s m meth c Z own nm bytes maxL ret) {a : Addr} {o : Int} (hd : decode bytes pc = .ok (.ifnonnull o, 3))  (ho : 0 ≤ (pc : Int) + o) (hq : ((pc : Int) + o).toNat = q) (r : Go p l e R s m args below meth c n0 Q h k n (mkF m q ls st)) : Go p l e R s m args below meth c n0 Q h k n (mkF m pc ls (.ref a :: st)) := by
  exact Go.of (fun T tg A => XT.ifnonnullYes A K.1 rfl rfl (hb K.2.2.2.1 hd) rfl ho hq) r
theorem go_ifnonnullN (K : Cx p s m meth c Z own nm bytes maxL ret) {o : Int} (hd : decode bytes pc = .ok (.ifnonnull o, 3))  (hq : pc + 3 = q) (r : Go p l e R s m args below meth c n0 Q h k n (mkF m q ls st)) : Go p l e R s m args below meth c n0 Q h k n (mkF m pc ls (.null :: st)) := by
  subst hq; exact Go.of (fun T tg A => XT.ifnonnullNo A K.1 rfl (hb K.2.2.2.1 hd) rfl) r
def cA : ClassFile.ACond → Value → Value → Prop
  | .eq, x, y => x = y
  | .ne, x, y => ¬ x = y
def cAN : ClassFile.ACond → Value → Value → Prop
  | .eq, x, y => ¬ x = y
  | .ne, x, y => x = y
theorem cAN_no {cd : ClassFile.ACond} {x y : Value} {G : Prop} (h : cA cd x y) (h' : cAN cd x y) : G := by
  cases cd <;> first | exact absurd h h' | exact absurd h' h
theorem cAN_no2 {cd : ClassFile.ACond} {x y : Value} {G : Prop} (h' : cAN cd x y) (h : cA cd x y) : G := cAN_no h h'
theorem cA_or (cd : ClassFile.ACond) (x y : Value) : cA cd x y ∨ cAN cd x y := by
  cases cd
  · exact Classical.em (x = y)
  · exact (Classical.em (x = y)).symm
theorem cA_v {cd : ClassFile.ACond} {x y : Value} {b : Bool} (hb : decide (x = y) = b) : (acV cd b = true ↔ cA cd x y) := by
  subst hb; cases cd <;> simp [acV, cA]

theorem go_acmp (K : Cx p s m meth c Z own nm bytes maxL ret) {cd : ClassFile.ACond} {x y : Value} {o : Int} {q' : Nat} (hd : decode bytes pc = .ok (.if_acmp cd o, 3)) (h1 : x.isRef = true) (h2 : y.isRef = true) (ho : 0 ≤ (pc : Int) + o) (hq : ((pc : Int) + o).toNat = q) (hq' : pc + 3 = q') (r : cA cd x y → Go p l e R s m args below meth c n0 Q h k n (mkF m q ls st)) (r' : cAN cd x y → Go p l e R s m args below meth c n0 Q h k n (mkF m q' ls st)) : Go p l e R s m args below meth c n0 Q h k n (mkF m pc ls (y :: x :: st)) := by
  subst hq'; rcases cA_or cd x y with hc | hc
  · exact Go.ofX (fun T L tg S _ => acmp S K.1 rfl h1 h2 rfl (hb K.2.2.2.1 hd) rfl rfl ho (by rw [if_pos ((cA_v rfl).mpr hc)]; exact hq.symm)) (r hc)
  · exact Go.ofX (fun T L tg S _ => acmp S K.1 rfl h1 h2 rfl (hb K.2.2.2.1 hd) rfl rfl ho (by rw [if_neg (fun z => cAN_no ((cA_v rfl).mp z) hc)])) (r' hc)
theorem go_ldcI (K : Cx p s m meth c Z own nm bytes maxL ret) {i : Nat} {v : Int32} (wc : (Cond.constant own i v).before a0 Z = true) (hd : decode bytes pc = .ok (.ldc i, 2)) (hq : pc + 2 = q) (r : Go p l e R s m args below meth c n0 Q h k n (mkF m q ls (.int v :: st))) : Go p l e R s m args below meth c n0 Q h k n (mkF m pc ls st) := by
  subst hq; exact Go.ofX (fun T L tg S _ => S.ldcI K.1 K.2.2.1 (mvT K.2.1 wc) rfl (hb K.2.2.2.1 hd)) r
theorem go_ldcWI (K : Cx p s m meth c Z own nm bytes maxL ret) {i : Nat} {v : Int32} (wc : (Cond.constant own i v).before a0 Z = true) (hd : decode bytes pc = .ok (.ldc_w i, 3)) (hq : pc + 3 = q) (r : Go p l e R s m args below meth c n0 Q h k n (mkF m q ls (.int v :: st))) : Go p l e R s m args below meth c n0 Q h k n (mkF m pc ls st) := by
  subst hq; exact Go.ofX (fun T L tg S _ => S.ldcWI K.1 K.2.2.1 (mvT K.2.1 wc) rfl (hb K.2.2.2.1 hd)) r
theorem go_ldc2J (K : Cx p s m meth c Z own nm bytes maxL ret) {i : Nat} {v : Int64} (wc : (Cond.constantLong own i v).before a0 Z = true) (hd : decode bytes pc = .ok (.ldc2_w i, 3)) (hq : pc + 3 = q) (r : Go p l e R s m args below meth c n0 Q h k n (mkF m q ls (.long v :: st))) : Go p l e R s m args below meth c n0 Q h k n (mkF m pc ls st) := by
  subst hq; exact Go.ofX (fun T L tg S _ => S.ldc2J K.1 K.2.2.1 (mvT K.2.1 wc) rfl (hb K.2.2.2.1 hd)) r
theorem go_ldcF (K : Cx p s m meth c Z own nm bytes maxL ret) {i : Nat} {v : UInt32} (wc : (Cond.constantFloat own i v).before a0 Z = true) (hd : decode bytes pc = .ok (.ldc i, 2)) (hq : pc + 2 = q) (r : Go p l e R s m args below meth c n0 Q h k n (mkF m q ls (.float v :: st))) : Go p l e R s m args below meth c n0 Q h k n (mkF m pc ls st) := by
  subst hq; exact Go.ofX (fun T L tg S _ => S.ldcFloatC K.1 K.2.2.1 (mvT K.2.1 wc) (g := mkF m pc ls st) rfl (hb K.2.2.2.1 hd) tg) r
theorem lswAt {tb : Tables} [Ours tb] {e : Env} {below : List Frame} {T target : State} {m : MethodId} {c : Code} {g : JFrame} (h : At T m c below) (hx : tb.exec = Jvm.exec) (hg : g.method = m) {dflt o : Int} {prs : Array (Int × Int)} {len pc0 pc' : Nat} (hpc : g.pc = pc0) (hd : decode c.code g.pc = .ok (.lookupswitch dflt prs, len)) {i : Int32} {rest : List Value} (hs : g.stack = .int i :: rest)
    (hinc : (prs.toList.zip (prs.toList.drop 1)).all (fun (a, next) => a.1 < next.1) = true) (hoff : lookupswitch.offset prs.toList dflt i.toInt = o) (ho : 0 ≤ (pc0 : Int) + o) (hp : ((pc0 : Int) + o).toNat = pc')
    (hr : Steps tb e below (T.setTop { g with pc := pc', stack := rest }) target) : Steps tb e below (T.setTop g) target := by
  subst hg hpc hp
  jvm_step h [h.top, hx, hd, hs, lookupswitch.wp_chain, hoff, ho]
  exact ⟨by simpa using hinc, hr⟩
theorem go_lsw (K : Cx p s m meth c Z own nm bytes maxL ret) {dflt o : Int} {prs : Array (Int × Int)} {len : Nat} {x : Int32} (hd : decode bytes pc = .ok (.lookupswitch dflt prs, len)) (hinc : (prs.toList.zip (prs.toList.drop 1)).all (fun (a, next) => a.1 < next.1) = true) (hoff : lookupswitch.offset prs.toList dflt x.toInt = o) (ho : 0 ≤ (pc : Int) + o) (hq : ((pc : Int) + o).toNat = q)
    (r : Go p l e R s m args below meth c n0 Q h k n (mkF m q ls st)) : Go p l e R s m args below meth c n0 Q h k n (mkF m pc ls (.int x :: st)) :=
  by exact Go.of (fun T tg A => lswAt (g := mkF m pc ls (.int x :: st)) A K.1 rfl (pc0 := pc) (pc' := q) rfl (hb K.2.2.2.1 hd) rfl hinc hoff ho hq) r
theorem go_tsw (K : Cx p s m meth c Z own nm bytes maxL ret) {dflt low high o : Int} {offs : Array Int} {len : Nat} {x : Int32} (hd : decode bytes pc = .ok (.tableswitch dflt low high offs, len)) (hin : ¬ (x.toInt < low ∨ x.toInt > high)) (hoff : offs[(x.toInt - low).toNat]? = some o) (ho : 0 ≤ (pc : Int) + o) (hq : ((pc : Int) + o).toNat = q)
    (r : Go p l e R s m args below meth c n0 Q h k n (mkF m q ls st)) : Go p l e R s m args below meth c n0 Q h k n (mkF m pc ls (.int x :: st)) :=
  by exact Go.of (fun T tg A => XS.tswIn (g := mkF m pc ls (.int x :: st)) A K.1 rfl (pc0 := pc) (pc' := q) rfl (hb K.2.2.2.1 hd) rfl hin hoff ho hq) r

theorem go_return (K : Cx p s m meth c Z own nm bytes maxL ret) (hd : decode bytes pc = .ok (.return_, 1)) (hr : ret = none) (hk : k ≤ R.cells) (hn : n ≤ R.slots) (hQ : Q none h) : Go p l e R s m args below meth c n0 Q h k n (mkF m pc ls []) := fun T L S N eT => by
  obtain ⟨fs, hr', hrun, hended, hW, hsame⟩ := S.leave (v := none) (fun _ => rfl) K.2.2.2.2.2.2.1
  exact ⟨_, _, S.returnOut K.1 (K.2.2.2.2.2.1.trans hr) (hb K.2.2.2.1 hd) hr', hrun, hended, _, _, rfl, ⟨by show Q none T.heap; rw [eT]; exact hQ, N⟩, ⟨_, rfl⟩, hW, hsame.mono hk hn⟩
theorem go_ret (K : Cx p s m meth c Z own nm bytes maxL ret) {v : Value} {t : FieldType} {i : Instr} (hd : decode bytes pc = .ok (i, 1)) (hr : ret = some t) (hnw : narrow t v = v) (hi : (i = .ireturn ∧ (t = .int ∨ t = .boolean ∨ t = .byte ∨ t = .char ∨ t = .short) ∧ ∃ z, v = .int z) ∨ (i = .lreturn ∧ t = .long ∧ ∃ z, v = .long z) ∨ (i = .dreturn ∧ t = .double ∧ ∃ z, v = .double z) ∨ (i = .freturn ∧ t = .float ∧ ∃ z, v = .float z) ∨ (i = .areturn ∧ t.isReference = true ∧ v.isRef = true)) (hk : k ≤ R.cells) (hn : n ≤ R.slots) (hQ : Q (some v) h) : Go p l e R s m args below meth c n0 Q h k n (mkF m pc ls (v :: st)) := fun T L S N eT => by
  obtain ⟨fs, hr', hrun, hended, hW, hsame⟩ := S.leave (v := some v) (fun z => by rw [K.2.2.2.2.2.1, hr] at z; cases z) K.2.2.2.2.2.2.1
  exact ⟨_, _, retOut S K.1 (K.2.2.2.2.2.1.trans hr) hnw hi (hb K.2.2.2.1 hd) hr', hrun, hended, _, _, rfl, ⟨by show Q (some v) T.heap; rw [eT]; exact hQ, N⟩, ⟨_, rfl⟩, hW, hsame.mono hk hn⟩
theorem go_iret (K : Cx p s m meth c Z own nm bytes maxL ret) {v : Int32} {t : FieldType} (hd : decode bytes pc = .ok (.ireturn, 1)) (hr : ret = some t) (ht : t = .int ∨ t = .boolean ∨ t = .byte ∨ t = .char ∨ t = .short) (hnw : narrow t (.int v) = .int v) (hk : k ≤ R.cells) (hn : n ≤ R.slots) (hQ : Q (some (.int v)) h) : Go p l e R s m args below meth c n0 Q h k n (mkF m pc ls (.int v :: st)) :=
  go_ret K hd hr hnw (Or.inl ⟨rfl, ht, v, rfl⟩) hk hn hQ
theorem go_lret (K : Cx p s m meth c Z own nm bytes maxL ret) {v : Int64} (hd : decode bytes pc = .ok (.lreturn, 1)) (hr : ret = some .long) (hk : k ≤ R.cells) (hn : n ≤ R.slots) (hQ : Q (some (.long v)) h) : Go p l e R s m args below meth c n0 Q h k n (mkF m pc ls (.long v :: st)) :=
  go_ret K hd hr rfl (Or.inr (Or.inl ⟨rfl, rfl, v, rfl⟩)) hk hn hQ
theorem go_aret (K : Cx p s m meth c Z own nm bytes maxL ret) {v : Value} {t : FieldType} (hd : decode bytes pc = .ok (.areturn, 1)) (hr : ret = some t) (ht : t.isReference = true) (hv : v.isRef = true) (hnw : narrow t v = v) (hk : k ≤ R.cells) (hn : n ≤ R.slots) (hQ : Q (some v) h) : Go p l e R s m args below meth c n0 Q h k n (mkF m pc ls (v :: st)) :=
  go_ret K hd hr hnw (Or.inr (Or.inr (Or.inr (Or.inr ⟨rfl, ht, hv⟩)))) hk hn hQ
/-- a body's contract: called with just these arguments over the heap h it comes back, Q holds, and nothing below n0 was written -/
def Met (l : Launch) (y : MethodName) (bytes : ByteArray) (maxL : Nat) (ret : Option FieldType) (ws : List Jvm.Cond) (R : Room) (as' : Array Value) (Z : State) (h : Heap) (n0 : Nat) (Q : Option Value → Heap → Prop) : Prop :=
  MetFree l y (head1 (Jvm.Cond.code y bytes maxL ret :: ws) R) (fun a U => a = as' ∧ Z.Warmed39 U.vm ∧ U.heap = h) (fun _ _ _ _ _ => True) (fun _ U o U' => ∃ v L, o = .returned v ∧ (Q v U'.heap ∧ Fr n0 L) ∧ FrameEnd U o U' L R.cells R.slots)
theorem Met.of {y : MethodName} {ws : List Jvm.Cond} {as' : Array Value} (hp : plainFor y = true)
    (body : ∀ (p : Program) (e : Env) (s : State) (m : MethodId) (below : List Frame) (meth : Method) (c : Code), Cx p s m meth c Z y.cls y.name bytes maxL ret → Go p l e R s m as' below meth c n0 Q h 0 0 (entryFrame m as' maxL)) : Met l y bytes maxL ret ws R as' Z h n0 Q := by
  refine MetFree.of_bodySF hp hisR ?_
  intro p e s m args below meth c s₁ Bd hml0 hP hK
  obtain ⟨rfl, hZ, hh⟩ := hP
  have hown : s.vm.findClass y.cls = some m.cls := findClass_of_methodNamed Bd.named
  have hnm := (name_of_methodNamed Bd.named Bd.method).1
  exact body p e s m below meth c ⟨Bd.exec, hZ, hown, Bd.bytes, hml0, Bd.returns, Bd.notSynchronized, hnm⟩ s₁ [] (Stand.of_body Bd) (Fr.nil n0) (by rw [← hh, Bd.state]; rfl)
theorem Met.mono {y : MethodName} {ws : List Jvm.Cond} {as' : Array Value} {Q' : Option Value → Heap → Prop} (M : Met l y bytes maxL ret ws R as' Z h n0 Q) (f : ∀ v h', Q v h' → Q' v h') : Met l y bytes maxL ret ws R as' Z h n0 Q' := by
  intro p e ha hc hk s m args below hf happ hP hK
  obtain ⟨n, o, h1, h2, h3, v, L, h4, h5, h6⟩ := M p e ha hc hk s m args below hf happ hP hK
  exact ⟨n, o, h1, h2, h3, v, L, h4, ⟨f _ _ h5.1, h5.2⟩, h6⟩
theorem Go.entry {maxL' : Nat} {as' : Array Value} (hl : argsToLocals as' maxL' = ls) (r : Go p l e R s m args below meth c n0 Q h k n (mkF m 0 ls [])) : Go p l e R s m args below meth c n0 Q h k n (entryFrame m as' maxL') := by
  subst hl; exact r

/-- what a static call by contract needs -/
theorem go_callS (K : Cx p s m meth c Z own nm bytes maxL ret) {y : MethodName} {bytes' : ByteArray} {maxL' : Nat} {ret' : Option FieldType} {rm : Room} {W i : Nat} {Q' : Option Value → Heap → Prop} {ps : List FieldType}
    (w1 : (Cond.methodLink own i y).before a0 Z = true) (w2 : (Cond.static y).before a0 Z = true) (w3 : (Cond.initialized y.cls).before a0 Z = true) (w4 : (Cond.code y bytes' maxL' ret').before a0 Z = true)
    (argsL rest : List Value) (hM : Met l y bytes' maxL' ret' [] rm argsL.toArray Z h n0 Q') (hd : decode bytes pc = .ok (.invokestatic i, 3)) (hpd : parseMethodDescriptor y.desc = some ⟨ps, ret'⟩) (hlen : argsL.length = ps.length) (hst : st = argsL.reverse ++ rest)
    (hls : ls.size = maxL) (hy : y.cls ≠ "java/lang/invoke/MethodHandle" ∧ y.cls ≠ "java/lang/invoke/VarHandle") (hW : (rest.map fun v => v.category).sum = W) (hfr : rm.frames + 1 ≤ R.frames) (hlo : W + (maxL' + 11) + rm.locals ≤ R.locals) (hce : k + rm.cells ≤ R.cells) (hsl : n + rm.slots ≤ R.slots) (hq : pc + 3 = q)
    (r : ∀ v h', Q' v h' → Go p l e R s m args below meth c n0 Q h' (k + rm.cells) (n + rm.slots) (mkF m q ls (v.toList ++ rest))) : Go p l e R s m args below meth c n0 Q h k n (mkF m pc ls st) := fun T L S N eT => by
  subst hq hst
  obtain ⟨v, _, B, -, X, ⟨Lc, hQ, l1, y1, z1⟩, stp⟩ := Jvm.LawKit.callS S K.1 (y := y) K.2.2.1 (mvT K.2.1 w1) (mvT K.2.1 w2) (mvT K.2.1 w3) (mvT K.2.1 w4) hy (backOf (W := W) (Q := fun v h' L => Q' v h' ∧ Fr n0 L) hM K.2.1 w4 w3 hfr hlo) (g := mkF m pc ls (argsL.reverse ++ rest)) rfl (hls.trans K.2.2.2.2.1.symm) (argsL := argsL) (rest := rest) (lenOf hpd hlen) rfl (by show 2 * 0 + _ ≤ _; rw [hW]; omega) (hb K.2.2.2.1 hd) (fun _ _ => ⟨rfl, eT, hce, hsl⟩)
  obtain ⟨T', L', k', n'⟩ := B
  dsimp only [Pt.U, Pt.locs, Pt.cells, Pt.slots] at X l1 y1 z1 stp hQ
  subst l1 y1 z1
  obtain ⟨s₂, o, hs, z⟩ := r v _ hQ.1 T' _ X (Fr.app N hQ.2) rfl
  exact ⟨s₂, o, stp _ hs, z⟩
theorem go_callI (K : Cx p s m meth c Z own nm bytes maxL ret) {y : MethodName} {bytes' : ByteArray} {maxL' : Nat} {rm : Room} {W i : Nat} {Q' : Option Value → Heap → Prop} {ps : List FieldType} {a : Addr}
    (w1 : (Cond.methodLink own i y).before a0 Z = true) (w2 : (Cond.instanceMethod y).before a0 Z = true) (w3 : (Cond.initialized y.cls).before a0 Z = true) (w4 : (Cond.code y bytes' maxL' none).before a0 Z = true) (hy1 : y.name = "<init>")
    (argsL rest : List Value) (hM : Met l y bytes' maxL' none [] rm (.ref a :: argsL).toArray Z h n0 Q') (hd : decode bytes pc = .ok (.invokespecial i, 3)) (hpd : parseMethodDescriptor y.desc = some ⟨ps, none⟩) (hlen : argsL.length = ps.length) (hst : st = argsL.reverse ++ .ref a :: rest)
    (hls : ls.size = maxL) (hy : y.cls ≠ "java/lang/invoke/MethodHandle" ∧ y.cls ≠ "java/lang/invoke/VarHandle") (hW : (rest.map fun v => v.category).sum = W) (hfr : rm.frames + 1 ≤ R.frames) (hlo : W + (maxL' + 11) + rm.locals ≤ R.locals) (hce : k + rm.cells ≤ R.cells) (hsl : n + rm.slots ≤ R.slots) (hq : pc + 3 = q)
    (r : ∀ v h', Q' v h' → Go p l e R s m args below meth c n0 Q h' (k + rm.cells) (n + rm.slots) (mkF m q ls (v.toList ++ rest))) : Go p l e R s m args below meth c n0 Q h k n (mkF m pc ls st) := fun T L S N eT => by
  subst hq hst
  obtain ⟨v, _, B, -, X, ⟨Lc, hQ, l1, y1, z1⟩, stp⟩ := S.specialBack K.1 (y := y) hy1 K.2.2.1 (mvT K.2.1 w1) (mvT K.2.1 w2) (mvT K.2.1 w4) hy (backOf (W := W) (Q := fun v h' L => Q' v h' ∧ Fr n0 L) hM K.2.1 w4 w3 hfr hlo) (g := mkF m pc ls (argsL.reverse ++ .ref a :: rest)) rfl (hls.trans K.2.2.2.2.1.symm) (Steps.refl _) (a := a) (argsL := argsL) (rest := rest) (lenOf hpd hlen) rfl (by show 2 * 0 + _ ≤ _; rw [hW]; omega) (hb K.2.2.2.1 hd) (fun _ _ => ⟨rfl, eT, hce, hsl⟩)
  obtain ⟨T', L', k', n'⟩ := B
  dsimp only [Pt.U, Pt.locs, Pt.cells, Pt.slots] at X l1 y1 z1 stp hQ
  subst l1 y1 z1
  obtain ⟨s₂, o, hs, z⟩ := r v _ hQ.1 T' _ X (Fr.app N hQ.2) rfl
  exact ⟨s₂, o, stp.trans hs, z⟩
theorem nf_of {y yf : MethodName} {Cf : String} (w : (Cond.selects Cf yf yf).before args s = true) (hyf : yf.cls = y.cls) : NotFace s y := fun r0 h0 => by
  obtain ⟨c2, r2, m2, -, -, q3, -, kP, hkP, hkPi⟩ := Cond.selects_spec w
  have hcl : m2.cls = r0.cls := by
    have e1 := findClass_of_methodNamed q3
    have e2 := findClass_of_methodNamed h0
    rw [hyf] at e1
    exact Option.some.inj (e1.symm.trans e2)
  rw [hcl] at hkP
  exact ⟨kP, hkP, hkPi⟩
theorem go_callV (K : Cx p s m meth c Z own nm bytes maxL ret) {y yz yf : MethodName} {C Cf : String} {bytes' : ByteArray} {maxL' : Nat} {ret' : Option FieldType} {rm : Room} {W i : Nat} {Q' : Option Value → Heap → Prop} {ps : List FieldType} {a : Addr}
    (w1 : (Cond.methodLink own i y).before a0 Z = true) (w2 : (Cond.declares y).before a0 Z = true) (w3 : (Cond.selects C y yz).before a0 Z = true) (w4 : (Cond.instanceMethod yz).before a0 Z = true) (w5 : (Cond.initialized yz.cls).before a0 Z = true) (w6 : (Cond.code yz bytes' maxL' ret').before a0 Z = true) (w7 : (Cond.selects Cf yf yf).before a0 Z = true) (hyf : yf.cls = y.cls)
    (E : Exa Z h a C) (argsL rest : List Value) (hM : Met l yz bytes' maxL' ret' [] rm (.ref a :: argsL).toArray Z h n0 Q') (hd : decode bytes pc = .ok (.invokevirtual i, 3)) (hpd : parseMethodDescriptor y.desc = some ⟨ps, ret'⟩) (hlen : argsL.length = ps.length) (hst : st = argsL.reverse ++ .ref a :: rest)
    (hls : ls.size = maxL) (hy : y.cls ≠ "java/lang/invoke/MethodHandle" ∧ y.cls ≠ "java/lang/invoke/VarHandle") (hW : (rest.map fun v => v.category).sum = W) (hfr : rm.frames + 1 ≤ R.frames) (hlo : W + (maxL' + 11) + rm.locals ≤ R.locals) (hce : k + rm.cells ≤ R.cells) (hsl : n + rm.slots ≤ R.slots) (hq : pc + 3 = q)
    (r : ∀ v h', Q' v h' → Go p l e R s m args below meth c n0 Q h' (k + rm.cells) (n + rm.slots) (mkF m q ls (v.toList ++ rest))) : Go p l e R s m args below meth c n0 Q h k n (mkF m pc ls st) := fun T L S N eT => by
  subst hq hst
  obtain ⟨cq, kq, qa, qb, qc⟩ := isOf K.2.1 eT E
  obtain ⟨v, _, B, -, X, ⟨Lc, hQ, l1, y1, z1⟩, stp⟩ := S.virtualBack K.1 (y := y) (z := yz) K.2.2.1 (mvT K.2.1 w1) (mvT K.2.1 w2) (nf_of (args := #[]) (mvT K.2.1 w7) hyf) (mvT K.2.1 w3) (mvT K.2.1 w4) hy (backOf (W := W) (Q := fun v h' L => Q' v h' ∧ Fr n0 L) hM K.2.1 w6 w5 hfr hlo) qa qc (g := mkF m pc ls (argsL.reverse ++ .ref a :: rest)) rfl (hls.trans K.2.2.2.2.1.symm) (Steps.refl _) (argsL := argsL) (rest := rest) (lenOf hpd hlen) rfl (by show 2 * 0 + _ ≤ _; rw [hW]; omega) (hb K.2.2.2.1 hd) (fun _ _ => ⟨rfl, eT, hce, hsl⟩)
  obtain ⟨T', L', k', n'⟩ := B
  dsimp only [Pt.U, Pt.locs, Pt.cells, Pt.slots] at X l1 y1 z1 stp hQ
  subst l1 y1 z1
  obtain ⟨s₂, o, hs, z⟩ := r v _ hQ.1 T' _ X (Fr.app N hQ.2) rfl
  exact ⟨s₂, o, stp.trans hs, z⟩

/-! the heap: fields, statics, objects -/
theorem go_getF (K : Cx p s m meth c Z own nm bytes maxL ret) {R0 O f d : String} {i : Nat} {a : Addr} {v : Value} (w1 : (Cond.fieldLink own i R0 f d).before a0 Z = true) (via : Via Z R0 O f d) (F : Fld Z h a O f d v) (hd : decode bytes pc = .ok (.getfield i, 3)) (hq : pc + 3 = q)
    (r : Go p l e R s m args below meth c n0 Q h k n (mkF m q ls (v :: st))) : Go p l e R s m args below meth c n0 Q h k n (mkF m pc ls (.ref a :: st)) := fun T L S N eT => by
  subst hq
  obtain ⟨T', X, e', stp⟩ := getF S K.1 K.2.1 K.2.2.1 (host := "") (Or.inl w1) via eT F (g := mkF m pc ls (.ref a :: st)) rfl rfl (hb K.2.2.2.1 hd)
  obtain ⟨s₂, o, hs, z⟩ := r T' L X N e'
  exact ⟨s₂, o, stp _ hs, z⟩
theorem go_getS (K : Cx p s m meth c Z own nm bytes maxL ret) {R0 O f d : String} {i : Nat} {v : Value} (w1 : (Cond.fieldLink own i R0 f d).before a0 Z = true) (via : Via Z R0 O f d) (F : Sta Z h O f d v) (hd : decode bytes pc = .ok (.getstatic i, 3)) (hq : pc + 3 = q)
    (r : Go p l e R s m args below meth c n0 Q h k n (mkF m q ls (v :: st))) : Go p l e R s m args below meth c n0 Q h k n (mkF m pc ls st) := fun T L S N eT => by
  subst hq
  obtain ⟨T', X, e', stp⟩ := getS S K.1 K.2.1 (host := "") K.2.2.1 w1 via eT F (g := mkF m pc ls st) rfl (hb K.2.2.2.1 hd)
  obtain ⟨s₂, o, hs, z⟩ := r T' L X N e'
  exact ⟨s₂, o, stp _ hs, z⟩
theorem go_putF (K : Cx p s m meth c Z own nm bytes maxL ret) {R0 O f d C : String} {i kk : Nat} {ty : FieldType} {a : Addr} {v old : Value} (w1 : (Cond.fieldLink own i R0 f d).before a0 Z = true) (via : Via Z R0 O f d) (F : Fld Z h a O f d old) (E : Exa Z h a C)
    (Ly : (Cond.lays C O f d).before a0 Z = true ∨ ((Cond.laysFinal C O f d).before a0 Z = true ∧ own = O ∧ nm = "<init>")) (wi : (Cond.instantiable C kk).before a0 Z = true) (hty : parseFieldDescriptor d = some ty) (hnw : narrow ty v = v) (hf : fits ty v = true) (ha : n0 ≤ a)
    (hd : decode bytes pc = .ok (.putfield i, 3)) (hq : pc + 3 = q)
    (r : ∀ h', Wr h h' a (Jvm.RoadKit.slotOf Z O f d) v → Go p l e R s m args below meth c n0 Q h' k n (mkF m q ls st)) : Go p l e R s m args below meth c n0 Q h k n (mkF m pc ls (v :: .ref a :: st)) := fun T L S N eT => by
  subst hq
  obtain ⟨T', h', X, e', W, stp⟩ := putF S K.1 K.2.1 K.2.2.1 (host := "") (Or.inl w1) via eT F E (Ly.imp id fun z => ⟨z.1, z.2.1, K.2.2.2.2.2.2.2.trans z.2.2⟩) wi hty hnw hf (g := mkF m pc ls (v :: .ref a :: st)) rfl rfl (hb K.2.2.2.1 hd)
  obtain ⟨s₂, o, hs, z⟩ := r h' W T' _ X (Fr.snoc X N ha) e'
  exact ⟨s₂, o, stp _ hs, z⟩
theorem go_new (K : Cx p s m meth c Z own nm bytes maxL ret) {C : String} {i sz : Nat} (w1 : (Cond.classLink own i C).before a0 Z = true) (w2 : (Cond.instantiable C sz).before a0 Z = true) (w3 : (Cond.initialized C).before a0 Z = true) (hd : decode bytes pc = .ok (.new i, 3)) (hce : k + 1 ≤ R.cells) (hsl : n + sz ≤ R.slots) (hq : pc + 3 = q)
    (r : ∀ h' a, a = h.size → Ext h h' → Exa Z h' a C → (∀ {O f d : String} {ty : FieldType}, Laid Z a0 C O f d → parseFieldDescriptor d = some ty → Fld Z h' a O f d (defaultValue ty)) → Go p l e R s m args below meth c n0 Q h' (k + 1) (n + sz) (mkF m q ls (.ref a :: st))) : Go p l e R s m args below meth c n0 Q h k n (mkF m pc ls st) := fun T L S N eT => by
  subst hq
  obtain ⟨T', h', X, e', E, A, D, -, stp⟩ := newO S K.1 K.2.1 K.2.2.1 w1 w2 w3 eT (g := mkF m pc ls st) rfl (hb K.2.2.2.1 hd) hce hsl
  obtain ⟨s₂, o, hs, z⟩ := r h' _ rfl E A D T' _ X N e'
  exact ⟨s₂, o, stp _ hs, z⟩
theorem go_initO (K : Cx p s m meth c Z own nm bytes maxL ret) {i : Nat} {a : Addr} (w1 : (Cond.methodLink own i Lib.objectInit).before a0 Z = true) (w2 : (Cond.instanceMethod Lib.objectInit).before a0 Z = true) (w3 : (Cond.code Lib.objectInit ⟨#[0xb1]⟩ 1 none).before a0 Z = true) (hd : decode bytes pc = .ok (.invokespecial i, 3)) {W : Nat} (hls : ls.size = maxL) (hW : (st.map fun v => v.category).sum = W) (hfr : 1 ≤ R.frames) (hlo : W + 12 ≤ R.locals) (hq : pc + 3 = q)
    (r : Go p l e R s m args below meth c n0 Q h k n (mkF m q ls st)) : Go p l e R s m args below meth c n0 Q h k n (mkF m pc ls (.ref a :: st)) := fun T L S N eT => by
  subst hq
  obtain ⟨T', X, e', stp⟩ := initO S K.1 K.2.1 K.2.2.1 w1 w2 w3 eT (g := mkF m pc ls (.ref a :: st)) rfl (hls.trans K.2.2.2.2.1.symm) rfl (hb K.2.2.2.1 hd) hfr (W := W) (by show 2 * 0 + _ ≤ _; rw [hW]; omega) hlo
  obtain ⟨s₂, o, hs, z⟩ := r T' L X N e'
  exact ⟨s₂, o, stp _ hs, z⟩
/-! arrays: a known array and the list of what it holds -/
def Ary (Z : State) (h : Heap) (a : Addr) (kl : ClassId) (ty : FieldType) (vs : List Value) : Prop := ∃ cl : Cell, Arr Z h a cl ty ∧ cl.cls = kl ∧ cl.slots.toList = vs ∧ vs.length < 2 ^ 31
theorem Ary.lt {a : Addr} {kl : ClassId} {ty : FieldType} {vs : List Value} (F : Ary Z h a kl ty vs) : a < h.size := by obtain ⟨cl, A, -⟩ := F; exact A.lt
theorem Ary.ext {h' : Heap} {a : Addr} {kl : ClassId} {ty : FieldType} {vs : List Value} (F : Ary Z h a kl ty vs) (E : Ext h h') : Ary Z h' a kl ty vs := by obtain ⟨cl, A, r⟩ := F; exact ⟨cl, A.ext E, r⟩
theorem Ary.other {h' : Heap} {a b : Addr} {sl : Nat} {v : Value} {kl : ClassId} {ty : FieldType} {vs : List Value} (F : Ary Z h b kl ty vs) (W : Wr h h' a sl v) (q : b ≠ a) : Ary Z h' b kl ty vs := by obtain ⟨cl, A, r⟩ := F; exact ⟨cl, A.other W q, r⟩
theorem Ary.keep {h' : Heap} {ws : List Addr} {a : Addr} {kl : ClassId} {ty : FieldType} {vs : List Value} (F : Ary Z h a kl ty vs) (K : Keep h h' ws) (q : a ∉ ws) : Ary Z h' a kl ty vs := by obtain ⟨cl, A, r⟩ := F; exact ⟨cl, ⟨K.2.1 a cl A.1 q, A.2⟩, r⟩
theorem Ary.set {h' : Heap} {a : Addr} {j : Nat} {v : Value} {kl : ClassId} {ty : FieldType} {vs : List Value} (F : Ary Z h a kl ty vs) (W : Wr h h' a j v) : Ary Z h' a kl ty (vs.set j v) := by
  obtain ⟨cl, A, r1, r2, r3⟩ := F
  refine ⟨_, A.same W, r1, ?_, by simpa using r3⟩
  subst r2
  simp [Cell.setSlot]
theorem ary_in {cl : Cell} {vs : List Value} {j : Int32} (r2 : cl.slots.toList = vs) (hj0 : ¬ j < 0) (hj : j.toNatClampNeg < vs.length) : ¬ (j < 0 ∨ cl.slots.size ≤ j.toNatClampNeg) := by
  subst r2
  rintro (q | q)
  · exact hj0 q
  · simp at hj; omega

theorem go_iaload (K : Cx p s m meth c Z own nm bytes maxL ret) {a : Addr} {kl : ClassId} {vs : List Value} {j : Int32} {v : Int32} (F : Ary Z h a kl .int vs) (hj0 : ¬ j < 0) (hj : vs[j.toNatClampNeg]? = some (.int v)) (hd : decode bytes pc = .ok (.iaload, 1)) (hq : pc + 1 = q)
    (r : Go p l e R s m args below meth c n0 Q h k n (mkF m q ls ((.int v) :: st))) : Go p l e R s m args below meth c n0 Q h k n (mkF m pc ls (.int j :: .ref a :: st)) := by
  subst hq
  obtain ⟨cl, A, r1, r2, r3⟩ := F
  refine Go.ofX (fun T L tg S eT => S.iaload K.1 (j := j) (v := (.int v)) (by rw [eT]; exact A.1) (State.isArrayOf_alike K.2.1.alike A.2.1) A.2.2 (ary_in r2 hj0 (List.getElem?_eq_some_iff.mp hj).1) (by rw [← hj, ← r2]; simp) (g := mkF m pc ls (.int j :: .ref a :: st)) rfl rfl (hb K.2.2.2.1 hd) tg) r
theorem go_laload (K : Cx p s m meth c Z own nm bytes maxL ret) {a : Addr} {kl : ClassId} {vs : List Value} {j : Int32} {v : Int64} (F : Ary Z h a kl .long vs) (hj0 : ¬ j < 0) (hj : vs[j.toNatClampNeg]? = some (.long v)) (hd : decode bytes pc = .ok (.laload, 1)) (hq : pc + 1 = q)
    (r : Go p l e R s m args below meth c n0 Q h k n (mkF m q ls ((.long v) :: st))) : Go p l e R s m args below meth c n0 Q h k n (mkF m pc ls (.int j :: .ref a :: st)) := by
  subst hq
  obtain ⟨cl, A, r1, r2, r3⟩ := F
  refine Go.ofX (fun T L tg S eT => S.laload K.1 (j := j) (v := (.long v)) (by rw [eT]; exact A.1) (State.isArrayOf_alike K.2.1.alike A.2.1) A.2.2 (ary_in r2 hj0 (List.getElem?_eq_some_iff.mp hj).1) (by rw [← hj, ← r2]; simp) (g := mkF m pc ls (.int j :: .ref a :: st)) rfl rfl (hb K.2.2.2.1 hd) tg) r
theorem go_caload (K : Cx p s m meth c Z own nm bytes maxL ret) {a : Addr} {kl : ClassId} {vs : List Value} {j : Int32} {v : Int32} (F : Ary Z h a kl .char vs) (hj0 : ¬ j < 0) (hj : vs[j.toNatClampNeg]? = some (.int v)) (hd : decode bytes pc = .ok (.caload, 1)) (hq : pc + 1 = q)
    (r : Go p l e R s m args below meth c n0 Q h k n (mkF m q ls ((.int v) :: st))) : Go p l e R s m args below meth c n0 Q h k n (mkF m pc ls (.int j :: .ref a :: st)) := by
  subst hq
  obtain ⟨cl, A, r1, r2, r3⟩ := F
  refine Go.ofX (fun T L tg S eT => S.caload K.1 (j := j) (v := (.int v)) (by rw [eT]; exact A.1) (State.isArrayOf_alike K.2.1.alike A.2.1) A.2.2 (ary_in r2 hj0 (List.getElem?_eq_some_iff.mp hj).1) (by rw [← hj, ← r2]; simp) (g := mkF m pc ls (.int j :: .ref a :: st)) rfl rfl (hb K.2.2.2.1 hd) tg) r
theorem go_baload (K : Cx p s m meth c Z own nm bytes maxL ret) {a : Addr} {kl : ClassId} {vs : List Value} {j : Int32} {v : Int32} (F : Ary Z h a kl .byte vs) (hj0 : ¬ j < 0) (hj : vs[j.toNatClampNeg]? = some (.int v)) (hd : decode bytes pc = .ok (.baload, 1)) (hq : pc + 1 = q)
    (r : Go p l e R s m args below meth c n0 Q h k n (mkF m q ls ((.int v) :: st))) : Go p l e R s m args below meth c n0 Q h k n (mkF m pc ls (.int j :: .ref a :: st)) := by
  subst hq
  obtain ⟨cl, A, r1, r2, r3⟩ := F
  refine Go.ofX (fun T L tg S eT => S.baloadBytes K.1 (j := j) (v := (.int v)) (by rw [eT]; exact A.1) (State.isArrayOf_alike K.2.1.alike A.2.1) A.2.2 (ary_in r2 hj0 (List.getElem?_eq_some_iff.mp hj).1) (by rw [← hj, ← r2]; simp) (g := mkF m pc ls (.int j :: .ref a :: st)) rfl rfl (hb K.2.2.2.1 hd) tg) r
theorem go_aaload (K : Cx p s m meth c Z own nm bytes maxL ret) {a : Addr} {kl : ClassId} {vs : List Value} {j : Int32} {v : Value} {ty : FieldType} (F : Ary Z h a kl ty vs) (ht : ty.isReference = true) (hv : v.isRef = true) (hj0 : ¬ j < 0) (hj : vs[j.toNatClampNeg]? = some v) (hd : decode bytes pc = .ok (.aaload, 1)) (hq : pc + 1 = q)
    (r : Go p l e R s m args below meth c n0 Q h k n (mkF m q ls (v :: st))) : Go p l e R s m args below meth c n0 Q h k n (mkF m pc ls (.int j :: .ref a :: st)) := by
  subst hq
  obtain ⟨cl, A, r1, r2, r3⟩ := F
  refine Go.ofX (fun T L tg S eT => S.aaload K.1 (j := j) (v := v) (by rw [eT]; exact A.1) (State.isArrayOf_alike K.2.1.alike A.2.1) ht A.2.2 (ary_in r2 hj0 (List.getElem?_eq_some_iff.mp hj).1) (by rw [← hj, ← r2]; simp) (g := mkF m pc ls (.int j :: .ref a :: st)) rfl rfl (hb K.2.2.2.1 hd) tg) r
theorem go_arraylength (K : Cx p s m meth c Z own nm bytes maxL ret) {a : Addr} {kl : ClassId} {vs : List Value} {ty : FieldType} {z : Int32} (F : Ary Z h a kl ty vs) (hz : vs.length.toInt32 = z) (hd : decode bytes pc = .ok (.arraylength, 1)) (hq : pc + 1 = q)
    (r : Go p l e R s m args below meth c n0 Q h k n (mkF m q ls (.int z :: st))) : Go p l e R s m args below meth c n0 Q h k n (mkF m pc ls (.ref a :: st)) := by
  subst hq
  obtain ⟨cl, A, r1, r2, r3⟩ := F
  have e1 : cl.slots.size.toInt32 = z := by rw [← hz, ← r2]; simp
  subst e1
  refine Go.ofX (fun T L tg S eT => S.arraylength K.1 (cell := cl) (by rw [eT]; exact A.1) (State.isArrayOf_alike K.2.1.alike A.2.1) (g := mkF m pc ls (.ref a :: st)) rfl (rest := st) rfl (hb K.2.2.2.1 hd) tg) r
theorem go_iastore (K : Cx p s m meth c Z own nm bytes maxL ret) {a : Addr} {kl : ClassId} {vs : List Value} {j : Int32} {v : Int32} (F : Ary Z h a kl .int vs) (hj0 : ¬ j < 0) (hj : j.toNatClampNeg < vs.length) (ha : n0 ≤ a) (hd : decode bytes pc = .ok (.iastore, 1)) (hq : pc + 1 = q)
    (r : ∀ h', Wr h h' a j.toNatClampNeg (.int v) → Ary Z h' a kl .int (vs.set j.toNatClampNeg (.int v)) → Go p l e R s m args below meth c n0 Q h' k n (mkF m q ls st)) : Go p l e R s m args below meth c n0 Q h k n (mkF m pc ls (.int v :: .int j :: .ref a :: st)) := fun T L S N eT => by
  subst hq
  obtain ⟨cl, A, r1, r2, r3⟩ := id F
  obtain ⟨T', h', X, e', W, stp⟩ := stI S K.1 K.2.1 eT A (j := j) (x := v) (ary_in r2 hj0 hj) (g := mkF m pc ls (.int v :: .int j :: .ref a :: st)) rfl rfl (hb K.2.2.2.1 hd)
  obtain ⟨s₂, o, hs, z⟩ := r h' W (F.set W) T' _ X (Fr.snoc X N ha) e'
  exact ⟨s₂, o, stp _ hs, z⟩
theorem go_lastore (K : Cx p s m meth c Z own nm bytes maxL ret) {a : Addr} {kl : ClassId} {vs : List Value} {j : Int32} {v : Int64} (F : Ary Z h a kl .long vs) (hj0 : ¬ j < 0) (hj : j.toNatClampNeg < vs.length) (ha : n0 ≤ a) (hd : decode bytes pc = .ok (.lastore, 1)) (hq : pc + 1 = q)
    (r : ∀ h', Wr h h' a j.toNatClampNeg (.long v) → Ary Z h' a kl .long (vs.set j.toNatClampNeg (.long v)) → Go p l e R s m args below meth c n0 Q h' k n (mkF m q ls st)) : Go p l e R s m args below meth c n0 Q h k n (mkF m pc ls (.long v :: .int j :: .ref a :: st)) := fun T L S N eT => by
  subst hq
  obtain ⟨cl, A, r1, r2, r3⟩ := id F
  obtain ⟨T', h', X, e', W, stp⟩ := stJ S K.1 K.2.1 eT A (j := j) (x := v) (ary_in r2 hj0 hj) (g := mkF m pc ls (.long v :: .int j :: .ref a :: st)) rfl rfl (hb K.2.2.2.1 hd)
  obtain ⟨s₂, o, hs, z⟩ := r h' W (F.set W) T' _ X (Fr.snoc X N ha) e'
  exact ⟨s₂, o, stp _ hs, z⟩
theorem go_castore (K : Cx p s m meth c Z own nm bytes maxL ret) {a : Addr} {kl : ClassId} {vs : List Value} {j : Int32} {v : Int32} (F : Ary Z h a kl .char vs) (hj0 : ¬ j < 0) (hj : j.toNatClampNeg < vs.length) (ha : n0 ≤ a) (hd : decode bytes pc = .ok (.castore, 1)) (hq : pc + 1 = q)
    (r : ∀ h', Wr h h' a j.toNatClampNeg (.int (nar .char v)) → Ary Z h' a kl .char (vs.set j.toNatClampNeg (.int (nar .char v))) → Go p l e R s m args below meth c n0 Q h' k n (mkF m q ls st)) : Go p l e R s m args below meth c n0 Q h k n (mkF m pc ls (.int v :: .int j :: .ref a :: st)) := fun T L S N eT => by
  subst hq
  obtain ⟨cl, A, r1, r2, r3⟩ := id F
  obtain ⟨T', h', X, e', W, stp⟩ := stC S K.1 K.2.1 eT A (j := j) (x := v) (ary_in r2 hj0 hj) (g := mkF m pc ls (.int v :: .int j :: .ref a :: st)) rfl rfl (hb K.2.2.2.1 hd)
  obtain ⟨s₂, o, hs, z⟩ := r h' W (F.set W) T' _ X (Fr.snoc X N ha) e'
  exact ⟨s₂, o, stp _ hs, z⟩
theorem go_bastore (K : Cx p s m meth c Z own nm bytes maxL ret) {a : Addr} {kl : ClassId} {vs : List Value} {j : Int32} {v : Int32} (F : Ary Z h a kl .byte vs) (hj0 : ¬ j < 0) (hj : j.toNatClampNeg < vs.length) (ha : n0 ≤ a) (hd : decode bytes pc = .ok (.bastore, 1)) (hq : pc + 1 = q)
    (r : ∀ h', Wr h h' a j.toNatClampNeg (.int (nar .byte v)) → Ary Z h' a kl .byte (vs.set j.toNatClampNeg (.int (nar .byte v))) → Go p l e R s m args below meth c n0 Q h' k n (mkF m q ls st)) : Go p l e R s m args below meth c n0 Q h k n (mkF m pc ls (.int v :: .int j :: .ref a :: st)) := fun T L S N eT => by
  subst hq
  obtain ⟨cl, A, r1, r2, r3⟩ := id F
  obtain ⟨T', h', X, e', W, stp⟩ := stB S K.1 K.2.1 eT A (j := j) (x := v) (ary_in r2 hj0 hj) (g := mkF m pc ls (.int v :: .int j :: .ref a :: st)) rfl rfl (hb K.2.2.2.1 hd)
  obtain ⟨s₂, o, hs, z⟩ := r h' W (F.set W) T' _ X (Fr.snoc X N ha) e'
  exact ⟨s₂, o, stp _ hs, z⟩
theorem go_newarray (K : Cx p s m meth c Z own nm bytes maxL ret) {aty : ArrayType} {z : Int32} {num cap : Nat} (w1 : (Cond.arrayClass (newarray.typeOf aty)).before a0 Z = true) (hd : decode bytes pc = .ok (.newarray aty, 2)) (hz : ¬ z < 0) (hzn : z.toNatClampNeg = num) (hcap : num ≤ cap) (hcb : cap * 8 ≤ 536870912) (hce : k + 1 ≤ R.cells) (hsl : n + cap ≤ R.slots) (hq : pc + 2 = q)
    (r : ∀ h' a kl, a = h.size → Ext h h' → Ary Z h' a kl (newarray.typeOf aty) (List.replicate num (defaultValue (newarray.typeOf aty))) → Go p l e R s m args below meth c n0 Q h' (k + 1) (n + cap) (mkF m q ls (.ref a :: st))) : Go p l e R s m args below meth c n0 Q h k n (mkF m pc ls (.int z :: st)) := fun T L S N eT => by
  subst hq hzn
  obtain ⟨T', h', kl, X, e', E, A, stp⟩ := newP S K.1 K.2.1 w1 eT (g := mkF m pc ls (.int z :: st)) rfl (hb K.2.2.2.1 hd) (n := z) (rest := st) rfl hz hcap hcb hce hsl
  obtain ⟨s₂, o, hs, zz⟩ := r h' _ kl rfl E ⟨_, A, rfl, by simp [newA], by simp; omega⟩ T' _ X N e'
  exact ⟨s₂, o, stp _ hs, zz⟩

theorem go_anewarray (K : Cx p s m meth c Z own nm bytes maxL ret) {C : String} {i : Nat} {z : Int32} {num cap : Nat} (w1 : (Cond.classLink own i C).before a0 Z = true) (w2 : (Cond.arrayOver (.object C)).before a0 Z = true) (hd : decode bytes pc = .ok (.anewarray i, 3)) (hz : ¬ z < 0) (hzn : z.toNatClampNeg = num) (hcap : num ≤ cap) (hcb : cap * 8 ≤ 536870912) (hce : k + 1 ≤ R.cells) (hsl : n + cap ≤ R.slots) (hq : pc + 3 = q)
    (r : ∀ h' a kl, a = h.size → Ext h h' → Ary Z h' a kl (.object C) (List.replicate num .null) → Ovr Z kl C → Go p l e R s m args below meth c n0 Q h' (k + 1) (n + cap) (mkF m q ls (.ref a :: st))) : Go p l e R s m args below meth c n0 Q h k n (mkF m pc ls (.int z :: st)) := fun T L S N eT => by
  subst hq hzn
  obtain ⟨T', h', kl, X, e', E, A, O, stp⟩ := newR S K.1 K.2.1 K.2.2.1 w1 w2 eT (g := mkF m pc ls (.int z :: st)) rfl (hb K.2.2.2.1 hd) (n := z) (rest := st) rfl hz hcap hcb hce hsl
  obtain ⟨s₂, o, hs, zz⟩ := r h' _ kl rfl E ⟨_, A, rfl, by simp [newA, defaultValue], by simp; omega⟩ O T' _ X N e'
  exact ⟨s₂, o, stp _ hs, zz⟩
theorem go_aastore (K : Cx p s m meth c Z own nm bytes maxL ret) {a : Addr} {kl : ClassId} {vs : List Value} {j : Int32} {v : Value} {ty : FieldType} (F : Ary Z h a kl ty vs) (hty : ty.isReference = true) (So : Sto Z h a v) (hj0 : ¬ j < 0) (hj : j.toNatClampNeg < vs.length) (ha : n0 ≤ a) (hd : decode bytes pc = .ok (.aastore, 1)) (hq : pc + 1 = q)
    (r : ∀ h', Wr h h' a j.toNatClampNeg v → Ary Z h' a kl ty (vs.set j.toNatClampNeg v) → Go p l e R s m args below meth c n0 Q h' k n (mkF m q ls st)) : Go p l e R s m args below meth c n0 Q h k n (mkF m pc ls (v :: .int j :: .ref a :: st)) := fun T L S N eT => by
  subst hq
  obtain ⟨cl, A, r1, r2, r3⟩ := id F
  obtain ⟨T', h', X, e', W, stp⟩ := stR S K.1 K.2.1 eT A (j := j) (v := v) (ary_in r2 hj0 hj) hty So (g := mkF m pc ls (v :: .int j :: .ref a :: st)) rfl rfl (hb K.2.2.2.1 hd)
  obtain ⟨s₂, o, hs, z⟩ := r h' W (F.set W) T' _ X (Fr.snoc X N ha) e'
  exact ⟨s₂, o, stp _ hs, z⟩
theorem sto_of {a y : Addr} {kl : ClassId} {ty : FieldType} {vs : List Value} {C : String} (F : Ary Z h a kl ty vs) (O : Ovr Z kl C) (Iy : Ins Z h y C true) : Sto Z h a (.ref y) := by
  obtain ⟨cl, A, rfl, -⟩ := F
  exact Sto.of A O Iy
theorem go_checkcast (K : Cx p s m meth c Z own nm bytes maxL ret) {C : String} {i : Nat} {a : Addr} (w1 : (Cond.classLink own i C).before a0 Z = true) (F : Ins Z h a C true) (hd : decode bytes pc = .ok (.checkcast i, 3)) (hq : pc + 3 = q)
    (r : Go p l e R s m args below meth c n0 Q h k n (mkF m q ls (.ref a :: st))) : Go p l e R s m args below meth c n0 Q h k n (mkF m pc ls (.ref a :: st)) := fun T L S N eT => by
  subst hq
  obtain ⟨T', X, e', stp⟩ := castY S K.1 K.2.1 K.2.2.1 w1 eT F (g := mkF m pc ls (.ref a :: st)) rfl rfl (hb K.2.2.2.1 hd)
  obtain ⟨s₂, o, hs, z⟩ := r T' L X N e'
  exact ⟨s₂, o, stp _ hs, z⟩
theorem go_instY (K : Cx p s m meth c Z own nm bytes maxL ret) {C : String} {i : Nat} {a : Addr} (w1 : (Cond.classLink own i C).before a0 Z = true) (F : Ins Z h a C true) (hd : decode bytes pc = .ok (.instanceof i, 3)) (hq : pc + 3 = q)
    (r : Go p l e R s m args below meth c n0 Q h k n (mkF m q ls (.int 1 :: st))) : Go p l e R s m args below meth c n0 Q h k n (mkF m pc ls (.ref a :: st)) := fun T L S N eT => by
  subst hq
  obtain ⟨T', X, e', stp⟩ := instY S K.1 K.2.1 K.2.2.1 w1 eT F (g := mkF m pc ls (.ref a :: st)) rfl rfl (hb K.2.2.2.1 hd)
  obtain ⟨s₂, o, hs, z⟩ := r T' L X N e'
  exact ⟨s₂, o, stp _ hs, z⟩
/-- a virtual call through a subclass's name (the class 'ow' above declares the method) -/
theorem go_callU (K : Cx p s m meth c Z own nm bytes maxL ret) {y yz : MethodName} {C ow : String} {bytes' : ByteArray} {maxL' : Nat} {ret' : Option FieldType} {rm : Room} {W i : Nat} {Q' : Option Value → Heap → Prop} {ps : List FieldType} {a : Addr}
    (w1 : (Cond.methodLink own i y).before a0 Z = true) (w2 : (Cond.declares ⟨ow, y.name, y.desc⟩).before a0 Z = true) (w3 : (Cond.selects C y yz).before a0 Z = true) (w4 : (Cond.instanceMethod yz).before a0 Z = true) (w5 : (Cond.initialized yz.cls).before a0 Z = true) (w6 : (Cond.code yz bytes' maxL' ret').before a0 Z = true) (w7 : (Cond.sameMethod y.cls ow y.name y.desc).before a0 Z = true)
    (E : Exa Z h a C) (argsL rest : List Value) (hM : Met l yz bytes' maxL' ret' [] rm (.ref a :: argsL).toArray Z h n0 Q') (hd : decode bytes pc = .ok (.invokevirtual i, 3)) (hpd : parseMethodDescriptor y.desc = some ⟨ps, ret'⟩) (hlen : argsL.length = ps.length) (hst : st = argsL.reverse ++ .ref a :: rest)
    (hls : ls.size = maxL) (hy : ow ≠ "java/lang/invoke/MethodHandle" ∧ ow ≠ "java/lang/invoke/VarHandle") (hW : (rest.map fun v => v.category).sum = W) (hfr : rm.frames + 1 ≤ R.frames) (hlo : W + (maxL' + 11) + rm.locals ≤ R.locals) (hce : k + rm.cells ≤ R.cells) (hsl : n + rm.slots ≤ R.slots) (hq : pc + 3 = q)
    (r : ∀ v h', Q' v h' → Go p l e R s m args below meth c n0 Q h' (k + rm.cells) (n + rm.slots) (mkF m q ls (v.toList ++ rest))) : Go p l e R s m args below meth c n0 Q h k n (mkF m pc ls st) := fun T L S N eT => by
  subst hq hst
  obtain ⟨cq, kq, qa, qb, qc⟩ := isOf K.2.1 eT E
  obtain ⟨v, _, B, -, X, ⟨Lc, hQ, l1, y1, z1⟩, stp⟩ := S.virtualBackUp K.1 (x := y) (y := yz) K.2.2.1 (mvT K.2.1 w1) (mvT K.2.1 w7) (mvT K.2.1 w2) hy (mvT K.2.1 w3) (mvT K.2.1 w4) (backOf (W := W) (Q := fun v h' L => Q' v h' ∧ Fr n0 L) hM K.2.1 w6 w5 hfr hlo) qa qc (g := mkF m pc ls (argsL.reverse ++ .ref a :: rest)) rfl (hls.trans K.2.2.2.2.1.symm) (Steps.refl _) (argsL := argsL) (rest := rest) (lenOf hpd hlen) rfl (by show 2 * 0 + _ ≤ _; rw [hW]; omega) (hb K.2.2.2.1 hd) (fun _ _ => ⟨rfl, eT, hce, hsl⟩)
  obtain ⟨T', L', k', n'⟩ := B
  dsimp only [Pt.U, Pt.locs, Pt.cells, Pt.slots] at X l1 y1 z1 stp hQ
  subst l1 y1 z1
  obtain ⟨s₂, o, hs, z⟩ := r v _ hQ.1 T' _ X (Fr.app N hQ.2) rfl
  exact ⟨s₂, o, stp.trans hs, z⟩
/-- invokevirtual of a private method -/
theorem go_callP (K : Cx p s m meth c Z own nm bytes maxL ret) {y : MethodName} {C : String} {bytes' : ByteArray} {maxL' : Nat} {ret' : Option FieldType} {rm : Room} {W i : Nat} {Q' : Option Value → Heap → Prop} {ps : List FieldType} {a : Addr} {yf : MethodName} {Cf : String}
    (w1 : (Cond.methodLink own i y).before a0 Z = true) (w2 : (Cond.privateMethod y).before a0 Z = true) (w3 : (Cond.selects Cf yf yf).before a0 Z = true) (hyf : yf.cls = y.cls) (w4 : (Cond.instanceMethod y).before a0 Z = true) (w5 : (Cond.initialized y.cls).before a0 Z = true) (w6 : (Cond.code y bytes' maxL' ret').before a0 Z = true)
    (E : Exa Z h a C) (argsL rest : List Value) (hM : Met l y bytes' maxL' ret' [] rm (.ref a :: argsL).toArray Z h n0 Q') (hd : decode bytes pc = .ok (.invokevirtual i, 3)) (hpd : parseMethodDescriptor y.desc = some ⟨ps, ret'⟩) (hlen : argsL.length = ps.length) (hst : st = argsL.reverse ++ .ref a :: rest)
    (hls : ls.size = maxL) (hy : y.cls ≠ "java/lang/invoke/MethodHandle" ∧ y.cls ≠ "java/lang/invoke/VarHandle") (hW : (rest.map fun v => v.category).sum = W) (hfr : rm.frames + 1 ≤ R.frames) (hlo : W + (maxL' + 11) + rm.locals ≤ R.locals) (hce : k + rm.cells ≤ R.cells) (hsl : n + rm.slots ≤ R.slots) (hq : pc + 3 = q)
    (r : ∀ v h', Q' v h' → Go p l e R s m args below meth c n0 Q h' (k + rm.cells) (n + rm.slots) (mkF m q ls (v.toList ++ rest))) : Go p l e R s m args below meth c n0 Q h k n (mkF m pc ls st) := fun T L S N eT => by
  subst hq hst
  obtain ⟨cell, hcell, hobj⟩ := E.cell
  have hK := backOf (len := 3) (W := W) (R := R) (p := p) (e := e) (below := below) (args := args) (Q := fun v h' L => Q' v h' ∧ Fr n0 L) hM K.2.1 w6 w5 hfr hlo
  obtain ⟨mk, methM, hnamed, hmethM, hstM, habM⟩ := Cond.instanceMethod_spec (mvT (args := args) K.2.1 w4)
  obtain ⟨methM', cM, hmethM', -, -, -, -, -, -, hsigM⟩ := Cond.code_spec hnamed (mvT (args := args) K.2.1 w6)
  cases hmethM.symm.trans hmethM'
  obtain ⟨c2, r2, m2, -, -, q3, -, kP, hkP, hkPi⟩ := Cond.selects_spec (mvT (args := args) K.2.1 w3)
  have hcl : m2.cls = mk.cls := by
    have e1 := findClass_of_methodNamed q3
    have e2 := findClass_of_methodNamed hnamed
    rw [hyf] at e1
    exact Option.some.inj (e1.symm.trans e2)
  rw [hcl] at hkP
  have hpriv : s.PrivateAt y := Cond.privateMethod_at (mvP K.2.1 w2 (args := #[]))
  have hselP : selectMethod e.platform s.vm cell.cls mk = .method mk := selectMethod_private hmethM (hpriv mk methM hnamed hmethM)
  obtain ⟨vm₁, X₁, hstep₁⟩ := S.invokevirtual K.1 K.2.2.1 (mvT K.2.1 w1) hnamed hmethM hstM hkP hkPi hy (a := a) (cell := cell) (by rw [eT]; exact hcell) hobj hselP hmethM habM hkP hkPi (g := mkF m pc ls (argsL.reverse ++ .ref a :: rest)) rfl (argsL := argsL) (rest := rest) (by rw [lenOf hpd hlen _ hsigM]) rfl (hb K.2.2.2.1 hd)
  obtain ⟨v, B, X, ⟨Lc, hQ, l1, y1, z1⟩, hsteps⟩ := hK m meth c ⟨T.setVm vm₁, L, k, n⟩ (mkF m pc ls rest) (.invokevirtual i) mk (.ref a :: argsL).toArray X₁ rfl (hls.trans K.2.2.2.2.1.symm) (hb K.2.2.2.1 hd) (by show 2 * 0 + _ ≤ _; rw [hW]; omega) (X₁.named hnamed) ⟨rfl, eT, hce, hsl⟩
  obtain ⟨T', L', k', n'⟩ := B
  dsimp only [Pt.U, Pt.locs, Pt.cells, Pt.slots] at X l1 y1 z1 hsteps hQ
  subst l1 y1 z1
  obtain ⟨s₂, o, hs, z⟩ := r v _ hQ.1 T' _ X (Fr.app N hQ.2) rfl
  exact ⟨s₂, o, hstep₁ _ fun acts => by rw [doInvoke_state]; exact hsteps.trans hs, z⟩
/-- invokeinterface -/
theorem go_callF (K : Cx p s m meth c Z own nm bytes maxL ret) {y yz : MethodName} {C : String} {bytes' : ByteArray} {maxL' : Nat} {ret' : Option FieldType} {rm : Room} {W i cnt : Nat} {Q' : Option Value → Heap → Prop} {ps : List FieldType} {a : Addr}
    (w1 : (Cond.methodLink own i y).before a0 Z = true) (w2 : (Cond.declares y).before a0 Z = true) (w3 : (Cond.selects C y yz).before a0 Z = true) (w4 : (Cond.instanceMethod yz).before a0 Z = true) (w5 : (Cond.initialized yz.cls).before a0 Z = true) (w6 : (Cond.code yz bytes' maxL' ret').before a0 Z = true) (w7 : (Cond.interfaceMethod y.cls y.cls y.name y.desc).before a0 Z = true) (w8 : (Cond.publicMethod yz).before a0 Z = true) (w9 : (Cond.unhidden C y.name y.desc).before a0 Z = true) (wa : (Cond.castable C y.cls).before a0 Z = true)
    (E : Exa Z h a C) (argsL rest : List Value) (hM : Met l yz bytes' maxL' ret' [] rm (.ref a :: argsL).toArray Z h n0 Q') (hd : decode bytes pc = .ok (.invokeinterface i cnt, 5)) (hpd : parseMethodDescriptor y.desc = some ⟨ps, ret'⟩) (hlen : argsL.length = ps.length) (hst : st = argsL.reverse ++ .ref a :: rest)
    (hls : ls.size = maxL) (hy : y.cls ≠ "java/lang/invoke/MethodHandle" ∧ y.cls ≠ "java/lang/invoke/VarHandle") (hW : (rest.map fun v => v.category).sum = W) (hfr : rm.frames + 1 ≤ R.frames) (hlo : W + (maxL' + 11) + rm.locals ≤ R.locals) (hce : k + rm.cells ≤ R.cells) (hsl : n + rm.slots ≤ R.slots) (hq : pc + 5 = q)
    (r : ∀ v h', Q' v h' → Go p l e R s m args below meth c n0 Q h' (k + rm.cells) (n + rm.slots) (mkF m q ls (v.toList ++ rest))) : Go p l e R s m args below meth c n0 Q h k n (mkF m pc ls st) := fun T L S N eT => by
  subst hq hst
  obtain ⟨cq, kq, qa, qb, qc⟩ := isOf K.2.1 eT E
  obtain ⟨v, _, B, -, X, ⟨Lc, hQ, l1, y1, z1⟩, stp⟩ := S.interfaceBack K.1 (xi := y) (y := yz) K.2.2.1 (mvT K.2.1 w1) (mvT K.2.1 w2) (mvT K.2.1 w7 (by simp [Cond.onTables, Cond.keepsFace, Cond.keeps, Cond.steady, Cond.faceAtom, hy.1, hy.2])) (mvT K.2.1 w3) (mvT K.2.1 w4) (mvT K.2.1 w8) (mvT K.2.1 w9) (mvT K.2.1 wa) hy (backOf (W := W) (Q := fun v h' L => Q' v h' ∧ Fr n0 L) hM K.2.1 w6 w5 hfr hlo) qa qb qc (g := mkF m pc ls (argsL.reverse ++ .ref a :: rest)) rfl (hls.trans K.2.2.2.2.1.symm) (Steps.refl _) (argsL := argsL) (rest := rest) (lenOf hpd hlen) rfl (by show 2 * 0 + _ ≤ _; rw [hW]; omega) (hb K.2.2.2.1 hd) (fun _ _ => ⟨rfl, eT, hce, hsl⟩)
  obtain ⟨T', L', k', n'⟩ := B
  dsimp only [Pt.U, Pt.locs, Pt.cells, Pt.slots] at X l1 y1 z1 stp hQ
  subst l1 y1 z1
  obtain ⟨s₂, o, hs, z⟩ := r v _ hQ.1 T' _ X (Fr.app N hQ.2) rfl
  exact ⟨s₂, o, stp.trans hs, z⟩

end Layer
theorem dbl_0 : decode prog_35_method_2_code 0 = .ok (.iload_n 0, 1) := by decide +kernel
theorem dbl_1 : decode prog_35_method_2_code 1 = .ok (.iconst 2, 1) := by decide +kernel
theorem dbl_2 : decode prog_35_method_2_code 2 = .ok (.if_icmp .ge 17, 3) := by decide +kernel
theorem dbl_19 : decode prog_35_method_2_code 19 = .ok (.iload_n 0, 1) := by decide +kernel
theorem dbl_20 : decode prog_35_method_2_code 20 = .ok (.newarray .long, 2) := by decide +kernel
theorem dbl_22 : decode prog_35_method_2_code 22 = .ok (.astore 5, 2) := by decide +kernel
theorem dbl_24 : decode prog_35_method_2_code 24 = .ok (.aload 5, 2) := by decide +kernel
theorem dbl_26 : decode prog_35_method_2_code 26 = .ok (.iconst 0, 1) := by decide +kernel
theorem dbl_27 : decode prog_35_method_2_code 27 = .ok (.lload_n 1, 1) := by decide +kernel
theorem dbl_28 : decode prog_35_method_2_code 28 = .ok (.lastore, 1) := by decide +kernel
theorem dbl_29 : decode prog_35_method_2_code 29 = .ok (.aload 5, 2) := by decide +kernel
theorem dbl_31 : decode prog_35_method_2_code 31 = .ok (.iconst 1, 1) := by decide +kernel
theorem dbl_32 : decode prog_35_method_2_code 32 = .ok (.lload_n 3, 1) := by decide +kernel
theorem dbl_33 : decode prog_35_method_2_code 33 = .ok (.lastore, 1) := by decide +kernel
theorem dbl_34 : decode prog_35_method_2_code 34 = .ok (.aload 5, 2) := by decide +kernel
theorem dbl_36 : decode prog_35_method_2_code 36 = .ok (.areturn, 1) := by decide +kernel
theorem drz_0 : decode method_4_code 0 = .ok (.aload_n 0, 1) := by decide +kernel
theorem drz_1 : decode method_4_code 1 = .ok (.iconst 2, 1) := by decide +kernel
theorem drz_2 : decode method_4_code 2 = .ok (.invokestatic 19, 3) := by decide +kernel
theorem drz_5 : decode method_4_code 5 = .ok (.ifCond .eq 130, 3) := by decide +kernel
theorem drz_8 : decode method_4_code 8 = .ok (.aload_n 0, 1) := by decide +kernel
theorem drz_9 : decode method_4_code 9 = .ok (.iconst 3, 1) := by decide +kernel
theorem drz_10 : decode method_4_code 10 = .ok (.invokestatic 19, 3) := by decide +kernel
theorem drz_13 : decode method_4_code 13 = .ok (.ifCond .eq 122, 3) := by decide +kernel
theorem drz_16 : decode method_4_code 16 = .ok (.aload_n 0, 1) := by decide +kernel
theorem drz_17 : decode method_4_code 17 = .ok (.iconst 4, 1) := by decide +kernel
theorem drz_18 : decode method_4_code 18 = .ok (.invokestatic 19, 3) := by decide +kernel
theorem drz_21 : decode method_4_code 21 = .ok (.ifCond .eq 114, 3) := by decide +kernel
theorem drz_24 : decode method_4_code 24 = .ok (.aload_n 0, 1) := by decide +kernel
theorem drz_25 : decode method_4_code 25 = .ok (.iconst 5, 1) := by decide +kernel
theorem drz_26 : decode method_4_code 26 = .ok (.invokestatic 19, 3) := by decide +kernel
theorem drz_29 : decode method_4_code 29 = .ok (.ifCond .eq 106, 3) := by decide +kernel
theorem drz_32 : decode method_4_code 32 = .ok (.aload_n 0, 1) := by decide +kernel
theorem drz_33 : decode method_4_code 33 = .ok (.bipush 6, 2) := by decide +kernel
theorem drz_35 : decode method_4_code 35 = .ok (.invokestatic 19, 3) := by decide +kernel
theorem drz_38 : decode method_4_code 38 = .ok (.ifCond .eq 97, 3) := by decide +kernel
theorem drz_41 : decode method_4_code 41 = .ok (.aload_n 0, 1) := by decide +kernel
theorem drz_42 : decode method_4_code 42 = .ok (.bipush 7, 2) := by decide +kernel
theorem drz_44 : decode method_4_code 44 = .ok (.invokestatic 19, 3) := by decide +kernel
theorem drz_47 : decode method_4_code 47 = .ok (.ifCond .eq 88, 3) := by decide +kernel
theorem drz_50 : decode method_4_code 50 = .ok (.aload_n 0, 1) := by decide +kernel
theorem drz_51 : decode method_4_code 51 = .ok (.bipush 8, 2) := by decide +kernel
theorem drz_53 : decode method_4_code 53 = .ok (.invokestatic 19, 3) := by decide +kernel
theorem drz_56 : decode method_4_code 56 = .ok (.ifCond .eq 79, 3) := by decide +kernel
theorem drz_59 : decode method_4_code 59 = .ok (.aload_n 0, 1) := by decide +kernel
theorem drz_60 : decode method_4_code 60 = .ok (.bipush 9, 2) := by decide +kernel
theorem drz_62 : decode method_4_code 62 = .ok (.invokestatic 19, 3) := by decide +kernel
theorem drz_65 : decode method_4_code 65 = .ok (.ifCond .eq 70, 3) := by decide +kernel
theorem drz_68 : decode method_4_code 68 = .ok (.aload_n 0, 1) := by decide +kernel
theorem drz_69 : decode method_4_code 69 = .ok (.bipush 10, 2) := by decide +kernel
theorem drz_71 : decode method_4_code 71 = .ok (.invokestatic 19, 3) := by decide +kernel
theorem drz_74 : decode method_4_code 74 = .ok (.ifCond .eq 61, 3) := by decide +kernel
theorem drz_77 : decode method_4_code 77 = .ok (.aload_n 0, 1) := by decide +kernel
theorem drz_78 : decode method_4_code 78 = .ok (.bipush 11, 2) := by decide +kernel
theorem drz_80 : decode method_4_code 80 = .ok (.invokestatic 19, 3) := by decide +kernel
theorem drz_83 : decode method_4_code 83 = .ok (.ifCond .eq 52, 3) := by decide +kernel
theorem drz_86 : decode method_4_code 86 = .ok (.aload_n 0, 1) := by decide +kernel
theorem drz_87 : decode method_4_code 87 = .ok (.bipush 12, 2) := by decide +kernel
theorem drz_89 : decode method_4_code 89 = .ok (.invokestatic 19, 3) := by decide +kernel
theorem drz_92 : decode method_4_code 92 = .ok (.ifCond .eq 43, 3) := by decide +kernel
theorem drz_95 : decode method_4_code 95 = .ok (.aload_n 0, 1) := by decide +kernel
theorem drz_96 : decode method_4_code 96 = .ok (.bipush 13, 2) := by decide +kernel
theorem drz_98 : decode method_4_code 98 = .ok (.invokestatic 19, 3) := by decide +kernel
theorem drz_101 : decode method_4_code 101 = .ok (.ifCond .eq 34, 3) := by decide +kernel
theorem drz_104 : decode method_4_code 104 = .ok (.aload_n 0, 1) := by decide +kernel
theorem drz_105 : decode method_4_code 105 = .ok (.bipush 14, 2) := by decide +kernel
theorem drz_107 : decode method_4_code 107 = .ok (.invokestatic 19, 3) := by decide +kernel
theorem drz_110 : decode method_4_code 110 = .ok (.ifCond .eq 25, 3) := by decide +kernel
theorem drz_113 : decode method_4_code 113 = .ok (.aload_n 0, 1) := by decide +kernel
theorem drz_114 : decode method_4_code 114 = .ok (.bipush 15, 2) := by decide +kernel
theorem drz_116 : decode method_4_code 116 = .ok (.invokestatic 19, 3) := by decide +kernel
theorem drz_119 : decode method_4_code 119 = .ok (.ifCond .eq 16, 3) := by decide +kernel
theorem drz_122 : decode method_4_code 122 = .ok (.aload_n 0, 1) := by decide +kernel
theorem drz_123 : decode method_4_code 123 = .ok (.bipush 16, 2) := by decide +kernel
theorem drz_125 : decode method_4_code 125 = .ok (.invokestatic 19, 3) := by decide +kernel
theorem drz_128 : decode method_4_code 128 = .ok (.ifCond .eq 7, 3) := by decide +kernel
theorem drz_131 : decode method_4_code 131 = .ok (.iconst 1, 1) := by decide +kernel
theorem drz_132 : decode method_4_code 132 = .ok (.goto 4, 3) := by decide +kernel
theorem drz_135 : decode method_4_code 135 = .ok (.iconst 0, 1) := by decide +kernel
theorem drz_136 : decode method_4_code 136 = .ok (.ireturn, 1) := by decide +kernel
theorem dza_0 : decode method_3_code 0 = .ok (.iload_n 1, 1) := by decide +kernel
theorem dza_1 : decode method_3_code 1 = .ok (.aload_n 0, 1) := by decide +kernel
theorem dza_2 : decode method_3_code 2 = .ok (.arraylength, 1) := by decide +kernel
theorem dza_3 : decode method_3_code 3 = .ok (.if_icmp .ge 11, 3) := by decide +kernel
theorem dza_6 : decode method_3_code 6 = .ok (.aload_n 0, 1) := by decide +kernel
theorem dza_7 : decode method_3_code 7 = .ok (.iload_n 1, 1) := by decide +kernel
theorem dza_8 : decode method_3_code 8 = .ok (.laload, 1) := by decide +kernel
theorem dza_9 : decode method_3_code 9 = .ok (.lconst 0, 1) := by decide +kernel
theorem dza_10 : decode method_3_code 10 = .ok (.lcmp, 1) := by decide +kernel
theorem dza_11 : decode method_3_code 11 = .ok (.ifCond .ne 7, 3) := by decide +kernel
theorem dza_14 : decode method_3_code 14 = .ok (.iconst 1, 1) := by decide +kernel
theorem dza_15 : decode method_3_code 15 = .ok (.goto 4, 3) := by decide +kernel
theorem dza_18 : decode method_3_code 18 = .ok (.iconst 0, 1) := by decide +kernel
theorem dza_19 : decode method_3_code 19 = .ok (.ireturn, 1) := by decide +kernel
def own_vs (num : Nat) (b1 b2 : Int64) : List Value := ((List.replicate num (.long 0)).set 0 (.long b1)).set 1 (.long b2)
theorem own_vs_len (num : Nat) (b1 b2 : Int64) : (own_vs num b1 b2).length = num := by simp [own_vs]
theorem own_vs_0 {num : Nat} {b1 b2 : Int64} (h : 2 ≤ num) : (own_vs num b1 b2)[0]? = some (.long b1) := by
  have h0 : 0 < num := by omega
  simp [own_vs, List.getElem?_set, h0]
theorem own_vs_1 {num : Nat} {b1 b2 : Int64} (h : 2 ≤ num) : (own_vs num b1 b2)[1]? = some (.long b2) := by
  have h0 : 1 < num := by omega
  simp [own_vs, List.getElem?_set, h0]
theorem own_vs_z {num : Nat} {b1 b2 : Int64} {k : Nat} (h : 2 ≤ k) (hk : k < (own_vs num b1 b2).length) : (own_vs num b1 b2)[k]? = some (.long 0) := by
  rw [own_vs_len] at hk
  have h1 : ¬ 1 = k := by omega
  have h0 : ¬ 0 = k := by omega
  simp [own_vs, List.getElem?_set, h0, h1, hk]
theorem own_ix {j : Int32} {num : Nat} (h0 : ¬ j < 0) (hn : num < 2 ^ 31) (h : j < num.toInt32) : j.toNatClampNeg < num := by
  rw [Int32.lt_iff_toInt_lt] at h h0
  have e0 : (0 : Int32).toInt = 0 := rfl
  have e1 : num.toInt32.toInt = (num : Int) := Int32.toInt_ofNat_of_lt hn
  rw [Int32.toNatClampNeg]; omega
theorem own_players (pp : Int32) : 2 ≤ ((2 : Int32) + (pp &&& 15)).toInt ∧ ((2 : Int32) + (pp &&& 15)).toInt ≤ 17 := by
  have h1 := c_and pp 15 (by decide)
  have h2 := c_iadd 2 (pp &&& 15)
  have h3 := rng32 ((2 : Int32) + (pp &&& 15))
  have e1 : (15 : Int32).toInt = 15 := rfl
  have e2 : (2 : Int32).toInt = 2 := rfl
  omega
theorem own_nn {z : Int32} (h : ¬ z < 2) : ¬ z < 0 := by
  intro q; apply h; rw [Int32.lt_iff_toInt_lt] at q ⊢
  have e0 : (0 : Int32).toInt = 0 := rfl
  have e2 : (2 : Int32).toInt = 2 := rfl
  omega
set_option maxRecDepth 65536 in
set_option maxHeartbeats 40000000 in
theorem bl_met (l : Launch) (Z : State) (a0 : Array Value) (hw : ∀ d ∈ tables_1, d.before a0 Z = true) (z : Int32) (b1 b2 : Int64) (num : Nat) (h : Heap) (n0 : Nat) (hz : ¬ z < 2) (hzn : z.toNatClampNeg = num) (hnum2 : 2 ≤ num) (hnum : num ≤ 17) (hn0 : n0 ≤ h.size) :
    Met l (⟨"com/example/riverstack/riverstack/holdem/NoLimitHand", "blinds", "(IJJ)[J"⟩ : MethodName) prog_35_method_2_code 6 (some (.array .long)) [] ({ frames := 0, cells := 1, slots := 17, locals := 0 } : Room) #[(.int z), (.long b1), (.long b2)] Z h n0 (fun v h' => ∃ a kl, v = some (.ref a) ∧ Ary Z h' a kl .long (own_vs num b1 b2)) := by
  refine Met.of (plainFor_of_name (by first | (simp [plainName, overriddenIn]; done) | decide +kernel)) ?_
  intro p e s m below meth c K
  refine Go.entry (ls := #[.val (.int z), .val (.long b1), .second, .val (.long b2), .second, .unset]) rfl ?_
  refine go_iloadN (q := 1) K dbl_0 rfl rfl ?_
  refine go_iconst (q := 2) K dbl_1 (2 : Int32) rfl rfl ?_
  refine go_icmp (q := 19) (q' := 5) K dbl_2 (by decide) rfl rfl (fun _ => ?_) (fun hn => cN_no2 hn (show ¬ z < (2 : Int32) from hz))
  refine go_iloadN (q := 20) K dbl_19 rfl rfl ?_
  refine go_newarray (q := 22) (num := num) (cap := 17) K (wd hw 4 rfl) dbl_20 (own_nn hz) hzn hnum (by decide) (by decide) (by decide) rfl ?_
  intro h1 a1 kl ga1 Eh1 F1
  refine go_astore (q := 24) K dbl_22 #[.val (.int z), .val (.long b1), .second, .val (.long b2), .second, .val (.ref a1)] rfl rfl rfl ?_
  refine go_aload (q := 26) K dbl_24 rfl rfl rfl ?_
  refine go_iconst (q := 27) K dbl_26 (0 : Int32) rfl rfl ?_
  refine go_lloadN (q := 28) K dbl_27 rfl rfl ?_
  refine go_lastore (q := 29) K F1 (by decide) (by show 0 < (List.replicate num _).length; simp; omega) (by rw [ga1]; exact hn0) dbl_28 rfl ?_
  intro h2 Wh2 F2
  refine go_aload (q := 31) K dbl_29 rfl rfl rfl ?_
  refine go_iconst (q := 32) K dbl_31 (1 : Int32) rfl rfl ?_
  refine go_lloadN (q := 33) K dbl_32 rfl rfl ?_
  refine go_lastore (q := 34) K F2 (by decide) (by show 1 < (List.set (List.replicate num _) _ _).length; simp; omega) (by rw [ga1]; exact hn0) dbl_33 rfl ?_
  intro h3 Wh3 F3
  refine go_aload (q := 36) K dbl_34 rfl rfl rfl ?_
  refine go_aret K dbl_36 rfl rfl rfl rfl (by decide) (by decide) ?_
  exact ⟨a1, kl, rfl, F3⟩
set_option maxRecDepth 65536 in
set_option maxHeartbeats 40000000 in
theorem za_met (l : Launch) (Z : State) (a0 : Array Value) (hw : ∀ d ∈ tables_1, d.before a0 Z = true) (a : Addr) (kl : ClassId) (vs : List Value) (j : Int32) (h : Heap) (n0 : Nat) (F : Ary Z h a kl .long vs) (hj0 : ¬ j < 0) (hjv : j.toNatClampNeg < vs.length → vs[j.toNatClampNeg]? = some (.long 0)) :
    Met l (⟨"com/example/riverstack/riverstack/holdem/NoLimitHandBlindsPinLaw", "zeroAt", "([JI)Z"⟩ : MethodName) method_3_code 2 (some .boolean) [] ({ frames := 0, cells := 0, slots := 0, locals := 0 } : Room) #[(.ref a), (.int j)] Z h n0 (fun v h' => v = some (.int 1) ∧ h = h') := by
  refine Met.of (plainFor_of_name (by first | (simp [plainName, overriddenIn]; done) | decide +kernel)) ?_
  intro p e s m below meth c K
  refine Go.entry (ls := #[.val (.ref a), .val (.int j)]) rfl ?_
  have hlen : vs.length < 2 ^ 31 := by obtain ⟨_, _, _, _, r⟩ := F; exact r
  refine go_iloadN (q := 1) K dza_0 rfl rfl ?_
  refine go_aloadN (q := 2) K dza_1 rfl rfl rfl ?_
  refine go_arraylength (q := 3) (z := (vs.length.toInt32)) K F rfl dza_2 rfl ?_
  refine go_icmp (q := 14) (q' := 6) K dza_3 (by decide) rfl rfl (fun hc3 => ?_) (fun hc3 => ?_)
  · have hc3 : ¬ j < (vs.length.toInt32) := hc3
    refine go_iconst (q := 15) K dza_14 (1 : Int32) rfl rfl ?_
    refine go_goto (q := 19) K dza_15 (by decide) rfl ?_
    refine go_iret K dza_19 rfl (Or.inr (Or.inl rfl)) rfl (by decide) (by decide) ?_
    exact ⟨rfl, rfl⟩
  · have hc3 : j < (vs.length.toInt32) := hc3
    refine go_aloadN (q := 7) K dza_6 rfl rfl rfl ?_
    refine go_iloadN (q := 8) K dza_7 rfl rfl ?_
    refine go_laload (q := 9) K F hj0 (hjv (own_ix hj0 hlen hc3)) dza_8 rfl ?_
    refine go_lconst (q := 10) K dza_9 (0 : Int64) rfl rfl ?_
    refine go_lcmp (q := 11) K dza_10 rfl ?_
    refine go_ifL (q := 18) (q' := 14) K dza_11 (by decide) rfl rfl (fun hn => cLN_no hn (show (0 : Int64) = (0 : Int64) from rfl)) (fun _ => ?_)
    refine go_iconst (q := 15) K dza_14 (1 : Int32) rfl rfl ?_
    refine go_goto (q := 19) K dza_15 (by decide) rfl ?_
    refine go_iret K dza_19 rfl (Or.inr (Or.inl rfl)) rfl (by decide) (by decide) ?_
    exact ⟨rfl, rfl⟩
set_option maxRecDepth 65536 in
set_option maxHeartbeats 40000000 in
theorem rz_met (l : Launch) (Z : State) (a0 : Array Value) (hw : ∀ d ∈ tables_1, d.before a0 Z = true) (a : Addr) (kl : ClassId) (num : Nat) (b1 b2 : Int64) (h : Heap) (n0 : Nat) (F : Ary Z h a kl .long (own_vs num b1 b2)) :
    Met l (⟨"com/example/riverstack/riverstack/holdem/NoLimitHandBlindsPinLaw", "restZero", "([J)Z"⟩ : MethodName) method_4_code 1 (some .boolean) [] ({ frames := 1, cells := 0, slots := 0, locals := 14 } : Room) #[(.ref a)] Z h n0 (fun v h' => v = some (.int 1) ∧ h = h') := by
  refine Met.of (plainFor_of_name (by first | (simp [plainName, overriddenIn]; done) | decide +kernel)) ?_
  intro p e s m below meth c K
  refine Go.entry (ls := #[.val (.ref a)]) rfl ?_
  refine go_aloadN (q := 1) K drz_0 rfl rfl rfl ?_
  refine go_iconst (q := 2) K drz_1 (2 : Int32) rfl rfl ?_
  refine go_callS (q := 5) K (wd hw 9 rfl) (wd hw 10 rfl) (wd hw 7 rfl) (wd hw 11 rfl) [(.ref a), (.int (2 : Int32))] [] (za_met l Z a0 hw a kl (own_vs num b1 b2) (2 : Int32) h n0 F (by decide) (own_vs_z (by decide))) drz_2 (ps := [(.array .long), .int]) (by decide +kernel) rfl rfl rfl (by decide) rfl (by decide) (by decide) (by decide) (by decide) rfl ?_
  rintro _ _ ⟨rfl, rfl⟩
  show Go p l e _ s m _ below meth c n0 _ h 0 0 (mkF m 5 #[.val (.ref a)] [(.int (1 : Int32))])
  refine go_if0 (q := 135) (q' := 8) K drz_5 (by decide) rfl rfl (fun hn => cN_no hn (show ¬ (1 : Int32) = (0 : Int32) from (by decide))) (fun _ => ?_)
  refine go_aloadN (q := 9) K drz_8 rfl rfl rfl ?_
  refine go_iconst (q := 10) K drz_9 (3 : Int32) rfl rfl ?_
  refine go_callS (q := 13) K (wd hw 9 rfl) (wd hw 10 rfl) (wd hw 7 rfl) (wd hw 11 rfl) [(.ref a), (.int (3 : Int32))] [] (za_met l Z a0 hw a kl (own_vs num b1 b2) (3 : Int32) h n0 F (by decide) (own_vs_z (by decide))) drz_10 (ps := [(.array .long), .int]) (by decide +kernel) rfl rfl rfl (by decide) rfl (by decide) (by decide) (by decide) (by decide) rfl ?_
  rintro _ _ ⟨rfl, rfl⟩
  show Go p l e _ s m _ below meth c n0 _ h 0 0 (mkF m 13 #[.val (.ref a)] [(.int (1 : Int32))])
  refine go_if0 (q := 135) (q' := 16) K drz_13 (by decide) rfl rfl (fun hn => cN_no hn (show ¬ (1 : Int32) = (0 : Int32) from (by decide))) (fun _ => ?_)
  refine go_aloadN (q := 17) K drz_16 rfl rfl rfl ?_
  refine go_iconst (q := 18) K drz_17 (4 : Int32) rfl rfl ?_
  refine go_callS (q := 21) K (wd hw 9 rfl) (wd hw 10 rfl) (wd hw 7 rfl) (wd hw 11 rfl) [(.ref a), (.int (4 : Int32))] [] (za_met l Z a0 hw a kl (own_vs num b1 b2) (4 : Int32) h n0 F (by decide) (own_vs_z (by decide))) drz_18 (ps := [(.array .long), .int]) (by decide +kernel) rfl rfl rfl (by decide) rfl (by decide) (by decide) (by decide) (by decide) rfl ?_
  rintro _ _ ⟨rfl, rfl⟩
  show Go p l e _ s m _ below meth c n0 _ h 0 0 (mkF m 21 #[.val (.ref a)] [(.int (1 : Int32))])
  refine go_if0 (q := 135) (q' := 24) K drz_21 (by decide) rfl rfl (fun hn => cN_no hn (show ¬ (1 : Int32) = (0 : Int32) from (by decide))) (fun _ => ?_)
  refine go_aloadN (q := 25) K drz_24 rfl rfl rfl ?_
  refine go_iconst (q := 26) K drz_25 (5 : Int32) rfl rfl ?_
  refine go_callS (q := 29) K (wd hw 9 rfl) (wd hw 10 rfl) (wd hw 7 rfl) (wd hw 11 rfl) [(.ref a), (.int (5 : Int32))] [] (za_met l Z a0 hw a kl (own_vs num b1 b2) (5 : Int32) h n0 F (by decide) (own_vs_z (by decide))) drz_26 (ps := [(.array .long), .int]) (by decide +kernel) rfl rfl rfl (by decide) rfl (by decide) (by decide) (by decide) (by decide) rfl ?_
  rintro _ _ ⟨rfl, rfl⟩
  show Go p l e _ s m _ below meth c n0 _ h 0 0 (mkF m 29 #[.val (.ref a)] [(.int (1 : Int32))])
  refine go_if0 (q := 135) (q' := 32) K drz_29 (by decide) rfl rfl (fun hn => cN_no hn (show ¬ (1 : Int32) = (0 : Int32) from (by decide))) (fun _ => ?_)
  refine go_aloadN (q := 33) K drz_32 rfl rfl rfl ?_
  refine go_bipush (q := 35) K drz_33 (6 : Int32) rfl rfl ?_
  refine go_callS (q := 38) K (wd hw 9 rfl) (wd hw 10 rfl) (wd hw 7 rfl) (wd hw 11 rfl) [(.ref a), (.int (6 : Int32))] [] (za_met l Z a0 hw a kl (own_vs num b1 b2) (6 : Int32) h n0 F (by decide) (own_vs_z (by decide))) drz_35 (ps := [(.array .long), .int]) (by decide +kernel) rfl rfl rfl (by decide) rfl (by decide) (by decide) (by decide) (by decide) rfl ?_
  rintro _ _ ⟨rfl, rfl⟩
  show Go p l e _ s m _ below meth c n0 _ h 0 0 (mkF m 38 #[.val (.ref a)] [(.int (1 : Int32))])
  refine go_if0 (q := 135) (q' := 41) K drz_38 (by decide) rfl rfl (fun hn => cN_no hn (show ¬ (1 : Int32) = (0 : Int32) from (by decide))) (fun _ => ?_)
  refine go_aloadN (q := 42) K drz_41 rfl rfl rfl ?_
  refine go_bipush (q := 44) K drz_42 (7 : Int32) rfl rfl ?_
  refine go_callS (q := 47) K (wd hw 9 rfl) (wd hw 10 rfl) (wd hw 7 rfl) (wd hw 11 rfl) [(.ref a), (.int (7 : Int32))] [] (za_met l Z a0 hw a kl (own_vs num b1 b2) (7 : Int32) h n0 F (by decide) (own_vs_z (by decide))) drz_44 (ps := [(.array .long), .int]) (by decide +kernel) rfl rfl rfl (by decide) rfl (by decide) (by decide) (by decide) (by decide) rfl ?_
  rintro _ _ ⟨rfl, rfl⟩
  show Go p l e _ s m _ below meth c n0 _ h 0 0 (mkF m 47 #[.val (.ref a)] [(.int (1 : Int32))])
  refine go_if0 (q := 135) (q' := 50) K drz_47 (by decide) rfl rfl (fun hn => cN_no hn (show ¬ (1 : Int32) = (0 : Int32) from (by decide))) (fun _ => ?_)
  refine go_aloadN (q := 51) K drz_50 rfl rfl rfl ?_
  refine go_bipush (q := 53) K drz_51 (8 : Int32) rfl rfl ?_
  refine go_callS (q := 56) K (wd hw 9 rfl) (wd hw 10 rfl) (wd hw 7 rfl) (wd hw 11 rfl) [(.ref a), (.int (8 : Int32))] [] (za_met l Z a0 hw a kl (own_vs num b1 b2) (8 : Int32) h n0 F (by decide) (own_vs_z (by decide))) drz_53 (ps := [(.array .long), .int]) (by decide +kernel) rfl rfl rfl (by decide) rfl (by decide) (by decide) (by decide) (by decide) rfl ?_
  rintro _ _ ⟨rfl, rfl⟩
  show Go p l e _ s m _ below meth c n0 _ h 0 0 (mkF m 56 #[.val (.ref a)] [(.int (1 : Int32))])
  refine go_if0 (q := 135) (q' := 59) K drz_56 (by decide) rfl rfl (fun hn => cN_no hn (show ¬ (1 : Int32) = (0 : Int32) from (by decide))) (fun _ => ?_)
  refine go_aloadN (q := 60) K drz_59 rfl rfl rfl ?_
  refine go_bipush (q := 62) K drz_60 (9 : Int32) rfl rfl ?_
  refine go_callS (q := 65) K (wd hw 9 rfl) (wd hw 10 rfl) (wd hw 7 rfl) (wd hw 11 rfl) [(.ref a), (.int (9 : Int32))] [] (za_met l Z a0 hw a kl (own_vs num b1 b2) (9 : Int32) h n0 F (by decide) (own_vs_z (by decide))) drz_62 (ps := [(.array .long), .int]) (by decide +kernel) rfl rfl rfl (by decide) rfl (by decide) (by decide) (by decide) (by decide) rfl ?_
  rintro _ _ ⟨rfl, rfl⟩
  show Go p l e _ s m _ below meth c n0 _ h 0 0 (mkF m 65 #[.val (.ref a)] [(.int (1 : Int32))])
  refine go_if0 (q := 135) (q' := 68) K drz_65 (by decide) rfl rfl (fun hn => cN_no hn (show ¬ (1 : Int32) = (0 : Int32) from (by decide))) (fun _ => ?_)
  refine go_aloadN (q := 69) K drz_68 rfl rfl rfl ?_
  refine go_bipush (q := 71) K drz_69 (10 : Int32) rfl rfl ?_
  refine go_callS (q := 74) K (wd hw 9 rfl) (wd hw 10 rfl) (wd hw 7 rfl) (wd hw 11 rfl) [(.ref a), (.int (10 : Int32))] [] (za_met l Z a0 hw a kl (own_vs num b1 b2) (10 : Int32) h n0 F (by decide) (own_vs_z (by decide))) drz_71 (ps := [(.array .long), .int]) (by decide +kernel) rfl rfl rfl (by decide) rfl (by decide) (by decide) (by decide) (by decide) rfl ?_
  rintro _ _ ⟨rfl, rfl⟩
  show Go p l e _ s m _ below meth c n0 _ h 0 0 (mkF m 74 #[.val (.ref a)] [(.int (1 : Int32))])
  refine go_if0 (q := 135) (q' := 77) K drz_74 (by decide) rfl rfl (fun hn => cN_no hn (show ¬ (1 : Int32) = (0 : Int32) from (by decide))) (fun _ => ?_)
  refine go_aloadN (q := 78) K drz_77 rfl rfl rfl ?_
  refine go_bipush (q := 80) K drz_78 (11 : Int32) rfl rfl ?_
  refine go_callS (q := 83) K (wd hw 9 rfl) (wd hw 10 rfl) (wd hw 7 rfl) (wd hw 11 rfl) [(.ref a), (.int (11 : Int32))] [] (za_met l Z a0 hw a kl (own_vs num b1 b2) (11 : Int32) h n0 F (by decide) (own_vs_z (by decide))) drz_80 (ps := [(.array .long), .int]) (by decide +kernel) rfl rfl rfl (by decide) rfl (by decide) (by decide) (by decide) (by decide) rfl ?_
  rintro _ _ ⟨rfl, rfl⟩
  show Go p l e _ s m _ below meth c n0 _ h 0 0 (mkF m 83 #[.val (.ref a)] [(.int (1 : Int32))])
  refine go_if0 (q := 135) (q' := 86) K drz_83 (by decide) rfl rfl (fun hn => cN_no hn (show ¬ (1 : Int32) = (0 : Int32) from (by decide))) (fun _ => ?_)
  refine go_aloadN (q := 87) K drz_86 rfl rfl rfl ?_
  refine go_bipush (q := 89) K drz_87 (12 : Int32) rfl rfl ?_
  refine go_callS (q := 92) K (wd hw 9 rfl) (wd hw 10 rfl) (wd hw 7 rfl) (wd hw 11 rfl) [(.ref a), (.int (12 : Int32))] [] (za_met l Z a0 hw a kl (own_vs num b1 b2) (12 : Int32) h n0 F (by decide) (own_vs_z (by decide))) drz_89 (ps := [(.array .long), .int]) (by decide +kernel) rfl rfl rfl (by decide) rfl (by decide) (by decide) (by decide) (by decide) rfl ?_
  rintro _ _ ⟨rfl, rfl⟩
  show Go p l e _ s m _ below meth c n0 _ h 0 0 (mkF m 92 #[.val (.ref a)] [(.int (1 : Int32))])
  refine go_if0 (q := 135) (q' := 95) K drz_92 (by decide) rfl rfl (fun hn => cN_no hn (show ¬ (1 : Int32) = (0 : Int32) from (by decide))) (fun _ => ?_)
  refine go_aloadN (q := 96) K drz_95 rfl rfl rfl ?_
  refine go_bipush (q := 98) K drz_96 (13 : Int32) rfl rfl ?_
  refine go_callS (q := 101) K (wd hw 9 rfl) (wd hw 10 rfl) (wd hw 7 rfl) (wd hw 11 rfl) [(.ref a), (.int (13 : Int32))] [] (za_met l Z a0 hw a kl (own_vs num b1 b2) (13 : Int32) h n0 F (by decide) (own_vs_z (by decide))) drz_98 (ps := [(.array .long), .int]) (by decide +kernel) rfl rfl rfl (by decide) rfl (by decide) (by decide) (by decide) (by decide) rfl ?_
  rintro _ _ ⟨rfl, rfl⟩
  show Go p l e _ s m _ below meth c n0 _ h 0 0 (mkF m 101 #[.val (.ref a)] [(.int (1 : Int32))])
  refine go_if0 (q := 135) (q' := 104) K drz_101 (by decide) rfl rfl (fun hn => cN_no hn (show ¬ (1 : Int32) = (0 : Int32) from (by decide))) (fun _ => ?_)
  refine go_aloadN (q := 105) K drz_104 rfl rfl rfl ?_
  refine go_bipush (q := 107) K drz_105 (14 : Int32) rfl rfl ?_
  refine go_callS (q := 110) K (wd hw 9 rfl) (wd hw 10 rfl) (wd hw 7 rfl) (wd hw 11 rfl) [(.ref a), (.int (14 : Int32))] [] (za_met l Z a0 hw a kl (own_vs num b1 b2) (14 : Int32) h n0 F (by decide) (own_vs_z (by decide))) drz_107 (ps := [(.array .long), .int]) (by decide +kernel) rfl rfl rfl (by decide) rfl (by decide) (by decide) (by decide) (by decide) rfl ?_
  rintro _ _ ⟨rfl, rfl⟩
  show Go p l e _ s m _ below meth c n0 _ h 0 0 (mkF m 110 #[.val (.ref a)] [(.int (1 : Int32))])
  refine go_if0 (q := 135) (q' := 113) K drz_110 (by decide) rfl rfl (fun hn => cN_no hn (show ¬ (1 : Int32) = (0 : Int32) from (by decide))) (fun _ => ?_)
  refine go_aloadN (q := 114) K drz_113 rfl rfl rfl ?_
  refine go_bipush (q := 116) K drz_114 (15 : Int32) rfl rfl ?_
  refine go_callS (q := 119) K (wd hw 9 rfl) (wd hw 10 rfl) (wd hw 7 rfl) (wd hw 11 rfl) [(.ref a), (.int (15 : Int32))] [] (za_met l Z a0 hw a kl (own_vs num b1 b2) (15 : Int32) h n0 F (by decide) (own_vs_z (by decide))) drz_116 (ps := [(.array .long), .int]) (by decide +kernel) rfl rfl rfl (by decide) rfl (by decide) (by decide) (by decide) (by decide) rfl ?_
  rintro _ _ ⟨rfl, rfl⟩
  show Go p l e _ s m _ below meth c n0 _ h 0 0 (mkF m 119 #[.val (.ref a)] [(.int (1 : Int32))])
  refine go_if0 (q := 135) (q' := 122) K drz_119 (by decide) rfl rfl (fun hn => cN_no hn (show ¬ (1 : Int32) = (0 : Int32) from (by decide))) (fun _ => ?_)
  refine go_aloadN (q := 123) K drz_122 rfl rfl rfl ?_
  refine go_bipush (q := 125) K drz_123 (16 : Int32) rfl rfl ?_
  refine go_callS (q := 128) K (wd hw 9 rfl) (wd hw 10 rfl) (wd hw 7 rfl) (wd hw 11 rfl) [(.ref a), (.int (16 : Int32))] [] (za_met l Z a0 hw a kl (own_vs num b1 b2) (16 : Int32) h n0 F (by decide) (own_vs_z (by decide))) drz_125 (ps := [(.array .long), .int]) (by decide +kernel) rfl rfl rfl (by decide) rfl (by decide) (by decide) (by decide) (by decide) rfl ?_
  rintro _ _ ⟨rfl, rfl⟩
  show Go p l e _ s m _ below meth c n0 _ h 0 0 (mkF m 128 #[.val (.ref a)] [(.int (1 : Int32))])
  refine go_if0 (q := 135) (q' := 131) K drz_128 (by decide) rfl rfl (fun hn => cN_no hn (show ¬ (1 : Int32) = (0 : Int32) from (by decide))) (fun _ => ?_)
  refine go_iconst (q := 132) K drz_131 (1 : Int32) rfl rfl ?_
  refine go_goto (q := 136) K drz_132 (by decide) rfl ?_
  refine go_iret K drz_136 rfl (Or.inr (Or.inl rfl)) rfl (by decide) (by decide) ?_
  exact ⟨rfl, rfl⟩
set_option maxRecDepth 65536 in
set_option maxHeartbeats 40000000 in
theorem law_met (l : Launch) (Z : State) (a0 : Array Value) (hw : ∀ d ∈ tables_1, d.before a0 Z = true) (pp : Int32) (b1 b2 : Int64) (h : Heap) (n0 : Nat) (hn0 : n0 ≤ h.size) :
    Met l x code maxLocals ret tables_1 room_1 #[(.int pp), (.long b1), (.long b2)] Z h n0 (fun v _ => v = some (.int 1)) := by
  refine Met.of (plainFor_of_name (by first | (simp [plainName, overriddenIn]; done) | decide +kernel)) ?_
  intro p e s m below meth c K
  refine Go.entry (ls := #[.val (.int pp), .val (.long b1), .second, .val (.long b2), .second, .unset, .unset]) rfl ?_
  refine go_iconst (q := 1) K at_0 (2 : Int32) rfl rfl ?_
  refine go_iloadN (q := 2) K at_1 rfl rfl ?_
  refine go_bipush (q := 4) K at_2 (15 : Int32) rfl rfl ?_
  refine go_iand (q := 5) K at_4 rfl ?_
  refine go_iadd (q := 6) K at_5 rfl ?_
  refine go_nameI (fun z hz => ?_)
  have hz' : 2 ≤ z.toInt ∧ z.toInt ≤ 17 := by rw [hz]; exact own_players pp
  have e2 : (2 : Int32).toInt = 2 := rfl
  have hz2 : ¬ z < 2 := by rw [Int32.lt_iff_toInt_lt]; omega
  obtain ⟨num, hzn⟩ : ∃ num, z.toNatClampNeg = num := ⟨_, rfl⟩
  have hnn : (num : Int) = z.toInt := by rw [← hzn, Int32.toNatClampNeg]; omega
  have hbk := (back32 (own_nn hz2)).1
  refine go_istore (q := 8) K at_6 #[.val (.int pp), .val (.long b1), .second, .val (.long b2), .second, .val (.int z), .unset] rfl rfl ?_
  refine go_iload (q := 10) K at_8 rfl rfl ?_
  refine go_lloadN (q := 11) K at_10 rfl rfl ?_
  refine go_lloadN (q := 12) K at_11 rfl rfl ?_
  refine go_callS (q := 15) K (wd hw 0 rfl) (wd hw 1 rfl) (wd hw 2 rfl) (wd hw 3 rfl) [(.int z), (.long b1), (.long b2)] [] (bl_met l Z a0 hw z b1 b2 num h n0 hz2 hzn (by omega) (by omega) hn0) at_12 (ps := [.int, .long, .long]) (by decide +kernel) rfl rfl rfl (by decide) rfl (by decide) (by decide) (by decide) (by decide) rfl ?_
  rintro _ h1 ⟨ar, kl, rfl, F⟩
  show Go p l e _ s m _ below meth c n0 _ h1 1 17 (mkF m 15 #[.val (.int pp), .val (.long b1), .second, .val (.long b2), .second, .val (.int z), .unset] [(.ref ar)])
  refine go_astore (q := 17) K at_15 #[.val (.int pp), .val (.long b1), .second, .val (.long b2), .second, .val (.int z), .val (.ref ar)] rfl rfl rfl ?_
  refine go_aload (q := 19) K at_17 rfl rfl rfl ?_
  refine go_ifnullN (q := 22) K at_19 rfl ?_
  refine go_aload (q := 24) K at_22 rfl rfl rfl ?_
  refine go_arraylength (q := 25) (z := z) K F (by rw [own_vs_len, ← hzn]; exact hbk) at_24 rfl ?_
  refine go_iload (q := 27) K at_25 rfl rfl ?_
  refine go_icmp (q := 32) (q' := 30) K at_27 (by decide) rfl rfl (fun _ => ?_) (fun hn => cN_no2 hn (show z = z from rfl))
  refine go_aload (q := 34) K at_32 rfl rfl rfl ?_
  refine go_iconst (q := 35) K at_34 (0 : Int32) rfl rfl ?_
  refine go_laload (q := 36) K F (by decide) (own_vs_0 (by omega)) at_35 rfl ?_
  refine go_lloadN (q := 37) K at_36 rfl rfl ?_
  refine go_lcmp (q := 38) K at_37 rfl ?_
  refine go_ifL (q := 50) (q' := 41) K at_38 (by decide) rfl rfl (fun hn => cLN_no hn (show b1 = b1 from rfl)) (fun _ => ?_)
  refine go_aload (q := 43) K at_41 rfl rfl rfl ?_
  refine go_iconst (q := 44) K at_43 (1 : Int32) rfl rfl ?_
  refine go_laload (q := 45) K F (by decide) (own_vs_1 (by omega)) at_44 rfl ?_
  refine go_lloadN (q := 46) K at_45 rfl rfl ?_
  refine go_lcmp (q := 47) K at_46 rfl ?_
  refine go_ifL (q := 52) (q' := 50) K at_47 (by decide) rfl rfl (fun _ => ?_) (fun hn => cLN_no2 hn (show b2 = b2 from rfl))
  refine go_aload (q := 54) K at_52 rfl rfl rfl ?_
  refine go_callS (q := 57) K (wd hw 5 rfl) (wd hw 6 rfl) (wd hw 7 rfl) (wd hw 8 rfl) [(.ref ar)] [] (rz_met l Z a0 hw ar kl num b1 b2 _ n0 F) at_54 (ps := [(.array .long)]) (by decide +kernel) rfl rfl rfl (by decide) rfl (by decide) (by decide) (by decide) (by decide) rfl ?_
  rintro _ _ ⟨rfl, rfl⟩
  show Go p l e _ s m _ below meth c n0 _ h1 1 17 (mkF m 57 #[.val (.int pp), .val (.long b1), .second, .val (.long b2), .second, .val (.int z), .val (.ref ar)] [(.int (1 : Int32))])
  refine go_iret K at_57 rfl (Or.inr (Or.inl rfl)) rfl (by decide) (by decide) ?_
  exact rfl
set_option maxRecDepth 65536 in
set_option maxHeartbeats 40000000 in
theorem comes_1 {Post : Tables → Env → Array Value → State → Outcome → State → Prop} (hpost : ∀ tb e args s v u, (limb_1_1.after args s (.returned v) u = true ∧ limb_1_2.after args s (.returned v) u = true ∧ True) → FrameEnd s (.returned v) u (Jvm.fieldLocs frame_1_writes args s ++ Jvm.arrayLocs frame_1_arrays args s ++ Jvm.staticLocs frame_1_statics s) 16 128 → Post tb e args s (.returned v) u) :
    ArmFor flags0 classFile x code maxLocals ret World_1 tables_1 room_1 Calls_1 rest_1 Pre_1 Post := by
  intro l hfl _ _ p e ha hc hk s m args below hf hA hF happ hP
  obtain ⟨hcalls, hrest, hpre⟩ := hP
  obtain ⟨-, -, -, hnamed, -, -, -, hat⟩ := (Spec.applies_iff hf).mp happ
  obtain ⟨hg, hn⟩ := and_e (Cond.before_iff.mp (show (Jvm.Cond.and given_1 narrow_1).before args s = true from hpre))
  obtain ⟨hcnt, hg0⟩ := and_e hg
  obtain ⟨ha0, hg1⟩ := and_e hg0
  obtain ⟨ha1, hg2⟩ := and_e hg1
  have ha2 := hg2
  obtain ⟨w0, w1, w2, rfl⟩ : ∃ w0 w1 w2 : Value, args = #[w0, w1, w2] := by
    have hs : args.size = 3 := by simpa [Cond.value, given_1] using hcnt
    obtain ⟨L⟩ := args
    match L, hs with
    | [w0, w1, w2], _ => exact ⟨w0, w1, w2, rfl⟩
  have hw := fun d (hd : d ∈ tables_1) => atoms_spec (ws := Jvm.Cond.code x code maxLocals ret :: tables_1) hat d (List.mem_cons_of_mem _ hd)
  have hfit : Fit s := fun {y c} hc i hi => by
    obtain ⟨ha, rfl⟩ := Array.getElem?_eq_some_iff.mp hc
    have q := List.all_eq_true.mp ((Array.all_eq_true_iff_forall_mem.mp hF) _ (Array.getElem_mem ha)) i (List.mem_range.mpr hi)
    simpa [Array.getElem?_eq_getElem hi] using q
  obtain ⟨i0, ea0⟩ := is_v ha0
  obtain rfl : w0 = (.int i0) := Option.some.inj ea0
  obtain ⟨i1, ea1⟩ := isL_v ha1
  obtain rfl : w1 = (.long i1) := Option.some.inj ea1
  obtain ⟨i2, ea2⟩ := isL_v ha2
  obtain rfl : w2 = (.long i2) := Option.some.inj ea2
  obtain ⟨n, o, h1, h2, h3, _, L, rfl, ⟨rfl, N⟩, hq⟩ := law_met l s _ hw i0 i1 i2 s.heap s.heap.size (Nat.le_refl _) p e ha hc hk s m _ below hf ((Spec.applies_iff_loose hf).mp happ).1 ⟨rfl, State.Warmed39.refl s, rfl⟩ trivial
  refine ⟨n, _, h1, h2, h3, hpost _ _ _ _ _ _ ⟨Cond.after_iff.mpr rfl, Cond.after_iff.mpr (eq_i res_at (Term.int_eval (1)) rfl), trivial⟩ ⟨hq.1, hq.2.1, (hq.2.2.sift fun y hy => Or.inr (N y hy)).mono (by decide) (by decide)⟩⟩
theorem main_1_1 : Claimed_1_1 := comes_1 fun _ _ _ _ _ _ h hF => ⟨h.1, hF⟩
theorem main_1_2 : Claimed_1_2 := comes_1 fun _ _ _ _ _ _ h hF => ⟨h.2.1, hF⟩
end Jvm.Pilot.@@N@@
namespace Jvm.Pilot.@@N@@
open Jvm Jvm.ClassFile Sem Op Lib Jvm.Free Jvm.Stand Jvm.Pilot.@@N@@.Jvm.D
/-! MADE BY PROGRAM (witnessworld.py) out of the Statement's table words and the real class files: 11 classes; the members and pool entries that the words name. The judged class is class 1, her method 1. -/
namespace start1
open Jvm.ClassFile
def u (s : String) : CpInfo := .utf8 (stringToUtf16 s)
/-- a pool by its gaps: so many unusable entries, then the entry; so many at the end -/
def gap : Nat → List CpInfo → List CpInfo
  | 0, r => r
  | n + 1, r => .unusable :: gap n r
def poolList (es : List (Nat × CpInfo)) (last : Nat) : List CpInfo := es.foldr (fun e r => gap e.1 (e.2 :: r)) (gap last [])
def pool (es : List (Nat × CpInfo)) (last : Nat) : Array CpInfo := ⟨poolList es last⟩
def fileOf (pool : Array CpInfo) (this : Nat) (attrs : Array Attribute := #[]) (ms : Array MethodInfo := #[]) (fl : Nat := 33) (sup : Nat := 0) (ifs : Array Nat := #[]) (fds : Array FieldInfo := #[]) : ClassFile where
  minorVersion := 0
  majorVersion := 65
  constantPool := pool
  accessFlags := fl
  thisClass := this
  superClass := sup
  interfaces := ifs
  fields := fds
  methods := ms
  attributes := attrs
def plain (name : String) (sup : Option ClassId) : Class where
  name := name
  kind := .ordinary
  loader := none
  accessFlags := 33
  super := sup
  interfaces := #[]
  cf := none
  fields := #[]
  methods := #[]
  instanceTypes := #[]
  staticTypes := #[]
  resolved := #[]
  callSites := []
  init := .initialized
  statics := none
  mirror := none

def pool0 : Array CpInfo := pool [(5, u "<init>"), (0, u "()V"), (1, .class_ 10), (1, u "java/lang/Object")] 113

def k0m0 : Method := { name := "<init>", desc := "()V", sig := { parameters := [], returnType := none }, accessFlags := 1, code := none }
/-- java/lang/Object -/
def k0 : Class := { plain "java/lang/Object" none with
  accessFlags := 33
  interfaces := #[]
  cf := some (fileOf pool0 8 #[] #[{ accessFlags := 1, nameIndex := 5, descriptorIndex := 6, attributes := #[] }] 33 0 #[] #[])
  fields := #[]
  methods := #[k0m0]
  instanceTypes := #[]
  staticTypes := #[]
  resolved := Array.replicate 124 none
  statics := none }

def pool1 : Array CpInfo := pool [(2, .class_ 4), (1, u "java/lang/Object"), (0, u "<init>"), (0, u "()V"), (0, .methodref 8 9), (0, .class_ 10), (0, .nameAndType 11 12), (0, u "com/example/riverstack/riverstack/holdem/NoLimitHand"), (0, u "blinds"), (0, u "(IJJ)[J"), (0, .methodref 14 15), (0, .class_ 16), (0, .nameAndType 17 18), (0, u "com/example/riverstack/riverstack/holdem/NoLimitHandBlindsPinLaw"), (0, u "restZero"), (0, u "([J)Z"), (0, .methodref 14 20), (0, .nameAndType 21 22), (0, u "zeroAt"), (0, u "([JI)Z"), (2, u "law"), (0, u "(IJJ)Z")] 5

def k1m0 : Method := { name := "<init>", desc := "()V", sig := { parameters := [], returnType := none }, accessFlags := 1, code := none }
def k1c1 : Code := { maxStack := 5, maxLocals := 7, code := code, exceptionTable := #[], attributes := #[] }
def k1m1 : Method := { name := "law", desc := "(IJJ)Z", sig := { parameters := [.int, .long, .long], returnType := some .boolean }, accessFlags := 9, code := some k1c1 }
def k1c2 : Code := { maxStack := 4, maxLocals := 2, code := method_3_code, exceptionTable := #[], attributes := #[] }
def k1m2 : Method := { name := "zeroAt", desc := "([JI)Z", sig := { parameters := [(.array .long), .int], returnType := some .boolean }, accessFlags := 10, code := some k1c2 }
def k1c3 : Code := { maxStack := 2, maxLocals := 1, code := method_4_code, exceptionTable := #[], attributes := #[] }
def k1m3 : Method := { name := "restZero", desc := "([J)Z", sig := { parameters := [(.array .long)], returnType := some .boolean }, accessFlags := 10, code := some k1c3 }
/-- com/example/riverstack/riverstack/holdem/NoLimitHandBlindsPinLaw -/
def k1 : Class := { plain "com/example/riverstack/riverstack/holdem/NoLimitHandBlindsPinLaw" (some 0) with
  accessFlags := 49
  interfaces := #[]
  cf := some (fileOf pool1 14 #[] #[{ accessFlags := 1, nameIndex := 5, descriptorIndex := 6, attributes := #[] }, { accessFlags := 9, nameIndex := 25, descriptorIndex := 26, attributes := #[] }, { accessFlags := 10, nameIndex := 21, descriptorIndex := 22, attributes := #[] }, { accessFlags := 10, nameIndex := 17, descriptorIndex := 18, attributes := #[] }] 49 2 #[] #[])
  fields := #[]
  methods := #[k1m0, k1m1, k1m2, k1m3]
  instanceTypes := #[]
  staticTypes := #[]
  resolved := Array.replicate 32 none
  statics := none }

def pool2 : Array CpInfo := pool [(2, .class_ 4), (1, u "java/lang/Object"), (3, .class_ 10), (1, u "com/example/riverstack/riverstack/holdem/NoLimitHand"), (0, u "players"), (0, u "I"), (33, u "minBet"), (0, u "J"), (3, u "[J"), (4, u "stacks"), (2, u "antes"), (2, u "bets"), (2, u "committed"), (2, u "folded"), (0, u "[Z"), (2, u "holeDealt"), (2, u "hole"), (2, u "shown"), (2, u "mucked"), (2, u "toAct"), (2, u "matchedWhenActed"), (17, u "toMatch"), (9, u "over"), (0, u "Z"), (60, u "actor"), (13, .class_ 192), (0, u "com/example/riverstack/riverstack/holdem/NoLimitHand$Turn"), (62, u "dealt"), (6, u "boardCards"), (7, u "board"), (32, u "lastFullRaise"), (110, u "FEWEST_PLAYERS"), (2, u "MOST_PLAYERS"), (1, u "HOLE_CARDS"), (0, u "BOARD_CARDS"), (1, u "FLOP_CARDS"), (5, u "blinds"), (0, u "(IJJ)[J")] 116

def k2c0 : Code := { maxStack := 4, maxLocals := 6, code := prog_35_method_2_code, exceptionTable := #[], attributes := #[] }
def k2m0 : Method := { name := "blinds", desc := "(IJJ)[J", sig := { parameters := [.int, .long, .long], returnType := some (.array .long) }, accessFlags := 9, code := some k2c0 }
/-- com/example/riverstack/riverstack/holdem/NoLimitHand -/
def k2 : Class := { plain "com/example/riverstack/riverstack/holdem/NoLimitHand" (some 0) with
  accessFlags := 49
  interfaces := #[]
  cf := some (fileOf pool2 8 #[.nestMembers #[191]] #[{ accessFlags := 9, nameIndex := 428, descriptorIndex := 429, attributes := #[] }] 49 2 #[] #[{ accessFlags := 25, nameIndex := 414, descriptorIndex := 12, attributes := #[] }, { accessFlags := 25, nameIndex := 417, descriptorIndex := 12, attributes := #[] }, { accessFlags := 25, nameIndex := 419, descriptorIndex := 12, attributes := #[] }, { accessFlags := 25, nameIndex := 420, descriptorIndex := 12, attributes := #[] }, { accessFlags := 25, nameIndex := 422, descriptorIndex := 12, attributes := #[] }, { accessFlags := 18, nameIndex := 11, descriptorIndex := 12, attributes := #[] }, { accessFlags := 18, nameIndex := 46, descriptorIndex := 47, attributes := #[] }, { accessFlags := 18, nameIndex := 56, descriptorIndex := 51, attributes := #[] }, { accessFlags := 18, nameIndex := 62, descriptorIndex := 51, attributes := #[] }, { accessFlags := 18, nameIndex := 59, descriptorIndex := 51, attributes := #[] }, { accessFlags := 18, nameIndex := 65, descriptorIndex := 51, attributes := #[] }, { accessFlags := 18, nameIndex := 68, descriptorIndex := 69, attributes := #[] }, { accessFlags := 18, nameIndex := 72, descriptorIndex := 69, attributes := #[] }, { accessFlags := 18, nameIndex := 75, descriptorIndex := 51, attributes := #[] }, { accessFlags := 18, nameIndex := 78, descriptorIndex := 69, attributes := #[] }, { accessFlags := 18, nameIndex := 81, descriptorIndex := 69, attributes := #[] }, { accessFlags := 18, nameIndex := 84, descriptorIndex := 69, attributes := #[] }, { accessFlags := 18, nameIndex := 87, descriptorIndex := 51, attributes := #[] }, { accessFlags := 2, nameIndex := 255, descriptorIndex := 47, attributes := #[] }, { accessFlags := 2, nameIndex := 270, descriptorIndex := 47, attributes := #[] }, { accessFlags := 2, nameIndex := 262, descriptorIndex := 12, attributes := #[] }, { accessFlags := 2, nameIndex := 105, descriptorIndex := 47, attributes := #[] }, { accessFlags := 2, nameIndex := 303, descriptorIndex := 47, attributes := #[] }, { accessFlags := 2, nameIndex := 177, descriptorIndex := 12, attributes := #[] }, { accessFlags := 2, nameIndex := 115, descriptorIndex := 116, attributes := #[] }])
  fields := #[{ name := "FEWEST_PLAYERS", type := .int, accessFlags := 25, slot := 0, constantValue := 0 }, { name := "MOST_PLAYERS", type := .int, accessFlags := 25, slot := 1, constantValue := 0 }, { name := "HOLE_CARDS", type := .int, accessFlags := 25, slot := 2, constantValue := 0 }, { name := "BOARD_CARDS", type := .int, accessFlags := 25, slot := 3, constantValue := 0 }, { name := "FLOP_CARDS", type := .int, accessFlags := 25, slot := 4, constantValue := 0 }, { name := "players", type := .int, accessFlags := 18, slot := 0, constantValue := 0 }, { name := "minBet", type := .long, accessFlags := 18, slot := 1, constantValue := 0 }, { name := "stacks", type := (.array .long), accessFlags := 18, slot := 2, constantValue := 0 }, { name := "bets", type := (.array .long), accessFlags := 18, slot := 3, constantValue := 0 }, { name := "antes", type := (.array .long), accessFlags := 18, slot := 4, constantValue := 0 }, { name := "committed", type := (.array .long), accessFlags := 18, slot := 5, constantValue := 0 }, { name := "folded", type := (.array .boolean), accessFlags := 18, slot := 6, constantValue := 0 }, { name := "holeDealt", type := (.array .boolean), accessFlags := 18, slot := 7, constantValue := 0 }, { name := "hole", type := (.array .long), accessFlags := 18, slot := 8, constantValue := 0 }, { name := "shown", type := (.array .boolean), accessFlags := 18, slot := 9, constantValue := 0 }, { name := "mucked", type := (.array .boolean), accessFlags := 18, slot := 10, constantValue := 0 }, { name := "toAct", type := (.array .boolean), accessFlags := 18, slot := 11, constantValue := 0 }, { name := "matchedWhenActed", type := (.array .long), accessFlags := 18, slot := 12, constantValue := 0 }, { name := "dealt", type := .long, accessFlags := 2, slot := 13, constantValue := 0 }, { name := "board", type := .long, accessFlags := 2, slot := 14, constantValue := 0 }, { name := "boardCards", type := .int, accessFlags := 2, slot := 15, constantValue := 0 }, { name := "toMatch", type := .long, accessFlags := 2, slot := 16, constantValue := 0 }, { name := "lastFullRaise", type := .long, accessFlags := 2, slot := 17, constantValue := 0 }, { name := "actor", type := .int, accessFlags := 2, slot := 18, constantValue := 0 }, { name := "over", type := .boolean, accessFlags := 2, slot := 19, constantValue := 0 }]
  methods := #[k2m0]
  instanceTypes := #[.int, .long, (.array .long), (.array .long), (.array .long), (.array .long), (.array .boolean), (.array .boolean), (.array .long), (.array .boolean), (.array .boolean), (.array .boolean), (.array .long), .long, .long, .int, .long, .long, .int, .boolean]
  staticTypes := #[.int, .int, .int, .int, .int]
  resolved := Array.replicate 546 none
  statics := none }

def pool3 : Array CpInfo := pool [(1, u "java/lang/Cloneable"), (0, .class_ 1), (0, u "java/lang/Object"), (0, .class_ 3)] 3

/-- java/lang/Cloneable -/
def k3 : Class := { plain "java/lang/Cloneable" (some 0) with
  accessFlags := 1537
  interfaces := #[]
  cf := some (fileOf pool3 2 #[] #[] 1537 4 #[] #[])
  fields := #[]
  methods := #[]
  instanceTypes := #[]
  staticTypes := #[]
  resolved := Array.replicate 8 none
  statics := none }

def pool4 : Array CpInfo := pool [(1, u "java/io/Serializable"), (0, .class_ 1), (0, u "java/lang/Object"), (0, .class_ 3)] 3

/-- java/io/Serializable -/
def k4 : Class := { plain "java/io/Serializable" (some 0) with
  accessFlags := 1537
  interfaces := #[]
  cf := some (fileOf pool4 2 #[] #[] 1537 4 #[] #[])
  fields := #[]
  methods := #[]
  instanceTypes := #[]
  staticTypes := #[]
  resolved := Array.replicate 8 none
  statics := none }

/-- the primitive byte -/
def k5 : Class := { plain "byte" none with kind := .primitive 'B', accessFlags := 0x411 }
/-- [B -/
def k6 : Class := { plain "[B" (some 0) with kind := .array 5 .byte, interfaces := #[3, 4], accessFlags := 1041 }

/-- the primitive int -/
def k7 : Class := { plain "int" none with kind := .primitive 'I', accessFlags := 0x411 }
/-- [I -/
def k8 : Class := { plain "[I" (some 0) with kind := .array 7 .int, interfaces := #[3, 4], accessFlags := 1041 }

/-- the primitive long -/
def k9 : Class := { plain "long" none with kind := .primitive 'J', accessFlags := 0x411 }
/-- [J -/
def k10 : Class := { plain "[J" (some 0) with kind := .array 9 .long, interfaces := #[3, 4], accessFlags := 1041 }

def heap : Heap := #[]
def classes : Array Class := #[k0, k1, k2, k3, k4, k5, k6, k7, k8, k9, k10]
def interned : List (Array UInt16 × Addr) := []
def slotsUsed : Nat := 0
def theMethod : MethodId := ⟨1, 1⟩
def args0 : Array Value := #[.int 5, .long 1, .long 2]
def aboutOver (below : List Frame) : State where
  vm := { classes := classes, interned := interned.toArray }
  heap := heap
  slotsUsed := slotsUsed
  threads := #[{ frames := .invoking theMethod args0 :: below }]
def below0 : List Frame := [.native { method := ⟨0, 0⟩, args := #[] }]
def about1 : State := aboutOver below0
def p0 : Program := .bare "" "" ""
def e0 : Env := launch0.env 0 0 0
theorem w_frames : about1.frames = Frame.invoking theMethod args0 :: below0 := rfl
set_option maxRecDepth 65536 in
theorem w_args : argsFit about1.vm theMethod args0 = true := by decide +kernel
set_option maxRecDepth 65536 in
theorem w_heap : heapFits about1 = true := by decide +kernel
set_option maxRecDepth 65536 in
theorem w_runnable : about1.curStatus? = some .runnable := by decide +kernel
set_option maxRecDepth 65536 in
theorem w_alone : about1.alone = true := by decide +kernel
set_option maxRecDepth 65536 in
theorem w_named : about1.methodNamed? x = some theMethod := by decide +kernel
set_option maxRecDepth 65536 in
theorem w_hears : about1.hears theMethod below0 = true := by decide +kernel
set_option maxRecDepth 65536 in
theorem w_ripe : about1.ripe theMethod args0 below0 = true := by decide +kernel
theorem w_running : about1.status = .running := rfl
set_option maxRecDepth 65536 in
theorem w_room : about1.hasRoom e0.platform room_1 = true :=
  launch0.hasRoom_least _ room_1 (by decide +kernel) (by decide +kernel) (by decide +kernel) (by decide +kernel) (by decide +kernel) (by decide +kernel)
theorem allAtoms_all (ts : List Jvm.Cond) (a : Array Jvm.Value) (st : Jvm.State) : (allAtoms ts).before a st = ts.all (fun c => c.before a st) := by
  induction ts with
  | nil => rfl
  | cons c t ih =>
    show (Jvm.Cond.and c (allAtoms t)).before a st = _
    rw [Jvm.Cond.before_and, ih, List.all_cons]
def words1 : List Jvm.Cond := Jvm.Cond.code x code maxLocals ret :: tables_1
/-- a 'code' word, met by the world's own term for the bytes: nothing is compared byte by byte -/
theorem code_word {y : MethodName} {bytes : ByteArray} {mx : Nat} {rt : Option FieldType} {a : Array Value} {s : State} {m : MethodId} {meth : Method} {c : Code} (h1 : s.methodNamed? y = some m) (h2 : s.vm.method? m = some meth) (h3 : meth.code = some c) (h4 : c.code = bytes)
    (h5 : (c.maxLocals == mx && c.exceptionTable.isEmpty && decide (c.maxStack ≤ mostOperands) && decide (meth.sig.returnType = rt) && !meth.locks && decide (parseMethodDescriptor y.desc = some meth.sig)) = true) : (Jvm.Cond.code y bytes mx rt).before a s = true := by
  simp only [Bool.and_eq_true, beq_iff_eq, Bool.not_eq_true', decide_eq_true_eq] at h5
  obtain ⟨⟨⟨⟨⟨g1, g2⟩, g3⟩, g4⟩, g5⟩, g6⟩ := h5
  simp [Cond.before, Cond.holds, Cond.value, h1, h2, h3, h4, g1, g2, g3, g4, g5, g6]
def isCode : Jvm.Cond → Bool
  | .code _ _ _ _ => true
  | _ => false
theorem all_split {L : List Jvm.Cond} {P : Jvm.Cond → Bool} (h1 : L.all (fun c => isCode c || P c) = true) (h2 : ∀ c ∈ L.filter isCode, P c = true) : L.all P = true := by
  refine List.all_eq_true.mpr fun c hc => ?_
  have h := List.all_eq_true.mp h1 c hc
  rcases Bool.eq_false_or_eq_true (isCode c) with hi | hi
  · exact h2 c (List.mem_filter.mpr ⟨hc, hi⟩)
  · simpa [hi] using h
set_option maxRecDepth 65536 in
theorem w_c0 : (Jvm.Cond.code x code maxLocals ret).before args0 about1 = true := code_word (m := ⟨1, 1⟩) (meth := k1m1) (c := k1c1) (by decide +kernel) rfl rfl rfl (by decide +kernel)
set_option maxRecDepth 65536 in
theorem w_c1 : (Jvm.Cond.code ({ cls := "com/example/riverstack/riverstack/holdem/NoLimitHand", name := "blinds", desc := "(IJJ)[J" } : Jvm.MethodName) prog_35_method_2_code (6 : Nat) (Option.some (Jvm.ClassFile.FieldType.array Jvm.ClassFile.FieldType.long))).before args0 about1 = true := code_word (m := ⟨2, 0⟩) (meth := k2m0) (c := k2c0) (by decide +kernel) rfl rfl rfl (by decide +kernel)
set_option maxRecDepth 65536 in
theorem w_c2 : (Jvm.Cond.code ({ cls := "com/example/riverstack/riverstack/holdem/NoLimitHandBlindsPinLaw", name := "restZero", desc := "([J)Z" } : Jvm.MethodName) method_4_code (1 : Nat) (Option.some Jvm.ClassFile.FieldType.boolean)).before args0 about1 = true := code_word (m := ⟨1, 3⟩) (meth := k1m3) (c := k1c3) (by decide +kernel) rfl rfl rfl (by decide +kernel)
set_option maxRecDepth 65536 in
theorem w_c3 : (Jvm.Cond.code ({ cls := "com/example/riverstack/riverstack/holdem/NoLimitHandBlindsPinLaw", name := "zeroAt", desc := "([JI)Z" } : Jvm.MethodName) method_3_code (2 : Nat) (Option.some Jvm.ClassFile.FieldType.boolean)).before args0 about1 = true := code_word (m := ⟨1, 2⟩) (meth := k1m2) (c := k1c2) (by decide +kernel) rfl rfl rfl (by decide +kernel)
def codes1 : List Jvm.Cond := [Jvm.Cond.code x code maxLocals ret, Jvm.Cond.code ({ cls := "com/example/riverstack/riverstack/holdem/NoLimitHand", name := "blinds", desc := "(IJJ)[J" } : Jvm.MethodName) prog_35_method_2_code (6 : Nat) (Option.some (Jvm.ClassFile.FieldType.array Jvm.ClassFile.FieldType.long)), Jvm.Cond.code ({ cls := "com/example/riverstack/riverstack/holdem/NoLimitHandBlindsPinLaw", name := "restZero", desc := "([J)Z" } : Jvm.MethodName) method_4_code (1 : Nat) (Option.some Jvm.ClassFile.FieldType.boolean), Jvm.Cond.code ({ cls := "com/example/riverstack/riverstack/holdem/NoLimitHandBlindsPinLaw", name := "zeroAt", desc := "([JI)Z" } : Jvm.MethodName) method_3_code (2 : Nat) (Option.some Jvm.ClassFile.FieldType.boolean)]
set_option maxRecDepth 65536 in
theorem codes_eq : words1.filter isCode = codes1 := rfl
theorem w_codes : ∀ c ∈ words1.filter isCode, c.before args0 about1 = true := by
  rw [codes_eq]
  intro c hc
  simp only [codes1, List.mem_cons, List.not_mem_nil, or_false] at hc
  rcases hc with rfl | rfl | rfl | rfl
  · exact w_c0
  · exact w_c1
  · exact w_c2
  · exact w_c3
set_option maxRecDepth 65536 in
theorem w_t1 : words1.all (fun c => isCode c || c.before args0 about1) = true := by decide +kernel
theorem w_tables : (allAtoms (Jvm.Cond.code x code maxLocals ret :: tables_1)).before args0 about1 = true := by
  rw [allAtoms_all]
  show words1.all (fun c => c.before args0 about1) = true
  refine all_split ?_ w_codes
  rw [w_t1]
set_option maxRecDepth 65536 in
theorem w_case : (Jvm.Cond.and given_1 narrow_1).before args0 about1 = true := by decide +kernel
theorem w_applies : (headSpec (Jvm.Cond.code x code maxLocals ret :: tables_1) room_1).applies x e0.platform about1 = true :=
  (Spec.applies_iff w_frames).mpr ⟨w_running, w_runnable, w_alone, w_named, w_hears, w_ripe, w_room, w_tables⟩
theorem atStart : AtStart classFile x code maxLocals ret World_1 tables_1 room_1 Calls_1 rest_1 Pre_1 launch0 p0 e0 about1 theMethod args0 below0 :=
  ⟨lists_1, trivial, launch0.admits_env _ _ _, launch0.least_env, fairChoices_fair.cas, fairChoices_fair.clock, w_frames, w_args, w_heap, w_applies, trivial, trivial, w_case⟩
end start1
theorem witness_1 : WitnessClaimed_1 := ⟨start1.p0, start1.e0, start1.about1, start1.theMethod, start1.args0, start1.below0, start1.atStart⟩
end Jvm.Pilot.@@N@@
