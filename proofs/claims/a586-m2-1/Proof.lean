import JvmDerived
import JvmDerived.Pilot.@@N@@Statement
import JvmDerived.Pilot.@@N@@Code
set_option linter.unusedVariables false
set_option linter.unusedSimpArgs false
namespace Jvm.Pilot.@@N@@
open Jvm Jvm.ClassFile Sem Op Lib Jvm.Free Jvm.Stand Jvm.LawKit Jvm.RoadKit Bundle Jvm.Pilot.@@N@@.Jvm.D
theorem wd {Z : State} {a0 : Array Value} (hw : ∀ d ∈ tables_1, d.before a0 Z = true) (i : Nat) {d : Jvm.Cond} (e : tables_1[i]? = some d) : d.before a0 Z = true := hw _ (List.mem_of_getElem? e)
section Layer
variable {p : Program} {l : Launch} {e : Env} {R : Room} {s : State} {m : MethodId} {args : Array Value} {below : List Frame} {meth : Method} {c : Code} {Z : State} {a0 : Array Value}
variable {own nm : String} {bytes : ByteArray} {maxL : Nat} {ret : Option FieldType} {n0 : Nat} {Q : Option Value → Heap → Prop} {h : Heap} {k n : Nat} {pc q : Nat} {ls : Array Slot} {st : List Value}
/-- what stays fixed while one body is walked -/
def Cx (p : Program) (s : State) (m : MethodId) (meth : Method) (c : Code) (Z : State) (own nm : String) (bytes : ByteArray) (maxL : Nat) (ret : Option FieldType) : Prop :=
  p.tables.exec = Jvm.exec ∧ Z.Warmed39 s.vm ∧ s.vm.findClass own = some m.cls ∧ c.code = bytes ∧ c.maxLocals = maxL ∧ meth.sig.returnType = ret ∧ meth.locks = false ∧ meth.name = nm
/-- from this frame, over a heap h, with k cells and n slots made, the body ends and Q holds -/
def Go (p : Program) (l : Launch) (e : Env) (R : Room) (s : State) (m : MethodId) (args : Array Value) (below : List Frame) (meth : Method) (c : Code) (n0 : Nat) (Q : Option Value → Heap → Prop) (h : Heap) (k n : Nat) (g : JFrame) : Prop :=
  ∀ T L, Stand p l e R s m args below meth c T L k n → Fr n0 L → T.heap = h →
    ∃ s₂ o, Steps p.tables e below (T.setTop g) s₂ ∧ s₂.status = .running ∧ Ended s₂ below o ∧ ∃ v L', o = .returned v ∧ (Q v s₂.heap ∧ Fr n0 L') ∧ FrameEnd s o s₂ L' R.cells R.slots
theorem Go.of {g g' : JFrame} (f : ∀ T target, At T m c below → Steps p.tables e below (T.setTop g') target → Steps p.tables e below (T.setTop g) target) (r : Go p l e R s m args below meth c n0 Q h k n g') : Go p l e R s m args below meth c n0 Q h k n g := fun T L X N eT => by
  obtain ⟨s₂, o, hs, z⟩ := r T L X N eT
  exact ⟨s₂, o, f T _ X.here hs, z⟩
theorem Go.ofX {g g' : JFrame} (f : ∀ T L target, Stand p l e R s m args below meth c T L k n → T.heap = h → Steps p.tables e below (T.setTop g') target → Steps p.tables e below (T.setTop g) target) (r : Go p l e R s m args below meth c n0 Q h k n g') : Go p l e R s m args below meth c n0 Q h k n g := fun T L X N eT => by
  obtain ⟨s₂, o, hs, z⟩ := r T L X N eT
  exact ⟨s₂, o, f T L _ X eT hs, z⟩
theorem Go.mono {Q' : Option Value → Heap → Prop} {g : JFrame} (r : Go p l e R s m args below meth c n0 Q h k n g) (f : ∀ v h', Q v h' → Q' v h') : Go p l e R s m args below meth c n0 Q' h k n g := fun T L X N eT => by
  obtain ⟨s₂, o, hs, h1, h2, v, L', h3, h4, h5⟩ := r T L X N eT
  exact ⟨s₂, o, hs, h1, h2, v, L', h3, ⟨f _ _ h4.1, h4.2⟩, h5⟩
theorem Go.less {g : JFrame} {k' n' : Nat} (r : Go p l e R s m args below meth c n0 Q h k' n' g) (hk : k ≤ k') (hn : n ≤ n') : Go p l e R s m args below meth c n0 Q h k n g := fun T L X N eT => r T L (X.more hk hn) N eT
theorem Go.at {g : JFrame} {h' : Heap} (r : Go p l e R s m args below meth c n0 Q h' k n g) (q : h = h') : Go p l e R s m args below meth c n0 Q h k n g := q ▸ r

theorem go_eqI {x y : Int32} {stl : List Value} (hxy : x = y) (r : Go p l e R s m args below meth c n0 Q h k n (mkF m pc ls (.int y :: stl))) : Go p l e R s m args below meth c n0 Q h k n (mkF m pc ls (.int x :: stl)) := hxy ▸ r
theorem go_eqJ {x y : Int64} {stl : List Value} (hxy : x = y) (r : Go p l e R s m args below meth c n0 Q h k n (mkF m pc ls (.long y :: stl))) : Go p l e R s m args below meth c n0 Q h k n (mkF m pc ls (.long x :: stl)) := hxy ▸ r

theorem go_nameI {x : Int32} {stl : List Value} (r : ∀ z, z = x → Go p l e R s m args below meth c n0 Q h k n (mkF m pc ls (.int z :: stl))) : Go p l e R s m args below meth c n0 Q h k n (mkF m pc ls (.int x :: stl)) := r x rfl
theorem go_nameJ {x : Int64} {stl : List Value} (r : ∀ z, z = x → Go p l e R s m args below meth c n0 Q h k n (mkF m pc ls (.long z :: stl))) : Go p l e R s m args below meth c n0 Q h k n (mkF m pc ls (.long x :: stl)) := r x rfl

theorem go_aloadN (K : Cx p s m meth c Z own nm bytes maxL ret) {i : Fin 4} {v : Value} (hd : decode bytes pc = .ok (.aload_n i, 1)) (hl : ls[i.val]? = some (.val v)) (hv : v.isRef = true) (hq : pc + 1 = q) (r : Go p l e R s m args below meth c n0 Q h k n (mkF m q ls (v :: st))) : Go p l e R s m args below meth c n0 Q h k n (mkF m pc ls st) := by
  subst hq; exact Go.of (fun T tg A => XS.aloadN A K.1 rfl (hb K.2.2.2.1 hd) hl hv) r
theorem go_aload (K : Cx p s m meth c Z own nm bytes maxL ret) {i : Nat} {v : Value} (hd : decode bytes pc = .ok (.aload i, 2)) (hl : ls[i]? = some (.val v)) (hv : v.isRef = true) (hq : pc + 2 = q) (r : Go p l e R s m args below meth c n0 Q h k n (mkF m q ls (v :: st))) : Go p l e R s m args below meth c n0 Q h k n (mkF m pc ls st) := by
  subst hq; exact Go.of (fun T tg A => XS.aload A K.1 rfl (hb K.2.2.2.1 hd) hl hv) r
theorem go_iloadN (K : Cx p s m meth c Z own nm bytes maxL ret) {i : Fin 4} {v : Int32} (hd : decode bytes pc = .ok (.iload_n i, 1)) (hl : ls[i.val]? = some (.val (.int v))) (hq : pc + 1 = q) (r : Go p l e R s m args below meth c n0 Q h k n (mkF m q ls (.int v :: st))) : Go p l e R s m args below meth c n0 Q h k n (mkF m pc ls st) := by
  subst hq; exact Go.of (fun T tg A => XS.iloadN A K.1 rfl (hb K.2.2.2.1 hd) hl) r
theorem go_iload (K : Cx p s m meth c Z own nm bytes maxL ret) {i : Nat} {v : Int32} (hd : decode bytes pc = .ok (.iload i, 2)) (hl : ls[i]? = some (.val (.int v))) (hq : pc + 2 = q) (r : Go p l e R s m args below meth c n0 Q h k n (mkF m q ls (.int v :: st))) : Go p l e R s m args below meth c n0 Q h k n (mkF m pc ls st) := by
  subst hq; exact Go.of (fun T tg A => XS.iload A K.1 rfl (hb K.2.2.2.1 hd) hl) r
theorem go_lloadN (K : Cx p s m meth c Z own nm bytes maxL ret) {i : Fin 4} {v : Int64} (hd : decode bytes pc = .ok (.lload_n i, 1)) (hl : ls[i.val]? = some (.val (.long v))) (hq : pc + 1 = q) (r : Go p l e R s m args below meth c n0 Q h k n (mkF m q ls (.long v :: st))) : Go p l e R s m args below meth c n0 Q h k n (mkF m pc ls st) := by
  subst hq; exact Go.of (fun T tg A => XT.lloadN A K.1 rfl (hb K.2.2.2.1 hd) hl) r
theorem go_lload (K : Cx p s m meth c Z own nm bytes maxL ret) {i : Nat} {v : Int64} (hd : decode bytes pc = .ok (.lload i, 2)) (hl : ls[i]? = some (.val (.long v))) (hq : pc + 2 = q) (r : Go p l e R s m args below meth c n0 Q h k n (mkF m q ls (.long v :: st))) : Go p l e R s m args below meth c n0 Q h k n (mkF m pc ls st) := by
  subst hq; exact Go.of (fun T tg A => XT.lload A K.1 rfl (hb K.2.2.2.1 hd) hl) r
theorem go_iconst (K : Cx p s m meth c Z own nm bytes maxL ret) {i : Int} (hd : decode bytes pc = .ok (.iconst i, 1)) (v : Int32) (hv : Int32.ofInt i = v) (hq : pc + 1 = q) (r : Go p l e R s m args below meth c n0 Q h k n (mkF m q ls (.int v :: st))) : Go p l e R s m args below meth c n0 Q h k n (mkF m pc ls st) := by
  subst hq; exact Go.of (fun T tg A => XT.iconstV A K.1 rfl v (hb K.2.2.2.1 hd) hv) r
theorem go_bipush (K : Cx p s m meth c Z own nm bytes maxL ret) {i : Int} (hd : decode bytes pc = .ok (.bipush i, 2)) (v : Int32) (hv : (Int8.ofInt i).toInt32 = v) (hq : pc + 2 = q) (r : Go p l e R s m args below meth c n0 Q h k n (mkF m q ls (.int v :: st))) : Go p l e R s m args below meth c n0 Q h k n (mkF m pc ls st) := by
  subst hq; exact Go.of (fun T tg A => XT.bipushV A K.1 rfl v (hb K.2.2.2.1 hd) hv) r
theorem go_sipush (K : Cx p s m meth c Z own nm bytes maxL ret) {i : Int} (hd : decode bytes pc = .ok (.sipush i, 3)) (v : Int32) (hv : (Int16.ofInt i).toInt32 = v) (hq : pc + 3 = q) (r : Go p l e R s m args below meth c n0 Q h k n (mkF m q ls (.int v :: st))) : Go p l e R s m args below meth c n0 Q h k n (mkF m pc ls st) := by
  subst hq; exact Go.of (fun T tg A => XT.sipushV A K.1 rfl v (hb K.2.2.2.1 hd) hv) r
theorem go_lconst (K : Cx p s m meth c Z own nm bytes maxL ret) {i : Fin 2} (hd : decode bytes pc = .ok (.lconst i, 1)) (v : Int64) (hv : Int64.ofNat i = v) (hq : pc + 1 = q) (r : Go p l e R s m args below meth c n0 Q h k n (mkF m q ls (.long v :: st))) : Go p l e R s m args below meth c n0 Q h k n (mkF m pc ls st) := by
  subst hq; exact Go.of (fun T tg A => XT.lconstV A K.1 rfl v (hb K.2.2.2.1 hd) hv) r
theorem go_aconst_null (K : Cx p s m meth c Z own nm bytes maxL ret)  (hd : decode bytes pc = .ok (.aconst_null, 1))  (hq : pc + 1 = q) (r : Go p l e R s m args below meth c n0 Q h k n (mkF m q ls (.null :: st))) : Go p l e R s m args below meth c n0 Q h k n (mkF m pc ls st) := by
  subst hq; exact Go.of (fun T tg A => XS.aconstNull A K.1 rfl (hb K.2.2.2.1 hd)) r
theorem go_iadd (K : Cx p s m meth c Z own nm bytes maxL ret) {x y : Int32} (hd : decode bytes pc = .ok (.iadd, 1))  (hq : pc + 1 = q) (r : Go p l e R s m args below meth c n0 Q h k n (mkF m q ls (.int (x + y) :: st))) : Go p l e R s m args below meth c n0 Q h k n (mkF m pc ls (.int y :: .int x :: st)) := by
  subst hq; exact Go.of (fun T tg A => XS.iadd A K.1 rfl (hb K.2.2.2.1 hd) rfl) r
theorem go_isub (K : Cx p s m meth c Z own nm bytes maxL ret) {x y : Int32} (hd : decode bytes pc = .ok (.isub, 1))  (hq : pc + 1 = q) (r : Go p l e R s m args below meth c n0 Q h k n (mkF m q ls (.int (x - y) :: st))) : Go p l e R s m args below meth c n0 Q h k n (mkF m pc ls (.int y :: .int x :: st)) := by
  subst hq; exact Go.of (fun T tg A => XS.isub A K.1 rfl (hb K.2.2.2.1 hd) rfl) r
theorem go_iand (K : Cx p s m meth c Z own nm bytes maxL ret) {x y : Int32} (hd : decode bytes pc = .ok (.iand, 1))  (hq : pc + 1 = q) (r : Go p l e R s m args below meth c n0 Q h k n (mkF m q ls (.int (x &&& y) :: st))) : Go p l e R s m args below meth c n0 Q h k n (mkF m pc ls (.int y :: .int x :: st)) := by
  subst hq; exact Go.of (fun T tg A => XS.iand A K.1 rfl (hb K.2.2.2.1 hd) rfl) r
theorem go_imul (K : Cx p s m meth c Z own nm bytes maxL ret) {x y : Int32} (hd : decode bytes pc = .ok (.imul, 1))  (hq : pc + 1 = q) (r : Go p l e R s m args below meth c n0 Q h k n (mkF m q ls (.int (x * y) :: st))) : Go p l e R s m args below meth c n0 Q h k n (mkF m pc ls (.int y :: .int x :: st)) := by
  subst hq; exact Go.of (fun T tg A => XS.imul A K.1 rfl (hb K.2.2.2.1 hd) rfl) r
theorem go_ixor (K : Cx p s m meth c Z own nm bytes maxL ret) {x y : Int32} (hd : decode bytes pc = .ok (.ixor, 1))  (hq : pc + 1 = q) (r : Go p l e R s m args below meth c n0 Q h k n (mkF m q ls (.int (x ^^^ y) :: st))) : Go p l e R s m args below meth c n0 Q h k n (mkF m pc ls (.int y :: .int x :: st)) := by
  subst hq; exact Go.of (fun T tg A => XT.ixor A K.1 rfl (hb K.2.2.2.1 hd) rfl) r
theorem go_ior (K : Cx p s m meth c Z own nm bytes maxL ret) {x y : Int32} (hd : decode bytes pc = .ok (.ior, 1))  (hq : pc + 1 = q) (r : Go p l e R s m args below meth c n0 Q h k n (mkF m q ls (.int (x ||| y) :: st))) : Go p l e R s m args below meth c n0 Q h k n (mkF m pc ls (.int y :: .int x :: st)) := by
  subst hq; exact Go.of (fun T tg A => XT.ior A K.1 rfl (hb K.2.2.2.1 hd) rfl) r
theorem go_ishl (K : Cx p s m meth c Z own nm bytes maxL ret) {x y : Int32} (hd : decode bytes pc = .ok (.ishl, 1))  (hq : pc + 1 = q) (r : Go p l e R s m args below meth c n0 Q h k n (mkF m q ls (.int (x <<< (y &&& 31)) :: st))) : Go p l e R s m args below meth c n0 Q h k n (mkF m pc ls (.int y :: .int x :: st)) := by
  subst hq; exact Go.of (fun T tg A => XT.ishl A K.1 rfl (hb K.2.2.2.1 hd) rfl) r
theorem go_ishr (K : Cx p s m meth c Z own nm bytes maxL ret) {x y : Int32} (hd : decode bytes pc = .ok (.ishr, 1))  (hq : pc + 1 = q) (r : Go p l e R s m args below meth c n0 Q h k n (mkF m q ls (.int (x >>> (y &&& 31)) :: st))) : Go p l e R s m args below meth c n0 Q h k n (mkF m pc ls (.int y :: .int x :: st)) := by
  subst hq; exact Go.of (fun T tg A => XT.ishr A K.1 rfl (hb K.2.2.2.1 hd) rfl) r
theorem go_iushr (K : Cx p s m meth c Z own nm bytes maxL ret) {x y : Int32} (hd : decode bytes pc = .ok (.iushr, 1))  (hq : pc + 1 = q) (r : Go p l e R s m args below meth c n0 Q h k n (mkF m q ls (.int (XT.ushr x y) :: st))) : Go p l e R s m args below meth c n0 Q h k n (mkF m pc ls (.int y :: .int x :: st)) := by
  subst hq; exact Go.of (fun T tg A => XT.iushr A K.1 rfl (hb K.2.2.2.1 hd) rfl) r
theorem go_ladd (K : Cx p s m meth c Z own nm bytes maxL ret) {x y : Int64} (hd : decode bytes pc = .ok (.ladd, 1))  (hq : pc + 1 = q) (r : Go p l e R s m args below meth c n0 Q h k n (mkF m q ls (.long (x + y) :: st))) : Go p l e R s m args below meth c n0 Q h k n (mkF m pc ls (.long y :: .long x :: st)) := by
  subst hq; exact Go.of (fun T tg A => XT.ladd A K.1 rfl (hb K.2.2.2.1 hd) rfl) r
theorem go_lsub (K : Cx p s m meth c Z own nm bytes maxL ret) {x y : Int64} (hd : decode bytes pc = .ok (.lsub, 1))  (hq : pc + 1 = q) (r : Go p l e R s m args below meth c n0 Q h k n (mkF m q ls (.long (x - y) :: st))) : Go p l e R s m args below meth c n0 Q h k n (mkF m pc ls (.long y :: .long x :: st)) := by
  subst hq; exact Go.of (fun T tg A => XT.lsub A K.1 rfl (hb K.2.2.2.1 hd) rfl) r
theorem go_lmul (K : Cx p s m meth c Z own nm bytes maxL ret) {x y : Int64} (hd : decode bytes pc = .ok (.lmul, 1))  (hq : pc + 1 = q) (r : Go p l e R s m args below meth c n0 Q h k n (mkF m q ls (.long (x * y) :: st))) : Go p l e R s m args below meth c n0 Q h k n (mkF m pc ls (.long y :: .long x :: st)) := by
  subst hq; exact Go.of (fun T tg A => XT.lmul A K.1 rfl (hb K.2.2.2.1 hd) rfl) r
theorem go_land (K : Cx p s m meth c Z own nm bytes maxL ret) {x y : Int64} (hd : decode bytes pc = .ok (.land, 1))  (hq : pc + 1 = q) (r : Go p l e R s m args below meth c n0 Q h k n (mkF m q ls (.long (x &&& y) :: st))) : Go p l e R s m args below meth c n0 Q h k n (mkF m pc ls (.long y :: .long x :: st)) := by
  subst hq; exact Go.of (fun T tg A => XT.land A K.1 rfl (hb K.2.2.2.1 hd) rfl) r
theorem go_lor (K : Cx p s m meth c Z own nm bytes maxL ret) {x y : Int64} (hd : decode bytes pc = .ok (.lor, 1))  (hq : pc + 1 = q) (r : Go p l e R s m args below meth c n0 Q h k n (mkF m q ls (.long (x ||| y) :: st))) : Go p l e R s m args below meth c n0 Q h k n (mkF m pc ls (.long y :: .long x :: st)) := by
  subst hq; exact Go.of (fun T tg A => XT.lor A K.1 rfl (hb K.2.2.2.1 hd) rfl) r
theorem go_lxor (K : Cx p s m meth c Z own nm bytes maxL ret) {x y : Int64} (hd : decode bytes pc = .ok (.lxor, 1))  (hq : pc + 1 = q) (r : Go p l e R s m args below meth c n0 Q h k n (mkF m q ls (.long (x ^^^ y) :: st))) : Go p l e R s m args below meth c n0 Q h k n (mkF m pc ls (.long y :: .long x :: st)) := by
  subst hq; exact Go.of (fun T tg A => XT.lxor A K.1 rfl (hb K.2.2.2.1 hd) rfl) r
theorem go_lshl (K : Cx p s m meth c Z own nm bytes maxL ret) {x : Int64} {y : Int32} (hd : decode bytes pc = .ok (.lshl, 1))  (hq : pc + 1 = q) (r : Go p l e R s m args below meth c n0 Q h k n (mkF m q ls (.long (x <<< (y.toInt64 &&& 63)) :: st))) : Go p l e R s m args below meth c n0 Q h k n (mkF m pc ls (.int y :: .long x :: st)) := by
  subst hq; exact Go.of (fun T tg A => XT.lshl A K.1 rfl (hb K.2.2.2.1 hd) rfl) r
theorem go_lshr (K : Cx p s m meth c Z own nm bytes maxL ret) {x : Int64} {y : Int32} (hd : decode bytes pc = .ok (.lshr, 1))  (hq : pc + 1 = q) (r : Go p l e R s m args below meth c n0 Q h k n (mkF m q ls (.long (x >>> (y.toInt64 &&& 63)) :: st))) : Go p l e R s m args below meth c n0 Q h k n (mkF m pc ls (.int y :: .long x :: st)) := by
  subst hq; exact Go.of (fun T tg A => XT.lshr A K.1 rfl (hb K.2.2.2.1 hd) rfl) r
theorem go_lushr (K : Cx p s m meth c Z own nm bytes maxL ret) {x : Int64} {y : Int32} (hd : decode bytes pc = .ok (.lushr, 1))  (hq : pc + 1 = q) (r : Go p l e R s m args below meth c n0 Q h k n (mkF m q ls (.long (XT.ushrL x y) :: st))) : Go p l e R s m args below meth c n0 Q h k n (mkF m pc ls (.int y :: .long x :: st)) := by
  subst hq; exact Go.of (fun T tg A => XT.lushr A K.1 rfl (hb K.2.2.2.1 hd) rfl) r
theorem go_idiv (K : Cx p s m meth c Z own nm bytes maxL ret) {x y : Int32} (hd : decode bytes pc = .ok (.idiv, 1)) (hy : y ≠ 0) (hq : pc + 1 = q) (r : Go p l e R s m args below meth c n0 Q h k n (mkF m q ls (.int (x / y) :: st))) : Go p l e R s m args below meth c n0 Q h k n (mkF m pc ls (.int y :: .int x :: st)) := by
  subst hq; exact Go.of (fun T tg A => XS.idiv A K.1 rfl (hb K.2.2.2.1 hd) rfl hy) r
theorem go_irem (K : Cx p s m meth c Z own nm bytes maxL ret) {x y : Int32} (hd : decode bytes pc = .ok (.irem, 1)) (hy : y ≠ 0) (hq : pc + 1 = q) (r : Go p l e R s m args below meth c n0 Q h k n (mkF m q ls (.int (x % y) :: st))) : Go p l e R s m args below meth c n0 Q h k n (mkF m pc ls (.int y :: .int x :: st)) := by
  subst hq; exact Go.ofX (fun T L tg S _ => iremM S K.1 rfl (hb K.2.2.2.1 hd) rfl hy) r
theorem go_ldiv (K : Cx p s m meth c Z own nm bytes maxL ret) {x y : Int64} (hd : decode bytes pc = .ok (.ldiv, 1)) (hy : y ≠ 0) (hq : pc + 1 = q) (r : Go p l e R s m args below meth c n0 Q h k n (mkF m q ls (.long (x / y) :: st))) : Go p l e R s m args below meth c n0 Q h k n (mkF m pc ls (.long y :: .long x :: st)) := by
  subst hq; exact Go.of (fun T tg A => XT.ldiv A K.1 rfl (hb K.2.2.2.1 hd) rfl hy) r
theorem go_lrem (K : Cx p s m meth c Z own nm bytes maxL ret) {x y : Int64} (hd : decode bytes pc = .ok (.lrem, 1)) (hy : y ≠ 0) (hq : pc + 1 = q) (r : Go p l e R s m args below meth c n0 Q h k n (mkF m q ls (.long (x % y) :: st))) : Go p l e R s m args below meth c n0 Q h k n (mkF m pc ls (.long y :: .long x :: st)) := by
  subst hq; rw [← lrem_mod x y] at r; exact Go.of (fun T tg A => XT.lrem A K.1 rfl (hb K.2.2.2.1 hd) rfl hy) r
theorem go_ineg (K : Cx p s m meth c Z own nm bytes maxL ret) {x : Int32} (hd : decode bytes pc = .ok (.ineg, 1))  (hq : pc + 1 = q) (r : Go p l e R s m args below meth c n0 Q h k n (mkF m q ls (.int (-x) :: st))) : Go p l e R s m args below meth c n0 Q h k n (mkF m pc ls (.int x :: st)) := by
  subst hq; exact Go.of (fun T tg A => XS.ineg A K.1 rfl (hb K.2.2.2.1 hd) rfl) r
theorem go_lneg (K : Cx p s m meth c Z own nm bytes maxL ret) {x : Int64} (hd : decode bytes pc = .ok (.lneg, 1))  (hq : pc + 1 = q) (r : Go p l e R s m args below meth c n0 Q h k n (mkF m q ls (.long (-x) :: st))) : Go p l e R s m args below meth c n0 Q h k n (mkF m pc ls (.long x :: st)) := by
  subst hq; exact Go.of (fun T tg A => XT.lneg A K.1 rfl (hb K.2.2.2.1 hd) rfl) r
theorem go_i2l (K : Cx p s m meth c Z own nm bytes maxL ret) {x : Int32} (hd : decode bytes pc = .ok (.i2l, 1))  (hq : pc + 1 = q) (r : Go p l e R s m args below meth c n0 Q h k n (mkF m q ls (.long (x.toInt64) :: st))) : Go p l e R s m args below meth c n0 Q h k n (mkF m pc ls (.int x :: st)) := by
  subst hq; exact Go.of (fun T tg A => XT.i2l A K.1 rfl (hb K.2.2.2.1 hd) rfl) r
theorem go_l2i (K : Cx p s m meth c Z own nm bytes maxL ret) {x : Int64} (hd : decode bytes pc = .ok (.l2i, 1))  (hq : pc + 1 = q) (r : Go p l e R s m args below meth c n0 Q h k n (mkF m q ls (.int (x.toInt32) :: st))) : Go p l e R s m args below meth c n0 Q h k n (mkF m pc ls (.long x :: st)) := by
  subst hq; exact Go.of (fun T tg A => XT.l2i A K.1 rfl (hb K.2.2.2.1 hd) rfl) r
theorem go_i2b (K : Cx p s m meth c Z own nm bytes maxL ret) {x : Int32} (hd : decode bytes pc = .ok (.i2b, 1))  (hq : pc + 1 = q) (r : Go p l e R s m args below meth c n0 Q h k n (mkF m q ls (.int (x.toInt8.toInt32) :: st))) : Go p l e R s m args below meth c n0 Q h k n (mkF m pc ls (.int x :: st)) := by
  subst hq; exact Go.of (fun T tg A => XT.i2b A K.1 rfl (hb K.2.2.2.1 hd) rfl) r
theorem go_i2c (K : Cx p s m meth c Z own nm bytes maxL ret) {x : Int32} (hd : decode bytes pc = .ok (.i2c, 1))  (hq : pc + 1 = q) (r : Go p l e R s m args below meth c n0 Q h k n (mkF m q ls (.int (x.toUInt32.toUInt16.toUInt32.toInt32) :: st))) : Go p l e R s m args below meth c n0 Q h k n (mkF m pc ls (.int x :: st)) := by
  subst hq; exact Go.of (fun T tg A => XT.i2c A K.1 rfl (hb K.2.2.2.1 hd) rfl) r
theorem go_i2s (K : Cx p s m meth c Z own nm bytes maxL ret) {x : Int32} (hd : decode bytes pc = .ok (.i2s, 1))  (hq : pc + 1 = q) (r : Go p l e R s m args below meth c n0 Q h k n (mkF m q ls (.int (x.toInt16.toInt32) :: st))) : Go p l e R s m args below meth c n0 Q h k n (mkF m pc ls (.int x :: st)) := by
  subst hq; exact Go.of (fun T tg A => XT.i2s A K.1 rfl (hb K.2.2.2.1 hd) rfl) r
theorem go_lcmp (K : Cx p s m meth c Z own nm bytes maxL ret) {x y : Int64} (hd : decode bytes pc = .ok (.lcmp, 1))  (hq : pc + 1 = q) (r : Go p l e R s m args below meth c n0 Q h k n (mkF m q ls (.int (XT.cmpL x y) :: st))) : Go p l e R s m args below meth c n0 Q h k n (mkF m pc ls (.long y :: .long x :: st)) := by
  subst hq; exact Go.of (fun T tg A => XT.lcmp A K.1 rfl (hb K.2.2.2.1 hd) rfl) r
theorem go_dup (K : Cx p s m meth c Z own nm bytes maxL ret) {x : Value} (hd : decode bytes pc = .ok (.dup, 1)) (hc : x.category = 1) (hq : pc + 1 = q) (r : Go p l e R s m args below meth c n0 Q h k n (mkF m q ls (x :: x :: st))) : Go p l e R s m args below meth c n0 Q h k n (mkF m pc ls (x :: st)) := by
  subst hq; exact Go.of (fun T tg A => XS.dup A K.1 rfl (hb K.2.2.2.1 hd) rfl hc) r
theorem go_pop (K : Cx p s m meth c Z own nm bytes maxL ret) {x : Value} (hd : decode bytes pc = .ok (.pop, 1)) (hc : x.category = 1) (hq : pc + 1 = q) (r : Go p l e R s m args below meth c n0 Q h k n (mkF m q ls st)) : Go p l e R s m args below meth c n0 Q h k n (mkF m pc ls (x :: st)) := by
  subst hq; exact Go.of (fun T tg A => XT.pop A K.1 rfl (hb K.2.2.2.1 hd) rfl hc) r
theorem go_dup_x1 (K : Cx p s m meth c Z own nm bytes maxL ret) {x y : Value} (hd : decode bytes pc = .ok (.dup_x1, 1)) (hc : x.category = 1) (hc2 : y.category = 1) (hq : pc + 1 = q) (r : Go p l e R s m args below meth c n0 Q h k n (mkF m q ls (x :: y :: x :: st))) : Go p l e R s m args below meth c n0 Q h k n (mkF m pc ls (x :: y :: st)) := by
  subst hq; exact Go.of (fun T tg A => XT.dupX1 A K.1 rfl (hb K.2.2.2.1 hd) rfl hc hc2) r
theorem go_dup2L (K : Cx p s m meth c Z own nm bytes maxL ret) {x : Int64} (hd : decode bytes pc = .ok (.dup2, 1))  (hq : pc + 1 = q) (r : Go p l e R s m args below meth c n0 Q h k n (mkF m q ls (.long x :: .long x :: st))) : Go p l e R s m args below meth c n0 Q h k n (mkF m pc ls (.long x :: st)) := by
  subst hq; exact Go.of (fun T tg A => XT.dup2L A K.1 rfl (hb K.2.2.2.1 hd) rfl) r
theorem go_istoreN (K : Cx p s m meth c Z own nm bytes maxL ret) {i : Fin 4} {x : Int32} (hd : decode bytes pc = .ok (.istore_n i, 1)) (l' : Array Slot) (hl : storeLocals ls i.val (.int x) = some l') (hq : pc + 1 = q) (r : Go p l e R s m args below meth c n0 Q h k n (mkF m q l' st)) : Go p l e R s m args below meth c n0 Q h k n (mkF m pc ls (.int x :: st)) := by
  subst hq; exact Go.of (fun T tg A => XS.istoreN A K.1 rfl (hb K.2.2.2.1 hd) rfl hl) r
theorem go_istore (K : Cx p s m meth c Z own nm bytes maxL ret) {i : Nat} {x : Int32} (hd : decode bytes pc = .ok (.istore i, 2)) (l' : Array Slot) (hl : storeLocals ls i (.int x) = some l') (hq : pc + 2 = q) (r : Go p l e R s m args below meth c n0 Q h k n (mkF m q l' st)) : Go p l e R s m args below meth c n0 Q h k n (mkF m pc ls (.int x :: st)) := by
  subst hq; exact Go.of (fun T tg A => XS.istore A K.1 rfl (hb K.2.2.2.1 hd) rfl hl) r
theorem go_lstoreN (K : Cx p s m meth c Z own nm bytes maxL ret) {i : Fin 4} {x : Int64} (hd : decode bytes pc = .ok (.lstore_n i, 1)) (l' : Array Slot) (hl : storeLocals ls i.val (.long x) = some l') (hq : pc + 1 = q) (r : Go p l e R s m args below meth c n0 Q h k n (mkF m q l' st)) : Go p l e R s m args below meth c n0 Q h k n (mkF m pc ls (.long x :: st)) := by
  subst hq; exact Go.of (fun T tg A => XT.lstoreN A K.1 rfl (hb K.2.2.2.1 hd) rfl hl) r
theorem go_lstore (K : Cx p s m meth c Z own nm bytes maxL ret) {i : Nat} {x : Int64} (hd : decode bytes pc = .ok (.lstore i, 2)) (l' : Array Slot) (hl : storeLocals ls i (.long x) = some l') (hq : pc + 2 = q) (r : Go p l e R s m args below meth c n0 Q h k n (mkF m q l' st)) : Go p l e R s m args below meth c n0 Q h k n (mkF m pc ls (.long x :: st)) := by
  subst hq; exact Go.of (fun T tg A => XT.lstore A K.1 rfl (hb K.2.2.2.1 hd) rfl hl) r
theorem go_astoreN (K : Cx p s m meth c Z own nm bytes maxL ret) {i : Fin 4} {x : Value} (hd : decode bytes pc = .ok (.astore_n i, 1)) (l' : Array Slot) (hv : x.isRef = true) (hl : storeLocals ls i.val x = some l') (hq : pc + 1 = q) (r : Go p l e R s m args below meth c n0 Q h k n (mkF m q l' st)) : Go p l e R s m args below meth c n0 Q h k n (mkF m pc ls (x :: st)) := by
  subst hq; exact Go.of (fun T tg A => XS.astoreN A K.1 rfl (hb K.2.2.2.1 hd) rfl hv hl) r
theorem go_astore (K : Cx p s m meth c Z own nm bytes maxL ret) {i : Nat} {x : Value} (hd : decode bytes pc = .ok (.astore i, 2)) (l' : Array Slot) (hv : x.isRef = true) (hl : storeLocals ls i x = some l') (hq : pc + 2 = q) (r : Go p l e R s m args below meth c n0 Q h k n (mkF m q l' st)) : Go p l e R s m args below meth c n0 Q h k n (mkF m pc ls (x :: st)) := by
  subst hq; exact Go.of (fun T tg A => XS.astore A K.1 rfl (hb K.2.2.2.1 hd) rfl hv hl) r
theorem go_iinc (K : Cx p s m meth c Z own nm bytes maxL ret) {i : Nat} {z : Int} {x : Int32} (hd : decode bytes pc = .ok (.iinc i z, 3)) (v : Int32) (l' : Array Slot) (hv : Int32.ofInt z = v) (hl : ls[i]? = some (.val (.int x))) (hl' : storeLocals ls i (.int (x + v)) = some l') (hq : pc + 3 = q) (r : Go p l e R s m args below meth c n0 Q h k n (mkF m q l' st)) : Go p l e R s m args below meth c n0 Q h k n (mkF m pc ls st) := by
  subst hq; exact Go.of (fun T tg A => XT.iincV A K.1 rfl v (hb K.2.2.2.1 hd) hv hl hl') r
theorem go_goto (K : Cx p s m meth c Z own nm bytes maxL ret)  {o : Int} (hd : decode bytes pc = .ok (.goto o, 3))  (ho : 0 ≤ (pc : Int) + o) (hq : ((pc : Int) + o).toNat = q) (r : Go p l e R s m args below meth c n0 Q h k n (mkF m q ls st)) : Go p l e R s m args below meth c n0 Q h k n (mkF m pc ls st) := by
  exact Go.of (fun T tg A => XS.goto A K.1 rfl rfl (hb K.2.2.2.1 hd) ho hq) r
def cP : ClassFile.Cond → Int32 → Int32 → Prop
  | .eq, x, y => x = y
  | .ne, x, y => ¬ x = y
  | .lt, x, y => x < y
  | .ge, x, y => ¬ x < y
  | .gt, x, y => y < x
  | .le, x, y => ¬ y < x
theorem cP_t {cd : ClassFile.Cond} {x y : Int32} (h : cP cd x y) : if_icmp.holds cd x y = true := by
  cases cd
  · exact XT.ii_eq_t h
  · exact XT.ii_ne_t h
  · exact XT.ii_lt_t h
  · exact XT.ii_ge_t h
  · exact XT.ii_gt_t h
  · exact XT.ii_le_t h
def cN : ClassFile.Cond → Int32 → Int32 → Prop
  | .eq, x, y => ¬ x = y
  | .ne, x, y => x = y
  | .lt, x, y => ¬ x < y
  | .ge, x, y => x < y
  | .gt, x, y => ¬ y < x
  | .le, x, y => y < x
theorem cN_no {cd : ClassFile.Cond} {x y : Int32} {G : Prop} (h : cP cd x y) (h' : cN cd x y) : G := by
  cases cd <;> first | exact absurd h h' | exact absurd h' h
theorem cN_no2 {cd : ClassFile.Cond} {x y : Int32} {G : Prop} (h' : cN cd x y) (h : cP cd x y) : G := cN_no h h'
theorem cP_or (cd : ClassFile.Cond) (x y : Int32) : cP cd x y ∨ cN cd x y := by
  cases cd
  · exact Classical.em (x = y)
  · exact (Classical.em (x = y)).symm
  · exact Classical.em (x < y)
  · exact (Classical.em (x < y)).symm
  · exact Classical.em (y < x)
  · exact (Classical.em (y < x)).symm
theorem cP_f {cd : ClassFile.Cond} {x y : Int32} (h : cN cd x y) : if_icmp.holds cd x y = false := by
  cases cd
  · exact XT.ii_eq_f h
  · exact XT.ii_ne_f h
  · exact XT.ii_lt_f h
  · exact XT.ii_ge_f h
  · exact XT.ii_gt_f h
  · exact XT.ii_le_f h

theorem go_icmp (K : Cx p s m meth c Z own nm bytes maxL ret) {cd : ClassFile.Cond} {x y : Int32} {o : Int} {q' : Nat} (hd : decode bytes pc = .ok (.if_icmp cd o, 3)) (ho : 0 ≤ (pc : Int) + o) (hq : ((pc : Int) + o).toNat = q) (hq' : pc + 3 = q') (r : cP cd x y → Go p l e R s m args below meth c n0 Q h k n (mkF m q ls st)) (r' : cN cd x y → Go p l e R s m args below meth c n0 Q h k n (mkF m q' ls st)) : Go p l e R s m args below meth c n0 Q h k n (mkF m pc ls (.int y :: .int x :: st)) := by
  subst hq'; rcases cP_or cd x y with hc | hc
  · exact Go.of (fun T tg A => XS.icmpYes A K.1 rfl rfl (hb K.2.2.2.1 hd) rfl (cP_t hc) ho hq) (r hc)
  · exact Go.of (fun T tg A => XS.icmpNo A K.1 rfl (hb K.2.2.2.1 hd) rfl (cP_f hc)) (r' hc)
theorem go_if0 (K : Cx p s m meth c Z own nm bytes maxL ret) {cd : ClassFile.Cond} {x : Int32} {o : Int} {q' : Nat} (hd : decode bytes pc = .ok (.ifCond cd o, 3)) (ho : 0 ≤ (pc : Int) + o) (hq : ((pc : Int) + o).toNat = q) (hq' : pc + 3 = q') (r : cP cd x 0 → Go p l e R s m args below meth c n0 Q h k n (mkF m q ls st)) (r' : cN cd x 0 → Go p l e R s m args below meth c n0 Q h k n (mkF m q' ls st)) : Go p l e R s m args below meth c n0 Q h k n (mkF m pc ls (.int x :: st)) := by
  subst hq'; rcases cP_or cd x 0 with hc | hc
  · exact Go.of (fun T tg A => XS.ifYes A K.1 rfl rfl (hb K.2.2.2.1 hd) rfl (by rw [if0]; exact cP_t hc) ho hq) (r hc)
  · exact Go.of (fun T tg A => XS.ifNo A K.1 rfl (hb K.2.2.2.1 hd) rfl (by rw [if0]; exact cP_f hc)) (r' hc)
def cL : ClassFile.Cond → Int64 → Int64 → Prop
  | .eq, x, y => x = y
  | .ne, x, y => ¬ x = y
  | .lt, x, y => x < y
  | .ge, x, y => ¬ x < y
  | .gt, x, y => y < x
  | .le, x, y => ¬ y < x
theorem cL_t {cd : ClassFile.Cond} {x y : Int64} (h : cL cd x y) : ifCond.holds cd (XT.cmpL x y) = true := by
  cases cd
  · exact XT.ll_eq_t h
  · exact XT.ll_ne_t h
  · exact XT.ll_lt_t h
  · exact XT.ll_ge_t h
  · exact XT.ll_gt_t h
  · exact XT.ll_le_t h
def cLN : ClassFile.Cond → Int64 → Int64 → Prop
  | .eq, x, y => ¬ x = y
  | .ne, x, y => x = y
  | .lt, x, y => ¬ x < y
  | .ge, x, y => x < y
  | .gt, x, y => ¬ y < x
  | .le, x, y => y < x
theorem cLN_no {cd : ClassFile.Cond} {x y : Int64} {G : Prop} (h : cL cd x y) (h' : cLN cd x y) : G := by
  cases cd <;> first | exact absurd h h' | exact absurd h' h
theorem cLN_no2 {cd : ClassFile.Cond} {x y : Int64} {G : Prop} (h' : cLN cd x y) (h : cL cd x y) : G := cLN_no h h'
theorem cL_or (cd : ClassFile.Cond) (x y : Int64) : cL cd x y ∨ cLN cd x y := by
  cases cd
  · exact Classical.em (x = y)
  · exact (Classical.em (x = y)).symm
  · exact Classical.em (x < y)
  · exact (Classical.em (x < y)).symm
  · exact Classical.em (y < x)
  · exact (Classical.em (y < x)).symm
theorem cL_f {cd : ClassFile.Cond} {x y : Int64} (h : cLN cd x y) : ifCond.holds cd (XT.cmpL x y) = false := by
  cases cd
  · exact XT.ll_eq_f h
  · exact XT.ll_ne_f h
  · exact XT.ll_lt_f h
  · exact XT.ll_ge_f h
  · exact XT.ll_gt_f h
  · exact XT.ll_le_f h

theorem go_ifL (K : Cx p s m meth c Z own nm bytes maxL ret) {cd : ClassFile.Cond} {x y : Int64} {o : Int} {q' : Nat} (hd : decode bytes pc = .ok (.ifCond cd o, 3)) (ho : 0 ≤ (pc : Int) + o) (hq : ((pc : Int) + o).toNat = q) (hq' : pc + 3 = q') (r : cL cd x y → Go p l e R s m args below meth c n0 Q h k n (mkF m q ls st)) (r' : cLN cd x y → Go p l e R s m args below meth c n0 Q h k n (mkF m q' ls st)) : Go p l e R s m args below meth c n0 Q h k n (mkF m pc ls (.int (XT.cmpL x y) :: st)) := by
  subst hq'; rcases cL_or cd x y with hc | hc
  · exact Go.of (fun T tg A => XS.ifYes A K.1 rfl rfl (hb K.2.2.2.1 hd) rfl (cL_t hc) ho hq) (r hc)
  · exact Go.of (fun T tg A => XS.ifNo A K.1 rfl (hb K.2.2.2.1 hd) rfl (cL_f hc)) (r' hc)
theorem go_ifnullY (K : Cx p s m meth c Z own nm bytes maxL ret)  {o : Int} (hd : decode bytes pc = .ok (.ifnull o, 3))  (ho : 0 ≤ (pc : Int) + o) (hq : ((pc : Int) + o).toNat = q) (r : Go p l e R s m args below meth c n0 Q h k n (mkF m q ls st)) : Go p l e R s m args below meth c n0 Q h k n (mkF m pc ls (.null :: st)) := by
  exact Go.of (fun T tg A => XS.ifnullYes A K.1 rfl rfl (hb K.2.2.2.1 hd) rfl ho hq) r
theorem go_ifnullN (K : Cx p s m meth c Z own nm bytes maxL ret) {a : Addr} {o : Int} (hd : decode bytes pc = .ok (.ifnull o, 3))  (hq : pc + 3 = q) (r : Go p l e R s m args below meth c n0 Q h k n (mkF m q ls st)) : Go p l e R s m args below meth c n0 Q h k n (mkF m pc ls (.ref a :: st)) := by
  subst hq; exact Go.of (fun T tg A => XS.ifnullNo A K.1 rfl (hb K.2.2.2.1 hd) rfl) r
theorem go_ifnonnullY (K : Cx p s m meth c Z own nm bytes maxL ret) {a : Addr} {o : Int} (hd : decode bytes pc = .ok (.ifnonnull o, 3))  (ho : 0 ≤ (pc : Int) + o) (hq : ((pc : Int) + o).toNat = q) (r : Go p l e R s m args below meth c n0 Q h k n (mkF m q ls st)) : Go p l e R s m args below meth c n0 Q h k n (mkF m pc ls (.ref a :: st)) := by
  exact Go.of (fun T tg A => XT.ifnonnullYes A K.1 rfl rfl (hb K.2.2.2.1 hd) rfl ho hq) r
theorem go_ifnonnullN (K : Cx p s m meth c Z own nm bytes maxL ret) {o : Int} (hd : decode bytes pc = .ok (.ifnonnull o, 3))  (hq : pc + 3 = q) (r : Go p l e R s m args below meth c n0 Q h k n (mkF m q ls st)) : Go p l e R s m args below meth c n0 Q h k n (mkF m pc ls (.null :: st)) := by
  subst hq; exact Go.of (fun T tg A => XT.ifnonnullNo A K.1 rfl (hb K.2.2.2.1 hd) rfl) r
def cA : ClassFile.ACond → Value → Value → Prop
  | .eq, x, y => x = y
  | .ne, x, y => ¬ x = y
def cAN : ClassFile.ACond → Value → Value → Prop
  | .eq, x, y => ¬ x = y
  | .ne, x, y => x = y
theorem cAN_no {cd : ClassFile.ACond} {x y : Value} {G : Prop} (h : cA cd x y) (h' : cAN cd x y) : G := by
  cases cd <;> first | exact absurd h h' | exact absurd h' h
theorem cAN_no2 {cd : ClassFile.ACond} {x y : Value} {G : Prop} (h' : cAN cd x y) (h : cA cd x y) : G := cAN_no h h'
theorem cA_or (cd : ClassFile.ACond) (x y : Value) : cA cd x y ∨ cAN cd x y := by
  cases cd
  · exact Classical.em (x = y)
  · exact (Classical.em (x = y)).symm
theorem cA_v {cd : ClassFile.ACond} {x y : Value} {b : Bool} (hb : decide (x = y) = b) : (acV cd b = true ↔ cA cd x y) := by
  subst hb; cases cd <;> simp [acV, cA]

theorem go_acmp (K : Cx p s m meth c Z own nm bytes maxL ret) {cd : ClassFile.ACond} {x y : Value} {o : Int} {q' : Nat} (hd : decode bytes pc = .ok (.if_acmp cd o, 3)) (h1 : x.isRef = true) (h2 : y.isRef = true) (ho : 0 ≤ (pc : Int) + o) (hq : ((pc : Int) + o).toNat = q) (hq' : pc + 3 = q') (r : cA cd x y → Go p l e R s m args below meth c n0 Q h k n (mkF m q ls st)) (r' : cAN cd x y → Go p l e R s m args below meth c n0 Q h k n (mkF m q' ls st)) : Go p l e R s m args below meth c n0 Q h k n (mkF m pc ls (y :: x :: st)) := by
  subst hq'; rcases cA_or cd x y with hc | hc
  · exact Go.ofX (fun T L tg S _ => acmp S K.1 rfl h1 h2 rfl (hb K.2.2.2.1 hd) rfl rfl ho (by rw [if_pos ((cA_v rfl).mpr hc)]; exact hq.symm)) (r hc)
  · exact Go.ofX (fun T L tg S _ => acmp S K.1 rfl h1 h2 rfl (hb K.2.2.2.1 hd) rfl rfl ho (by rw [if_neg (fun z => cAN_no ((cA_v rfl).mp z) hc)])) (r' hc)
theorem go_ldcI (K : Cx p s m meth c Z own nm bytes maxL ret) {i : Nat} {v : Int32} (wc : (Cond.constant own i v).before a0 Z = true) (hd : decode bytes pc = .ok (.ldc i, 2)) (hq : pc + 2 = q) (r : Go p l e R s m args below meth c n0 Q h k n (mkF m q ls (.int v :: st))) : Go p l e R s m args below meth c n0 Q h k n (mkF m pc ls st) := by
  subst hq; exact Go.ofX (fun T L tg S _ => S.ldcI K.1 K.2.2.1 (mvT K.2.1 wc) rfl (hb K.2.2.2.1 hd)) r
theorem go_ldcWI (K : Cx p s m meth c Z own nm bytes maxL ret) {i : Nat} {v : Int32} (wc : (Cond.constant own i v).before a0 Z = true) (hd : decode bytes pc = .ok (.ldc_w i, 3)) (hq : pc + 3 = q) (r : Go p l e R s m args below meth c n0 Q h k n (mkF m q ls (.int v :: st))) : Go p l e R s m args below meth c n0 Q h k n (mkF m pc ls st) := by
  subst hq; exact Go.ofX (fun T L tg S _ => S.ldcWI K.1 K.2.2.1 (mvT K.2.1 wc) rfl (hb K.2.2.2.1 hd)) r
theorem go_ldc2J (K : Cx p s m meth c Z own nm bytes maxL ret) {i : Nat} {v : Int64} (wc : (Cond.constantLong own i v).before a0 Z = true) (hd : decode bytes pc = .ok (.ldc2_w i, 3)) (hq : pc + 3 = q) (r : Go p l e R s m args below meth c n0 Q h k n (mkF m q ls (.long v :: st))) : Go p l e R s m args below meth c n0 Q h k n (mkF m pc ls st) := by
  subst hq; exact Go.ofX (fun T L tg S _ => S.ldc2J K.1 K.2.2.1 (mvT K.2.1 wc) rfl (hb K.2.2.2.1 hd)) r
theorem go_ldcF (K : Cx p s m meth c Z own nm bytes maxL ret) {i : Nat} {v : UInt32} (wc : (Cond.constantFloat own i v).before a0 Z = true) (hd : decode bytes pc = .ok (.ldc i, 2)) (hq : pc + 2 = q) (r : Go p l e R s m args below meth c n0 Q h k n (mkF m q ls (.float v :: st))) : Go p l e R s m args below meth c n0 Q h k n (mkF m pc ls st) := by
  subst hq; exact Go.ofX (fun T L tg S _ => S.ldcFloatC K.1 K.2.2.1 (mvT K.2.1 wc) (g := mkF m pc ls st) rfl (hb K.2.2.2.1 hd) tg) r
theorem lswAt {tb : Tables} [Ours tb] {e : Env} {below : List Frame} {T target : State} {m : MethodId} {c : Code} {g : JFrame} (h : At T m c below) (hx : tb.exec = Jvm.exec) (hg : g.method = m) {dflt o : Int} {prs : Array (Int × Int)} {len pc0 pc' : Nat} (hpc : g.pc = pc0) (hd : decode c.code g.pc = .ok (.lookupswitch dflt prs, len)) {i : Int32} {rest : List Value} (hs : g.stack = .int i :: rest)
    (hinc : (prs.toList.zip (prs.toList.drop 1)).all (fun (a, next) => a.1 < next.1) = true) (hoff : lookupswitch.offset prs.toList dflt i.toInt = o) (ho : 0 ≤ (pc0 : Int) + o) (hp : ((pc0 : Int) + o).toNat = pc')
    (hr : Steps tb e below (T.setTop { g with pc := pc', stack := rest }) target) : Steps tb e below (T.setTop g) target := by
  subst hg hpc hp
  jvm_step h [h.top, hx, hd, hs, lookupswitch.wp_chain, hoff, ho]
  exact ⟨by simpa using hinc, hr⟩
theorem go_lsw (K : Cx p s m meth c Z own nm bytes maxL ret) {dflt o : Int} {prs : Array (Int × Int)} {len : Nat} {x : Int32} (hd : decode bytes pc = .ok (.lookupswitch dflt prs, len)) (hinc : (prs.toList.zip (prs.toList.drop 1)).all (fun (a, next) => a.1 < next.1) = true) (hoff : lookupswitch.offset prs.toList dflt x.toInt = o) (ho : 0 ≤ (pc : Int) + o) (hq : ((pc : Int) + o).toNat = q)
    (r : Go p l e R s m args below meth c n0 Q h k n (mkF m q ls st)) : Go p l e R s m args below meth c n0 Q h k n (mkF m pc ls (.int x :: st)) :=
  by exact Go.of (fun T tg A => lswAt (g := mkF m pc ls (.int x :: st)) A K.1 rfl (pc0 := pc) (pc' := q) rfl (hb K.2.2.2.1 hd) rfl hinc hoff ho hq) r
theorem go_tsw (K : Cx p s m meth c Z own nm bytes maxL ret) {dflt low high o : Int} {offs : Array Int} {len : Nat} {x : Int32} (hd : decode bytes pc = .ok (.tableswitch dflt low high offs, len)) (hin : ¬ (x.toInt < low ∨ x.toInt > high)) (hoff : offs[(x.toInt - low).toNat]? = some o) (ho : 0 ≤ (pc : Int) + o) (hq : ((pc : Int) + o).toNat = q)
    (r : Go p l e R s m args below meth c n0 Q h k n (mkF m q ls st)) : Go p l e R s m args below meth c n0 Q h k n (mkF m pc ls (.int x :: st)) :=
  by exact Go.of (fun T tg A => XS.tswIn (g := mkF m pc ls (.int x :: st)) A K.1 rfl (pc0 := pc) (pc' := q) rfl (hb K.2.2.2.1 hd) rfl hin hoff ho hq) r

theorem go_return (K : Cx p s m meth c Z own nm bytes maxL ret) (hd : decode bytes pc = .ok (.return_, 1)) (hr : ret = none) (hk : k ≤ R.cells) (hn : n ≤ R.slots) (hQ : Q none h) : Go p l e R s m args below meth c n0 Q h k n (mkF m pc ls []) := fun T L S N eT => by
  obtain ⟨fs, hr', hrun, hended, hW, hsame⟩ := S.leave (v := none) (fun _ => rfl) K.2.2.2.2.2.2.1
  exact ⟨_, _, S.returnOut K.1 (K.2.2.2.2.2.1.trans hr) (hb K.2.2.2.1 hd) hr', hrun, hended, _, _, rfl, ⟨by show Q none T.heap; rw [eT]; exact hQ, N⟩, ⟨_, rfl⟩, hW, hsame.mono hk hn⟩
theorem go_ret (K : Cx p s m meth c Z own nm bytes maxL ret) {v : Value} {t : FieldType} {i : Instr} (hd : decode bytes pc = .ok (i, 1)) (hr : ret = some t) (hnw : narrow t v = v) (hi : (i = .ireturn ∧ (t = .int ∨ t = .boolean ∨ t = .byte ∨ t = .char ∨ t = .short) ∧ ∃ z, v = .int z) ∨ (i = .lreturn ∧ t = .long ∧ ∃ z, v = .long z) ∨ (i = .dreturn ∧ t = .double ∧ ∃ z, v = .double z) ∨ (i = .freturn ∧ t = .float ∧ ∃ z, v = .float z) ∨ (i = .areturn ∧ t.isReference = true ∧ v.isRef = true)) (hk : k ≤ R.cells) (hn : n ≤ R.slots) (hQ : Q (some v) h) : Go p l e R s m args below meth c n0 Q h k n (mkF m pc ls (v :: st)) := fun T L S N eT => by
  obtain ⟨fs, hr', hrun, hended, hW, hsame⟩ := S.leave (v := some v) (fun z => by rw [K.2.2.2.2.2.1, hr] at z; cases z) K.2.2.2.2.2.2.1
  exact ⟨_, _, retOut S K.1 (K.2.2.2.2.2.1.trans hr) hnw hi (hb K.2.2.2.1 hd) hr', hrun, hended, _, _, rfl, ⟨by show Q (some v) T.heap; rw [eT]; exact hQ, N⟩, ⟨_, rfl⟩, hW, hsame.mono hk hn⟩
theorem go_iret (K : Cx p s m meth c Z own nm bytes maxL ret) {v : Int32} {t : FieldType} (hd : decode bytes pc = .ok (.ireturn, 1)) (hr : ret = some t) (ht : t = .int ∨ t = .boolean ∨ t = .byte ∨ t = .char ∨ t = .short) (hnw : narrow t (.int v) = .int v) (hk : k ≤ R.cells) (hn : n ≤ R.slots) (hQ : Q (some (.int v)) h) : Go p l e R s m args below meth c n0 Q h k n (mkF m pc ls (.int v :: st)) :=
  go_ret K hd hr hnw (Or.inl ⟨rfl, ht, v, rfl⟩) hk hn hQ
theorem go_lret (K : Cx p s m meth c Z own nm bytes maxL ret) {v : Int64} (hd : decode bytes pc = .ok (.lreturn, 1)) (hr : ret = some .long) (hk : k ≤ R.cells) (hn : n ≤ R.slots) (hQ : Q (some (.long v)) h) : Go p l e R s m args below meth c n0 Q h k n (mkF m pc ls (.long v :: st)) :=
  go_ret K hd hr rfl (Or.inr (Or.inl ⟨rfl, rfl, v, rfl⟩)) hk hn hQ
theorem go_aret (K : Cx p s m meth c Z own nm bytes maxL ret) {v : Value} {t : FieldType} (hd : decode bytes pc = .ok (.areturn, 1)) (hr : ret = some t) (ht : t.isReference = true) (hv : v.isRef = true) (hnw : narrow t v = v) (hk : k ≤ R.cells) (hn : n ≤ R.slots) (hQ : Q (some v) h) : Go p l e R s m args below meth c n0 Q h k n (mkF m pc ls (v :: st)) :=
  go_ret K hd hr hnw (Or.inr (Or.inr (Or.inr (Or.inr ⟨rfl, ht, hv⟩)))) hk hn hQ
/-- a body's contract: called with just these arguments over the heap h it comes back, Q holds, and nothing below n0 was written -/
def Met (l : Launch) (y : MethodName) (bytes : ByteArray) (maxL : Nat) (ret : Option FieldType) (ws : List Jvm.Cond) (R : Room) (as' : Array Value) (Z : State) (h : Heap) (n0 : Nat) (Q : Option Value → Heap → Prop) : Prop :=
  MetFree l y (head1 (Jvm.Cond.code y bytes maxL ret :: ws) R) (fun a U => a = as' ∧ Z.Warmed39 U.vm ∧ U.heap = h) (fun _ _ _ _ _ => True) (fun _ U o U' => ∃ v L, o = .returned v ∧ (Q v U'.heap ∧ Fr n0 L) ∧ FrameEnd U o U' L R.cells R.slots)
theorem Met.of {y : MethodName} {ws : List Jvm.Cond} {as' : Array Value} (hp : plainFor y = true)
    (body : ∀ (p : Program) (e : Env) (s : State) (m : MethodId) (below : List Frame) (meth : Method) (c : Code), Cx p s m meth c Z y.cls y.name bytes maxL ret → Go p l e R s m as' below meth c n0 Q h 0 0 (entryFrame m as' maxL)) : Met l y bytes maxL ret ws R as' Z h n0 Q := by
  refine MetFree.of_bodySF hp hisR ?_
  intro p e s m args below meth c s₁ Bd hml0 hP hK
  obtain ⟨rfl, hZ, hh⟩ := hP
  have hown : s.vm.findClass y.cls = some m.cls := findClass_of_methodNamed Bd.named
  have hnm := (name_of_methodNamed Bd.named Bd.method).1
  exact body p e s m below meth c ⟨Bd.exec, hZ, hown, Bd.bytes, hml0, Bd.returns, Bd.notSynchronized, hnm⟩ s₁ [] (Stand.of_body Bd) (Fr.nil n0) (by rw [← hh, Bd.state]; rfl)
theorem Met.mono {y : MethodName} {ws : List Jvm.Cond} {as' : Array Value} {Q' : Option Value → Heap → Prop} (M : Met l y bytes maxL ret ws R as' Z h n0 Q) (f : ∀ v h', Q v h' → Q' v h') : Met l y bytes maxL ret ws R as' Z h n0 Q' := by
  intro p e ha hc hk s m args below hf happ hP hK
  obtain ⟨n, o, h1, h2, h3, v, L, h4, h5, h6⟩ := M p e ha hc hk s m args below hf happ hP hK
  exact ⟨n, o, h1, h2, h3, v, L, h4, ⟨f _ _ h5.1, h5.2⟩, h6⟩
theorem Go.entry {maxL' : Nat} {as' : Array Value} (hl : argsToLocals as' maxL' = ls) (r : Go p l e R s m args below meth c n0 Q h k n (mkF m 0 ls [])) : Go p l e R s m args below meth c n0 Q h k n (entryFrame m as' maxL') := by
  subst hl; exact r

/-- what a static call by contract needs -/
theorem go_callS (K : Cx p s m meth c Z own nm bytes maxL ret) {y : MethodName} {bytes' : ByteArray} {maxL' : Nat} {ret' : Option FieldType} {rm : Room} {W i : Nat} {Q' : Option Value → Heap → Prop} {ps : List FieldType}
    (w1 : (Cond.methodLink own i y).before a0 Z = true) (w2 : (Cond.static y).before a0 Z = true) (w3 : (Cond.initialized y.cls).before a0 Z = true) (w4 : (Cond.code y bytes' maxL' ret').before a0 Z = true)
    (argsL rest : List Value) (hM : Met l y bytes' maxL' ret' [] rm argsL.toArray Z h n0 Q') (hd : decode bytes pc = .ok (.invokestatic i, 3)) (hpd : parseMethodDescriptor y.desc = some ⟨ps, ret'⟩) (hlen : argsL.length = ps.length) (hst : st = argsL.reverse ++ rest)
    (hls : ls.size = maxL) (hy : y.cls ≠ "java/lang/invoke/MethodHandle" ∧ y.cls ≠ "java/lang/invoke/VarHandle") (hW : (rest.map fun v => v.category).sum = W) (hfr : rm.frames + 1 ≤ R.frames) (hlo : W + (maxL' + 11) + rm.locals ≤ R.locals) (hce : k + rm.cells ≤ R.cells) (hsl : n + rm.slots ≤ R.slots) (hq : pc + 3 = q)
    (r : ∀ v h', Q' v h' → Go p l e R s m args below meth c n0 Q h' (k + rm.cells) (n + rm.slots) (mkF m q ls (v.toList ++ rest))) : Go p l e R s m args below meth c n0 Q h k n (mkF m pc ls st) := fun T L S N eT => by
  subst hq hst
  obtain ⟨v, _, B, -, X, ⟨Lc, hQ, l1, y1, z1⟩, stp⟩ := Jvm.LawKit.callS S K.1 (y := y) K.2.2.1 (mvT K.2.1 w1) (mvT K.2.1 w2) (mvT K.2.1 w3) (mvT K.2.1 w4) hy (backOf (W := W) (Q := fun v h' L => Q' v h' ∧ Fr n0 L) hM K.2.1 w4 w3 hfr hlo) (g := mkF m pc ls (argsL.reverse ++ rest)) rfl (hls.trans K.2.2.2.2.1.symm) (argsL := argsL) (rest := rest) (lenOf hpd hlen) rfl (by show 2 * 0 + _ ≤ _; rw [hW]; omega) (hb K.2.2.2.1 hd) (fun _ _ => ⟨rfl, eT, hce, hsl⟩)
  obtain ⟨T', L', k', n'⟩ := B
  dsimp only [Pt.U, Pt.locs, Pt.cells, Pt.slots] at X l1 y1 z1 stp hQ
  subst l1 y1 z1
  obtain ⟨s₂, o, hs, z⟩ := r v _ hQ.1 T' _ X (Fr.app N hQ.2) rfl
  exact ⟨s₂, o, stp _ hs, z⟩
theorem go_callI (K : Cx p s m meth c Z own nm bytes maxL ret) {y : MethodName} {bytes' : ByteArray} {maxL' : Nat} {rm : Room} {W i : Nat} {Q' : Option Value → Heap → Prop} {ps : List FieldType} {a : Addr}
    (w1 : (Cond.methodLink own i y).before a0 Z = true) (w2 : (Cond.instanceMethod y).before a0 Z = true) (w3 : (Cond.initialized y.cls).before a0 Z = true) (w4 : (Cond.code y bytes' maxL' none).before a0 Z = true) (hy1 : y.name = "<init>")
    (argsL rest : List Value) (hM : Met l y bytes' maxL' none [] rm (.ref a :: argsL).toArray Z h n0 Q') (hd : decode bytes pc = .ok (.invokespecial i, 3)) (hpd : parseMethodDescriptor y.desc = some ⟨ps, none⟩) (hlen : argsL.length = ps.length) (hst : st = argsL.reverse ++ .ref a :: rest)
    (hls : ls.size = maxL) (hy : y.cls ≠ "java/lang/invoke/MethodHandle" ∧ y.cls ≠ "java/lang/invoke/VarHandle") (hW : (rest.map fun v => v.category).sum = W) (hfr : rm.frames + 1 ≤ R.frames) (hlo : W + (maxL' + 11) + rm.locals ≤ R.locals) (hce : k + rm.cells ≤ R.cells) (hsl : n + rm.slots ≤ R.slots) (hq : pc + 3 = q)
    (r : ∀ v h', Q' v h' → Go p l e R s m args below meth c n0 Q h' (k + rm.cells) (n + rm.slots) (mkF m q ls (v.toList ++ rest))) : Go p l e R s m args below meth c n0 Q h k n (mkF m pc ls st) := fun T L S N eT => by
  subst hq hst
  obtain ⟨v, _, B, -, X, ⟨Lc, hQ, l1, y1, z1⟩, stp⟩ := S.specialBack K.1 (y := y) hy1 K.2.2.1 (mvT K.2.1 w1) (mvT K.2.1 w2) (mvT K.2.1 w4) hy (backOf (W := W) (Q := fun v h' L => Q' v h' ∧ Fr n0 L) hM K.2.1 w4 w3 hfr hlo) (g := mkF m pc ls (argsL.reverse ++ .ref a :: rest)) rfl (hls.trans K.2.2.2.2.1.symm) (Steps.refl _) (a := a) (argsL := argsL) (rest := rest) (lenOf hpd hlen) rfl (by show 2 * 0 + _ ≤ _; rw [hW]; omega) (hb K.2.2.2.1 hd) (fun _ _ => ⟨rfl, eT, hce, hsl⟩)
  obtain ⟨T', L', k', n'⟩ := B
  dsimp only [Pt.U, Pt.locs, Pt.cells, Pt.slots] at X l1 y1 z1 stp hQ
  subst l1 y1 z1
  obtain ⟨s₂, o, hs, z⟩ := r v _ hQ.1 T' _ X (Fr.app N hQ.2) rfl
  exact ⟨s₂, o, stp.trans hs, z⟩
theorem nf_of {y yf : MethodName} {Cf : String} (w : (Cond.selects Cf yf yf).before args s = true) (hyf : yf.cls = y.cls) : NotFace s y := fun r0 h0 => by
  obtain ⟨c2, r2, m2, -, -, q3, -, kP, hkP, hkPi⟩ := Cond.selects_spec w
  have hcl : m2.cls = r0.cls := by
    have e1 := findClass_of_methodNamed q3
    have e2 := findClass_of_methodNamed h0
    rw [hyf] at e1
    exact Option.some.inj (e1.symm.trans e2)
  rw [hcl] at hkP
  exact ⟨kP, hkP, hkPi⟩
theorem go_callV (K : Cx p s m meth c Z own nm bytes maxL ret) {y yz yf : MethodName} {C Cf : String} {bytes' : ByteArray} {maxL' : Nat} {ret' : Option FieldType} {rm : Room} {W i : Nat} {Q' : Option Value → Heap → Prop} {ps : List FieldType} {a : Addr}
    (w1 : (Cond.methodLink own i y).before a0 Z = true) (w2 : (Cond.declares y).before a0 Z = true) (w3 : (Cond.selects C y yz).before a0 Z = true) (w4 : (Cond.instanceMethod yz).before a0 Z = true) (w5 : (Cond.initialized yz.cls).before a0 Z = true) (w6 : (Cond.code yz bytes' maxL' ret').before a0 Z = true) (w7 : (Cond.selects Cf yf yf).before a0 Z = true) (hyf : yf.cls = y.cls)
    (E : Exa Z h a C) (argsL rest : List Value) (hM : Met l yz bytes' maxL' ret' [] rm (.ref a :: argsL).toArray Z h n0 Q') (hd : decode bytes pc = .ok (.invokevirtual i, 3)) (hpd : parseMethodDescriptor y.desc = some ⟨ps, ret'⟩) (hlen : argsL.length = ps.length) (hst : st = argsL.reverse ++ .ref a :: rest)
    (hls : ls.size = maxL) (hy : y.cls ≠ "java/lang/invoke/MethodHandle" ∧ y.cls ≠ "java/lang/invoke/VarHandle") (hW : (rest.map fun v => v.category).sum = W) (hfr : rm.frames + 1 ≤ R.frames) (hlo : W + (maxL' + 11) + rm.locals ≤ R.locals) (hce : k + rm.cells ≤ R.cells) (hsl : n + rm.slots ≤ R.slots) (hq : pc + 3 = q)
    (r : ∀ v h', Q' v h' → Go p l e R s m args below meth c n0 Q h' (k + rm.cells) (n + rm.slots) (mkF m q ls (v.toList ++ rest))) : Go p l e R s m args below meth c n0 Q h k n (mkF m pc ls st) := fun T L S N eT => by
  subst hq hst
  obtain ⟨cq, kq, qa, qb, qc⟩ := isOf K.2.1 eT E
  obtain ⟨v, _, B, -, X, ⟨Lc, hQ, l1, y1, z1⟩, stp⟩ := S.virtualBack K.1 (y := y) (z := yz) K.2.2.1 (mvT K.2.1 w1) (mvT K.2.1 w2) (nf_of (args := #[]) (mvT K.2.1 w7) hyf) (mvT K.2.1 w3) (mvT K.2.1 w4) hy (backOf (W := W) (Q := fun v h' L => Q' v h' ∧ Fr n0 L) hM K.2.1 w6 w5 hfr hlo) qa qc (g := mkF m pc ls (argsL.reverse ++ .ref a :: rest)) rfl (hls.trans K.2.2.2.2.1.symm) (Steps.refl _) (argsL := argsL) (rest := rest) (lenOf hpd hlen) rfl (by show 2 * 0 + _ ≤ _; rw [hW]; omega) (hb K.2.2.2.1 hd) (fun _ _ => ⟨rfl, eT, hce, hsl⟩)
  obtain ⟨T', L', k', n'⟩ := B
  dsimp only [Pt.U, Pt.locs, Pt.cells, Pt.slots] at X l1 y1 z1 stp hQ
  subst l1 y1 z1
  obtain ⟨s₂, o, hs, z⟩ := r v _ hQ.1 T' _ X (Fr.app N hQ.2) rfl
  exact ⟨s₂, o, stp.trans hs, z⟩

/-! the heap: fields, statics, objects -/
theorem go_getF (K : Cx p s m meth c Z own nm bytes maxL ret) {R0 O f d : String} {i : Nat} {a : Addr} {v : Value} (w1 : (Cond.fieldLink own i R0 f d).before a0 Z = true) (via : Via Z R0 O f d) (F : Fld Z h a O f d v) (hd : decode bytes pc = .ok (.getfield i, 3)) (hq : pc + 3 = q)
    (r : Go p l e R s m args below meth c n0 Q h k n (mkF m q ls (v :: st))) : Go p l e R s m args below meth c n0 Q h k n (mkF m pc ls (.ref a :: st)) := fun T L S N eT => by
  subst hq
  obtain ⟨T', X, e', stp⟩ := getF S K.1 K.2.1 K.2.2.1 (host := "") (Or.inl w1) via eT F (g := mkF m pc ls (.ref a :: st)) rfl rfl (hb K.2.2.2.1 hd)
  obtain ⟨s₂, o, hs, z⟩ := r T' L X N e'
  exact ⟨s₂, o, stp _ hs, z⟩
theorem go_getS (K : Cx p s m meth c Z own nm bytes maxL ret) {R0 O f d : String} {i : Nat} {v : Value} (w1 : (Cond.fieldLink own i R0 f d).before a0 Z = true) (via : Via Z R0 O f d) (F : Sta Z h O f d v) (hd : decode bytes pc = .ok (.getstatic i, 3)) (hq : pc + 3 = q)
    (r : Go p l e R s m args below meth c n0 Q h k n (mkF m q ls (v :: st))) : Go p l e R s m args below meth c n0 Q h k n (mkF m pc ls st) := fun T L S N eT => by
  subst hq
  obtain ⟨T', X, e', stp⟩ := getS S K.1 K.2.1 (host := "") K.2.2.1 w1 via eT F (g := mkF m pc ls st) rfl (hb K.2.2.2.1 hd)
  obtain ⟨s₂, o, hs, z⟩ := r T' L X N e'
  exact ⟨s₂, o, stp _ hs, z⟩
theorem go_putF (K : Cx p s m meth c Z own nm bytes maxL ret) {R0 O f d C : String} {i kk : Nat} {ty : FieldType} {a : Addr} {v old : Value} (w1 : (Cond.fieldLink own i R0 f d).before a0 Z = true) (via : Via Z R0 O f d) (F : Fld Z h a O f d old) (E : Exa Z h a C)
    (Ly : (Cond.lays C O f d).before a0 Z = true ∨ ((Cond.laysFinal C O f d).before a0 Z = true ∧ own = O ∧ nm = "<init>")) (wi : (Cond.instantiable C kk).before a0 Z = true) (hty : parseFieldDescriptor d = some ty) (hnw : narrow ty v = v) (hf : fits ty v = true) (ha : n0 ≤ a)
    (hd : decode bytes pc = .ok (.putfield i, 3)) (hq : pc + 3 = q)
    (r : ∀ h', Wr h h' a (Jvm.RoadKit.slotOf Z O f d) v → Go p l e R s m args below meth c n0 Q h' k n (mkF m q ls st)) : Go p l e R s m args below meth c n0 Q h k n (mkF m pc ls (v :: .ref a :: st)) := fun T L S N eT => by
  subst hq
  obtain ⟨T', h', X, e', W, stp⟩ := putF S K.1 K.2.1 K.2.2.1 (host := "") (Or.inl w1) via eT F E (Ly.imp id fun z => ⟨z.1, z.2.1, K.2.2.2.2.2.2.2.trans z.2.2⟩) wi hty hnw hf (g := mkF m pc ls (v :: .ref a :: st)) rfl rfl (hb K.2.2.2.1 hd)
  obtain ⟨s₂, o, hs, z⟩ := r h' W T' _ X (Fr.snoc X N ha) e'
  exact ⟨s₂, o, stp _ hs, z⟩
theorem go_new (K : Cx p s m meth c Z own nm bytes maxL ret) {C : String} {i sz : Nat} (w1 : (Cond.classLink own i C).before a0 Z = true) (w2 : (Cond.instantiable C sz).before a0 Z = true) (w3 : (Cond.initialized C).before a0 Z = true) (hd : decode bytes pc = .ok (.new i, 3)) (hce : k + 1 ≤ R.cells) (hsl : n + sz ≤ R.slots) (hq : pc + 3 = q)
    (r : ∀ h' a, a = h.size → Ext h h' → Exa Z h' a C → (∀ {O f d : String} {ty : FieldType}, Laid Z a0 C O f d → parseFieldDescriptor d = some ty → Fld Z h' a O f d (defaultValue ty)) → Go p l e R s m args below meth c n0 Q h' (k + 1) (n + sz) (mkF m q ls (.ref a :: st))) : Go p l e R s m args below meth c n0 Q h k n (mkF m pc ls st) := fun T L S N eT => by
  subst hq
  obtain ⟨T', h', X, e', E, A, D, -, stp⟩ := newO S K.1 K.2.1 K.2.2.1 w1 w2 w3 eT (g := mkF m pc ls st) rfl (hb K.2.2.2.1 hd) hce hsl
  obtain ⟨s₂, o, hs, z⟩ := r h' _ rfl E A D T' _ X N e'
  exact ⟨s₂, o, stp _ hs, z⟩
theorem go_initO (K : Cx p s m meth c Z own nm bytes maxL ret) {i : Nat} {a : Addr} (w1 : (Cond.methodLink own i Lib.objectInit).before a0 Z = true) (w2 : (Cond.instanceMethod Lib.objectInit).before a0 Z = true) (w3 : (Cond.code Lib.objectInit ⟨#[0xb1]⟩ 1 none).before a0 Z = true) (hd : decode bytes pc = .ok (.invokespecial i, 3)) {W : Nat} (hls : ls.size = maxL) (hW : (st.map fun v => v.category).sum = W) (hfr : 1 ≤ R.frames) (hlo : W + 12 ≤ R.locals) (hq : pc + 3 = q)
    (r : Go p l e R s m args below meth c n0 Q h k n (mkF m q ls st)) : Go p l e R s m args below meth c n0 Q h k n (mkF m pc ls (.ref a :: st)) := fun T L S N eT => by
  subst hq
  obtain ⟨T', X, e', stp⟩ := initO S K.1 K.2.1 K.2.2.1 w1 w2 w3 eT (g := mkF m pc ls (.ref a :: st)) rfl (hls.trans K.2.2.2.2.1.symm) rfl (hb K.2.2.2.1 hd) hfr (W := W) (by show 2 * 0 + _ ≤ _; rw [hW]; omega) hlo
  obtain ⟨s₂, o, hs, z⟩ := r T' L X N e'
  exact ⟨s₂, o, stp _ hs, z⟩
/-! arrays: a known array and the list of what it holds -/
def Ary (Z : State) (h : Heap) (a : Addr) (kl : ClassId) (ty : FieldType) (vs : List Value) : Prop := ∃ cl : Cell, Arr Z h a cl ty ∧ cl.cls = kl ∧ cl.slots.toList = vs ∧ vs.length < 2 ^ 31
theorem Ary.lt {a : Addr} {kl : ClassId} {ty : FieldType} {vs : List Value} (F : Ary Z h a kl ty vs) : a < h.size := by obtain ⟨cl, A, -⟩ := F; exact A.lt
theorem Ary.ext {h' : Heap} {a : Addr} {kl : ClassId} {ty : FieldType} {vs : List Value} (F : Ary Z h a kl ty vs) (E : Ext h h') : Ary Z h' a kl ty vs := by obtain ⟨cl, A, r⟩ := F; exact ⟨cl, A.ext E, r⟩
theorem Ary.other {h' : Heap} {a b : Addr} {sl : Nat} {v : Value} {kl : ClassId} {ty : FieldType} {vs : List Value} (F : Ary Z h b kl ty vs) (W : Wr h h' a sl v) (q : b ≠ a) : Ary Z h' b kl ty vs := by obtain ⟨cl, A, r⟩ := F; exact ⟨cl, A.other W q, r⟩
theorem Ary.keep {h' : Heap} {ws : List Addr} {a : Addr} {kl : ClassId} {ty : FieldType} {vs : List Value} (F : Ary Z h a kl ty vs) (K : Keep h h' ws) (q : a ∉ ws) : Ary Z h' a kl ty vs := by obtain ⟨cl, A, r⟩ := F; exact ⟨cl, ⟨K.2.1 a cl A.1 q, A.2⟩, r⟩
theorem Ary.set {h' : Heap} {a : Addr} {j : Nat} {v : Value} {kl : ClassId} {ty : FieldType} {vs : List Value} (F : Ary Z h a kl ty vs) (W : Wr h h' a j v) : Ary Z h' a kl ty (vs.set j v) := by
  obtain ⟨cl, A, r1, r2, r3⟩ := F
  refine ⟨_, A.same W, r1, ?_, by simpa using r3⟩
  subst r2
  simp [Cell.setSlot]
theorem ary_in {cl : Cell} {vs : List Value} {j : Int32} (r2 : cl.slots.toList = vs) (hj0 : ¬ j < 0) (hj : j.toNatClampNeg < vs.length) : ¬ (j < 0 ∨ cl.slots.size ≤ j.toNatClampNeg) := by
  subst r2
  rintro (q | q)
  · exact hj0 q
  · simp at hj; omega

theorem go_iaload (K : Cx p s m meth c Z own nm bytes maxL ret) {a : Addr} {kl : ClassId} {vs : List Value} {j : Int32} {v : Int32} (F : Ary Z h a kl .int vs) (hj0 : ¬ j < 0) (hj : vs[j.toNatClampNeg]? = some (.int v)) (hd : decode bytes pc = .ok (.iaload, 1)) (hq : pc + 1 = q)
    (r : Go p l e R s m args below meth c n0 Q h k n (mkF m q ls ((.int v) :: st))) : Go p l e R s m args below meth c n0 Q h k n (mkF m pc ls (.int j :: .ref a :: st)) := by
  subst hq
  obtain ⟨cl, A, r1, r2, r3⟩ := F
  refine Go.ofX (fun T L tg S eT => S.iaload K.1 (j := j) (v := (.int v)) (by rw [eT]; exact A.1) (State.isArrayOf_alike K.2.1.alike A.2.1) A.2.2 (ary_in r2 hj0 (List.getElem?_eq_some_iff.mp hj).1) (by rw [← hj, ← r2]; simp) (g := mkF m pc ls (.int j :: .ref a :: st)) rfl rfl (hb K.2.2.2.1 hd) tg) r
theorem go_laload (K : Cx p s m meth c Z own nm bytes maxL ret) {a : Addr} {kl : ClassId} {vs : List Value} {j : Int32} {v : Int64} (F : Ary Z h a kl .long vs) (hj0 : ¬ j < 0) (hj : vs[j.toNatClampNeg]? = some (.long v)) (hd : decode bytes pc = .ok (.laload, 1)) (hq : pc + 1 = q)
    (r : Go p l e R s m args below meth c n0 Q h k n (mkF m q ls ((.long v) :: st))) : Go p l e R s m args below meth c n0 Q h k n (mkF m pc ls (.int j :: .ref a :: st)) := by
  subst hq
  obtain ⟨cl, A, r1, r2, r3⟩ := F
  refine Go.ofX (fun T L tg S eT => S.laload K.1 (j := j) (v := (.long v)) (by rw [eT]; exact A.1) (State.isArrayOf_alike K.2.1.alike A.2.1) A.2.2 (ary_in r2 hj0 (List.getElem?_eq_some_iff.mp hj).1) (by rw [← hj, ← r2]; simp) (g := mkF m pc ls (.int j :: .ref a :: st)) rfl rfl (hb K.2.2.2.1 hd) tg) r
theorem go_caload (K : Cx p s m meth c Z own nm bytes maxL ret) {a : Addr} {kl : ClassId} {vs : List Value} {j : Int32} {v : Int32} (F : Ary Z h a kl .char vs) (hj0 : ¬ j < 0) (hj : vs[j.toNatClampNeg]? = some (.int v)) (hd : decode bytes pc = .ok (.caload, 1)) (hq : pc + 1 = q)
    (r : Go p l e R s m args below meth c n0 Q h k n (mkF m q ls ((.int v) :: st))) : Go p l e R s m args below meth c n0 Q h k n (mkF m pc ls (.int j :: .ref a :: st)) := by
  subst hq
  obtain ⟨cl, A, r1, r2, r3⟩ := F
  refine Go.ofX (fun T L tg S eT => S.caload K.1 (j := j) (v := (.int v)) (by rw [eT]; exact A.1) (State.isArrayOf_alike K.2.1.alike A.2.1) A.2.2 (ary_in r2 hj0 (List.getElem?_eq_some_iff.mp hj).1) (by rw [← hj, ← r2]; simp) (g := mkF m pc ls (.int j :: .ref a :: st)) rfl rfl (hb K.2.2.2.1 hd) tg) r
theorem go_baload (K : Cx p s m meth c Z own nm bytes maxL ret) {a : Addr} {kl : ClassId} {vs : List Value} {j : Int32} {v : Int32} (F : Ary Z h a kl .byte vs) (hj0 : ¬ j < 0) (hj : vs[j.toNatClampNeg]? = some (.int v)) (hd : decode bytes pc = .ok (.baload, 1)) (hq : pc + 1 = q)
    (r : Go p l e R s m args below meth c n0 Q h k n (mkF m q ls ((.int v) :: st))) : Go p l e R s m args below meth c n0 Q h k n (mkF m pc ls (.int j :: .ref a :: st)) := by
  subst hq
  obtain ⟨cl, A, r1, r2, r3⟩ := F
  refine Go.ofX (fun T L tg S eT => S.baloadBytes K.1 (j := j) (v := (.int v)) (by rw [eT]; exact A.1) (State.isArrayOf_alike K.2.1.alike A.2.1) A.2.2 (ary_in r2 hj0 (List.getElem?_eq_some_iff.mp hj).1) (by rw [← hj, ← r2]; simp) (g := mkF m pc ls (.int j :: .ref a :: st)) rfl rfl (hb K.2.2.2.1 hd) tg) r
theorem go_aaload (K : Cx p s m meth c Z own nm bytes maxL ret) {a : Addr} {kl : ClassId} {vs : List Value} {j : Int32} {v : Value} {ty : FieldType} (F : Ary Z h a kl ty vs) (ht : ty.isReference = true) (hv : v.isRef = true) (hj0 : ¬ j < 0) (hj : vs[j.toNatClampNeg]? = some v) (hd : decode bytes pc = .ok (.aaload, 1)) (hq : pc + 1 = q)
    (r : Go p l e R s m args below meth c n0 Q h k n (mkF m q ls (v :: st))) : Go p l e R s m args below meth c n0 Q h k n (mkF m pc ls (.int j :: .ref a :: st)) := by
  subst hq
  obtain ⟨cl, A, r1, r2, r3⟩ := F
  refine Go.ofX (fun T L tg S eT => S.aaload K.1 (j := j) (v := v) (by rw [eT]; exact A.1) (State.isArrayOf_alike K.2.1.alike A.2.1) ht A.2.2 (ary_in r2 hj0 (List.getElem?_eq_some_iff.mp hj).1) (by rw [← hj, ← r2]; simp) (g := mkF m pc ls (.int j :: .ref a :: st)) rfl rfl (hb K.2.2.2.1 hd) tg) r
theorem go_arraylength (K : Cx p s m meth c Z own nm bytes maxL ret) {a : Addr} {kl : ClassId} {vs : List Value} {ty : FieldType} {z : Int32} (F : Ary Z h a kl ty vs) (hz : vs.length.toInt32 = z) (hd : decode bytes pc = .ok (.arraylength, 1)) (hq : pc + 1 = q)
    (r : Go p l e R s m args below meth c n0 Q h k n (mkF m q ls (.int z :: st))) : Go p l e R s m args below meth c n0 Q h k n (mkF m pc ls (.ref a :: st)) := by
  subst hq
  obtain ⟨cl, A, r1, r2, r3⟩ := F
  have e1 : cl.slots.size.toInt32 = z := by rw [← hz, ← r2]; simp
  subst e1
  refine Go.ofX (fun T L tg S eT => S.arraylength K.1 (cell := cl) (by rw [eT]; exact A.1) (State.isArrayOf_alike K.2.1.alike A.2.1) (g := mkF m pc ls (.ref a :: st)) rfl (rest := st) rfl (hb K.2.2.2.1 hd) tg) r
theorem go_iastore (K : Cx p s m meth c Z own nm bytes maxL ret) {a : Addr} {kl : ClassId} {vs : List Value} {j : Int32} {v : Int32} (F : Ary Z h a kl .int vs) (hj0 : ¬ j < 0) (hj : j.toNatClampNeg < vs.length) (ha : n0 ≤ a) (hd : decode bytes pc = .ok (.iastore, 1)) (hq : pc + 1 = q)
    (r : ∀ h', Wr h h' a j.toNatClampNeg (.int v) → Ary Z h' a kl .int (vs.set j.toNatClampNeg (.int v)) → Go p l e R s m args below meth c n0 Q h' k n (mkF m q ls st)) : Go p l e R s m args below meth c n0 Q h k n (mkF m pc ls (.int v :: .int j :: .ref a :: st)) := fun T L S N eT => by
  subst hq
  obtain ⟨cl, A, r1, r2, r3⟩ := id F
  obtain ⟨T', h', X, e', W, stp⟩ := stI S K.1 K.2.1 eT A (j := j) (x := v) (ary_in r2 hj0 hj) (g := mkF m pc ls (.int v :: .int j :: .ref a :: st)) rfl rfl (hb K.2.2.2.1 hd)
  obtain ⟨s₂, o, hs, z⟩ := r h' W (F.set W) T' _ X (Fr.snoc X N ha) e'
  exact ⟨s₂, o, stp _ hs, z⟩
theorem go_lastore (K : Cx p s m meth c Z own nm bytes maxL ret) {a : Addr} {kl : ClassId} {vs : List Value} {j : Int32} {v : Int64} (F : Ary Z h a kl .long vs) (hj0 : ¬ j < 0) (hj : j.toNatClampNeg < vs.length) (ha : n0 ≤ a) (hd : decode bytes pc = .ok (.lastore, 1)) (hq : pc + 1 = q)
    (r : ∀ h', Wr h h' a j.toNatClampNeg (.long v) → Ary Z h' a kl .long (vs.set j.toNatClampNeg (.long v)) → Go p l e R s m args below meth c n0 Q h' k n (mkF m q ls st)) : Go p l e R s m args below meth c n0 Q h k n (mkF m pc ls (.long v :: .int j :: .ref a :: st)) := fun T L S N eT => by
  subst hq
  obtain ⟨cl, A, r1, r2, r3⟩ := id F
  obtain ⟨T', h', X, e', W, stp⟩ := stJ S K.1 K.2.1 eT A (j := j) (x := v) (ary_in r2 hj0 hj) (g := mkF m pc ls (.long v :: .int j :: .ref a :: st)) rfl rfl (hb K.2.2.2.1 hd)
  obtain ⟨s₂, o, hs, z⟩ := r h' W (F.set W) T' _ X (Fr.snoc X N ha) e'
  exact ⟨s₂, o, stp _ hs, z⟩
theorem go_castore (K : Cx p s m meth c Z own nm bytes maxL ret) {a : Addr} {kl : ClassId} {vs : List Value} {j : Int32} {v : Int32} (F : Ary Z h a kl .char vs) (hj0 : ¬ j < 0) (hj : j.toNatClampNeg < vs.length) (ha : n0 ≤ a) (hd : decode bytes pc = .ok (.castore, 1)) (hq : pc + 1 = q)
    (r : ∀ h', Wr h h' a j.toNatClampNeg (.int (nar .char v)) → Ary Z h' a kl .char (vs.set j.toNatClampNeg (.int (nar .char v))) → Go p l e R s m args below meth c n0 Q h' k n (mkF m q ls st)) : Go p l e R s m args below meth c n0 Q h k n (mkF m pc ls (.int v :: .int j :: .ref a :: st)) := fun T L S N eT => by
  subst hq
  obtain ⟨cl, A, r1, r2, r3⟩ := id F
  obtain ⟨T', h', X, e', W, stp⟩ := stC S K.1 K.2.1 eT A (j := j) (x := v) (ary_in r2 hj0 hj) (g := mkF m pc ls (.int v :: .int j :: .ref a :: st)) rfl rfl (hb K.2.2.2.1 hd)
  obtain ⟨s₂, o, hs, z⟩ := r h' W (F.set W) T' _ X (Fr.snoc X N ha) e'
  exact ⟨s₂, o, stp _ hs, z⟩
theorem go_bastore (K : Cx p s m meth c Z own nm bytes maxL ret) {a : Addr} {kl : ClassId} {vs : List Value} {j : Int32} {v : Int32} (F : Ary Z h a kl .byte vs) (hj0 : ¬ j < 0) (hj : j.toNatClampNeg < vs.length) (ha : n0 ≤ a) (hd : decode bytes pc = .ok (.bastore, 1)) (hq : pc + 1 = q)
    (r : ∀ h', Wr h h' a j.toNatClampNeg (.int (nar .byte v)) → Ary Z h' a kl .byte (vs.set j.toNatClampNeg (.int (nar .byte v))) → Go p l e R s m args below meth c n0 Q h' k n (mkF m q ls st)) : Go p l e R s m args below meth c n0 Q h k n (mkF m pc ls (.int v :: .int j :: .ref a :: st)) := fun T L S N eT => by
  subst hq
  obtain ⟨cl, A, r1, r2, r3⟩ := id F
  obtain ⟨T', h', X, e', W, stp⟩ := stB S K.1 K.2.1 eT A (j := j) (x := v) (ary_in r2 hj0 hj) (g := mkF m pc ls (.int v :: .int j :: .ref a :: st)) rfl rfl (hb K.2.2.2.1 hd)
  obtain ⟨s₂, o, hs, z⟩ := r h' W (F.set W) T' _ X (Fr.snoc X N ha) e'
  exact ⟨s₂, o, stp _ hs, z⟩
theorem go_newarray (K : Cx p s m meth c Z own nm bytes maxL ret) {aty : ArrayType} {z : Int32} {num cap : Nat} (w1 : (Cond.arrayClass (newarray.typeOf aty)).before a0 Z = true) (hd : decode bytes pc = .ok (.newarray aty, 2)) (hz : ¬ z < 0) (hzn : z.toNatClampNeg = num) (hcap : num ≤ cap) (hcb : cap * 8 ≤ 536870912) (hce : k + 1 ≤ R.cells) (hsl : n + cap ≤ R.slots) (hq : pc + 2 = q)
    (r : ∀ h' a kl, a = h.size → Ext h h' → Ary Z h' a kl (newarray.typeOf aty) (List.replicate num (defaultValue (newarray.typeOf aty))) → Go p l e R s m args below meth c n0 Q h' (k + 1) (n + cap) (mkF m q ls (.ref a :: st))) : Go p l e R s m args below meth c n0 Q h k n (mkF m pc ls (.int z :: st)) := fun T L S N eT => by
  subst hq hzn
  obtain ⟨T', h', kl, X, e', E, A, stp⟩ := newP S K.1 K.2.1 w1 eT (g := mkF m pc ls (.int z :: st)) rfl (hb K.2.2.2.1 hd) (n := z) (rest := st) rfl hz hcap hcb hce hsl
  obtain ⟨s₂, o, hs, zz⟩ := r h' _ kl rfl E ⟨_, A, rfl, by simp [newA], by simp; omega⟩ T' _ X N e'
  exact ⟨s₂, o, stp _ hs, zz⟩

theorem go_anewarray (K : Cx p s m meth c Z own nm bytes maxL ret) {C : String} {i : Nat} {z : Int32} {num cap : Nat} (w1 : (Cond.classLink own i C).before a0 Z = true) (w2 : (Cond.arrayOver (.object C)).before a0 Z = true) (hd : decode bytes pc = .ok (.anewarray i, 3)) (hz : ¬ z < 0) (hzn : z.toNatClampNeg = num) (hcap : num ≤ cap) (hcb : cap * 8 ≤ 536870912) (hce : k + 1 ≤ R.cells) (hsl : n + cap ≤ R.slots) (hq : pc + 3 = q)
    (r : ∀ h' a kl, a = h.size → Ext h h' → Ary Z h' a kl (.object C) (List.replicate num .null) → Ovr Z kl C → Go p l e R s m args below meth c n0 Q h' (k + 1) (n + cap) (mkF m q ls (.ref a :: st))) : Go p l e R s m args below meth c n0 Q h k n (mkF m pc ls (.int z :: st)) := fun T L S N eT => by
  subst hq hzn
  obtain ⟨T', h', kl, X, e', E, A, O, stp⟩ := newR S K.1 K.2.1 K.2.2.1 w1 w2 eT (g := mkF m pc ls (.int z :: st)) rfl (hb K.2.2.2.1 hd) (n := z) (rest := st) rfl hz hcap hcb hce hsl
  obtain ⟨s₂, o, hs, zz⟩ := r h' _ kl rfl E ⟨_, A, rfl, by simp [newA, defaultValue], by simp; omega⟩ O T' _ X N e'
  exact ⟨s₂, o, stp _ hs, zz⟩
theorem go_aastore (K : Cx p s m meth c Z own nm bytes maxL ret) {a : Addr} {kl : ClassId} {vs : List Value} {j : Int32} {v : Value} {ty : FieldType} (F : Ary Z h a kl ty vs) (hty : ty.isReference = true) (So : Sto Z h a v) (hj0 : ¬ j < 0) (hj : j.toNatClampNeg < vs.length) (ha : n0 ≤ a) (hd : decode bytes pc = .ok (.aastore, 1)) (hq : pc + 1 = q)
    (r : ∀ h', Wr h h' a j.toNatClampNeg v → Ary Z h' a kl ty (vs.set j.toNatClampNeg v) → Go p l e R s m args below meth c n0 Q h' k n (mkF m q ls st)) : Go p l e R s m args below meth c n0 Q h k n (mkF m pc ls (v :: .int j :: .ref a :: st)) := fun T L S N eT => by
  subst hq
  obtain ⟨cl, A, r1, r2, r3⟩ := id F
  obtain ⟨T', h', X, e', W, stp⟩ := stR S K.1 K.2.1 eT A (j := j) (v := v) (ary_in r2 hj0 hj) hty So (g := mkF m pc ls (v :: .int j :: .ref a :: st)) rfl rfl (hb K.2.2.2.1 hd)
  obtain ⟨s₂, o, hs, z⟩ := r h' W (F.set W) T' _ X (Fr.snoc X N ha) e'
  exact ⟨s₂, o, stp _ hs, z⟩
theorem sto_of {a y : Addr} {kl : ClassId} {ty : FieldType} {vs : List Value} {C : String} (F : Ary Z h a kl ty vs) (O : Ovr Z kl C) (Iy : Ins Z h y C true) : Sto Z h a (.ref y) := by
  obtain ⟨cl, A, rfl, -⟩ := F
  exact Sto.of A O Iy
theorem go_checkcast (K : Cx p s m meth c Z own nm bytes maxL ret) {C : String} {i : Nat} {a : Addr} (w1 : (Cond.classLink own i C).before a0 Z = true) (F : Ins Z h a C true) (hd : decode bytes pc = .ok (.checkcast i, 3)) (hq : pc + 3 = q)
    (r : Go p l e R s m args below meth c n0 Q h k n (mkF m q ls (.ref a :: st))) : Go p l e R s m args below meth c n0 Q h k n (mkF m pc ls (.ref a :: st)) := fun T L S N eT => by
  subst hq
  obtain ⟨T', X, e', stp⟩ := castY S K.1 K.2.1 K.2.2.1 w1 eT F (g := mkF m pc ls (.ref a :: st)) rfl rfl (hb K.2.2.2.1 hd)
  obtain ⟨s₂, o, hs, z⟩ := r T' L X N e'
  exact ⟨s₂, o, stp _ hs, z⟩
theorem go_instY (K : Cx p s m meth c Z own nm bytes maxL ret) {C : String} {i : Nat} {a : Addr} (w1 : (Cond.classLink own i C).before a0 Z = true) (F : Ins Z h a C true) (hd : decode bytes pc = .ok (.instanceof i, 3)) (hq : pc + 3 = q)
    (r : Go p l e R s m args below meth c n0 Q h k n (mkF m q ls (.int 1 :: st))) : Go p l e R s m args below meth c n0 Q h k n (mkF m pc ls (.ref a :: st)) := fun T L S N eT => by
  subst hq
  obtain ⟨T', X, e', stp⟩ := instY S K.1 K.2.1 K.2.2.1 w1 eT F (g := mkF m pc ls (.ref a :: st)) rfl rfl (hb K.2.2.2.1 hd)
  obtain ⟨s₂, o, hs, z⟩ := r T' L X N e'
  exact ⟨s₂, o, stp _ hs, z⟩
/-- a virtual call through a subclass's name (the class 'ow' above declares the method) -/
theorem go_callU (K : Cx p s m meth c Z own nm bytes maxL ret) {y yz : MethodName} {C ow : String} {bytes' : ByteArray} {maxL' : Nat} {ret' : Option FieldType} {rm : Room} {W i : Nat} {Q' : Option Value → Heap → Prop} {ps : List FieldType} {a : Addr}
    (w1 : (Cond.methodLink own i y).before a0 Z = true) (w2 : (Cond.declares ⟨ow, y.name, y.desc⟩).before a0 Z = true) (w3 : (Cond.selects C y yz).before a0 Z = true) (w4 : (Cond.instanceMethod yz).before a0 Z = true) (w5 : (Cond.initialized yz.cls).before a0 Z = true) (w6 : (Cond.code yz bytes' maxL' ret').before a0 Z = true) (w7 : (Cond.sameMethod y.cls ow y.name y.desc).before a0 Z = true)
    (E : Exa Z h a C) (argsL rest : List Value) (hM : Met l yz bytes' maxL' ret' [] rm (.ref a :: argsL).toArray Z h n0 Q') (hd : decode bytes pc = .ok (.invokevirtual i, 3)) (hpd : parseMethodDescriptor y.desc = some ⟨ps, ret'⟩) (hlen : argsL.length = ps.length) (hst : st = argsL.reverse ++ .ref a :: rest)
    (hls : ls.size = maxL) (hy : ow ≠ "java/lang/invoke/MethodHandle" ∧ ow ≠ "java/lang/invoke/VarHandle") (hW : (rest.map fun v => v.category).sum = W) (hfr : rm.frames + 1 ≤ R.frames) (hlo : W + (maxL' + 11) + rm.locals ≤ R.locals) (hce : k + rm.cells ≤ R.cells) (hsl : n + rm.slots ≤ R.slots) (hq : pc + 3 = q)
    (r : ∀ v h', Q' v h' → Go p l e R s m args below meth c n0 Q h' (k + rm.cells) (n + rm.slots) (mkF m q ls (v.toList ++ rest))) : Go p l e R s m args below meth c n0 Q h k n (mkF m pc ls st) := fun T L S N eT => by
  subst hq hst
  obtain ⟨cq, kq, qa, qb, qc⟩ := isOf K.2.1 eT E
  obtain ⟨v, _, B, -, X, ⟨Lc, hQ, l1, y1, z1⟩, stp⟩ := S.virtualBackUp K.1 (x := y) (y := yz) K.2.2.1 (mvT K.2.1 w1) (mvT K.2.1 w7) (mvT K.2.1 w2) hy (mvT K.2.1 w3) (mvT K.2.1 w4) (backOf (W := W) (Q := fun v h' L => Q' v h' ∧ Fr n0 L) hM K.2.1 w6 w5 hfr hlo) qa qc (g := mkF m pc ls (argsL.reverse ++ .ref a :: rest)) rfl (hls.trans K.2.2.2.2.1.symm) (Steps.refl _) (argsL := argsL) (rest := rest) (lenOf hpd hlen) rfl (by show 2 * 0 + _ ≤ _; rw [hW]; omega) (hb K.2.2.2.1 hd) (fun _ _ => ⟨rfl, eT, hce, hsl⟩)
  obtain ⟨T', L', k', n'⟩ := B
  dsimp only [Pt.U, Pt.locs, Pt.cells, Pt.slots] at X l1 y1 z1 stp hQ
  subst l1 y1 z1
  obtain ⟨s₂, o, hs, z⟩ := r v _ hQ.1 T' _ X (Fr.app N hQ.2) rfl
  exact ⟨s₂, o, stp.trans hs, z⟩
/-- invokevirtual of a private method -/
theorem go_callP (K : Cx p s m meth c Z own nm bytes maxL ret) {y : MethodName} {C : String} {bytes' : ByteArray} {maxL' : Nat} {ret' : Option FieldType} {rm : Room} {W i : Nat} {Q' : Option Value → Heap → Prop} {ps : List FieldType} {a : Addr} {yf : MethodName} {Cf : String}
    (w1 : (Cond.methodLink own i y).before a0 Z = true) (w2 : (Cond.privateMethod y).before a0 Z = true) (w3 : (Cond.selects Cf yf yf).before a0 Z = true) (hyf : yf.cls = y.cls) (w4 : (Cond.instanceMethod y).before a0 Z = true) (w5 : (Cond.initialized y.cls).before a0 Z = true) (w6 : (Cond.code y bytes' maxL' ret').before a0 Z = true)
    (E : Exa Z h a C) (argsL rest : List Value) (hM : Met l y bytes' maxL' ret' [] rm (.ref a :: argsL).toArray Z h n0 Q') (hd : decode bytes pc = .ok (.invokevirtual i, 3)) (hpd : parseMethodDescriptor y.desc = some ⟨ps, ret'⟩) (hlen : argsL.length = ps.length) (hst : st = argsL.reverse ++ .ref a :: rest)
    (hls : ls.size = maxL) (hy : y.cls ≠ "java/lang/invoke/MethodHandle" ∧ y.cls ≠ "java/lang/invoke/VarHandle") (hW : (rest.map fun v => v.category).sum = W) (hfr : rm.frames + 1 ≤ R.frames) (hlo : W + (maxL' + 11) + rm.locals ≤ R.locals) (hce : k + rm.cells ≤ R.cells) (hsl : n + rm.slots ≤ R.slots) (hq : pc + 3 = q)
    (r : ∀ v h', Q' v h' → Go p l e R s m args below meth c n0 Q h' (k + rm.cells) (n + rm.slots) (mkF m q ls (v.toList ++ rest))) : Go p l e R s m args below meth c n0 Q h k n (mkF m pc ls st) := fun T L S N eT => by
  subst hq hst
  obtain ⟨cell, hcell, hobj⟩ := E.cell
  have hK := backOf (len := 3) (W := W) (R := R) (p := p) (e := e) (below := below) (args := args) (Q := fun v h' L => Q' v h' ∧ Fr n0 L) hM K.2.1 w6 w5 hfr hlo
  obtain ⟨mk, methM, hnamed, hmethM, hstM, habM⟩ := Cond.instanceMethod_spec (mvT (args := args) K.2.1 w4)
  obtain ⟨methM', cM, hmethM', -, -, -, -, -, -, hsigM⟩ := Cond.code_spec hnamed (mvT (args := args) K.2.1 w6)
  cases hmethM.symm.trans hmethM'
  obtain ⟨c2, r2, m2, -, -, q3, -, kP, hkP, hkPi⟩ := Cond.selects_spec (mvT (args := args) K.2.1 w3)
  have hcl : m2.cls = mk.cls := by
    have e1 := findClass_of_methodNamed q3
    have e2 := findClass_of_methodNamed hnamed
    rw [hyf] at e1
    exact Option.some.inj (e1.symm.trans e2)
  rw [hcl] at hkP
  have hpriv : s.PrivateAt y := Cond.privateMethod_at (mvP K.2.1 w2 (args := #[]))
  have hselP : selectMethod e.platform s.vm cell.cls mk = .method mk := selectMethod_private hmethM (hpriv mk methM hnamed hmethM)
  obtain ⟨vm₁, X₁, hstep₁⟩ := S.invokevirtual K.1 K.2.2.1 (mvT K.2.1 w1) hnamed hmethM hstM hkP hkPi hy (a := a) (cell := cell) (by rw [eT]; exact hcell) hobj hselP hmethM habM hkP hkPi (g := mkF m pc ls (argsL.reverse ++ .ref a :: rest)) rfl (argsL := argsL) (rest := rest) (by rw [lenOf hpd hlen _ hsigM]) rfl (hb K.2.2.2.1 hd)
  obtain ⟨v, B, X, ⟨Lc, hQ, l1, y1, z1⟩, hsteps⟩ := hK m meth c ⟨T.setVm vm₁, L, k, n⟩ (mkF m pc ls rest) (.invokevirtual i) mk (.ref a :: argsL).toArray X₁ rfl (hls.trans K.2.2.2.2.1.symm) (hb K.2.2.2.1 hd) (by show 2 * 0 + _ ≤ _; rw [hW]; omega) (X₁.named hnamed) ⟨rfl, eT, hce, hsl⟩
  obtain ⟨T', L', k', n'⟩ := B
  dsimp only [Pt.U, Pt.locs, Pt.cells, Pt.slots] at X l1 y1 z1 hsteps hQ
  subst l1 y1 z1
  obtain ⟨s₂, o, hs, z⟩ := r v _ hQ.1 T' _ X (Fr.app N hQ.2) rfl
  exact ⟨s₂, o, hstep₁ _ fun acts => by rw [doInvoke_state]; exact hsteps.trans hs, z⟩
/-- invokeinterface -/
theorem go_callF (K : Cx p s m meth c Z own nm bytes maxL ret) {y yz : MethodName} {C : String} {bytes' : ByteArray} {maxL' : Nat} {ret' : Option FieldType} {rm : Room} {W i cnt : Nat} {Q' : Option Value → Heap → Prop} {ps : List FieldType} {a : Addr}
    (w1 : (Cond.methodLink own i y).before a0 Z = true) (w2 : (Cond.declares y).before a0 Z = true) (w3 : (Cond.selects C y yz).before a0 Z = true) (w4 : (Cond.instanceMethod yz).before a0 Z = true) (w5 : (Cond.initialized yz.cls).before a0 Z = true) (w6 : (Cond.code yz bytes' maxL' ret').before a0 Z = true) (w7 : (Cond.interfaceMethod y.cls y.cls y.name y.desc).before a0 Z = true) (w8 : (Cond.publicMethod yz).before a0 Z = true) (w9 : (Cond.unhidden C y.name y.desc).before a0 Z = true) (wa : (Cond.castable C y.cls).before a0 Z = true)
    (E : Exa Z h a C) (argsL rest : List Value) (hM : Met l yz bytes' maxL' ret' [] rm (.ref a :: argsL).toArray Z h n0 Q') (hd : decode bytes pc = .ok (.invokeinterface i cnt, 5)) (hpd : parseMethodDescriptor y.desc = some ⟨ps, ret'⟩) (hlen : argsL.length = ps.length) (hst : st = argsL.reverse ++ .ref a :: rest)
    (hls : ls.size = maxL) (hy : y.cls ≠ "java/lang/invoke/MethodHandle" ∧ y.cls ≠ "java/lang/invoke/VarHandle") (hW : (rest.map fun v => v.category).sum = W) (hfr : rm.frames + 1 ≤ R.frames) (hlo : W + (maxL' + 11) + rm.locals ≤ R.locals) (hce : k + rm.cells ≤ R.cells) (hsl : n + rm.slots ≤ R.slots) (hq : pc + 5 = q)
    (r : ∀ v h', Q' v h' → Go p l e R s m args below meth c n0 Q h' (k + rm.cells) (n + rm.slots) (mkF m q ls (v.toList ++ rest))) : Go p l e R s m args below meth c n0 Q h k n (mkF m pc ls st) := fun T L S N eT => by
  subst hq hst
  obtain ⟨cq, kq, qa, qb, qc⟩ := isOf K.2.1 eT E
  obtain ⟨v, _, B, -, X, ⟨Lc, hQ, l1, y1, z1⟩, stp⟩ := S.interfaceBack K.1 (xi := y) (y := yz) K.2.2.1 (mvT K.2.1 w1) (mvT K.2.1 w2) (mvT K.2.1 w7 (by simp [Cond.onTables, Cond.keepsFace, Cond.keeps, Cond.steady, Cond.faceAtom, hy.1, hy.2])) (mvT K.2.1 w3) (mvT K.2.1 w4) (mvT K.2.1 w8) (mvT K.2.1 w9) (mvT K.2.1 wa) hy (backOf (W := W) (Q := fun v h' L => Q' v h' ∧ Fr n0 L) hM K.2.1 w6 w5 hfr hlo) qa qb qc (g := mkF m pc ls (argsL.reverse ++ .ref a :: rest)) rfl (hls.trans K.2.2.2.2.1.symm) (Steps.refl _) (argsL := argsL) (rest := rest) (lenOf hpd hlen) rfl (by show 2 * 0 + _ ≤ _; rw [hW]; omega) (hb K.2.2.2.1 hd) (fun _ _ => ⟨rfl, eT, hce, hsl⟩)
  obtain ⟨T', L', k', n'⟩ := B
  dsimp only [Pt.U, Pt.locs, Pt.cells, Pt.slots] at X l1 y1 z1 stp hQ
  subst l1 y1 z1
  obtain ⟨s₂, o, hs, z⟩ := r v _ hQ.1 T' _ X (Fr.app N hQ.2) rfl
  exact ⟨s₂, o, stp.trans hs, z⟩

end Layer
theorem dmx_0 : decode jdk_29_method_65_code 0 = .ok (.iload_n 0, 1) := by decide +kernel
theorem dmx_1 : decode jdk_29_method_65_code 1 = .ok (.iload_n 1, 1) := by decide +kernel
theorem dmx_2 : decode jdk_29_method_65_code 2 = .ok (.if_icmp .lt 7, 3) := by decide +kernel
theorem dmx_5 : decode jdk_29_method_65_code 5 = .ok (.iload_n 0, 1) := by decide +kernel
theorem dmx_6 : decode jdk_29_method_65_code 6 = .ok (.goto 4, 3) := by decide +kernel
theorem dmx_9 : decode jdk_29_method_65_code 9 = .ok (.iload_n 1, 1) := by decide +kernel
theorem dmx_10 : decode jdk_29_method_65_code 10 = .ok (.ireturn, 1) := by decide +kernel
theorem div_0 : decode prog_1_method_23_code 0 = .ok (.ldc2_w 205, 3) := by decide +kernel
theorem div_3 : decode prog_1_method_23_code 3 = .ok (.iload_n 0, 1) := by decide +kernel
theorem div_4 : decode prog_1_method_23_code 4 = .ok (.i2l, 1) := by decide +kernel
theorem div_5 : decode prog_1_method_23_code 5 = .ok (.invokestatic 211, 3) := by decide +kernel
theorem div_8 : decode prog_1_method_23_code 8 = .ok (.lreturn, 1) := by decide +kernel
theorem ddu_0 : decode jdk_35_method_44_code 0 = .ok (.lload_n 2, 1) := by decide +kernel
theorem ddu_1 : decode jdk_35_method_44_code 1 = .ok (.lconst 0, 1) := by decide +kernel
theorem ddu_2 : decode jdk_35_method_44_code 2 = .ok (.lcmp, 1) := by decide +kernel
theorem ddu_3 : decode jdk_35_method_44_code 3 = .ok (.ifCond .lt 38, 3) := by decide +kernel
theorem ddu_6 : decode jdk_35_method_44_code 6 = .ok (.lload_n 0, 1) := by decide +kernel
theorem ddu_7 : decode jdk_35_method_44_code 7 = .ok (.iconst 1, 1) := by decide +kernel
theorem ddu_8 : decode jdk_35_method_44_code 8 = .ok (.lushr, 1) := by decide +kernel
theorem ddu_9 : decode jdk_35_method_44_code 9 = .ok (.lload_n 2, 1) := by decide +kernel
theorem ddu_10 : decode jdk_35_method_44_code 10 = .ok (.ldiv, 1) := by decide +kernel
theorem ddu_11 : decode jdk_35_method_44_code 11 = .ok (.iconst 1, 1) := by decide +kernel
theorem ddu_12 : decode jdk_35_method_44_code 12 = .ok (.lshl, 1) := by decide +kernel
theorem ddu_13 : decode jdk_35_method_44_code 13 = .ok (.lstore 4, 2) := by decide +kernel
theorem ddu_15 : decode jdk_35_method_44_code 15 = .ok (.lload_n 0, 1) := by decide +kernel
theorem ddu_16 : decode jdk_35_method_44_code 16 = .ok (.lload 4, 2) := by decide +kernel
theorem ddu_18 : decode jdk_35_method_44_code 18 = .ok (.lload_n 2, 1) := by decide +kernel
theorem ddu_19 : decode jdk_35_method_44_code 19 = .ok (.lmul, 1) := by decide +kernel
theorem ddu_20 : decode jdk_35_method_44_code 20 = .ok (.lsub, 1) := by decide +kernel
theorem ddu_21 : decode jdk_35_method_44_code 21 = .ok (.lstore 6, 2) := by decide +kernel
theorem ddu_23 : decode jdk_35_method_44_code 23 = .ok (.lload 4, 2) := by decide +kernel
theorem ddu_25 : decode jdk_35_method_44_code 25 = .ok (.lload 6, 2) := by decide +kernel
theorem ddu_27 : decode jdk_35_method_44_code 27 = .ok (.lload 6, 2) := by decide +kernel
theorem ddu_29 : decode jdk_35_method_44_code 29 = .ok (.lload_n 2, 1) := by decide +kernel
theorem ddu_30 : decode jdk_35_method_44_code 30 = .ok (.lsub, 1) := by decide +kernel
theorem ddu_31 : decode jdk_35_method_44_code 31 = .ok (.ldc2_w 306, 3) := by decide +kernel
theorem ddu_34 : decode jdk_35_method_44_code 34 = .ok (.lxor, 1) := by decide +kernel
theorem ddu_35 : decode jdk_35_method_44_code 35 = .ok (.lor, 1) := by decide +kernel
theorem ddu_36 : decode jdk_35_method_44_code 36 = .ok (.bipush 63, 2) := by decide +kernel
theorem ddu_38 : decode jdk_35_method_44_code 38 = .ok (.lushr, 1) := by decide +kernel
theorem ddu_39 : decode jdk_35_method_44_code 39 = .ok (.ladd, 1) := by decide +kernel
theorem ddu_40 : decode jdk_35_method_44_code 40 = .ok (.lreturn, 1) := by decide +kernel
theorem ddu_41 : decode jdk_35_method_44_code 41 = .ok (.lload_n 0, 1) := by decide +kernel
theorem ddu_42 : decode jdk_35_method_44_code 42 = .ok (.lload_n 0, 1) := by decide +kernel
theorem ddu_43 : decode jdk_35_method_44_code 43 = .ok (.lload_n 2, 1) := by decide +kernel
theorem ddu_44 : decode jdk_35_method_44_code 44 = .ok (.lsub, 1) := by decide +kernel
theorem ddu_45 : decode jdk_35_method_44_code 45 = .ok (.ldc2_w 306, 3) := by decide +kernel
theorem ddu_48 : decode jdk_35_method_44_code 48 = .ok (.lxor, 1) := by decide +kernel
theorem ddu_49 : decode jdk_35_method_44_code 49 = .ok (.land, 1) := by decide +kernel
theorem ddu_50 : decode jdk_35_method_44_code 50 = .ok (.bipush 63, 2) := by decide +kernel
theorem ddu_52 : decode jdk_35_method_44_code 52 = .ok (.lushr, 1) := by decide +kernel
theorem ddu_53 : decode jdk_35_method_44_code 53 = .ok (.lreturn, 1) := by decide +kernel
theorem dso_0 : decode prog_1_method_29_code 0 = .ok (.lload_n 0, 1) := by decide +kernel
theorem dso_1 : decode prog_1_method_29_code 1 = .ok (.lload_n 3, 1) := by decide +kernel
theorem dso_2 : decode prog_1_method_29_code 2 = .ok (.invokestatic 220, 3) := by decide +kernel
theorem dso_5 : decode prog_1_method_29_code 5 = .ok (.lload_n 3, 1) := by decide +kernel
theorem dso_6 : decode prog_1_method_29_code 6 = .ok (.bipush 63, 2) := by decide +kernel
theorem dso_8 : decode prog_1_method_29_code 8 = .ok (.lshr, 1) := by decide +kernel
theorem dso_9 : decode prog_1_method_29_code 9 = .ok (.lload_n 0, 1) := by decide +kernel
theorem dso_10 : decode prog_1_method_29_code 10 = .ok (.land, 1) := by decide +kernel
theorem dso_11 : decode prog_1_method_29_code 11 = .ok (.ladd, 1) := by decide +kernel
theorem dso_12 : decode prog_1_method_29_code 12 = .ok (.lstore 5, 2) := by decide +kernel
theorem dso_14 : decode prog_1_method_29_code 14 = .ok (.lload_n 0, 1) := by decide +kernel
theorem dso_15 : decode prog_1_method_29_code 15 = .ok (.lload 5, 2) := by decide +kernel
theorem dso_17 : decode prog_1_method_29_code 17 = .ok (.iload_n 2, 1) := by decide +kernel
theorem dso_18 : decode prog_1_method_29_code 18 = .ok (.i2l, 1) := by decide +kernel
theorem dso_19 : decode prog_1_method_29_code 19 = .ok (.lmul, 1) := by decide +kernel
theorem dso_20 : decode prog_1_method_29_code 20 = .ok (.lsub, 1) := by decide +kernel
theorem dso_21 : decode prog_1_method_29_code 21 = .ok (.lstore 7, 2) := by decide +kernel
theorem dso_23 : decode prog_1_method_29_code 23 = .ok (.lload 7, 2) := by decide +kernel
theorem dso_25 : decode prog_1_method_29_code 25 = .ok (.iload_n 2, 1) := by decide +kernel
theorem dso_26 : decode prog_1_method_29_code 26 = .ok (.i2l, 1) := by decide +kernel
theorem dso_27 : decode prog_1_method_29_code 27 = .ok (.lcmp, 1) := by decide +kernel
theorem dso_28 : decode prog_1_method_29_code 28 = .ok (.ifCond .ge 8, 3) := by decide +kernel
theorem dso_31 : decode prog_1_method_29_code 31 = .ok (.lload 7, 2) := by decide +kernel
theorem dso_33 : decode prog_1_method_29_code 33 = .ok (.goto 8, 3) := by decide +kernel
theorem dso_36 : decode prog_1_method_29_code 36 = .ok (.lload 7, 2) := by decide +kernel
theorem dso_38 : decode prog_1_method_29_code 38 = .ok (.iload_n 2, 1) := by decide +kernel
theorem dso_39 : decode prog_1_method_29_code 39 = .ok (.i2l, 1) := by decide +kernel
theorem dso_40 : decode prog_1_method_29_code 40 = .ok (.lsub, 1) := by decide +kernel
theorem dso_41 : decode prog_1_method_29_code 41 = .ok (.l2i, 1) := by decide +kernel
theorem dso_42 : decode prog_1_method_29_code 42 = .ok (.ireturn, 1) := by decide +kernel
theorem dmh_0 : decode jdk_29_method_45_code 0 = .ok (.lload_n 0, 1) := by decide +kernel
theorem dmh_1 : decode jdk_29_method_45_code 1 = .ok (.bipush 32, 2) := by decide +kernel
theorem dmh_3 : decode jdk_29_method_45_code 3 = .ok (.lshr, 1) := by decide +kernel
theorem dmh_4 : decode jdk_29_method_45_code 4 = .ok (.lstore 4, 2) := by decide +kernel
theorem dmh_6 : decode jdk_29_method_45_code 6 = .ok (.lload_n 0, 1) := by decide +kernel
theorem dmh_7 : decode jdk_29_method_45_code 7 = .ok (.ldc2_w 138, 3) := by decide +kernel
theorem dmh_10 : decode jdk_29_method_45_code 10 = .ok (.land, 1) := by decide +kernel
theorem dmh_11 : decode jdk_29_method_45_code 11 = .ok (.lstore 6, 2) := by decide +kernel
theorem dmh_13 : decode jdk_29_method_45_code 13 = .ok (.lload_n 2, 1) := by decide +kernel
theorem dmh_14 : decode jdk_29_method_45_code 14 = .ok (.bipush 32, 2) := by decide +kernel
theorem dmh_16 : decode jdk_29_method_45_code 16 = .ok (.lshr, 1) := by decide +kernel
theorem dmh_17 : decode jdk_29_method_45_code 17 = .ok (.lstore 8, 2) := by decide +kernel
theorem dmh_19 : decode jdk_29_method_45_code 19 = .ok (.lload_n 2, 1) := by decide +kernel
theorem dmh_20 : decode jdk_29_method_45_code 20 = .ok (.ldc2_w 138, 3) := by decide +kernel
theorem dmh_23 : decode jdk_29_method_45_code 23 = .ok (.land, 1) := by decide +kernel
theorem dmh_24 : decode jdk_29_method_45_code 24 = .ok (.lstore 10, 2) := by decide +kernel
theorem dmh_26 : decode jdk_29_method_45_code 26 = .ok (.lload 6, 2) := by decide +kernel
theorem dmh_28 : decode jdk_29_method_45_code 28 = .ok (.lload 10, 2) := by decide +kernel
theorem dmh_30 : decode jdk_29_method_45_code 30 = .ok (.lmul, 1) := by decide +kernel
theorem dmh_31 : decode jdk_29_method_45_code 31 = .ok (.lstore 12, 2) := by decide +kernel
theorem dmh_33 : decode jdk_29_method_45_code 33 = .ok (.lload 4, 2) := by decide +kernel
theorem dmh_35 : decode jdk_29_method_45_code 35 = .ok (.lload 10, 2) := by decide +kernel
theorem dmh_37 : decode jdk_29_method_45_code 37 = .ok (.lmul, 1) := by decide +kernel
theorem dmh_38 : decode jdk_29_method_45_code 38 = .ok (.lload 12, 2) := by decide +kernel
theorem dmh_40 : decode jdk_29_method_45_code 40 = .ok (.bipush 32, 2) := by decide +kernel
theorem dmh_42 : decode jdk_29_method_45_code 42 = .ok (.lushr, 1) := by decide +kernel
theorem dmh_43 : decode jdk_29_method_45_code 43 = .ok (.ladd, 1) := by decide +kernel
theorem dmh_44 : decode jdk_29_method_45_code 44 = .ok (.lstore 14, 2) := by decide +kernel
theorem dmh_46 : decode jdk_29_method_45_code 46 = .ok (.lload 14, 2) := by decide +kernel
theorem dmh_48 : decode jdk_29_method_45_code 48 = .ok (.ldc2_w 138, 3) := by decide +kernel
theorem dmh_51 : decode jdk_29_method_45_code 51 = .ok (.land, 1) := by decide +kernel
theorem dmh_52 : decode jdk_29_method_45_code 52 = .ok (.lstore 16, 2) := by decide +kernel
theorem dmh_54 : decode jdk_29_method_45_code 54 = .ok (.lload 14, 2) := by decide +kernel
theorem dmh_56 : decode jdk_29_method_45_code 56 = .ok (.bipush 32, 2) := by decide +kernel
theorem dmh_58 : decode jdk_29_method_45_code 58 = .ok (.lshr, 1) := by decide +kernel
theorem dmh_59 : decode jdk_29_method_45_code 59 = .ok (.lstore 18, 2) := by decide +kernel
theorem dmh_61 : decode jdk_29_method_45_code 61 = .ok (.lload 16, 2) := by decide +kernel
theorem dmh_63 : decode jdk_29_method_45_code 63 = .ok (.lload 6, 2) := by decide +kernel
theorem dmh_65 : decode jdk_29_method_45_code 65 = .ok (.lload 8, 2) := by decide +kernel
theorem dmh_67 : decode jdk_29_method_45_code 67 = .ok (.lmul, 1) := by decide +kernel
theorem dmh_68 : decode jdk_29_method_45_code 68 = .ok (.ladd, 1) := by decide +kernel
theorem dmh_69 : decode jdk_29_method_45_code 69 = .ok (.lstore 16, 2) := by decide +kernel
theorem dmh_71 : decode jdk_29_method_45_code 71 = .ok (.lload 4, 2) := by decide +kernel
theorem dmh_73 : decode jdk_29_method_45_code 73 = .ok (.lload 8, 2) := by decide +kernel
theorem dmh_75 : decode jdk_29_method_45_code 75 = .ok (.lmul, 1) := by decide +kernel
theorem dmh_76 : decode jdk_29_method_45_code 76 = .ok (.lload 18, 2) := by decide +kernel
theorem dmh_78 : decode jdk_29_method_45_code 78 = .ok (.ladd, 1) := by decide +kernel
theorem dmh_79 : decode jdk_29_method_45_code 79 = .ok (.lload 16, 2) := by decide +kernel
theorem dmh_81 : decode jdk_29_method_45_code 81 = .ok (.bipush 32, 2) := by decide +kernel
theorem dmh_83 : decode jdk_29_method_45_code 83 = .ok (.lshr, 1) := by decide +kernel
theorem dmh_84 : decode jdk_29_method_45_code 84 = .ok (.ladd, 1) := by decide +kernel
theorem dmh_85 : decode jdk_29_method_45_code 85 = .ok (.lreturn, 1) := by decide +kernel
theorem own_lshr32 (x : Int64) : (x >>> ((32 : Int32).toInt64 &&& 63)).toInt = x.toInt / 4294967296 := by
  have e : ((32 : Int32).toInt64 &&& 63) = ((32 : Int32) &&& 0x3f).toInt64 := by decide
  rw [e, c_lshr x 32 32 (by decide)]; rfl
theorem own_lshr63 (x : Int64) : (x >>> ((63 : Int32).toInt64 &&& 63)).toInt = x.toInt / 9223372036854775808 := by
  have e : ((63 : Int32).toInt64 &&& 63) = ((63 : Int32) &&& 0x3f).toInt64 := by decide
  rw [e, c_lshr x 63 63 (by decide)]; rfl
theorem own_ushr32 (x : Int64) : (XT.ushrL x (32 : Int32)).toInt = (x.toInt % 18446744073709551616) / 4294967296 := by
  have e : ((32 : Int32).toInt64.toUInt64 &&& Int64.toUInt64 63) = ((32 : Int32) &&& 0x3f).toInt64.toUInt64 := by decide
  rw [XT.ushrL, e, c_lushr x 32 32 (by decide) (by decide)]; rfl
theorem own_ushr63 (x : Int64) : (XT.ushrL x (63 : Int32)).toInt = (x.toInt % 18446744073709551616) / 9223372036854775808 := by
  have e : ((63 : Int32).toInt64.toUInt64 &&& Int64.toUInt64 63) = ((63 : Int32) &&& 0x3f).toInt64.toUInt64 := by decide
  rw [XT.ushrL, e, c_lushr x 63 63 (by decide) (by decide)]; rfl
theorem own_ushr1 (x : Int64) : (XT.ushrL x (1 : Int32)).toInt = (x.toInt % 18446744073709551616) / 2 := by
  have e : ((1 : Int32).toInt64.toUInt64 &&& Int64.toUInt64 63) = ((1 : Int32) &&& 0x3f).toInt64.toUInt64 := by decide
  rw [XT.ushrL, e, c_lushr x 1 1 (by decide) (by decide)]; rfl
theorem own_shl1 (x : Int64) : ((x <<< ((1 : Int32).toInt64 &&& 63)).toInt - x.toInt * 2) % 18446744073709551616 = 0 := by
  have e : ((1 : Int32).toInt64 &&& 63) = ((1 : Int32) &&& 0x3f).toInt64 := by decide
  rw [e]; exact c_lshl x 1 1 (by decide)
theorem own_mask (x : Int64) : (x &&& (4294967295 : Int64)).toInt = x.toInt % 4294967296 := c_maskL x 4294967295 32 (by decide) (by decide)
/-- the product's four parts -/
theorem own_parts (X Y : Int) : X * Y = (X / 4294967296) * (Y / 4294967296) * 18446744073709551616 + ((X / 4294967296) * (Y % 4294967296) + (X % 4294967296) * (Y / 4294967296)) * 4294967296 + (X % 4294967296) * (Y % 4294967296) := by
  have hx : X = (X / 4294967296) * 4294967296 + X % 4294967296 := by omega
  have hy : Y = (Y / 4294967296) * 4294967296 + Y % 4294967296 := by omega
  generalize X / 4294967296 = x1 at *
  generalize X % 4294967296 = x2 at *
  generalize Y / 4294967296 = y1 at *
  generalize Y % 4294967296 = y2 at *
  subst hx hy
  rw [Int.add_mul, Int.mul_add, Int.mul_add]
  have e1 : x1 * 4294967296 * (y1 * 4294967296) = x1 * y1 * 18446744073709551616 := by
    rw [Int.mul_assoc, Int.mul_left_comm 4294967296 y1, Int.mul_assoc]
    rfl
  have e2 : x1 * 4294967296 * y2 = x1 * y2 * 4294967296 := Int.mul_right_comm _ _ _
  have e3 : x2 * (y1 * 4294967296) = x2 * y1 * 4294967296 := (Int.mul_assoc _ _ _).symm
  rw [e1, e2, e3]
  omega
theorem own_bd (x y a b c d : Int) (hx : a ≤ x ∧ x ≤ b) (hy : 0 ≤ y ∧ y ≤ d) (ha : a ≤ 0) (hb : 0 ≤ b) : a * d ≤ x * y ∧ x * y ≤ b * d := by
  have h1 := Int.mul_le_mul_of_nonneg_right hx.1 hy.1
  have h2 := Int.mul_le_mul_of_nonneg_right hx.2 hy.1
  have h3 := Int.mul_le_mul_of_nonneg_left hy.2 hb
  have h4 := Int.mul_le_mul_of_nonpos_left ha hy.2
  omega
theorem own_mh {x y x1 x2 y1 y2 z2 t z1 z0 z3 r : Int64} (hx1 : x1.toInt = x.toInt / 4294967296) (hx2 : x2.toInt = x.toInt % 4294967296) (hy1 : y1.toInt = y.toInt / 4294967296) (hy2 : y2.toInt = y.toInt % 4294967296)
    (hz2 : z2 = x2 * y2) (ht : t = x1 * y2 + XT.ushrL z2 32) (hz1 : z1.toInt = t.toInt % 4294967296) (hz0 : z0.toInt = t.toInt / 4294967296) (hz3 : z3 = z1 + x2 * y1) (hr : r = x1 * y1 + z0 + z3 >>> ((32 : Int32).toInt64 &&& 63)) : r.toInt = (x.toInt * y.toInt) / 18446744073709551616 := by
  have bx := rng64 x; have by_ := rng64 y
  have p := own_parts x.toInt y.toInt
  rw [← hx1, ← hx2, ← hy1, ← hy2] at p
  have b22 := own_bd x2.toInt y2.toInt 0 4294967295 0 4294967295 (by omega) (by omega) (by omega) (by omega)
  have b12 := own_bd x1.toInt y2.toInt (-2147483648) 2147483647 0 4294967295 (by omega) (by omega) (by omega) (by omega)
  have b21 := own_bd y1.toInt x2.toInt (-2147483648) 2147483647 0 4294967295 (by omega) (by omega) (by omega) (by omega)
  rw [Int.mul_comm y1.toInt] at b21
  have b11 := own_parts 0 0
  have c22 := c_lmul x2 y2
  have c12 := c_lmul x1 y2
  have c21 := c_lmul x2 y1
  have c11 := c_lmul x1 y1
  have u := own_ushr32 z2
  have r22 := rng64 (x2 * y2)
  have r12 := rng64 (x1 * y2)
  have r21 := rng64 (x2 * y1)
  have r11 := rng64 (x1 * y1)
  have b11 : -4611686018427387904 ≤ x1.toInt * y1.toInt ∧ x1.toInt * y1.toInt ≤ 4611686018427387904 := by
    have h := mc (show -2147483648 ≤ x1.toInt by omega) (show x1.toInt ≤ 2147483647 by omega) (show -2147483648 ≤ y1.toInt by omega) (show y1.toInt ≤ 2147483647 by omega)
    omega
  generalize x2.toInt * y2.toInt = A22 at *
  generalize x1.toInt * y2.toInt = A12 at *
  generalize x2.toInt * y1.toInt = A21 at *
  generalize x1.toInt * y1.toInt = A11 at *
  generalize x.toInt * y.toInt = XY at *
  have e12 : (x1 * y2).toInt = A12 := by omega
  have e21 : (x2 * y1).toInt = A21 := by omega
  have e11 : (x1 * y1).toInt = A11 := by omega
  have eu : (XT.ushrL z2 32).toInt = A22 / 4294967296 := by rw [u, hz2]; omega
  have a1 := c_ladd (x1 * y2) (XT.ushrL z2 32)
  rw [e12, eu, ← ht] at a1
  have rt := rng64 t
  have et : t.toInt = A12 + A22 / 4294967296 := by omega
  have a2 := c_ladd z1 (x2 * y1)
  rw [e21, ← hz3] at a2
  have r3 := rng64 z3
  have e3 : z3.toInt = z1.toInt + A21 := by omega
  have a3 := c_ladd (x1 * y1) z0
  have a4 := c_ladd (x1 * y1 + z0) (z3 >>> ((32 : Int32).toInt64 &&& 63))
  rw [own_lshr32, ← hr] at a4
  rw [e11] at a3
  have r4 := rng64 (x1 * y1 + z0)
  have r5 := rng64 r
  omega
def own_U (D : Int) : Int := 18446744073709551615 / D
def own_inv (D : Int) (r : Int64) : Prop := (D = 1 → r.toInt = -1) ∧ (2 ≤ D → r.toInt = own_U D)
theorem own_du {d q r g res : Int64} (hd : 1 ≤ d.toInt ∧ d.toInt ≤ 2147483647) (hq : q = (XT.ushrL (-1) 1 / d) <<< ((1 : Int32).toInt64 &&& 63)) (hr : r = -1 - q * d) (hg : g = r ||| ((r - d) ^^^ (-1))) (hres : res = q + XT.ushrL g 63) : own_inv d.toInt res := by
  have e1 : (XT.ushrL (-1) 1).toInt = 9223372036854775807 := by decide
  have e2 := (c_ldiv (XT.ushrL (-1) 1) d d.toInt rfl (by intro e; rw [e] at hd; revert hd; decide)).1 (by rw [e1]; decide)
  rw [e1] at e2
  have e3 := own_shl1 (XT.ushrL (-1) 1 / d)
  rw [← hq, e2] at e3
  have e4 := c_lmul q d
  have e5 := c_lsub (-1) (q * d)
  rw [← hr, show (-1 : Int64).toInt = -1 from rfl] at e5
  -- the true quotient of the half
  have f1 : 9223372036854775807 = d.toInt * (9223372036854775807 / d.toInt) + 9223372036854775807 % d.toInt := (Int.mul_ediv_add_emod _ _).symm
  have f2 := Int.emod_nonneg 9223372036854775807 (show d.toInt ≠ 0 by omega)
  have f3 := Int.emod_lt_of_pos 9223372036854775807 (show 0 < d.toInt by omega)
  have f4 : 0 ≤ 9223372036854775807 / d.toInt := Int.ediv_nonneg (by omega) (by omega)
  have f5 : 9223372036854775807 / d.toInt ≤ 9223372036854775807 := Int.ediv_le_self _ (by omega)
  generalize hH : 9223372036854775807 / d.toInt = H at *
  generalize hM : 9223372036854775807 % d.toInt = M at *
  have rq := rng64 q
  -- q is 2 * H, wrapped
  have g1 : (q.toInt * d.toInt - 2 * (d.toInt * H)) % 18446744073709551616 = 0 := by
    obtain ⟨t, ht⟩ : ∃ t, q.toInt - H * 2 = 18446744073709551616 * t := ⟨_, (Int.mul_ediv_cancel' (Int.dvd_of_emod_eq_zero e3)).symm⟩
    have this : q.toInt * d.toInt - 2 * (d.toInt * H) = 18446744073709551616 * (t * d.toInt) := by
      have hh := congrArg (fun y => y * d.toInt) ht
      have a1 : H * 2 * d.toInt = H * d.toInt * 2 := Int.mul_right_comm _ _ _
      simp only [Int.sub_mul, a1, Int.mul_assoc 18446744073709551616] at hh
      rw [Int.mul_comm d.toInt H]; omega
    rw [this]; exact Int.mul_emod_right _ _
  generalize hA : d.toInt * H = A at *
  generalize hB : q.toInt * d.toInt = B at *
  have rr := rng64 r
  have rqd := rng64 (q * d)
  have g2 : r.toInt = 2 * M + 1 := by omega
  have s1 := c_lsub r d
  have rs := rng64 (r - d)
  have g3 : (r - d).toInt = 2 * M + 1 - d.toInt := by omega
  have x1 := c_xorSL (r - d) (-1)
  have o1 := c_orSL r ((r - d) ^^^ (-1))
  rw [← hg] at o1
  have u := own_ushr63 g
  have rg := rng64 g
  have a := c_ladd q (XT.ushrL g 63)
  rw [← hres] at a
  have rres := rng64 res
  have m1 : (-1 : Int64).toInt = -1 := rfl
  rw [m1] at x1
  have g4 : (XT.ushrL g 63).toInt = if d.toInt ≤ 2 * M + 1 then 1 else 0 := by
    rw [u]
    split
    · rename_i hle
      have : g.toInt < 0 := o1.2.2 (x1.2.2.1 (by omega) (by omega))
      omega
    · rename_i hle
      have : 0 ≤ g.toInt := o1.1 (by omega) (x1.1 (by omega) (by omega))
      omega
  have U1 : own_U d.toInt = 2 * H + if d.toInt ≤ 2 * M + 1 then 1 else 0 := by
    have k1 : 18446744073709551615 = 2 * A + (2 * M + 1) := by omega
    rw [own_U, k1, show 2 * A = d.toInt * (2 * H) by rw [← hA, Int.mul_left_comm]]
    rw [Int.add_comm, Int.add_mul_ediv_left _ _ (by omega)]
    split
    · rename_i hle
      have : (2 * M + 1) / d.toInt = 1 := by
        have hh := Int.add_mul_ediv_left (2 * M + 1 - d.toInt) 1 (show d.toInt ≠ 0 by omega)
        have h0 : (2 * M + 1 - d.toInt) / d.toInt = 0 := Int.ediv_eq_zero_of_lt (by omega) (by omega)
        rw [h0] at hh
        rw [show 2 * M + 1 = 2 * M + 1 - d.toInt + d.toInt * 1 by omega, hh]; rfl
      omega
    · rename_i hle
      have : (2 * M + 1) / d.toInt = 0 := Int.ediv_eq_zero_of_lt (by omega) (by omega)
      omega
  refine ⟨fun h1 => ?_, fun h2 => ?_⟩
  · have : H = 9223372036854775807 := by rw [← hH, h1]; rfl
    have : M = 0 := by rw [← hM, h1]; rfl
    have hif : (if d.toInt ≤ 2 * M + 1 then (1 : Int) else 0) = 1 := if_pos (by omega)
    rw [hif] at g4
    omega
  · have hH2 : H ≤ 4611686018427387903 := by
      have := Int.mul_le_mul_of_nonneg_right h2 f4
      omega
    rw [U1]
    generalize (if d.toInt ≤ 2 * M + 1 then (1 : Int) else 0) = w at *
    have hw : 0 ≤ w ∧ w ≤ 1 := by rw [← g4, u]; omega
    omega

theorem own_rem {Pp D q : Int} (hP : 0 ≤ Pp) (hP2 : Pp < 4611686018427387904) (hD : 1 ≤ D) (hD2 : D ≤ 2147483647) (hq : q = (Pp * own_U D) / 18446744073709551616) : 0 ≤ Pp - q * D ∧ Pp - q * D < 2 * D ∧ 0 ≤ q ∧ q ≤ Pp := by
  have u1 : own_U D * D ≤ 18446744073709551615 := Int.ediv_mul_le _ (by omega)
  have u2 : 18446744073709551615 < own_U D * D + D := by
    have := Int.lt_ediv_add_one_mul_self 18446744073709551615 (show 0 < D by omega)
    rw [Int.add_mul, Int.one_mul] at this; exact this
  have u0 : 0 ≤ own_U D := Int.ediv_nonneg (by omega) (by omega)
  generalize own_U D = U at *
  have p0 := Int.mul_nonneg hP u0
  have q1 : q * 18446744073709551616 ≤ Pp * U := by rw [hq]; exact Int.ediv_mul_le _ (by decide)
  have q2 : Pp * U < q * 18446744073709551616 + 18446744073709551616 := by omega
  have q0 : 0 ≤ q := by rw [hq]; exact Int.ediv_nonneg p0 (by decide)
  have m1 := Int.mul_le_mul_of_nonneg_right q1 (show 0 ≤ D by omega)
  have m2 := Int.mul_le_mul_of_nonneg_right (show Pp * U + 1 ≤ q * 18446744073709551616 + 18446744073709551616 by omega) (show 0 ≤ D by omega)
  have m3 := Int.mul_le_mul_of_nonneg_left u1 hP
  have m4 := Int.mul_le_mul_of_nonneg_left (show 18446744073709551616 - D ≤ U * D by omega) hP
  have m5 := Int.mul_le_mul_of_nonneg_right (show Pp ≤ 4611686018427387903 by omega) (show 0 ≤ D by omega)
  have m6 := Int.mul_le_mul_of_nonneg_left hD q0
  rw [Int.mul_right_comm] at m1
  rw [Int.add_mul, Int.add_mul, Int.mul_right_comm q, Int.mul_assoc Pp] at m2
  rw [Int.mul_assoc Pp] at m1
  rw [Int.mul_sub] at m4
  generalize Pp * (U * D) = A at *
  generalize q * D = B at *
  generalize Pp * D = E at *
  refine ⟨by omega, by omega, q0, by omega⟩
theorem own_emod {Pp D q r : Int} (hD : 1 ≤ D) (h : Pp - q * D = r) (h0 : 0 ≤ r) (h2 : r < 2 * D) : Pp % D = if r < D then r else r - D := by
  have e : Pp = r + q * D := by omega
  rw [e, Int.add_mul_emod_self_right]
  split
  · exact Int.emod_eq_of_lt h0 (by assumption)
  · rename_i hh
    have : r % D = (r - D) % D := by rw [Int.sub_emod, Int.emod_self, Int.sub_zero, Int.emod_emod]
    rw [this, Int.emod_eq_of_lt (by omega) (by omega)]
theorem own_q {pp iv mhv q : Int64} {D : Int} (hp : 0 ≤ pp.toInt) (hp2 : pp.toInt < 4611686018427387904) (hD : 1 ≤ D) (hD2 : D ≤ 2147483647) (hi : own_inv D iv) (hm : mhv.toInt = (pp.toInt * iv.toInt) / 18446744073709551616) (hq : q = mhv + (iv >>> ((63 : Int32).toInt64 &&& 63) &&& pp)) : q.toInt = (pp.toInt * own_U D) / 18446744073709551616 := by
  have s := own_lshr63 iv
  have a := c_ladd mhv (iv >>> ((63 : Int32).toInt64 &&& 63) &&& pp)
  rw [← hq] at a
  have rq := rng64 q
  by_cases h1 : D = 1
  · have e := hi.1 h1
    rw [e] at s hm
    have e2 : iv >>> ((63 : Int32).toInt64 &&& 63) = -1 := Int64.toInt_inj.mp (by rw [s]; rfl)
    have e3 : (-1 : Int64) &&& pp = pp := by
      apply Int64.toBitVec_inj.mp
      show (BitVec.allOnes 64) &&& pp.toBitVec = pp.toBitVec
      exact BitVec.allOnes_and
    rw [e2, e3] at a
    rw [h1, show own_U 1 = 18446744073709551615 from rfl]
    omega
  · have e := hi.2 (by omega)
    have ub : own_U D ≤ 9223372036854775807 ∧ 0 ≤ own_U D := by
      constructor
      · have hh : own_U D < 9223372036854775808 := by
          rw [own_U]
          apply Int.ediv_lt_of_lt_mul (by omega)
          have := Int.mul_le_mul_of_nonneg_left (show 2 ≤ D by omega) (show (0 : Int) ≤ 9223372036854775808 by decide)
          omega
        omega
      · exact Int.ediv_nonneg (by omega) (by omega)
    rw [e] at s hm
    have e2 : iv >>> ((63 : Int32).toInt64 &&& 63) = 0 := Int64.toInt_inj.mp (by rw [s]; show _ = 0; omega)
    have e3 : (0 : Int64) &&& pp = 0 := Int64.zero_and
    rw [e2, e3, hm, show (0 : Int64).toInt = 0 from rfl] at a
    have b1 := Int.mul_le_mul_of_nonneg_left ub.1 hp
    have b2 := Int.mul_nonneg hp ub.2
    generalize pp.toInt * own_U D = A at *
    omega
theorem own_c1 : (1 : Int32).toInt = 1 := rfl
theorem own_ge1 (y : Int32) : 1 ≤ (if (1 : Int32) < y then y else 1).toInt := by
  split
  · rename_i h; rw [Int32.lt_iff_toInt_lt, own_c1] at h; omega
  · decide
set_option maxRecDepth 65536 in
set_option maxHeartbeats 40000000 in
theorem max_met (l : Launch) (Z : State) (a0 : Array Value) (hw : ∀ d ∈ tables_1, d.before a0 Z = true) (xa ya : Int32) (h : Heap) (n0 : Nat)  :
    Met l (⟨"java/lang/Math", "max", "(II)I"⟩ : MethodName) jdk_29_method_65_code 2 (some .int) [] ({ frames := 0, cells := 0, slots := 0, locals := 0 } : Room) #[(.int xa), (.int ya)] Z h n0 (fun v h' => v = some (.int (if xa < ya then ya else xa)) ∧ h = h') := by
  refine Met.of (Jvm.Free.JP.mathPlain rfl (by decide +kernel)) ?_
  intro pP eE sS mM bB tT cC K
  refine Go.entry (ls := #[.val (.int xa), .val (.int ya)]) (by first | (simp [argsToLocals, Value.category]; done) | rfl) ?_
  refine go_iloadN (q := 1) K dmx_0 rfl rfl ?_
  refine go_iloadN (q := 2) K dmx_1 rfl rfl ?_
  refine go_icmp (q := 9) (q' := 5) K dmx_2 (by decide) rfl rfl (fun hc2 => ?_) (fun hc2 => ?_)
  · have hc2 : xa < ya := hc2
    refine go_iloadN (q := 10) K dmx_9 rfl rfl ?_
    refine go_iret K dmx_10 rfl (Or.inl rfl) rfl (by decide) (by decide) ?_
    exact ⟨by rw [if_pos hc2], rfl⟩
  · have hc2 : ¬ xa < ya := hc2
    refine go_iloadN (q := 6) K dmx_5 rfl rfl ?_
    refine go_goto (q := 10) K dmx_6 (by decide) rfl ?_
    refine go_iret K dmx_10 rfl (Or.inl rfl) rfl (by decide) (by decide) ?_
    exact ⟨by rw [if_neg hc2], rfl⟩
theorem own_pos {d : Int64} (h : 1 ≤ d.toInt) : ¬ d < (0 : Int64) := by rw [Int64.lt_iff_toInt_lt]; have e : (0 : Int64).toInt = 0 := rfl; omega
theorem own_ne0 {d : Int64} (h : 1 ≤ d.toInt) : d ≠ 0 := by intro q; rw [q] at h; revert h; decide
set_option maxRecDepth 65536 in
set_option maxHeartbeats 40000000 in
theorem du_met (l : Launch) (Z : State) (a0 : Array Value) (hw : ∀ d ∈ tables_1, d.before a0 Z = true) (d : Int64) (h : Heap) (n0 : Nat) (hd : 1 ≤ d.toInt ∧ d.toInt ≤ 2147483647) :
    Met l (⟨"java/lang/Long", "divideUnsigned", "(JJ)J"⟩ : MethodName) jdk_35_method_44_code 8 (some .long) [] ({ frames := 0, cells := 0, slots := 0, locals := 0 } : Room) #[(.long (-1 : Int64)), (.long d)] Z h n0 (fun v h' => ∃ r : Int64, v = some (.long r) ∧ h = h' ∧ own_inv d.toInt r) := by
  refine Met.of (plainFor_of_name (by first | (simp [plainName, overriddenIn]; done) | decide +kernel)) ?_
  intro pP eE sS mM bB tT cC K
  refine Go.entry (ls := #[.val (.long (-1 : Int64)), .second, .val (.long d), .second, .unset, .unset, .unset, .unset]) (by first | (simp [argsToLocals, Value.category]; done) | rfl) ?_
  refine go_lloadN (q := 1) K ddu_0 rfl rfl ?_
  refine go_lconst (q := 2) K ddu_1 (0 : Int64) rfl rfl ?_
  refine go_lcmp (q := 3) K ddu_2 rfl ?_
  refine go_ifL (q := 41) (q' := 6) K ddu_3 (by decide) rfl rfl (fun hn => cLN_no hn (show ¬ d < (0 : Int64) from (own_pos hd.1))) (fun _ => ?_)
  refine go_lloadN (q := 7) K ddu_6 rfl rfl ?_
  refine go_iconst (q := 8) K ddu_7 (1 : Int32) rfl rfl ?_
  refine go_lushr (q := 9) K ddu_8 rfl ?_
  refine go_lloadN (q := 10) K ddu_9 rfl rfl ?_
  refine go_ldiv (q := 11) K ddu_10 (own_ne0 hd.1) rfl ?_
  refine go_iconst (q := 12) K ddu_11 (1 : Int32) rfl rfl ?_
  refine go_lshl (q := 13) K ddu_12 rfl ?_
  refine go_nameJ (fun q1 hq1 => ?_)
  refine go_lstore (q := 15) K ddu_13 #[.val (.long (-1 : Int64)), .second, .val (.long d), .second, .val (.long q1), .second, .unset, .unset] rfl rfl ?_
  refine go_lloadN (q := 16) K ddu_15 rfl rfl ?_
  refine go_lload (q := 18) K ddu_16 rfl rfl ?_
  refine go_lloadN (q := 19) K ddu_18 rfl rfl ?_
  refine go_lmul (q := 20) K ddu_19 rfl ?_
  refine go_lsub (q := 21) K ddu_20 rfl ?_
  refine go_nameJ (fun r1 hr1 => ?_)
  refine go_lstore (q := 23) K ddu_21 #[.val (.long (-1 : Int64)), .second, .val (.long d), .second, .val (.long q1), .second, .val (.long r1), .second] rfl rfl ?_
  refine go_lload (q := 25) K ddu_23 rfl rfl ?_
  refine go_lload (q := 27) K ddu_25 rfl rfl ?_
  refine go_lload (q := 29) K ddu_27 rfl rfl ?_
  refine go_lloadN (q := 30) K ddu_29 rfl rfl ?_
  refine go_lsub (q := 31) K ddu_30 rfl ?_
  refine go_ldc2J (q := 34) K (wd hw 15 rfl) ddu_31 rfl ?_
  refine go_lxor (q := 35) K ddu_34 rfl ?_
  refine go_lor (q := 36) K ddu_35 rfl ?_
  refine go_nameJ (fun g1 hg1 => ?_)
  refine go_bipush (q := 38) K ddu_36 (63 : Int32) rfl rfl ?_
  refine go_lushr (q := 39) K ddu_38 rfl ?_
  refine go_ladd (q := 40) K ddu_39 rfl ?_
  refine go_nameJ (fun res hres => ?_)
  refine go_lret K ddu_40 rfl (by decide) (by decide) ?_
  exact ⟨res, rfl, rfl, own_du hd hq1 hr1 hg1 hres⟩
set_option maxRecDepth 65536 in
set_option maxHeartbeats 40000000 in
theorem iv_met (l : Launch) (Z : State) (a0 : Array Value) (hw : ∀ d ∈ tables_1, d.before a0 Z = true) (z : Int32) (h : Heap) (n0 : Nat) (hz : 1 ≤ z.toInt ∧ z.toInt ≤ 2147483647) :
    Met l (⟨"sluice/ArrayQueue", "inverse", "(I)J"⟩ : MethodName) prog_1_method_23_code 1 (some .long) [] ({ frames := 1, cells := 0, slots := 0, locals := 20 } : Room) #[(.int z)] Z h n0 (fun v h' => ∃ r : Int64, v = some (.long r) ∧ h = h' ∧ own_inv z.toInt r) := by
  refine Met.of (plainFor_of_name (by first | (simp [plainName, overriddenIn]; done) | decide +kernel)) ?_
  intro pP eE sS mM bB tT cC K
  refine Go.entry (ls := #[.val (.int z)]) (by first | (simp [argsToLocals, Value.category]; done) | rfl) ?_
  refine go_ldc2J (q := 3) K (wd hw 10 rfl) div_0 rfl ?_
  refine go_iloadN (q := 4) K div_3 rfl rfl ?_
  refine go_i2l (q := 5) K div_4 rfl ?_
  refine go_callS (q := 8) (W := 0) K (wd hw 11 rfl) (wd hw 12 rfl) (wd hw 13 rfl) (wd hw 14 rfl) [(.long (-1 : Int64)), (.long (z.toInt64))] [] (du_met l Z a0 hw z.toInt64 _ n0 (by rw [c_i2l]; exact hz)) div_5 (ps := [.long, .long]) (by decide +kernel) rfl rfl rfl (by decide) rfl (by decide) (by decide) (by decide) (by decide) rfl ?_
  rintro _ _ ⟨r, rfl, rfl, hr⟩
  show Go pP l eE _ sS mM _ bB tT cC n0 _ h 0 0 (mkF mM 8 #[.val (.int z)] [(.long r)])
  refine go_lret K div_8 rfl (by decide) (by decide) ?_
  exact ⟨r, rfl, rfl, by rw [c_i2l] at hr; exact hr⟩
set_option maxRecDepth 65536 in
set_option maxHeartbeats 40000000 in
theorem mh_met (l : Launch) (Z : State) (a0 : Array Value) (hw : ∀ d ∈ tables_1, d.before a0 Z = true) (xx yy : Int64) (h : Heap) (n0 : Nat)  :
    Met l (⟨"java/lang/Math", "multiplyHigh", "(JJ)J"⟩ : MethodName) jdk_29_method_45_code 20 (some .long) [] ({ frames := 0, cells := 0, slots := 0, locals := 0 } : Room) #[(.long xx), (.long yy)] Z h n0 (fun v h' => ∃ r : Int64, v = some (.long r) ∧ h = h' ∧ r.toInt = (xx.toInt * yy.toInt) / 18446744073709551616) := by
  refine Met.of (Jvm.Free.JP.mathPlain rfl (by decide +kernel)) ?_
  intro pP eE sS mM bB tT cC K
  refine Go.entry (ls := #[.val (.long xx), .second, .val (.long yy), .second, .unset, .unset, .unset, .unset, .unset, .unset, .unset, .unset, .unset, .unset, .unset, .unset, .unset, .unset, .unset, .unset]) (by first | (simp [argsToLocals, Value.category]; done) | rfl) ?_
  refine go_lloadN (q := 1) K dmh_0 rfl rfl ?_
  refine go_bipush (q := 3) K dmh_1 (32 : Int32) rfl rfl ?_
  refine go_lshr (q := 4) K dmh_3 rfl ?_
  refine go_nameJ (fun x1 hx1 => ?_)
  refine go_lstore (q := 6) K dmh_4 #[.val (.long xx), .second, .val (.long yy), .second, .val (.long x1), .second, .unset, .unset, .unset, .unset, .unset, .unset, .unset, .unset, .unset, .unset, .unset, .unset, .unset, .unset] rfl rfl ?_
  refine go_lloadN (q := 7) K dmh_6 rfl rfl ?_
  refine go_ldc2J (q := 10) K (wd hw 22 rfl) dmh_7 rfl ?_
  refine go_land (q := 11) K dmh_10 rfl ?_
  refine go_nameJ (fun x2 hx2 => ?_)
  refine go_lstore (q := 13) K dmh_11 #[.val (.long xx), .second, .val (.long yy), .second, .val (.long x1), .second, .val (.long x2), .second, .unset, .unset, .unset, .unset, .unset, .unset, .unset, .unset, .unset, .unset, .unset, .unset] rfl rfl ?_
  refine go_lloadN (q := 14) K dmh_13 rfl rfl ?_
  refine go_bipush (q := 16) K dmh_14 (32 : Int32) rfl rfl ?_
  refine go_lshr (q := 17) K dmh_16 rfl ?_
  refine go_nameJ (fun y1 hy1 => ?_)
  refine go_lstore (q := 19) K dmh_17 #[.val (.long xx), .second, .val (.long yy), .second, .val (.long x1), .second, .val (.long x2), .second, .val (.long y1), .second, .unset, .unset, .unset, .unset, .unset, .unset, .unset, .unset, .unset, .unset] rfl rfl ?_
  refine go_lloadN (q := 20) K dmh_19 rfl rfl ?_
  refine go_ldc2J (q := 23) K (wd hw 22 rfl) dmh_20 rfl ?_
  refine go_land (q := 24) K dmh_23 rfl ?_
  refine go_nameJ (fun y2 hy2 => ?_)
  refine go_lstore (q := 26) K dmh_24 #[.val (.long xx), .second, .val (.long yy), .second, .val (.long x1), .second, .val (.long x2), .second, .val (.long y1), .second, .val (.long y2), .second, .unset, .unset, .unset, .unset, .unset, .unset, .unset, .unset] rfl rfl ?_
  refine go_lload (q := 28) K dmh_26 rfl rfl ?_
  refine go_lload (q := 30) K dmh_28 rfl rfl ?_
  refine go_lmul (q := 31) K dmh_30 rfl ?_
  refine go_nameJ (fun z2 hz2 => ?_)
  refine go_lstore (q := 33) K dmh_31 #[.val (.long xx), .second, .val (.long yy), .second, .val (.long x1), .second, .val (.long x2), .second, .val (.long y1), .second, .val (.long y2), .second, .val (.long z2), .second, .unset, .unset, .unset, .unset, .unset, .unset] rfl rfl ?_
  refine go_lload (q := 35) K dmh_33 rfl rfl ?_
  refine go_lload (q := 37) K dmh_35 rfl rfl ?_
  refine go_lmul (q := 38) K dmh_37 rfl ?_
  refine go_lload (q := 40) K dmh_38 rfl rfl ?_
  refine go_bipush (q := 42) K dmh_40 (32 : Int32) rfl rfl ?_
  refine go_lushr (q := 43) K dmh_42 rfl ?_
  refine go_ladd (q := 44) K dmh_43 rfl ?_
  refine go_nameJ (fun t ht => ?_)
  refine go_lstore (q := 46) K dmh_44 #[.val (.long xx), .second, .val (.long yy), .second, .val (.long x1), .second, .val (.long x2), .second, .val (.long y1), .second, .val (.long y2), .second, .val (.long z2), .second, .val (.long t), .second, .unset, .unset, .unset, .unset] rfl rfl ?_
  refine go_lload (q := 48) K dmh_46 rfl rfl ?_
  refine go_ldc2J (q := 51) K (wd hw 22 rfl) dmh_48 rfl ?_
  refine go_land (q := 52) K dmh_51 rfl ?_
  refine go_nameJ (fun z1 hz1 => ?_)
  refine go_lstore (q := 54) K dmh_52 #[.val (.long xx), .second, .val (.long yy), .second, .val (.long x1), .second, .val (.long x2), .second, .val (.long y1), .second, .val (.long y2), .second, .val (.long z2), .second, .val (.long t), .second, .val (.long z1), .second, .unset, .unset] rfl rfl ?_
  refine go_lload (q := 56) K dmh_54 rfl rfl ?_
  refine go_bipush (q := 58) K dmh_56 (32 : Int32) rfl rfl ?_
  refine go_lshr (q := 59) K dmh_58 rfl ?_
  refine go_nameJ (fun z0 hz0 => ?_)
  refine go_lstore (q := 61) K dmh_59 #[.val (.long xx), .second, .val (.long yy), .second, .val (.long x1), .second, .val (.long x2), .second, .val (.long y1), .second, .val (.long y2), .second, .val (.long z2), .second, .val (.long t), .second, .val (.long z1), .second, .val (.long z0), .second] rfl rfl ?_
  refine go_lload (q := 63) K dmh_61 rfl rfl ?_
  refine go_lload (q := 65) K dmh_63 rfl rfl ?_
  refine go_lload (q := 67) K dmh_65 rfl rfl ?_
  refine go_lmul (q := 68) K dmh_67 rfl ?_
  refine go_ladd (q := 69) K dmh_68 rfl ?_
  refine go_nameJ (fun z3 hz3 => ?_)
  refine go_lstore (q := 71) K dmh_69 #[.val (.long xx), .second, .val (.long yy), .second, .val (.long x1), .second, .val (.long x2), .second, .val (.long y1), .second, .val (.long y2), .second, .val (.long z2), .second, .val (.long t), .second, .val (.long z3), .second, .val (.long z0), .second] rfl rfl ?_
  refine go_lload (q := 73) K dmh_71 rfl rfl ?_
  refine go_lload (q := 75) K dmh_73 rfl rfl ?_
  refine go_lmul (q := 76) K dmh_75 rfl ?_
  refine go_lload (q := 78) K dmh_76 rfl rfl ?_
  refine go_ladd (q := 79) K dmh_78 rfl ?_
  refine go_lload (q := 81) K dmh_79 rfl rfl ?_
  refine go_bipush (q := 83) K dmh_81 (32 : Int32) rfl rfl ?_
  refine go_lshr (q := 84) K dmh_83 rfl ?_
  refine go_ladd (q := 85) K dmh_84 rfl ?_
  refine go_nameJ (fun r hr => ?_)
  refine go_lret K dmh_85 rfl (by decide) (by decide) ?_
  exact ⟨r, rfl, rfl, own_mh (by rw [hx1]; exact own_lshr32 xx) (by rw [hx2]; exact own_mask xx) (by rw [hy1]; exact own_lshr32 yy) (by rw [hy2]; exact own_mask yy) hz2 ht (by rw [hz1]; exact own_mask t) (by rw [hz0]; exact own_lshr32 t) hz3 hr⟩
theorem own_r7 {pp q r7 : Int64} {z : Int32} (hz : 1 ≤ z.toInt) (hr7 : r7 = pp - q * z.toInt64) (h : 0 ≤ pp.toInt - q.toInt * z.toInt ∧ pp.toInt - q.toInt * z.toInt < 2 * z.toInt ∧ 0 ≤ q.toInt ∧ q.toInt ≤ pp.toInt) : r7.toInt = pp.toInt - q.toInt * z.toInt := by
  have h1 := c_lmul q z.toInt64
  have h2 := c_lsub pp (q * z.toInt64)
  rw [← hr7] at h2
  rw [c_i2l] at h1
  have h3 := rng64 r7; have h4 := rng64 pp; have h5 := rng64 (q * z.toInt64); have h6 := rng32 z
  generalize q.toInt * z.toInt = A at *
  omega
theorem own_sl {r7 : Int64} {pp q : Int} {z : Int32} (hz : 1 ≤ z.toInt) (hr : r7.toInt = pp - q * z.toInt) (h : 0 ≤ pp - q * z.toInt ∧ pp - q * z.toInt < 2 * z.toInt) : (r7 < z.toInt64 → r7.toInt32.toInt = pp % z.toInt) ∧ (¬ r7 < z.toInt64 → (r7 - z.toInt64).toInt32.toInt = pp % z.toInt) := by
  have e := own_emod hz rfl h.1 h.2
  have rz := rng32 z
  rw [Int64.lt_iff_toInt_lt, c_i2l, hr]
  constructor
  · intro hl
    rw [if_pos hl] at e
    have h1 := c_l2i r7; have h2 := rng32 r7.toInt32
    omega
  · intro hl
    rw [if_neg hl] at e
    have h0 := c_lsub r7 z.toInt64
    have h1 := c_l2i (r7 - z.toInt64); have h2 := rng32 (r7 - z.toInt64).toInt32; have h3 := rng64 (r7 - z.toInt64)
    rw [c_i2l] at h0
    omega
set_option maxRecDepth 65536 in
set_option maxHeartbeats 40000000 in
theorem so_met (l : Launch) (Z : State) (a0 : Array Value) (hw : ∀ d ∈ tables_1, d.before a0 Z = true) (pp : Int64) (z : Int32) (inv : Int64) (h : Heap) (n0 : Nat) (hp : 0 ≤ pp.toInt ∧ pp.toInt < 4611686018427387904) (hz : 1 ≤ z.toInt ∧ z.toInt ≤ 2147483647) (hi : own_inv z.toInt inv) :
    Met l (⟨"sluice/ArrayQueue", "slotOf", "(JIJ)I"⟩ : MethodName) prog_1_method_29_code 9 (some .int) [] ({ frames := 1, cells := 0, slots := 0, locals := 40 } : Room) #[(.long pp), (.int z), (.long inv)] Z h n0 (fun v h' => ∃ r : Int32, v = some (.int r) ∧ h = h' ∧ r.toInt = pp.toInt % z.toInt) := by
  refine Met.of (plainFor_of_name (by first | (simp [plainName, overriddenIn]; done) | decide +kernel)) ?_
  intro pP eE sS mM bB tT cC K
  refine Go.entry (ls := #[.val (.long pp), .second, .val (.int z), .val (.long inv), .second, .unset, .unset, .unset, .unset]) (by first | (simp [argsToLocals, Value.category]; done) | rfl) ?_
  refine go_lloadN (q := 1) K dso_0 rfl rfl ?_
  refine go_lloadN (q := 2) K dso_1 rfl rfl ?_
  refine go_callS (q := 5) (W := 0) K (wd hw 19 rfl) (wd hw 20 rfl) (wd hw 4 rfl) (wd hw 21 rfl) [(.long pp), (.long inv)] [] (mh_met l Z a0 hw pp inv _ n0) dso_2 (ps := [.long, .long]) (by decide +kernel) rfl rfl rfl (by decide) rfl (by decide) (by decide) (by decide) (by decide) rfl ?_
  rintro _ _ ⟨mhv, rfl, rfl, hmh⟩
  show Go pP l eE _ sS mM _ bB tT cC n0 _ h 0 0 (mkF mM 5 #[.val (.long pp), .second, .val (.int z), .val (.long inv), .second, .unset, .unset, .unset, .unset] [(.long mhv)])
  refine go_lloadN (q := 6) K dso_5 rfl rfl ?_
  refine go_bipush (q := 8) K dso_6 (63 : Int32) rfl rfl ?_
  refine go_lshr (q := 9) K dso_8 rfl ?_
  refine go_lloadN (q := 10) K dso_9 rfl rfl ?_
  refine go_land (q := 11) K dso_10 rfl ?_
  refine go_ladd (q := 12) K dso_11 rfl ?_
  refine go_nameJ (fun q hq => ?_)
  have hq2 := own_q hp.1 hp.2 hz.1 hz.2 hi hmh hq
  have hrm := own_rem hp.1 hp.2 hz.1 hz.2 hq2
  refine go_lstore (q := 14) K dso_12 #[.val (.long pp), .second, .val (.int z), .val (.long inv), .second, .val (.long q), .second, .unset, .unset] rfl rfl ?_
  refine go_lloadN (q := 15) K dso_14 rfl rfl ?_
  refine go_lload (q := 17) K dso_15 rfl rfl ?_
  refine go_iloadN (q := 18) K dso_17 rfl rfl ?_
  refine go_i2l (q := 19) K dso_18 rfl ?_
  refine go_lmul (q := 20) K dso_19 rfl ?_
  refine go_lsub (q := 21) K dso_20 rfl ?_
  refine go_nameJ (fun r7 hr7 => ?_)
  have hr72 := own_r7 hz.1 hr7 hrm
  have hsl := own_sl hz.1 hr72 ⟨hrm.1, hrm.2.1⟩
  refine go_lstore (q := 23) K dso_21 #[.val (.long pp), .second, .val (.int z), .val (.long inv), .second, .val (.long q), .second, .val (.long r7), .second] rfl rfl ?_
  refine go_lload (q := 25) K dso_23 rfl rfl ?_
  refine go_iloadN (q := 26) K dso_25 rfl rfl ?_
  refine go_i2l (q := 27) K dso_26 rfl ?_
  refine go_lcmp (q := 28) K dso_27 rfl ?_
  refine go_ifL (q := 36) (q' := 31) K dso_28 (by decide) rfl rfl (fun hc28 => ?_) (fun hc28 => ?_)
  · have hc28 : ¬ r7 < (z.toInt64) := hc28
    refine go_lload (q := 38) K dso_36 rfl rfl ?_
    refine go_iloadN (q := 39) K dso_38 rfl rfl ?_
    refine go_i2l (q := 40) K dso_39 rfl ?_
    refine go_lsub (q := 41) K dso_40 rfl ?_
    refine go_l2i (q := 42) K dso_41 rfl ?_
    refine go_iret K dso_42 rfl (Or.inl rfl) rfl (by decide) (by decide) ?_
    exact ⟨_, rfl, rfl, hsl.2 hc28⟩
  · have hc28 : r7 < (z.toInt64) := hc28
    refine go_lload (q := 33) K dso_31 rfl rfl ?_
    refine go_goto (q := 41) K dso_33 (by decide) rfl ?_
    refine go_l2i (q := 42) K dso_41 rfl ?_
    refine go_iret K dso_42 rfl (Or.inl rfl) rfl (by decide) (by decide) ?_
    exact ⟨_, rfl, rfl, hsl.1 hc28⟩
theorem own_end {pp : Int64} {z sl : Int32} (hp : 0 ≤ pp.toInt) (hz : 1 ≤ z.toInt) (h : sl.toInt = pp.toInt % z.toInt) : sl.toInt64 = pp % z.toInt64 := by
  apply Int64.toInt_inj.mp
  rw [c_i2l, h, Int64.toInt_mod, c_i2l, Int.tmod_eq_emod_of_nonneg hp]
set_option maxRecDepth 65536 in
set_option maxHeartbeats 40000000 in
theorem law_met (l : Launch) (Z : State) (a0 : Array Value) (hw : ∀ d ∈ tables_1, d.before a0 Z = true) (p0 : Int64) (cc : Int32) (h : Heap) (n0 : Nat)  :
    Met l x code maxLocals ret tables_1 room_1 #[(.long p0), (.int cc)] Z h n0 (fun v _ => v = some (.int 1)) := by
  refine Met.of (plainFor_of_name (by first | (simp [plainName, overriddenIn]; done) | decide +kernel)) ?_
  intro pP eE sS mM bB tT cC K
  refine Go.entry (ls := #[.val (.long p0), .second, .val (.int cc), .unset, .unset, .unset, .unset, .unset, .unset]) (by first | (simp [argsToLocals, Value.category, maxLocals]; done) | rfl) ?_
  refine go_lloadN (q := 1) K at_0 rfl rfl ?_
  refine go_ldc2J (q := 4) K (wd hw 0 rfl) at_1 rfl ?_
  refine go_land (q := 5) K at_4 rfl ?_
  refine go_nameJ (fun pp hpp => ?_)
  have hp : 0 ≤ pp.toInt ∧ pp.toInt < 4611686018427387904 := by rw [hpp, c_maskL p0 4611686018427387903 62 (by decide) (by decide)]; omega
  refine go_lstoreN (q := 6) K at_5 #[.val (.long p0), .second, .val (.int cc), .val (.long pp), .second, .unset, .unset, .unset, .unset] rfl rfl ?_
  refine go_iconst (q := 7) K at_6 (1 : Int32) rfl rfl ?_
  refine go_iloadN (q := 8) K at_7 rfl rfl ?_
  refine go_ldcI (q := 10) K (wd hw 1 rfl) at_8 rfl ?_
  refine go_iand (q := 11) K at_10 rfl ?_
  refine go_callS (q := 14) (W := 0) K (wd hw 2 rfl) (wd hw 3 rfl) (wd hw 4 rfl) (wd hw 5 rfl) [(.int (1 : Int32)), (.int (cc &&& (2147483647 : Int32)))] [] (max_met l Z a0 hw (1 : Int32) (cc &&& (2147483647 : Int32)) _ n0) at_11 (ps := [.int, .int]) (by decide +kernel) rfl rfl rfl (by decide) rfl (by decide) (by decide) (by decide) (by decide) rfl ?_
  rintro _ _ ⟨rfl, rfl⟩
  show Go pP l eE _ sS mM _ bB tT cC n0 _ h 0 0 (mkF mM 14 #[.val (.long p0), .second, .val (.int cc), .val (.long pp), .second, .unset, .unset, .unset, .unset] [(.int (if (1 : Int32) < (cc &&& (2147483647 : Int32)) then (cc &&& (2147483647 : Int32)) else (1 : Int32)))])
  refine go_nameI (fun z hz => ?_)
  have hz2 : 1 ≤ z.toInt ∧ z.toInt ≤ 2147483647 := ⟨by rw [hz]; exact own_ge1 _, by have := rng32 z; omega⟩
  refine go_istore (q := 16) K at_14 #[.val (.long p0), .second, .val (.int cc), .val (.long pp), .second, .val (.int z), .unset, .unset, .unset] rfl rfl ?_
  refine go_iload (q := 18) K at_16 rfl rfl ?_
  refine go_callS (q := 21) (W := 0) K (wd hw 6 rfl) (wd hw 7 rfl) (wd hw 8 rfl) (wd hw 9 rfl) [(.int z)] [] (iv_met l Z a0 hw z _ n0 hz2) at_18 (ps := [.int]) (by decide +kernel) rfl rfl rfl (by decide) rfl (by decide) (by decide) (by decide) (by decide) rfl ?_
  rintro _ _ ⟨inv, rfl, rfl, hinv⟩
  show Go pP l eE _ sS mM _ bB tT cC n0 _ h 0 0 (mkF mM 21 #[.val (.long p0), .second, .val (.int cc), .val (.long pp), .second, .val (.int z), .unset, .unset, .unset] [(.long inv)])
  refine go_lstore (q := 23) K at_21 #[.val (.long p0), .second, .val (.int cc), .val (.long pp), .second, .val (.int z), .val (.long inv), .second, .unset] rfl rfl ?_
  refine go_lloadN (q := 24) K at_23 rfl rfl ?_
  refine go_iload (q := 26) K at_24 rfl rfl ?_
  refine go_lload (q := 28) K at_26 rfl rfl ?_
  refine go_callS (q := 31) (W := 0) K (wd hw 16 rfl) (wd hw 17 rfl) (wd hw 8 rfl) (wd hw 18 rfl) [(.long pp), (.int z), (.long inv)] [] (so_met l Z a0 hw pp z inv _ n0 hp hz2 hinv) at_28 (ps := [.long, .int, .long]) (by decide +kernel) rfl rfl rfl (by decide) rfl (by decide) (by decide) (by decide) (by decide) rfl ?_
  rintro _ _ ⟨sl, rfl, rfl, hsl⟩
  show Go pP l eE _ sS mM _ bB tT cC n0 _ h 0 0 (mkF mM 31 #[.val (.long p0), .second, .val (.int cc), .val (.long pp), .second, .val (.int z), .val (.long inv), .second, .unset] [(.int sl)])
  refine go_istore (q := 33) K at_31 #[.val (.long p0), .second, .val (.int cc), .val (.long pp), .second, .val (.int z), .val (.long inv), .second, .val (.int sl)] rfl rfl ?_
  refine go_iload (q := 35) K at_33 rfl rfl ?_
  refine go_i2l (q := 36) K at_35 rfl ?_
  refine go_lloadN (q := 37) K at_36 rfl rfl ?_
  refine go_iload (q := 39) K at_37 rfl rfl ?_
  refine go_i2l (q := 40) K at_39 rfl ?_
  refine go_lrem (q := 41) K at_40 (own_ne0 (by rw [c_i2l]; exact hz2.1)) rfl ?_
  refine go_lcmp (q := 42) K at_41 rfl ?_
  refine go_ifL (q := 49) (q' := 45) K at_42 (by decide) rfl rfl (fun hn => cLN_no hn (show (sl.toInt64) = (pp % (z.toInt64)) from (own_end hp.1 hz2.1 hsl))) (fun _ => ?_)
  refine go_iconst (q := 46) K at_45 (1 : Int32) rfl rfl ?_
  refine go_goto (q := 50) K at_46 (by decide) rfl ?_
  refine go_iret K at_50 rfl (Or.inr (Or.inl rfl)) rfl (by decide) (by decide) ?_
  exact rfl
set_option maxRecDepth 65536 in
set_option maxHeartbeats 40000000 in
theorem comes_1 {Post : Tables → Env → Array Value → State → Outcome → State → Prop} (hpost : ∀ tb e args s v u, (limb_1_1.after args s (.returned v) u = true ∧ limb_1_2.after args s (.returned v) u = true ∧ True) → FrameEnd s (.returned v) u (Jvm.fieldLocs frame_1_writes args s ++ Jvm.arrayLocs frame_1_arrays args s ++ Jvm.staticLocs frame_1_statics s) 0 0 → Post tb e args s (.returned v) u) :
    ArmFor flags0 classFile x code maxLocals ret World_1 tables_1 room_1 Calls_1 rest_1 Pre_1 Post := by
  intro l hfl _ _ p e ha hc hk s m args below hf hA hF happ hP
  obtain ⟨hcalls, hrest, hpre⟩ := hP
  obtain ⟨-, -, -, hnamed, -, -, -, hat⟩ := (Spec.applies_iff hf).mp happ
  obtain ⟨hg, hn⟩ := and_e (Cond.before_iff.mp (show (Jvm.Cond.and given_1 narrow_1).before args s = true from hpre))
  obtain ⟨hcnt, hg0⟩ := and_e hg
  obtain ⟨ha0, hg1⟩ := and_e hg0
  have ha1 := hg1
  obtain ⟨w0, w1, rfl⟩ : ∃ w0 w1 : Value, args = #[w0, w1] := by
    have hs : args.size = 2 := by simpa [Cond.value, given_1] using hcnt
    obtain ⟨L⟩ := args
    match L, hs with
    | [w0, w1], _ => exact ⟨w0, w1, rfl⟩
  have hw := fun d (hd : d ∈ tables_1) => atoms_spec (ws := Jvm.Cond.code x code maxLocals ret :: tables_1) hat d (List.mem_cons_of_mem _ hd)
  have hfit : Fit s := fun {y c} hc i hi => by
    obtain ⟨ha, rfl⟩ := Array.getElem?_eq_some_iff.mp hc
    have q := List.all_eq_true.mp ((Array.all_eq_true_iff_forall_mem.mp hF) _ (Array.getElem_mem ha)) i (List.mem_range.mpr hi)
    simpa [Array.getElem?_eq_getElem hi] using q
  obtain ⟨i0, ea0⟩ := isL_v ha0
  obtain rfl : w0 = (.long i0) := Option.some.inj ea0
  obtain ⟨i1, ea1⟩ := is_v ha1
  obtain rfl : w1 = (.int i1) := Option.some.inj ea1
  obtain ⟨n, o, h1, h2, h3, _, L, rfl, ⟨rfl, N⟩, hq⟩ := law_met l s _ hw i0 i1 s.heap s.heap.size p e ha hc hk s m _ below hf ((Spec.applies_iff_loose hf).mp happ).1 ⟨rfl, State.Warmed39.refl s, rfl⟩ trivial
  refine ⟨n, _, h1, h2, h3, hpost _ _ _ _ _ _ ⟨Cond.after_iff.mpr rfl, Cond.after_iff.mpr (eq_i res_at (Term.int_eval (1)) rfl), trivial⟩ ⟨hq.1, hq.2.1, (hq.2.2.sift fun y hy => Or.inr (N y hy)).mono (by decide) (by decide)⟩⟩
theorem main_1_1 : Claimed_1_1 := comes_1 fun _ _ _ _ _ _ h hF => ⟨h.1, hF⟩
theorem main_1_2 : Claimed_1_2 := comes_1 fun _ _ _ _ _ _ h hF => ⟨h.2.1, hF⟩
end Jvm.Pilot.@@N@@
namespace Jvm.Pilot.@@N@@
open Jvm Jvm.ClassFile Sem Op Lib Jvm.Free Jvm.Stand Jvm.Pilot.@@N@@.Jvm.D
/-! MADE BY PROGRAM (witnessworld.py) out of the Statement's table words and the real class files: 24 classes; the members and pool entries that the words name. The judged class is class 1, her method 1. -/
namespace start1
open Jvm.ClassFile
def u (s : String) : CpInfo := .utf8 (stringToUtf16 s)
/-- a pool by its gaps: so many unusable entries, then the entry; so many at the end -/
def gap : Nat → List CpInfo → List CpInfo
  | 0, r => r
  | n + 1, r => .unusable :: gap n r
def poolList (es : List (Nat × CpInfo)) (last : Nat) : List CpInfo := es.foldr (fun e r => gap e.1 (e.2 :: r)) (gap last [])
def pool (es : List (Nat × CpInfo)) (last : Nat) : Array CpInfo := ⟨poolList es last⟩
def fileOf (pool : Array CpInfo) (this : Nat) (attrs : Array Attribute := #[]) (ms : Array MethodInfo := #[]) (fl : Nat := 33) (sup : Nat := 0) (ifs : Array Nat := #[]) (fds : Array FieldInfo := #[]) : ClassFile where
  minorVersion := 0
  majorVersion := 65
  constantPool := pool
  accessFlags := fl
  thisClass := this
  superClass := sup
  interfaces := ifs
  fields := fds
  methods := ms
  attributes := attrs
def plain (name : String) (sup : Option ClassId) : Class where
  name := name
  kind := .ordinary
  loader := none
  accessFlags := 33
  super := sup
  interfaces := #[]
  cf := none
  fields := #[]
  methods := #[]
  instanceTypes := #[]
  staticTypes := #[]
  resolved := #[]
  callSites := []
  init := .initialized
  statics := none
  mirror := none

def pool0 : Array CpInfo := pool [(5, u "<init>"), (0, u "()V"), (1, .class_ 10), (1, u "java/lang/Object")] 113

def k0m0 : Method := { name := "<init>", desc := "()V", sig := { parameters := [], returnType := none }, accessFlags := 1, code := none }
/-- java/lang/Object -/
def k0 : Class := { plain "java/lang/Object" none with
  accessFlags := 33
  interfaces := #[]
  cf := some (fileOf pool0 8 #[] #[{ accessFlags := 1, nameIndex := 5, descriptorIndex := 6, attributes := #[] }] 33 0 #[] #[])
  fields := #[]
  methods := #[k0m0]
  instanceTypes := #[]
  staticTypes := #[]
  resolved := Array.replicate 124 none
  statics := none }

def pool1 : Array CpInfo := pool [(2, .class_ 4), (1, u "java/lang/Object"), (0, u "<init>"), (0, u "()V"), (0, .long 4611686018427387903), (1, .integer 2147483647), (0, .methodref 11 12), (0, .class_ 13), (0, .nameAndType 14 15), (0, u "java/lang/Math"), (0, u "max"), (0, u "(II)I"), (0, .methodref 17 18), (0, .class_ 19), (0, .nameAndType 20 21), (0, u "sluice/ArrayQueue"), (0, u "inverse"), (0, u "(I)J"), (0, .methodref 17 23), (0, .nameAndType 24 25), (0, u "slotOf"), (0, u "(JIJ)I"), (0, .class_ 27), (0, u "sluice/ArrayQueueSlotOfPinLaw"), (2, u "law"), (0, u "(JI)Z")] 3

def k1m0 : Method := { name := "<init>", desc := "()V", sig := { parameters := [], returnType := none }, accessFlags := 1, code := none }
def k1c1 : Code := { maxStack := 6, maxLocals := 9, code := code, exceptionTable := #[], attributes := #[] }
def k1m1 : Method := { name := "law", desc := "(JI)Z", sig := { parameters := [.long, .int], returnType := some .boolean }, accessFlags := 9, code := some k1c1 }
/-- sluice/ArrayQueueSlotOfPinLaw -/
def k1 : Class := { plain "sluice/ArrayQueueSlotOfPinLaw" (some 0) with
  accessFlags := 49
  interfaces := #[]
  cf := some (fileOf pool1 26 #[] #[{ accessFlags := 1, nameIndex := 5, descriptorIndex := 6, attributes := #[] }, { accessFlags := 9, nameIndex := 30, descriptorIndex := 31, attributes := #[] }] 49 2 #[] #[])
  fields := #[]
  methods := #[k1m0, k1m1]
  instanceTypes := #[]
  staticTypes := #[]
  resolved := Array.replicate 35 none
  statics := none }

def pool2 : Array CpInfo := pool [(1, .class_ 2), (0, u "java/lang/Math"), (1, .class_ 6), (1, u "java/lang/Object"), (0, u "<init>"), (0, u "()V"), (89, .class_ 100), (1, u "java/lang/Math$RandomNumberGeneratorHolder"), (20, u "(JJ)J"), (16, .long 4294967295), (3, u "multiplyHigh"), (29, u "negativeZeroFloatBits"), (0, u "J"), (2, u "negativeZeroDoubleBits"), (21, u "max"), (46, u "$assertionsDisabled"), (0, u "Z"), (88, u "(II)I"), (2, u "twoToTheDoubleScaleDown"), (0, u "D"), (4, u "twoToTheDoubleScaleUp"), (9, u "E"), (3, u "PI"), (2, u "TAU"), (2, u "DEGREES_TO_RADIANS"), (0, u "RADIANS_TO_DEGREES")] 94

def k2m0 : Method := { name := "<init>", desc := "()V", sig := { parameters := [], returnType := none }, accessFlags := 2, code := none }
def k2c1 : Code := { maxStack := 6, maxLocals := 20, code := jdk_29_method_45_code, exceptionTable := #[], attributes := #[] }
def k2m1 : Method := { name := "multiplyHigh", desc := "(JJ)J", sig := { parameters := [.long, .long], returnType := some .long }, accessFlags := 9, code := some k2c1 }
def k2c2 : Code := { maxStack := 2, maxLocals := 2, code := jdk_29_method_65_code, exceptionTable := #[], attributes := #[] }
def k2m2 : Method := { name := "max", desc := "(II)I", sig := { parameters := [.int, .int], returnType := some .int }, accessFlags := 9, code := some k2c2 }
/-- java/lang/Math -/
def k2 : Class := { plain "java/lang/Math" (some 0) with
  accessFlags := 49
  interfaces := #[]
  cf := some (fileOf pool2 1 #[.nestMembers #[98]] #[{ accessFlags := 2, nameIndex := 7, descriptorIndex := 8, attributes := #[] }, { accessFlags := 9, nameIndex := 142, descriptorIndex := 121, attributes := #[] }, { accessFlags := 9, nameIndex := 198, descriptorIndex := 335, attributes := #[] }] 49 4 #[] #[{ accessFlags := 25, nameIndex := 354, descriptorIndex := 339, attributes := #[] }, { accessFlags := 25, nameIndex := 358, descriptorIndex := 339, attributes := #[] }, { accessFlags := 25, nameIndex := 361, descriptorIndex := 339, attributes := #[] }, { accessFlags := 26, nameIndex := 364, descriptorIndex := 339, attributes := #[] }, { accessFlags := 26, nameIndex := 365, descriptorIndex := 339, attributes := #[] }, { accessFlags := 26, nameIndex := 172, descriptorIndex := 173, attributes := #[] }, { accessFlags := 26, nameIndex := 176, descriptorIndex := 173, attributes := #[] }, { accessFlags := 8, nameIndex := 344, descriptorIndex := 339, attributes := #[] }, { accessFlags := 8, nameIndex := 338, descriptorIndex := 339, attributes := #[] }, { accessFlags := 4120, nameIndex := 245, descriptorIndex := 246, attributes := #[] }])
  fields := #[{ name := "E", type := .double, accessFlags := 25, slot := 0, constantValue := 0 }, { name := "PI", type := .double, accessFlags := 25, slot := 1, constantValue := 0 }, { name := "TAU", type := .double, accessFlags := 25, slot := 2, constantValue := 0 }, { name := "DEGREES_TO_RADIANS", type := .double, accessFlags := 26, slot := 3, constantValue := 0 }, { name := "RADIANS_TO_DEGREES", type := .double, accessFlags := 26, slot := 4, constantValue := 0 }, { name := "negativeZeroFloatBits", type := .long, accessFlags := 26, slot := 5, constantValue := 0 }, { name := "negativeZeroDoubleBits", type := .long, accessFlags := 26, slot := 6, constantValue := 0 }, { name := "twoToTheDoubleScaleUp", type := .double, accessFlags := 8, slot := 7, constantValue := 0 }, { name := "twoToTheDoubleScaleDown", type := .double, accessFlags := 8, slot := 8, constantValue := 0 }, { name := "$assertionsDisabled", type := .boolean, accessFlags := 4120, slot := 9, constantValue := 0 }]
  methods := #[k2m0, k2m1, k2m2]
  instanceTypes := #[]
  staticTypes := #[.double, .double, .double, .double, .double, .long, .long, .double, .double, .boolean]
  resolved := Array.replicate 460 none
  statics := none }

def pool3 : Array CpInfo := pool [(8, .class_ 10), (1, u "java/lang/Iterable"), (24, .class_ 36), (0, u "java/lang/Object")] 25

/-- java/lang/Iterable -/
def k3 : Class := { plain "java/lang/Iterable" (some 0) with
  accessFlags := 1537
  interfaces := #[]
  cf := some (fileOf pool3 8 #[] #[] 1537 35 #[] #[])
  fields := #[]
  methods := #[]
  instanceTypes := #[]
  staticTypes := #[]
  resolved := Array.replicate 62 none
  statics := none }

def pool4 : Array CpInfo := pool [(10, .class_ 12), (1, u "java/util/Collection"), (47, .class_ 61), (0, u "java/lang/Object"), (0, .class_ 63), (0, u "java/lang/Iterable")] 51

/-- java/util/Collection -/
def k4 : Class := { plain "java/util/Collection" (some 0) with
  accessFlags := 1537
  interfaces := #[3]
  cf := some (fileOf pool4 10 #[] #[] 1537 60 #[62] #[])
  fields := #[]
  methods := #[]
  instanceTypes := #[]
  staticTypes := #[]
  resolved := Array.replicate 115 none
  statics := none }

def pool5 : Array CpInfo := pool [(2, .class_ 4), (1, u "java/lang/Object"), (0, u "<init>"), (0, u "()V"), (1, .class_ 10), (1, u "java/util/AbstractCollection"), (66, .class_ 78), (0, u "java/util/Collection")] 81

def k5m0 : Method := { name := "<init>", desc := "()V", sig := { parameters := [], returnType := none }, accessFlags := 4, code := none }
/-- java/util/AbstractCollection -/
def k5 : Class := { plain "java/util/AbstractCollection" (some 0) with
  accessFlags := 1057
  interfaces := #[4]
  cf := some (fileOf pool5 8 #[] #[{ accessFlags := 4, nameIndex := 5, descriptorIndex := 6, attributes := #[] }] 1057 2 #[77] #[])
  fields := #[]
  methods := #[k5m0]
  instanceTypes := #[]
  staticTypes := #[]
  resolved := Array.replicate 160 none
  statics := none }

def pool6 : Array CpInfo := pool [(1, .class_ 2), (0, u "java/util/Queue"), (0, .class_ 4), (0, u "java/lang/Object"), (0, .class_ 6), (0, u "java/util/Collection")] 14

/-- java/util/Queue -/
def k6 : Class := { plain "java/util/Queue" (some 0) with
  accessFlags := 1537
  interfaces := #[4]
  cf := some (fileOf pool6 1 #[] #[] 1537 3 #[5] #[])
  fields := #[]
  methods := #[]
  instanceTypes := #[]
  staticTypes := #[]
  resolved := Array.replicate 21 none
  statics := none }

def pool7 : Array CpInfo := pool [(2, .class_ 4), (1, u "java/util/AbstractCollection"), (0, u "<init>"), (0, u "()V"), (1, .class_ 10), (1, u "java/util/AbstractQueue"), (43, .class_ 55), (0, u "java/util/Queue")] 31

def k7m0 : Method := { name := "<init>", desc := "()V", sig := { parameters := [], returnType := none }, accessFlags := 4, code := none }
/-- java/util/AbstractQueue -/
def k7 : Class := { plain "java/util/AbstractQueue" (some 5) with
  accessFlags := 1057
  interfaces := #[6]
  cf := some (fileOf pool7 8 #[] #[{ accessFlags := 4, nameIndex := 5, descriptorIndex := 6, attributes := #[] }] 1057 2 #[54] #[])
  fields := #[]
  methods := #[k7m0]
  instanceTypes := #[]
  staticTypes := #[]
  resolved := Array.replicate 87 none
  statics := none }

def pool8 : Array CpInfo := pool [(1, .class_ 2), (0, u "java/util/concurrent/BlockingQueue"), (0, .class_ 4), (0, u "java/lang/Object"), (0, .class_ 6), (0, u "java/util/Queue")] 31

/-- java/util/concurrent/BlockingQueue -/
def k8 : Class := { plain "java/util/concurrent/BlockingQueue" (some 0) with
  accessFlags := 1537
  interfaces := #[6]
  cf := some (fileOf pool8 1 #[] #[] 1537 3 #[5] #[])
  fields := #[]
  methods := #[]
  instanceTypes := #[]
  staticTypes := #[]
  resolved := Array.replicate 38 none
  statics := none }

def pool9 : Array CpInfo := pool [(2, .class_ 4), (1, u "java/util/AbstractQueue"), (0, u "<init>"), (0, u "()V"), (4, .class_ 13), (1, u "sluice/BaseQueue"), (33, .class_ 48), (0, u "java/util/concurrent/BlockingQueue"), (0, u "NOTHING_TO_REMOVE"), (0, u "Ljava/lang/String;")] 37

def k9m0 : Method := { name := "<init>", desc := "()V", sig := { parameters := [], returnType := none }, accessFlags := 0, code := none }
/-- sluice/BaseQueue -/
def k9 : Class := { plain "sluice/BaseQueue" (some 7) with
  accessFlags := 1056
  interfaces := #[8]
  cf := some (fileOf pool9 11 #[] #[{ accessFlags := 0, nameIndex := 5, descriptorIndex := 6, attributes := #[] }] 1056 2 #[47] #[{ accessFlags := 24, nameIndex := 49, descriptorIndex := 50, attributes := #[] }])
  fields := #[{ name := "NOTHING_TO_REMOVE", type := (.object "java/lang/String"), accessFlags := 24, slot := 0, constantValue := 0 }]
  methods := #[k9m0]
  instanceTypes := #[]
  staticTypes := #[(.object "java/lang/String")]
  resolved := Array.replicate 88 none
  statics := none }

def pool10 : Array CpInfo := pool [(2, .class_ 4), (1, u "sluice/BaseQueue"), (0, u "<init>"), (0, u "()V"), (3, .class_ 12), (1, u "sluice/OrderedQueue")] 11

def k10m0 : Method := { name := "<init>", desc := "()V", sig := { parameters := [], returnType := none }, accessFlags := 0, code := none }
/-- sluice/OrderedQueue -/
def k10 : Class := { plain "sluice/OrderedQueue" (some 9) with
  accessFlags := 1056
  interfaces := #[]
  cf := some (fileOf pool10 10 #[] #[{ accessFlags := 0, nameIndex := 5, descriptorIndex := 6, attributes := #[] }] 1056 2 #[] #[])
  fields := #[]
  methods := #[k10m0]
  instanceTypes := #[]
  staticTypes := #[]
  resolved := Array.replicate 24 none
  statics := none }

def pool11 : Array CpInfo := pool [(1, .class_ 2), (0, u "sluice/ClaimQueue"), (1, .class_ 6), (1, u "sluice/OrderedQueue"), (4, u "_ends"), (0, u "[J"), (5, u "_takers"), (0, u "Lsluice/Waiters;"), (2, u "_putters"), (2, u "_held"), (2, u "_fair"), (0, u "Z"), (161, u "LONGS"), (0, u "Ljava/lang/invoke/VarHandle;"), (16, u "_stopper"), (0, u "Ljava/lang/Thread;"), (33, u "SPACING"), (0, u "I"), (2, u "TAIL"), (0, u "HEAD"), (1, u "MOVES"), (1, u "STOPPED"), (0, u "J")] 33

/-- sluice/ClaimQueue -/
def k11 : Class := { plain "sluice/ClaimQueue" (some 10) with
  accessFlags := 1056
  interfaces := #[]
  cf := some (fileOf pool11 1 #[] #[] 1056 4 #[] #[{ accessFlags := 16, nameIndex := 11, descriptorIndex := 12, attributes := #[] }, { accessFlags := 18, nameIndex := 28, descriptorIndex := 29, attributes := #[] }, { accessFlags := 16, nameIndex := 18, descriptorIndex := 19, attributes := #[] }, { accessFlags := 16, nameIndex := 22, descriptorIndex := 19, attributes := #[] }, { accessFlags := 18, nameIndex := 25, descriptorIndex := 19, attributes := #[] }, { accessFlags := 66, nameIndex := 209, descriptorIndex := 210, attributes := #[] }, { accessFlags := 24, nameIndex := 244, descriptorIndex := 245, attributes := #[] }, { accessFlags := 24, nameIndex := 248, descriptorIndex := 245, attributes := #[] }, { accessFlags := 24, nameIndex := 249, descriptorIndex := 245, attributes := #[] }, { accessFlags := 24, nameIndex := 251, descriptorIndex := 245, attributes := #[] }, { accessFlags := 24, nameIndex := 253, descriptorIndex := 254, attributes := #[] }, { accessFlags := 24, nameIndex := 191, descriptorIndex := 192, attributes := #[] }])
  fields := #[{ name := "_ends", type := (.array .long), accessFlags := 16, slot := 0, constantValue := 0 }, { name := "_fair", type := .boolean, accessFlags := 18, slot := 1, constantValue := 0 }, { name := "_takers", type := (.object "sluice/Waiters"), accessFlags := 16, slot := 2, constantValue := 0 }, { name := "_putters", type := (.object "sluice/Waiters"), accessFlags := 16, slot := 3, constantValue := 0 }, { name := "_held", type := (.object "sluice/Waiters"), accessFlags := 18, slot := 4, constantValue := 0 }, { name := "_stopper", type := (.object "java/lang/Thread"), accessFlags := 66, slot := 5, constantValue := 0 }, { name := "SPACING", type := .int, accessFlags := 24, slot := 0, constantValue := 0 }, { name := "TAIL", type := .int, accessFlags := 24, slot := 1, constantValue := 0 }, { name := "HEAD", type := .int, accessFlags := 24, slot := 2, constantValue := 0 }, { name := "MOVES", type := .int, accessFlags := 24, slot := 3, constantValue := 0 }, { name := "STOPPED", type := .long, accessFlags := 24, slot := 4, constantValue := 0 }, { name := "LONGS", type := (.object "java/lang/invoke/VarHandle"), accessFlags := 24, slot := 5, constantValue := 0 }]
  methods := #[]
  instanceTypes := #[(.array .long), .boolean, (.object "sluice/Waiters"), (.object "sluice/Waiters"), (.object "sluice/Waiters"), (.object "java/lang/Thread")]
  staticTypes := #[.int, .int, .int, .int, .long, (.object "java/lang/invoke/VarHandle")]
  resolved := Array.replicate 288 none
  statics := none }

def pool12 : Array CpInfo := pool [(2, .class_ 4), (1, u "sluice/ArrayQueue"), (3, .class_ 10), (1, u "sluice/ClaimQueue"), (9, u "_items"), (0, u "[Ljava/lang/Object;"), (2, u "_turns"), (0, u "[J"), (2, u "inverse"), (0, u "(I)J"), (2, u "_inverse"), (0, u "J"), (9, u "slotOf"), (4, u "Ljava/lang/invoke/VarHandle;"), (25, u "ITEMS"), (59, .class_ 135), (0, u "sluice/ArrayQueue$Walker"), (56, u "_numbers"), (12, .long 18446744073709551615), (1, .class_ 208), (0, u "java/lang/Long"), (2, .methodref 207 212), (0, .nameAndType 213 214), (0, u "divideUnsigned"), (0, u "(JJ)J"), (4, u "(JIJ)I"), (0, .methodref 221 222), (0, .class_ 223), (0, .nameAndType 224 214), (0, u "java/lang/Math"), (0, u "multiplyHigh")] 81

def k12c0 : Code := { maxStack := 4, maxLocals := 1, code := prog_1_method_23_code, exceptionTable := #[], attributes := #[] }
def k12m0 : Method := { name := "inverse", desc := "(I)J", sig := { parameters := [.int], returnType := some .long }, accessFlags := 8, code := some k12c0 }
def k12c1 : Code := { maxStack := 6, maxLocals := 9, code := prog_1_method_29_code, exceptionTable := #[], attributes := #[] }
def k12m1 : Method := { name := "slotOf", desc := "(JIJ)I", sig := { parameters := [.long, .int, .long], returnType := some .int }, accessFlags := 8, code := some k12c1 }
/-- sluice/ArrayQueue -/
def k12 : Class := { plain "sluice/ArrayQueue" (some 11) with
  accessFlags := 49
  interfaces := #[]
  cf := some (fileOf pool12 2 #[.nestMembers #[134]] #[{ accessFlags := 8, nameIndex := 28, descriptorIndex := 29, attributes := #[] }, { accessFlags := 8, nameIndex := 43, descriptorIndex := 219, attributes := #[] }] 49 8 #[] #[{ accessFlags := 18, nameIndex := 20, descriptorIndex := 21, attributes := #[] }, { accessFlags := 2, nameIndex := 192, descriptorIndex := 25, attributes := #[] }, { accessFlags := 18, nameIndex := 24, descriptorIndex := 25, attributes := #[] }, { accessFlags := 18, nameIndex := 32, descriptorIndex := 33, attributes := #[] }, { accessFlags := 26, nameIndex := 74, descriptorIndex := 48, attributes := #[] }])
  fields := #[{ name := "_items", type := (.array (.object "java/lang/Object")), accessFlags := 18, slot := 6, constantValue := 0 }, { name := "_numbers", type := (.array .long), accessFlags := 2, slot := 7, constantValue := 0 }, { name := "_turns", type := (.array .long), accessFlags := 18, slot := 8, constantValue := 0 }, { name := "_inverse", type := .long, accessFlags := 18, slot := 9, constantValue := 0 }, { name := "ITEMS", type := (.object "java/lang/invoke/VarHandle"), accessFlags := 26, slot := 0, constantValue := 0 }]
  methods := #[k12m0, k12m1]
  instanceTypes := #[(.array .long), .boolean, (.object "sluice/Waiters"), (.object "sluice/Waiters"), (.object "sluice/Waiters"), (.object "java/lang/Thread"), (.array (.object "java/lang/Object")), (.array .long), (.array .long), .long]
  staticTypes := #[(.object "java/lang/invoke/VarHandle")]
  resolved := Array.replicate 306 none
  statics := none }

def pool13 : Array CpInfo := pool [(1, .class_ 2), (0, u "java/io/Serializable"), (0, .class_ 4), (0, u "java/lang/Object")] 2

/-- java/io/Serializable -/
def k13 : Class := { plain "java/io/Serializable" (some 0) with
  accessFlags := 1537
  interfaces := #[]
  cf := some (fileOf pool13 1 #[] #[] 1537 3 #[] #[])
  fields := #[]
  methods := #[]
  instanceTypes := #[]
  staticTypes := #[]
  resolved := Array.replicate 7 none
  statics := none }

def pool14 : Array CpInfo := pool [(2, .class_ 4), (1, u "java/lang/Object"), (0, u "<init>"), (0, u "()V"), (1, .class_ 10), (1, u "java/lang/Number"), (2, .class_ 14), (0, u "java/io/Serializable"), (0, u "serialVersionUID"), (0, u "J")] 20

def k14m0 : Method := { name := "<init>", desc := "()V", sig := { parameters := [], returnType := none }, accessFlags := 1, code := none }
/-- java/lang/Number -/
def k14 : Class := { plain "java/lang/Number" (some 0) with
  accessFlags := 1057
  interfaces := #[13]
  cf := some (fileOf pool14 8 #[] #[{ accessFlags := 1, nameIndex := 5, descriptorIndex := 6, attributes := #[] }] 1057 2 #[13] #[{ accessFlags := 26, nameIndex := 15, descriptorIndex := 16, attributes := #[] }])
  fields := #[{ name := "serialVersionUID", type := .long, accessFlags := 26, slot := 0, constantValue := 0 }]
  methods := #[k14m0]
  instanceTypes := #[]
  staticTypes := #[.long]
  resolved := Array.replicate 37 none
  statics := none }

def pool15 : Array CpInfo := pool [(1, .class_ 2), (0, u "java/lang/Comparable"), (0, .class_ 4), (0, u "java/lang/Object")] 7

/-- java/lang/Comparable -/
def k15 : Class := { plain "java/lang/Comparable" (some 0) with
  accessFlags := 1537
  interfaces := #[]
  cf := some (fileOf pool15 1 #[] #[] 1537 3 #[] #[])
  fields := #[]
  methods := #[]
  instanceTypes := #[]
  staticTypes := #[]
  resolved := Array.replicate 12 none
  statics := none }

def pool16 : Array CpInfo := pool [(1, .class_ 2), (0, u "java/lang/constant/Constable"), (0, .class_ 4), (0, u "java/lang/Object")] 6

/-- java/lang/constant/Constable -/
def k16 : Class := { plain "java/lang/constant/Constable" (some 0) with
  accessFlags := 1537
  interfaces := #[]
  cf := some (fileOf pool16 1 #[] #[] 1537 3 #[] #[])
  fields := #[]
  methods := #[]
  instanceTypes := #[]
  staticTypes := #[]
  resolved := Array.replicate 11 none
  statics := none }

def pool17 : Array CpInfo := pool [(1, .class_ 2), (0, u "java/lang/constant/ConstantDesc"), (0, .class_ 4), (0, u "java/lang/Object")] 32

/-- java/lang/constant/ConstantDesc -/
def k17 : Class := { plain "java/lang/constant/ConstantDesc" (some 0) with
  accessFlags := 1537
  interfaces := #[]
  cf := some (fileOf pool17 1 #[] #[] 1537 3 #[] #[])
  fields := #[]
  methods := #[]
  instanceTypes := #[]
  staticTypes := #[]
  resolved := Array.replicate 37 none
  statics := none }

def pool18 : Array CpInfo := pool [(1, .class_ 2), (0, u "java/lang/Long"), (232, .class_ 237), (1, u "java/lang/Long$LongCache"), (33, .class_ 272), (0, u "java/lang/Number"), (2, u "value"), (0, u "J"), (29, .long 18446744073709551615), (26, u "(JJ)J"), (27, u "TYPE"), (0, u "Ljava/lang/Class;"), (0, .class_ 364), (0, u "java/lang/Comparable"), (0, .class_ 366), (0, u "java/lang/constant/Constable"), (0, .class_ 368), (0, u "java/lang/constant/ConstantDesc"), (0, u "MIN_VALUE"), (1, u "MAX_VALUE"), (4, u "SIZE"), (0, u "I"), (1, u "BYTES"), (1, u "serialVersionUID"), (88, u "divideUnsigned")] 53

def k18c0 : Code := { maxStack := 8, maxLocals := 8, code := jdk_35_method_44_code, exceptionTable := #[], attributes := #[] }
def k18m0 : Method := { name := "divideUnsigned", desc := "(JJ)J", sig := { parameters := [.long, .long], returnType := some .long }, accessFlags := 9, code := some k18c0 }
/-- java/lang/Long -/
def k18 : Class := { plain "java/lang/Long" (some 14) with
  accessFlags := 49
  interfaces := #[15, 16, 17]
  cf := some (fileOf pool18 1 #[.nestMembers #[235]] #[{ accessFlags := 9, nameIndex := 470, descriptorIndex := 333, attributes := #[] }] 49 271 #[363, 365, 367] #[{ accessFlags := 25, nameIndex := 369, descriptorIndex := 276, attributes := #[] }, { accessFlags := 25, nameIndex := 371, descriptorIndex := 276, attributes := #[] }, { accessFlags := 25, nameIndex := 361, descriptorIndex := 362, attributes := #[] }, { accessFlags := 18, nameIndex := 275, descriptorIndex := 276, attributes := #[] }, { accessFlags := 25, nameIndex := 376, descriptorIndex := 377, attributes := #[] }, { accessFlags := 25, nameIndex := 379, descriptorIndex := 377, attributes := #[] }, { accessFlags := 26, nameIndex := 381, descriptorIndex := 276, attributes := #[] }])
  fields := #[{ name := "MIN_VALUE", type := .long, accessFlags := 25, slot := 0, constantValue := 0 }, { name := "MAX_VALUE", type := .long, accessFlags := 25, slot := 1, constantValue := 0 }, { name := "TYPE", type := (.object "java/lang/Class"), accessFlags := 25, slot := 2, constantValue := 0 }, { name := "value", type := .long, accessFlags := 18, slot := 0, constantValue := 0 }, { name := "SIZE", type := .int, accessFlags := 25, slot := 3, constantValue := 0 }, { name := "BYTES", type := .int, accessFlags := 25, slot := 4, constantValue := 0 }, { name := "serialVersionUID", type := .long, accessFlags := 26, slot := 5, constantValue := 0 }]
  methods := #[k18m0]
  instanceTypes := #[.long]
  staticTypes := #[.long, .long, (.object "java/lang/Class"), .int, .int, .long]
  resolved := Array.replicate 524 none
  statics := none }

def pool19 : Array CpInfo := pool [(1, u "java/lang/Cloneable"), (0, .class_ 1), (0, u "java/lang/Object"), (0, .class_ 3)] 3

/-- java/lang/Cloneable -/
def k19 : Class := { plain "java/lang/Cloneable" (some 0) with
  accessFlags := 1537
  interfaces := #[]
  cf := some (fileOf pool19 2 #[] #[] 1537 4 #[] #[])
  fields := #[]
  methods := #[]
  instanceTypes := #[]
  staticTypes := #[]
  resolved := Array.replicate 8 none
  statics := none }

/-- the primitive byte -/
def k20 : Class := { plain "byte" none with kind := .primitive 'B', accessFlags := 0x411 }
/-- [B -/
def k21 : Class := { plain "[B" (some 0) with kind := .array 20 .byte, interfaces := #[19, 13], accessFlags := 1041 }

/-- the primitive int -/
def k22 : Class := { plain "int" none with kind := .primitive 'I', accessFlags := 0x411 }
/-- [I -/
def k23 : Class := { plain "[I" (some 0) with kind := .array 22 .int, interfaces := #[19, 13], accessFlags := 1041 }

def heap : Heap := #[]
def classes : Array Class := #[k0, k1, k2, k3, k4, k5, k6, k7, k8, k9, k10, k11, k12, k13, k14, k15, k16, k17, k18, k19, k20, k21, k22, k23]
def interned : List (Array UInt16 × Addr) := []
def slotsUsed : Nat := 0
def theMethod : MethodId := ⟨1, 1⟩
def args0 : Array Value := #[.long 77, .int 5]
def aboutOver (below : List Frame) : State where
  vm := { classes := classes, interned := interned.toArray }
  heap := heap
  slotsUsed := slotsUsed
  threads := #[{ frames := .invoking theMethod args0 :: below }]
def below0 : List Frame := [.native { method := ⟨0, 0⟩, args := #[] }]
def about1 : State := aboutOver below0
def p0 : Program := .bare "" "" ""
def e0 : Env := launch0.env 0 0 0
theorem w_frames : about1.frames = Frame.invoking theMethod args0 :: below0 := rfl
set_option maxRecDepth 65536 in
theorem w_args : argsFit about1.vm theMethod args0 = true := by decide +kernel
set_option maxRecDepth 65536 in
theorem w_heap : heapFits about1 = true := by decide +kernel
set_option maxRecDepth 65536 in
theorem w_runnable : about1.curStatus? = some .runnable := by decide +kernel
set_option maxRecDepth 65536 in
theorem w_alone : about1.alone = true := by decide +kernel
set_option maxRecDepth 65536 in
theorem w_named : about1.methodNamed? x = some theMethod := by decide +kernel
set_option maxRecDepth 65536 in
theorem w_hears : about1.hears theMethod below0 = true := by decide +kernel
set_option maxRecDepth 65536 in
theorem w_ripe : about1.ripe theMethod args0 below0 = true := by decide +kernel
theorem w_running : about1.status = .running := rfl
set_option maxRecDepth 65536 in
theorem w_room : about1.hasRoom e0.platform room_1 = true :=
  launch0.hasRoom_least _ room_1 (by decide +kernel) (by decide +kernel) (by decide +kernel) (by decide +kernel) (by decide +kernel) (by decide +kernel)
theorem allAtoms_all (ts : List Jvm.Cond) (a : Array Jvm.Value) (st : Jvm.State) : (allAtoms ts).before a st = ts.all (fun c => c.before a st) := by
  induction ts with
  | nil => rfl
  | cons c t ih =>
    show (Jvm.Cond.and c (allAtoms t)).before a st = _
    rw [Jvm.Cond.before_and, ih, List.all_cons]
def words1 : List Jvm.Cond := Jvm.Cond.code x code maxLocals ret :: tables_1
/-- a 'code' word, met by the world's own term for the bytes: nothing is compared byte by byte -/
theorem code_word {y : MethodName} {bytes : ByteArray} {mx : Nat} {rt : Option FieldType} {a : Array Value} {s : State} {m : MethodId} {meth : Method} {c : Code} (h1 : s.methodNamed? y = some m) (h2 : s.vm.method? m = some meth) (h3 : meth.code = some c) (h4 : c.code = bytes)
    (h5 : (c.maxLocals == mx && c.exceptionTable.isEmpty && decide (c.maxStack ≤ mostOperands) && decide (meth.sig.returnType = rt) && !meth.locks && decide (parseMethodDescriptor y.desc = some meth.sig)) = true) : (Jvm.Cond.code y bytes mx rt).before a s = true := by
  simp only [Bool.and_eq_true, beq_iff_eq, Bool.not_eq_true', decide_eq_true_eq] at h5
  obtain ⟨⟨⟨⟨⟨g1, g2⟩, g3⟩, g4⟩, g5⟩, g6⟩ := h5
  simp [Cond.before, Cond.holds, Cond.value, h1, h2, h3, h4, g1, g2, g3, g4, g5, g6]
def isCode : Jvm.Cond → Bool
  | .code _ _ _ _ => true
  | _ => false
theorem all_split {L : List Jvm.Cond} {P : Jvm.Cond → Bool} (h1 : L.all (fun c => isCode c || P c) = true) (h2 : ∀ c ∈ L.filter isCode, P c = true) : L.all P = true := by
  refine List.all_eq_true.mpr fun c hc => ?_
  have h := List.all_eq_true.mp h1 c hc
  rcases Bool.eq_false_or_eq_true (isCode c) with hi | hi
  · exact h2 c (List.mem_filter.mpr ⟨hc, hi⟩)
  · simpa [hi] using h
set_option maxRecDepth 65536 in
theorem w_c0 : (Jvm.Cond.code x code maxLocals ret).before args0 about1 = true := code_word (m := ⟨1, 1⟩) (meth := k1m1) (c := k1c1) (by decide +kernel) rfl rfl rfl (by decide +kernel)
set_option maxRecDepth 65536 in
theorem w_c1 : (Jvm.Cond.code ({ cls := "java/lang/Math", name := "max", desc := "(II)I" } : Jvm.MethodName) jdk_29_method_65_code (2 : Nat) (Option.some Jvm.ClassFile.FieldType.int)).before args0 about1 = true := code_word (m := ⟨2, 2⟩) (meth := k2m2) (c := k2c2) (by decide +kernel) rfl rfl rfl (by decide +kernel)
set_option maxRecDepth 65536 in
theorem w_c2 : (Jvm.Cond.code ({ cls := "sluice/ArrayQueue", name := "inverse", desc := "(I)J" } : Jvm.MethodName) prog_1_method_23_code (1 : Nat) (Option.some Jvm.ClassFile.FieldType.long)).before args0 about1 = true := code_word (m := ⟨12, 0⟩) (meth := k12m0) (c := k12c0) (by decide +kernel) rfl rfl rfl (by decide +kernel)
set_option maxRecDepth 65536 in
theorem w_c3 : (Jvm.Cond.code ({ cls := "java/lang/Long", name := "divideUnsigned", desc := "(JJ)J" } : Jvm.MethodName) jdk_35_method_44_code (8 : Nat) (Option.some Jvm.ClassFile.FieldType.long)).before args0 about1 = true := code_word (m := ⟨18, 0⟩) (meth := k18m0) (c := k18c0) (by decide +kernel) rfl rfl rfl (by decide +kernel)
set_option maxRecDepth 65536 in
theorem w_c4 : (Jvm.Cond.code ({ cls := "sluice/ArrayQueue", name := "slotOf", desc := "(JIJ)I" } : Jvm.MethodName) prog_1_method_29_code (9 : Nat) (Option.some Jvm.ClassFile.FieldType.int)).before args0 about1 = true := code_word (m := ⟨12, 1⟩) (meth := k12m1) (c := k12c1) (by decide +kernel) rfl rfl rfl (by decide +kernel)
set_option maxRecDepth 65536 in
theorem w_c5 : (Jvm.Cond.code ({ cls := "java/lang/Math", name := "multiplyHigh", desc := "(JJ)J" } : Jvm.MethodName) jdk_29_method_45_code (20 : Nat) (Option.some Jvm.ClassFile.FieldType.long)).before args0 about1 = true := code_word (m := ⟨2, 1⟩) (meth := k2m1) (c := k2c1) (by decide +kernel) rfl rfl rfl (by decide +kernel)
def codes1 : List Jvm.Cond := [Jvm.Cond.code x code maxLocals ret, Jvm.Cond.code ({ cls := "java/lang/Math", name := "max", desc := "(II)I" } : Jvm.MethodName) jdk_29_method_65_code (2 : Nat) (Option.some Jvm.ClassFile.FieldType.int), Jvm.Cond.code ({ cls := "sluice/ArrayQueue", name := "inverse", desc := "(I)J" } : Jvm.MethodName) prog_1_method_23_code (1 : Nat) (Option.some Jvm.ClassFile.FieldType.long), Jvm.Cond.code ({ cls := "java/lang/Long", name := "divideUnsigned", desc := "(JJ)J" } : Jvm.MethodName) jdk_35_method_44_code (8 : Nat) (Option.some Jvm.ClassFile.FieldType.long), Jvm.Cond.code ({ cls := "sluice/ArrayQueue", name := "slotOf", desc := "(JIJ)I" } : Jvm.MethodName) prog_1_method_29_code (9 : Nat) (Option.some Jvm.ClassFile.FieldType.int), Jvm.Cond.code ({ cls := "java/lang/Math", name := "multiplyHigh", desc := "(JJ)J" } : Jvm.MethodName) jdk_29_method_45_code (20 : Nat) (Option.some Jvm.ClassFile.FieldType.long)]
set_option maxRecDepth 65536 in
theorem codes_eq : words1.filter isCode = codes1 := rfl
theorem w_codes : ∀ c ∈ words1.filter isCode, c.before args0 about1 = true := by
  rw [codes_eq]
  intro c hc
  simp only [codes1, List.mem_cons, List.not_mem_nil, or_false] at hc
  rcases hc with rfl | rfl | rfl | rfl | rfl | rfl
  · exact w_c0
  · exact w_c1
  · exact w_c2
  · exact w_c3
  · exact w_c4
  · exact w_c5
set_option maxRecDepth 65536 in
theorem w_t1 : words1.all (fun c => isCode c || c.before args0 about1) = true := by decide +kernel
theorem w_tables : (allAtoms (Jvm.Cond.code x code maxLocals ret :: tables_1)).before args0 about1 = true := by
  rw [allAtoms_all]
  show words1.all (fun c => c.before args0 about1) = true
  refine all_split ?_ w_codes
  rw [w_t1]
set_option maxRecDepth 65536 in
theorem w_case : (Jvm.Cond.and given_1 narrow_1).before args0 about1 = true := by decide +kernel
theorem w_applies : (headSpec (Jvm.Cond.code x code maxLocals ret :: tables_1) room_1).applies x e0.platform about1 = true :=
  (Spec.applies_iff w_frames).mpr ⟨w_running, w_runnable, w_alone, w_named, w_hears, w_ripe, w_room, w_tables⟩
theorem atStart : AtStart classFile x code maxLocals ret World_1 tables_1 room_1 Calls_1 rest_1 Pre_1 launch0 p0 e0 about1 theMethod args0 below0 :=
  ⟨lists_1, trivial, launch0.admits_env _ _ _, launch0.least_env, fairChoices_fair.cas, fairChoices_fair.clock, w_frames, w_args, w_heap, w_applies, trivial, trivial, w_case⟩
end start1
theorem witness_1 : WitnessClaimed_1 := ⟨start1.p0, start1.e0, start1.about1, start1.theMethod, start1.args0, start1.below0, start1.atStart⟩
end Jvm.Pilot.@@N@@
