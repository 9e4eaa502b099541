import JvmDerived
import JvmDerived.Pilot.@@N@@Statement
import JvmDerived.Pilot.@@N@@Code
set_option linter.unusedVariables false
set_option linter.unusedSimpArgs false
namespace Jvm.Pilot.@@N@@
open Jvm Jvm.ClassFile Sem Op Lib Jvm.Free Jvm.Stand Jvm.LawKit Jvm.RoadKit Bundle Jvm.Pilot.@@N@@.Jvm.D
theorem wd {Z : State} {a0 : Array Value} (hw : ∀ d ∈ tables_1, d.before a0 Z = true) (i : Nat) {d : Jvm.Cond} (e : tables_1[i]? = some d) : d.before a0 Z = true := hw _ (List.mem_of_getElem? e)
section Layer
variable {p : Program} {l : Launch} {e : Env} {R : Room} {s : State} {m : MethodId} {args : Array Value} {below : List Frame} {meth : Method} {c : Code} {Z : State} {a0 : Array Value}
variable {own nm : String} {bytes : ByteArray} {maxL : Nat} {ret : Option FieldType} {n0 : Nat} {Q : Outcome → State → Prop} {Q0 : Option Value → Heap → Prop} {h : Heap} {k n : Nat} {pc q : Nat} {ls : Array Slot} {st : List Value}
/-- what stays fixed while one body is walked -/
def Cx (p : Program) (s : State) (m : MethodId) (meth : Method) (c : Code) (Z : State) (own nm : String) (bytes : ByteArray) (maxL : Nat) (ret : Option FieldType) : Prop :=
  p.tables.exec = Jvm.exec ∧ Z.Warmed39 s.vm ∧ s.vm.findClass own = some m.cls ∧ c.code = bytes ∧ c.maxLocals = maxL ∧ meth.sig.returnType = ret ∧ meth.locks = false ∧ meth.name = nm
/-- an end that a body without String constants has: it returned, Q0 holds, nothing below n0 was written -/
def Nor (s : State) (R : Room) (n0 : Nat) (Q0 : Option Value → Heap → Prop) (o : Outcome) (t : State) : Prop :=
  ∃ v L', o = .returned v ∧ (Q0 v t.heap ∧ Fr n0 L') ∧ FrameEnd s o t L' R.cells R.slots
/-- from this frame, over a heap h, with k cells and n slots made, the body ends and Q holds of the outcome and the end -/
def Go (p : Program) (l : Launch) (e : Env) (R : Room) (s : State) (m : MethodId) (args : Array Value) (below : List Frame) (meth : Method) (c : Code) (n0 : Nat) (Q : Outcome → State → Prop) (h : Heap) (k n : Nat) (g : JFrame) : Prop :=
  ∀ T L, Stand p l e R s m args below meth c T L k n → Fr n0 L → T.heap = h →
    ∃ s₂ o, Steps p.tables e below (T.setTop g) s₂ ∧ s₂.status = .running ∧ Ended s₂ below o ∧ Q o s₂
theorem Go.of {g g' : JFrame} (f : ∀ T target, At T m c below → Steps p.tables e below (T.setTop g') target → Steps p.tables e below (T.setTop g) target) (r : Go p l e R s m args below meth c n0 Q h k n g') : Go p l e R s m args below meth c n0 Q h k n g := fun T L X N eT => by
  obtain ⟨s₂, o, hs, z⟩ := r T L X N eT
  exact ⟨s₂, o, f T _ X.here hs, z⟩
theorem Go.ofX {g g' : JFrame} (f : ∀ T L target, Stand p l e R s m args below meth c T L k n → T.heap = h → Steps p.tables e below (T.setTop g') target → Steps p.tables e below (T.setTop g) target) (r : Go p l e R s m args below meth c n0 Q h k n g') : Go p l e R s m args below meth c n0 Q h k n g := fun T L X N eT => by
  obtain ⟨s₂, o, hs, z⟩ := r T L X N eT
  exact ⟨s₂, o, f T L _ X eT hs, z⟩
theorem Go.less {g : JFrame} {k' n' : Nat} (r : Go p l e R s m args below meth c n0 Q h k' n' g) (hk : k ≤ k') (hn : n ≤ n') : Go p l e R s m args below meth c n0 Q h k n g := fun T L X N eT => r T L (X.more hk hn) N eT
theorem Go.at {g : JFrame} {h' : Heap} (r : Go p l e R s m args below meth c n0 Q h' k n g) (q : h = h') : Go p l e R s m args below meth c n0 Q h k n g := q ▸ r

theorem go_eqI {x y : Int32} {stl : List Value} (hxy : x = y) (r : Go p l e R s m args below meth c n0 Q h k n (mkF m pc ls (.int y :: stl))) : Go p l e R s m args below meth c n0 Q h k n (mkF m pc ls (.int x :: stl)) := hxy ▸ r
theorem go_eqJ {x y : Int64} {stl : List Value} (hxy : x = y) (r : Go p l e R s m args below meth c n0 Q h k n (mkF m pc ls (.long y :: stl))) : Go p l e R s m args below meth c n0 Q h k n (mkF m pc ls (.long x :: stl)) := hxy ▸ r

theorem go_nameI {x : Int32} {stl : List Value} (r : ∀ z, z = x → Go p l e R s m args below meth c n0 Q h k n (mkF m pc ls (.int z :: stl))) : Go p l e R s m args below meth c n0 Q h k n (mkF m pc ls (.int x :: stl)) := r x rfl
theorem go_nameJ {x : Int64} {stl : List Value} (r : ∀ z, z = x → Go p l e R s m args below meth c n0 Q h k n (mkF m pc ls (.long z :: stl))) : Go p l e R s m args below meth c n0 Q h k n (mkF m pc ls (.long x :: stl)) := r x rfl

theorem go_aloadN (K : Cx p s m meth c Z own nm bytes maxL ret) {i : Fin 4} {v : Value} (hd : decode bytes pc = .ok (.aload_n i, 1)) (hl : ls[i.val]? = some (.val v)) (hv : v.isRef = true) (hq : pc + 1 = q) (r : Go p l e R s m args below meth c n0 Q h k n (mkF m q ls (v :: st))) : Go p l e R s m args below meth c n0 Q h k n (mkF m pc ls st) := by
  subst hq; exact Go.of (fun T tg A => XS.aloadN A K.1 rfl (hb K.2.2.2.1 hd) hl hv) r
theorem go_aload (K : Cx p s m meth c Z own nm bytes maxL ret) {i : Nat} {v : Value} (hd : decode bytes pc = .ok (.aload i, 2)) (hl : ls[i]? = some (.val v)) (hv : v.isRef = true) (hq : pc + 2 = q) (r : Go p l e R s m args below meth c n0 Q h k n (mkF m q ls (v :: st))) : Go p l e R s m args below meth c n0 Q h k n (mkF m pc ls st) := by
  subst hq; exact Go.of (fun T tg A => XS.aload A K.1 rfl (hb K.2.2.2.1 hd) hl hv) r
theorem go_iloadN (K : Cx p s m meth c Z own nm bytes maxL ret) {i : Fin 4} {v : Int32} (hd : decode bytes pc = .ok (.iload_n i, 1)) (hl : ls[i.val]? = some (.val (.int v))) (hq : pc + 1 = q) (r : Go p l e R s m args below meth c n0 Q h k n (mkF m q ls (.int v :: st))) : Go p l e R s m args below meth c n0 Q h k n (mkF m pc ls st) := by
  subst hq; exact Go.of (fun T tg A => XS.iloadN A K.1 rfl (hb K.2.2.2.1 hd) hl) r
theorem go_iload (K : Cx p s m meth c Z own nm bytes maxL ret) {i : Nat} {v : Int32} (hd : decode bytes pc = .ok (.iload i, 2)) (hl : ls[i]? = some (.val (.int v))) (hq : pc + 2 = q) (r : Go p l e R s m args below meth c n0 Q h k n (mkF m q ls (.int v :: st))) : Go p l e R s m args below meth c n0 Q h k n (mkF m pc ls st) := by
  subst hq; exact Go.of (fun T tg A => XS.iload A K.1 rfl (hb K.2.2.2.1 hd) hl) r
theorem go_lloadN (K : Cx p s m meth c Z own nm bytes maxL ret) {i : Fin 4} {v : Int64} (hd : decode bytes pc = .ok (.lload_n i, 1)) (hl : ls[i.val]? = some (.val (.long v))) (hq : pc + 1 = q) (r : Go p l e R s m args below meth c n0 Q h k n (mkF m q ls (.long v :: st))) : Go p l e R s m args below meth c n0 Q h k n (mkF m pc ls st) := by
  subst hq; exact Go.of (fun T tg A => XT.lloadN A K.1 rfl (hb K.2.2.2.1 hd) hl) r
theorem go_lload (K : Cx p s m meth c Z own nm bytes maxL ret) {i : Nat} {v : Int64} (hd : decode bytes pc = .ok (.lload i, 2)) (hl : ls[i]? = some (.val (.long v))) (hq : pc + 2 = q) (r : Go p l e R s m args below meth c n0 Q h k n (mkF m q ls (.long v :: st))) : Go p l e R s m args below meth c n0 Q h k n (mkF m pc ls st) := by
  subst hq; exact Go.of (fun T tg A => XT.lload A K.1 rfl (hb K.2.2.2.1 hd) hl) r
theorem go_iconst (K : Cx p s m meth c Z own nm bytes maxL ret) {i : Int} (hd : decode bytes pc = .ok (.iconst i, 1)) (v : Int32) (hv : Int32.ofInt i = v) (hq : pc + 1 = q) (r : Go p l e R s m args below meth c n0 Q h k n (mkF m q ls (.int v :: st))) : Go p l e R s m args below meth c n0 Q h k n (mkF m pc ls st) := by
  subst hq; exact Go.of (fun T tg A => XT.iconstV A K.1 rfl v (hb K.2.2.2.1 hd) hv) r
theorem go_bipush (K : Cx p s m meth c Z own nm bytes maxL ret) {i : Int} (hd : decode bytes pc = .ok (.bipush i, 2)) (v : Int32) (hv : (Int8.ofInt i).toInt32 = v) (hq : pc + 2 = q) (r : Go p l e R s m args below meth c n0 Q h k n (mkF m q ls (.int v :: st))) : Go p l e R s m args below meth c n0 Q h k n (mkF m pc ls st) := by
  subst hq; exact Go.of (fun T tg A => XT.bipushV A K.1 rfl v (hb K.2.2.2.1 hd) hv) r
theorem go_sipush (K : Cx p s m meth c Z own nm bytes maxL ret) {i : Int} (hd : decode bytes pc = .ok (.sipush i, 3)) (v : Int32) (hv : (Int16.ofInt i).toInt32 = v) (hq : pc + 3 = q) (r : Go p l e R s m args below meth c n0 Q h k n (mkF m q ls (.int v :: st))) : Go p l e R s m args below meth c n0 Q h k n (mkF m pc ls st) := by
  subst hq; exact Go.of (fun T tg A => XT.sipushV A K.1 rfl v (hb K.2.2.2.1 hd) hv) r
theorem go_lconst (K : Cx p s m meth c Z own nm bytes maxL ret) {i : Fin 2} (hd : decode bytes pc = .ok (.lconst i, 1)) (v : Int64) (hv : Int64.ofNat i = v) (hq : pc + 1 = q) (r : Go p l e R s m args below meth c n0 Q h k n (mkF m q ls (.long v :: st))) : Go p l e R s m args below meth c n0 Q h k n (mkF m pc ls st) := by
  subst hq; exact Go.of (fun T tg A => XT.lconstV A K.1 rfl v (hb K.2.2.2.1 hd) hv) r
theorem go_aconst_null (K : Cx p s m meth c Z own nm bytes maxL ret)  (hd : decode bytes pc = .ok (.aconst_null, 1))  (hq : pc + 1 = q) (r : Go p l e R s m args below meth c n0 Q h k n (mkF m q ls (.null :: st))) : Go p l e R s m args below meth c n0 Q h k n (mkF m pc ls st) := by
  subst hq; exact Go.of (fun T tg A => XS.aconstNull A K.1 rfl (hb K.2.2.2.1 hd)) r
theorem go_iadd (K : Cx p s m meth c Z own nm bytes maxL ret) {x y : Int32} (hd : decode bytes pc = .ok (.iadd, 1))  (hq : pc + 1 = q) (r : Go p l e R s m args below meth c n0 Q h k n (mkF m q ls (.int (x + y) :: st))) : Go p l e R s m args below meth c n0 Q h k n (mkF m pc ls (.int y :: .int x :: st)) := by
  subst hq; exact Go.of (fun T tg A => XS.iadd A K.1 rfl (hb K.2.2.2.1 hd) rfl) r
theorem go_isub (K : Cx p s m meth c Z own nm bytes maxL ret) {x y : Int32} (hd : decode bytes pc = .ok (.isub, 1))  (hq : pc + 1 = q) (r : Go p l e R s m args below meth c n0 Q h k n (mkF m q ls (.int (x - y) :: st))) : Go p l e R s m args below meth c n0 Q h k n (mkF m pc ls (.int y :: .int x :: st)) := by
  subst hq; exact Go.of (fun T tg A => XS.isub A K.1 rfl (hb K.2.2.2.1 hd) rfl) r
theorem go_iand (K : Cx p s m meth c Z own nm bytes maxL ret) {x y : Int32} (hd : decode bytes pc = .ok (.iand, 1))  (hq : pc + 1 = q) (r : Go p l e R s m args below meth c n0 Q h k n (mkF m q ls (.int (x &&& y) :: st))) : Go p l e R s m args below meth c n0 Q h k n (mkF m pc ls (.int y :: .int x :: st)) := by
  subst hq; exact Go.of (fun T tg A => XS.iand A K.1 rfl (hb K.2.2.2.1 hd) rfl) r
theorem go_imul (K : Cx p s m meth c Z own nm bytes maxL ret) {x y : Int32} (hd : decode bytes pc = .ok (.imul, 1))  (hq : pc + 1 = q) (r : Go p l e R s m args below meth c n0 Q h k n (mkF m q ls (.int (x * y) :: st))) : Go p l e R s m args below meth c n0 Q h k n (mkF m pc ls (.int y :: .int x :: st)) := by
  subst hq; exact Go.of (fun T tg A => XS.imul A K.1 rfl (hb K.2.2.2.1 hd) rfl) r
theorem go_ixor (K : Cx p s m meth c Z own nm bytes maxL ret) {x y : Int32} (hd : decode bytes pc = .ok (.ixor, 1))  (hq : pc + 1 = q) (r : Go p l e R s m args below meth c n0 Q h k n (mkF m q ls (.int (x ^^^ y) :: st))) : Go p l e R s m args below meth c n0 Q h k n (mkF m pc ls (.int y :: .int x :: st)) := by
  subst hq; exact Go.of (fun T tg A => XT.ixor A K.1 rfl (hb K.2.2.2.1 hd) rfl) r
theorem go_ior (K : Cx p s m meth c Z own nm bytes maxL ret) {x y : Int32} (hd : decode bytes pc = .ok (.ior, 1))  (hq : pc + 1 = q) (r : Go p l e R s m args below meth c n0 Q h k n (mkF m q ls (.int (x ||| y) :: st))) : Go p l e R s m args below meth c n0 Q h k n (mkF m pc ls (.int y :: .int x :: st)) := by
  subst hq; exact Go.of (fun T tg A => XT.ior A K.1 rfl (hb K.2.2.2.1 hd) rfl) r
theorem go_ishl (K : Cx p s m meth c Z own nm bytes maxL ret) {x y : Int32} (hd : decode bytes pc = .ok (.ishl, 1))  (hq : pc + 1 = q) (r : Go p l e R s m args below meth c n0 Q h k n (mkF m q ls (.int (x <<< (y &&& 31)) :: st))) : Go p l e R s m args below meth c n0 Q h k n (mkF m pc ls (.int y :: .int x :: st)) := by
  subst hq; exact Go.of (fun T tg A => XT.ishl A K.1 rfl (hb K.2.2.2.1 hd) rfl) r
theorem go_ishr (K : Cx p s m meth c Z own nm bytes maxL ret) {x y : Int32} (hd : decode bytes pc = .ok (.ishr, 1))  (hq : pc + 1 = q) (r : Go p l e R s m args below meth c n0 Q h k n (mkF m q ls (.int (x >>> (y &&& 31)) :: st))) : Go p l e R s m args below meth c n0 Q h k n (mkF m pc ls (.int y :: .int x :: st)) := by
  subst hq; exact Go.of (fun T tg A => XT.ishr A K.1 rfl (hb K.2.2.2.1 hd) rfl) r
theorem go_iushr (K : Cx p s m meth c Z own nm bytes maxL ret) {x y : Int32} (hd : decode bytes pc = .ok (.iushr, 1))  (hq : pc + 1 = q) (r : Go p l e R s m args below meth c n0 Q h k n (mkF m q ls (.int (XT.ushr x y) :: st))) : Go p l e R s m args below meth c n0 Q h k n (mkF m pc ls (.int y :: .int x :: st)) := by
  subst hq; exact Go.of (fun T tg A => XT.iushr A K.1 rfl (hb K.2.2.2.1 hd) rfl) r
theorem go_ladd (K : Cx p s m meth c Z own nm bytes maxL ret) {x y : Int64} (hd : decode bytes pc = .ok (.ladd, 1))  (hq : pc + 1 = q) (r : Go p l e R s m args below meth c n0 Q h k n (mkF m q ls (.long (x + y) :: st))) : Go p l e R s m args below meth c n0 Q h k n (mkF m pc ls (.long y :: .long x :: st)) := by
  subst hq; exact Go.of (fun T tg A => XT.ladd A K.1 rfl (hb K.2.2.2.1 hd) rfl) r
theorem go_lsub (K : Cx p s m meth c Z own nm bytes maxL ret) {x y : Int64} (hd : decode bytes pc = .ok (.lsub, 1))  (hq : pc + 1 = q) (r : Go p l e R s m args below meth c n0 Q h k n (mkF m q ls (.long (x - y) :: st))) : Go p l e R s m args below meth c n0 Q h k n (mkF m pc ls (.long y :: .long x :: st)) := by
  subst hq; exact Go.of (fun T tg A => XT.lsub A K.1 rfl (hb K.2.2.2.1 hd) rfl) r
theorem go_lmul (K : Cx p s m meth c Z own nm bytes maxL ret) {x y : Int64} (hd : decode bytes pc = .ok (.lmul, 1))  (hq : pc + 1 = q) (r : Go p l e R s m args below meth c n0 Q h k n (mkF m q ls (.long (x * y) :: st))) : Go p l e R s m args below meth c n0 Q h k n (mkF m pc ls (.long y :: .long x :: st)) := by
  subst hq; exact Go.of (fun T tg A => XT.lmul A K.1 rfl (hb K.2.2.2.1 hd) rfl) r
theorem go_land (K : Cx p s m meth c Z own nm bytes maxL ret) {x y : Int64} (hd : decode bytes pc = .ok (.land, 1))  (hq : pc + 1 = q) (r : Go p l e R s m args below meth c n0 Q h k n (mkF m q ls (.long (x &&& y) :: st))) : Go p l e R s m args below meth c n0 Q h k n (mkF m pc ls (.long y :: .long x :: st)) := by
  subst hq; exact Go.of (fun T tg A => XT.land A K.1 rfl (hb K.2.2.2.1 hd) rfl) r
theorem go_lor (K : Cx p s m meth c Z own nm bytes maxL ret) {x y : Int64} (hd : decode bytes pc = .ok (.lor, 1))  (hq : pc + 1 = q) (r : Go p l e R s m args below meth c n0 Q h k n (mkF m q ls (.long (x ||| y) :: st))) : Go p l e R s m args below meth c n0 Q h k n (mkF m pc ls (.long y :: .long x :: st)) := by
  subst hq; exact Go.of (fun T tg A => XT.lor A K.1 rfl (hb K.2.2.2.1 hd) rfl) r
theorem go_lxor (K : Cx p s m meth c Z own nm bytes maxL ret) {x y : Int64} (hd : decode bytes pc = .ok (.lxor, 1))  (hq : pc + 1 = q) (r : Go p l e R s m args below meth c n0 Q h k n (mkF m q ls (.long (x ^^^ y) :: st))) : Go p l e R s m args below meth c n0 Q h k n (mkF m pc ls (.long y :: .long x :: st)) := by
  subst hq; exact Go.of (fun T tg A => XT.lxor A K.1 rfl (hb K.2.2.2.1 hd) rfl) r
theorem go_lshl (K : Cx p s m meth c Z own nm bytes maxL ret) {x : Int64} {y : Int32} (hd : decode bytes pc = .ok (.lshl, 1))  (hq : pc + 1 = q) (r : Go p l e R s m args below meth c n0 Q h k n (mkF m q ls (.long (x <<< (y.toInt64 &&& 63)) :: st))) : Go p l e R s m args below meth c n0 Q h k n (mkF m pc ls (.int y :: .long x :: st)) := by
  subst hq; exact Go.of (fun T tg A => XT.lshl A K.1 rfl (hb K.2.2.2.1 hd) rfl) r
theorem go_lshr (K : Cx p s m meth c Z own nm bytes maxL ret) {x : Int64} {y : Int32} (hd : decode bytes pc = .ok (.lshr, 1))  (hq : pc + 1 = q) (r : Go p l e R s m args below meth c n0 Q h k n (mkF m q ls (.long (x >>> (y.toInt64 &&& 63)) :: st))) : Go p l e R s m args below meth c n0 Q h k n (mkF m pc ls (.int y :: .long x :: st)) := by
  subst hq; exact Go.of (fun T tg A => XT.lshr A K.1 rfl (hb K.2.2.2.1 hd) rfl) r
theorem go_lushr (K : Cx p s m meth c Z own nm bytes maxL ret) {x : Int64} {y : Int32} (hd : decode bytes pc = .ok (.lushr, 1))  (hq : pc + 1 = q) (r : Go p l e R s m args below meth c n0 Q h k n (mkF m q ls (.long (XT.ushrL x y) :: st))) : Go p l e R s m args below meth c n0 Q h k n (mkF m pc ls (.int y :: .long x :: st)) := by
  subst hq; exact Go.of (fun T tg A => XT.lushr A K.1 rfl (hb K.2.2.2.1 hd) rfl) r
theorem go_idiv (K : Cx p s m meth c Z own nm bytes maxL ret) {x y : Int32} (hd : decode bytes pc = .ok (.idiv, 1)) (hy : y ≠ 0) (hq : pc + 1 = q) (r : Go p l e R s m args below meth c n0 Q h k n (mkF m q ls (.int (x / y) :: st))) : Go p l e R s m args below meth c n0 Q h k n (mkF m pc ls (.int y :: .int x :: st)) := by
  subst hq; exact Go.of (fun T tg A => XS.idiv A K.1 rfl (hb K.2.2.2.1 hd) rfl hy) r
theorem go_irem (K : Cx p s m meth c Z own nm bytes maxL ret) {x y : Int32} (hd : decode bytes pc = .ok (.irem, 1)) (hy : y ≠ 0) (hq : pc + 1 = q) (r : Go p l e R s m args below meth c n0 Q h k n (mkF m q ls (.int (x % y) :: st))) : Go p l e R s m args below meth c n0 Q h k n (mkF m pc ls (.int y :: .int x :: st)) := by
  subst hq; exact Go.ofX (fun T L tg S _ => iremM S K.1 rfl (hb K.2.2.2.1 hd) rfl hy) r
theorem go_ldiv (K : Cx p s m meth c Z own nm bytes maxL ret) {x y : Int64} (hd : decode bytes pc = .ok (.ldiv, 1)) (hy : y ≠ 0) (hq : pc + 1 = q) (r : Go p l e R s m args below meth c n0 Q h k n (mkF m q ls (.long (x / y) :: st))) : Go p l e R s m args below meth c n0 Q h k n (mkF m pc ls (.long y :: .long x :: st)) := by
  subst hq; exact Go.of (fun T tg A => XT.ldiv A K.1 rfl (hb K.2.2.2.1 hd) rfl hy) r
theorem go_lrem (K : Cx p s m meth c Z own nm bytes maxL ret) {x y : Int64} (hd : decode bytes pc = .ok (.lrem, 1)) (hy : y ≠ 0) (hq : pc + 1 = q) (r : Go p l e R s m args below meth c n0 Q h k n (mkF m q ls (.long (x % y) :: st))) : Go p l e R s m args below meth c n0 Q h k n (mkF m pc ls (.long y :: .long x :: st)) := by
  subst hq; rw [← lrem_mod x y] at r; exact Go.of (fun T tg A => XT.lrem A K.1 rfl (hb K.2.2.2.1 hd) rfl hy) r
theorem go_ineg (K : Cx p s m meth c Z own nm bytes maxL ret) {x : Int32} (hd : decode bytes pc = .ok (.ineg, 1))  (hq : pc + 1 = q) (r : Go p l e R s m args below meth c n0 Q h k n (mkF m q ls (.int (-x) :: st))) : Go p l e R s m args below meth c n0 Q h k n (mkF m pc ls (.int x :: st)) := by
  subst hq; exact Go.of (fun T tg A => XS.ineg A K.1 rfl (hb K.2.2.2.1 hd) rfl) r
theorem go_lneg (K : Cx p s m meth c Z own nm bytes maxL ret) {x : Int64} (hd : decode bytes pc = .ok (.lneg, 1))  (hq : pc + 1 = q) (r : Go p l e R s m args below meth c n0 Q h k n (mkF m q ls (.long (-x) :: st))) : Go p l e R s m args below meth c n0 Q h k n (mkF m pc ls (.long x :: st)) := by
  subst hq; exact Go.of (fun T tg A => XT.lneg A K.1 rfl (hb K.2.2.2.1 hd) rfl) r
theorem go_i2l (K : Cx p s m meth c Z own nm bytes maxL ret) {x : Int32} (hd : decode bytes pc = .ok (.i2l, 1))  (hq : pc + 1 = q) (r : Go p l e R s m args below meth c n0 Q h k n (mkF m q ls (.long (x.toInt64) :: st))) : Go p l e R s m args below meth c n0 Q h k n (mkF m pc ls (.int x :: st)) := by
  subst hq; exact Go.of (fun T tg A => XT.i2l A K.1 rfl (hb K.2.2.2.1 hd) rfl) r
theorem go_l2i (K : Cx p s m meth c Z own nm bytes maxL ret) {x : Int64} (hd : decode bytes pc = .ok (.l2i, 1))  (hq : pc + 1 = q) (r : Go p l e R s m args below meth c n0 Q h k n (mkF m q ls (.int (x.toInt32) :: st))) : Go p l e R s m args below meth c n0 Q h k n (mkF m pc ls (.long x :: st)) := by
  subst hq; exact Go.of (fun T tg A => XT.l2i A K.1 rfl (hb K.2.2.2.1 hd) rfl) r
theorem go_i2b (K : Cx p s m meth c Z own nm bytes maxL ret) {x : Int32} (hd : decode bytes pc = .ok (.i2b, 1))  (hq : pc + 1 = q) (r : Go p l e R s m args below meth c n0 Q h k n (mkF m q ls (.int (x.toInt8.toInt32) :: st))) : Go p l e R s m args below meth c n0 Q h k n (mkF m pc ls (.int x :: st)) := by
  subst hq; exact Go.of (fun T tg A => XT.i2b A K.1 rfl (hb K.2.2.2.1 hd) rfl) r
theorem go_i2c (K : Cx p s m meth c Z own nm bytes maxL ret) {x : Int32} (hd : decode bytes pc = .ok (.i2c, 1))  (hq : pc + 1 = q) (r : Go p l e R s m args below meth c n0 Q h k n (mkF m q ls (.int (x.toUInt32.toUInt16.toUInt32.toInt32) :: st))) : Go p l e R s m args below meth c n0 Q h k n (mkF m pc ls (.int x :: st)) := by
  subst hq; exact Go.of (fun T tg A => XT.i2c A K.1 rfl (hb K.2.2.2.1 hd) rfl) r
theorem go_i2s (K : Cx p s m meth c Z own nm bytes maxL ret) {x : Int32} (hd : decode bytes pc = .ok (.i2s, 1))  (hq : pc + 1 = q) (r : Go p l e R s m args below meth c n0 Q h k n (mkF m q ls (.int (x.toInt16.toInt32) :: st))) : Go p l e R s m args below meth c n0 Q h k n (mkF m pc ls (.int x :: st)) := by
  subst hq; exact Go.of (fun T tg A => XT.i2s A K.1 rfl (hb K.2.2.2.1 hd) rfl) r
theorem go_lcmp (K : Cx p s m meth c Z own nm bytes maxL ret) {x y : Int64} (hd : decode bytes pc = .ok (.lcmp, 1))  (hq : pc + 1 = q) (r : Go p l e R s m args below meth c n0 Q h k n (mkF m q ls (.int (XT.cmpL x y) :: st))) : Go p l e R s m args below meth c n0 Q h k n (mkF m pc ls (.long y :: .long x :: st)) := by
  subst hq; exact Go.of (fun T tg A => XT.lcmp A K.1 rfl (hb K.2.2.2.1 hd) rfl) r
theorem go_dup (K : Cx p s m meth c Z own nm bytes maxL ret) {x : Value} (hd : decode bytes pc = .ok (.dup, 1)) (hc : x.category = 1) (hq : pc + 1 = q) (r : Go p l e R s m args below meth c n0 Q h k n (mkF m q ls (x :: x :: st))) : Go p l e R s m args below meth c n0 Q h k n (mkF m pc ls (x :: st)) := by
  subst hq; exact Go.of (fun T tg A => XS.dup A K.1 rfl (hb K.2.2.2.1 hd) rfl hc) r
theorem go_pop (K : Cx p s m meth c Z own nm bytes maxL ret) {x : Value} (hd : decode bytes pc = .ok (.pop, 1)) (hc : x.category = 1) (hq : pc + 1 = q) (r : Go p l e R s m args below meth c n0 Q h k n (mkF m q ls st)) : Go p l e R s m args below meth c n0 Q h k n (mkF m pc ls (x :: st)) := by
  subst hq; exact Go.of (fun T tg A => XT.pop A K.1 rfl (hb K.2.2.2.1 hd) rfl hc) r
theorem go_dup_x1 (K : Cx p s m meth c Z own nm bytes maxL ret) {x y : Value} (hd : decode bytes pc = .ok (.dup_x1, 1)) (hc : x.category = 1) (hc2 : y.category = 1) (hq : pc + 1 = q) (r : Go p l e R s m args below meth c n0 Q h k n (mkF m q ls (x :: y :: x :: st))) : Go p l e R s m args below meth c n0 Q h k n (mkF m pc ls (x :: y :: st)) := by
  subst hq; exact Go.of (fun T tg A => XT.dupX1 A K.1 rfl (hb K.2.2.2.1 hd) rfl hc hc2) r
theorem go_dup2L (K : Cx p s m meth c Z own nm bytes maxL ret) {x : Int64} (hd : decode bytes pc = .ok (.dup2, 1))  (hq : pc + 1 = q) (r : Go p l e R s m args below meth c n0 Q h k n (mkF m q ls (.long x :: .long x :: st))) : Go p l e R s m args below meth c n0 Q h k n (mkF m pc ls (.long x :: st)) := by
  subst hq; exact Go.of (fun T tg A => XT.dup2L A K.1 rfl (hb K.2.2.2.1 hd) rfl) r
theorem go_istoreN (K : Cx p s m meth c Z own nm bytes maxL ret) {i : Fin 4} {x : Int32} (hd : decode bytes pc = .ok (.istore_n i, 1)) (l' : Array Slot) (hl : storeLocals ls i.val (.int x) = some l') (hq : pc + 1 = q) (r : Go p l e R s m args below meth c n0 Q h k n (mkF m q l' st)) : Go p l e R s m args below meth c n0 Q h k n (mkF m pc ls (.int x :: st)) := by
  subst hq; exact Go.of (fun T tg A => XS.istoreN A K.1 rfl (hb K.2.2.2.1 hd) rfl hl) r
theorem go_istore (K : Cx p s m meth c Z own nm bytes maxL ret) {i : Nat} {x : Int32} (hd : decode bytes pc = .ok (.istore i, 2)) (l' : Array Slot) (hl : storeLocals ls i (.int x) = some l') (hq : pc + 2 = q) (r : Go p l e R s m args below meth c n0 Q h k n (mkF m q l' st)) : Go p l e R s m args below meth c n0 Q h k n (mkF m pc ls (.int x :: st)) := by
  subst hq; exact Go.of (fun T tg A => XS.istore A K.1 rfl (hb K.2.2.2.1 hd) rfl hl) r
theorem go_lstoreN (K : Cx p s m meth c Z own nm bytes maxL ret) {i : Fin 4} {x : Int64} (hd : decode bytes pc = .ok (.lstore_n i, 1)) (l' : Array Slot) (hl : storeLocals ls i.val (.long x) = some l') (hq : pc + 1 = q) (r : Go p l e R s m args below meth c n0 Q h k n (mkF m q l' st)) : Go p l e R s m args below meth c n0 Q h k n (mkF m pc ls (.long x :: st)) := by
  subst hq; exact Go.of (fun T tg A => XT.lstoreN A K.1 rfl (hb K.2.2.2.1 hd) rfl hl) r
theorem go_lstore (K : Cx p s m meth c Z own nm bytes maxL ret) {i : Nat} {x : Int64} (hd : decode bytes pc = .ok (.lstore i, 2)) (l' : Array Slot) (hl : storeLocals ls i (.long x) = some l') (hq : pc + 2 = q) (r : Go p l e R s m args below meth c n0 Q h k n (mkF m q l' st)) : Go p l e R s m args below meth c n0 Q h k n (mkF m pc ls (.long x :: st)) := by
  subst hq; exact Go.of (fun T tg A => XT.lstore A K.1 rfl (hb K.2.2.2.1 hd) rfl hl) r
theorem go_astoreN (K : Cx p s m meth c Z own nm bytes maxL ret) {i : Fin 4} {x : Value} (hd : decode bytes pc = .ok (.astore_n i, 1)) (l' : Array Slot) (hv : x.isRef = true) (hl : storeLocals ls i.val x = some l') (hq : pc + 1 = q) (r : Go p l e R s m args below meth c n0 Q h k n (mkF m q l' st)) : Go p l e R s m args below meth c n0 Q h k n (mkF m pc ls (x :: st)) := by
  subst hq; exact Go.of (fun T tg A => XS.astoreN A K.1 rfl (hb K.2.2.2.1 hd) rfl hv hl) r
theorem go_astore (K : Cx p s m meth c Z own nm bytes maxL ret) {i : Nat} {x : Value} (hd : decode bytes pc = .ok (.astore i, 2)) (l' : Array Slot) (hv : x.isRef = true) (hl : storeLocals ls i x = some l') (hq : pc + 2 = q) (r : Go p l e R s m args below meth c n0 Q h k n (mkF m q l' st)) : Go p l e R s m args below meth c n0 Q h k n (mkF m pc ls (x :: st)) := by
  subst hq; exact Go.of (fun T tg A => XS.astore A K.1 rfl (hb K.2.2.2.1 hd) rfl hv hl) r
theorem go_iinc (K : Cx p s m meth c Z own nm bytes maxL ret) {i : Nat} {z : Int} {x : Int32} (hd : decode bytes pc = .ok (.iinc i z, 3)) (v : Int32) (l' : Array Slot) (hv : Int32.ofInt z = v) (hl : ls[i]? = some (.val (.int x))) (hl' : storeLocals ls i (.int (x + v)) = some l') (hq : pc + 3 = q) (r : Go p l e R s m args below meth c n0 Q h k n (mkF m q l' st)) : Go p l e R s m args below meth c n0 Q h k n (mkF m pc ls st) := by
  subst hq; exact Go.of (fun T tg A => XT.iincV A K.1 rfl v (hb K.2.2.2.1 hd) hv hl hl') r
theorem go_goto (K : Cx p s m meth c Z own nm bytes maxL ret)  {o : Int} (hd : decode bytes pc = .ok (.goto o, 3))  (ho : 0 ≤ (pc : Int) + o) (hq : ((pc : Int) + o).toNat = q) (r : Go p l e R s m args below meth c n0 Q h k n (mkF m q ls st)) : Go p l e R s m args below meth c n0 Q h k n (mkF m pc ls st) := by
  exact Go.of (fun T tg A => XS.goto A K.1 rfl rfl (hb K.2.2.2.1 hd) ho hq) r
def cP : ClassFile.Cond → Int32 → Int32 → Prop
  | .eq, x, y => x = y
  | .ne, x, y => ¬ x = y
  | .lt, x, y => x < y
  | .ge, x, y => ¬ x < y
  | .gt, x, y => y < x
  | .le, x, y => ¬ y < x
theorem cP_t {cd : ClassFile.Cond} {x y : Int32} (h : cP cd x y) : if_icmp.holds cd x y = true := by
  cases cd
  · exact XT.ii_eq_t h
  · exact XT.ii_ne_t h
  · exact XT.ii_lt_t h
  · exact XT.ii_ge_t h
  · exact XT.ii_gt_t h
  · exact XT.ii_le_t h
def cN : ClassFile.Cond → Int32 → Int32 → Prop
  | .eq, x, y => ¬ x = y
  | .ne, x, y => x = y
  | .lt, x, y => ¬ x < y
  | .ge, x, y => x < y
  | .gt, x, y => ¬ y < x
  | .le, x, y => y < x
theorem cN_no {cd : ClassFile.Cond} {x y : Int32} {G : Prop} (h : cP cd x y) (h' : cN cd x y) : G := by
  cases cd <;> first | exact absurd h h' | exact absurd h' h
theorem cN_no2 {cd : ClassFile.Cond} {x y : Int32} {G : Prop} (h' : cN cd x y) (h : cP cd x y) : G := cN_no h h'
theorem cP_or (cd : ClassFile.Cond) (x y : Int32) : cP cd x y ∨ cN cd x y := by
  cases cd
  · exact Classical.em (x = y)
  · exact (Classical.em (x = y)).symm
  · exact Classical.em (x < y)
  · exact (Classical.em (x < y)).symm
  · exact Classical.em (y < x)
  · exact (Classical.em (y < x)).symm
theorem cP_f {cd : ClassFile.Cond} {x y : Int32} (h : cN cd x y) : if_icmp.holds cd x y = false := by
  cases cd
  · exact XT.ii_eq_f h
  · exact XT.ii_ne_f h
  · exact XT.ii_lt_f h
  · exact XT.ii_ge_f h
  · exact XT.ii_gt_f h
  · exact XT.ii_le_f h

theorem go_icmp (K : Cx p s m meth c Z own nm bytes maxL ret) {cd : ClassFile.Cond} {x y : Int32} {o : Int} {q' : Nat} (hd : decode bytes pc = .ok (.if_icmp cd o, 3)) (ho : 0 ≤ (pc : Int) + o) (hq : ((pc : Int) + o).toNat = q) (hq' : pc + 3 = q') (r : cP cd x y → Go p l e R s m args below meth c n0 Q h k n (mkF m q ls st)) (r' : cN cd x y → Go p l e R s m args below meth c n0 Q h k n (mkF m q' ls st)) : Go p l e R s m args below meth c n0 Q h k n (mkF m pc ls (.int y :: .int x :: st)) := by
  subst hq'; rcases cP_or cd x y with hc | hc
  · exact Go.of (fun T tg A => XS.icmpYes A K.1 rfl rfl (hb K.2.2.2.1 hd) rfl (cP_t hc) ho hq) (r hc)
  · exact Go.of (fun T tg A => XS.icmpNo A K.1 rfl (hb K.2.2.2.1 hd) rfl (cP_f hc)) (r' hc)
theorem go_if0 (K : Cx p s m meth c Z own nm bytes maxL ret) {cd : ClassFile.Cond} {x : Int32} {o : Int} {q' : Nat} (hd : decode bytes pc = .ok (.ifCond cd o, 3)) (ho : 0 ≤ (pc : Int) + o) (hq : ((pc : Int) + o).toNat = q) (hq' : pc + 3 = q') (r : cP cd x 0 → Go p l e R s m args below meth c n0 Q h k n (mkF m q ls st)) (r' : cN cd x 0 → Go p l e R s m args below meth c n0 Q h k n (mkF m q' ls st)) : Go p l e R s m args below meth c n0 Q h k n (mkF m pc ls (.int x :: st)) := by
  subst hq'; rcases cP_or cd x 0 with hc | hc
  · exact Go.of (fun T tg A => XS.ifYes A K.1 rfl rfl (hb K.2.2.2.1 hd) rfl (by rw [if0]; exact cP_t hc) ho hq) (r hc)
  · exact Go.of (fun T tg A => XS.ifNo A K.1 rfl (hb K.2.2.2.1 hd) rfl (by rw [if0]; exact cP_f hc)) (r' hc)
def cL : ClassFile.Cond → Int64 → Int64 → Prop
  | .eq, x, y => x = y
  | .ne, x, y => ¬ x = y
  | .lt, x, y => x < y
  | .ge, x, y => ¬ x < y
  | .gt, x, y => y < x
  | .le, x, y => ¬ y < x
theorem cL_t {cd : ClassFile.Cond} {x y : Int64} (h : cL cd x y) : ifCond.holds cd (XT.cmpL x y) = true := by
  cases cd
  · exact XT.ll_eq_t h
  · exact XT.ll_ne_t h
  · exact XT.ll_lt_t h
  · exact XT.ll_ge_t h
  · exact XT.ll_gt_t h
  · exact XT.ll_le_t h
def cLN : ClassFile.Cond → Int64 → Int64 → Prop
  | .eq, x, y => ¬ x = y
  | .ne, x, y => x = y
  | .lt, x, y => ¬ x < y
  | .ge, x, y => x < y
  | .gt, x, y => ¬ y < x
  | .le, x, y => y < x
theorem cLN_no {cd : ClassFile.Cond} {x y : Int64} {G : Prop} (h : cL cd x y) (h' : cLN cd x y) : G := by
  cases cd <;> first | exact absurd h h' | exact absurd h' h
theorem cLN_no2 {cd : ClassFile.Cond} {x y : Int64} {G : Prop} (h' : cLN cd x y) (h : cL cd x y) : G := cLN_no h h'
theorem cL_or (cd : ClassFile.Cond) (x y : Int64) : cL cd x y ∨ cLN cd x y := by
  cases cd
  · exact Classical.em (x = y)
  · exact (Classical.em (x = y)).symm
  · exact Classical.em (x < y)
  · exact (Classical.em (x < y)).symm
  · exact Classical.em (y < x)
  · exact (Classical.em (y < x)).symm
theorem cL_f {cd : ClassFile.Cond} {x y : Int64} (h : cLN cd x y) : ifCond.holds cd (XT.cmpL x y) = false := by
  cases cd
  · exact XT.ll_eq_f h
  · exact XT.ll_ne_f h
  · exact XT.ll_lt_f h
  · exact XT.ll_ge_f h
  · exact XT.ll_gt_f h
  · exact XT.ll_le_f h

theorem go_ifL (K : Cx p s m meth c Z own nm bytes maxL ret) {cd : ClassFile.Cond} {x y : Int64} {o : Int} {q' : Nat} (hd : decode bytes pc = .ok (.ifCond cd o, 3)) (ho : 0 ≤ (pc : Int) + o) (hq : ((pc : Int) + o).toNat = q) (hq' : pc + 3 = q') (r : cL cd x y → Go p l e R s m args below meth c n0 Q h k n (mkF m q ls st)) (r' : cLN cd x y → Go p l e R s m args below meth c n0 Q h k n (mkF m q' ls st)) : Go p l e R s m args below meth c n0 Q h k n (mkF m pc ls (.int (XT.cmpL x y) :: st)) := by
  subst hq'; rcases cL_or cd x y with hc | hc
  · exact Go.of (fun T tg A => XS.ifYes A K.1 rfl rfl (hb K.2.2.2.1 hd) rfl (cL_t hc) ho hq) (r hc)
  · exact Go.of (fun T tg A => XS.ifNo A K.1 rfl (hb K.2.2.2.1 hd) rfl (cL_f hc)) (r' hc)
theorem go_ifnullY (K : Cx p s m meth c Z own nm bytes maxL ret)  {o : Int} (hd : decode bytes pc = .ok (.ifnull o, 3))  (ho : 0 ≤ (pc : Int) + o) (hq : ((pc : Int) + o).toNat = q) (r : Go p l e R s m args below meth c n0 Q h k n (mkF m q ls st)) : Go p l e R s m args below meth c n0 Q h k n (mkF m pc ls (.null :: st)) := by
  exact Go.of (fun T tg A => XS.ifnullYes A K.1 rfl rfl (hb K.2.2.2.1 hd) rfl ho hq) r
theorem go_ifnullN (K : Cx p s m meth c Z own nm bytes maxL ret) {a : Addr} {o : Int} (hd : decode bytes pc = .ok (.ifnull o, 3))  (hq : pc + 3 = q) (r : Go p l e R s m args below meth c n0 Q h k n (mkF m q ls st)) : Go p l e R s m args below meth c n0 Q h k n (mkF m pc ls (.ref a :: st)) := by
  subst hq; exact Go.of (fun T tg A => XS.ifnullNo A K.1 rfl (hb K.2.2.2.1 hd) rfl) r
theorem go_ifnonnullY (K : Cx p s m meth c Z own nm bytes maxL ret) {a : Addr} {o : Int} (hd : decode bytes pc = .ok (.ifnonnull o, 3))  (ho : 0 ≤ (pc : Int) + o) (hq : ((pc : Int) + o).toNat = q) (r : Go p l e R s m args below meth c n0 Q h k n (mkF m q ls st)) : Go p l e R s m args below meth c n0 Q h k n (mkF m pc ls (.ref a :: st)) := by
  exact Go.of (fun T tg A => XT.ifnonnullYes A K.1 rfl rfl (hb K.2.2.2.1 hd) rfl ho hq) r
theorem go_ifnonnullN (K : Cx p s m meth c Z own nm bytes maxL ret) {o : Int} (hd : decode bytes pc = .ok (.ifnonnull o, 3))  (hq : pc + 3 = q) (r : Go p l e R s m args below meth c n0 Q h k n (mkF m q ls st)) : Go p l e R s m args below meth c n0 Q h k n (mkF m pc ls (.null :: st)) := by
  subst hq; exact Go.of (fun T tg A => XT.ifnonnullNo A K.1 rfl (hb K.2.2.2.1 hd) rfl) r
def cA : ClassFile.ACond → Value → Value → Prop
  | .eq, x, y => x = y
  | .ne, x, y => ¬ x = y
def cAN : ClassFile.ACond → Value → Value → Prop
  | .eq, x, y => ¬ x = y
  | .ne, x, y => x = y
theorem cAN_no {cd : ClassFile.ACond} {x y : Value} {G : Prop} (h : cA cd x y) (h' : cAN cd x y) : G := by
  cases cd <;> first | exact absurd h h' | exact absurd h' h
theorem cAN_no2 {cd : ClassFile.ACond} {x y : Value} {G : Prop} (h' : cAN cd x y) (h : cA cd x y) : G := cAN_no h h'
theorem cA_or (cd : ClassFile.ACond) (x y : Value) : cA cd x y ∨ cAN cd x y := by
  cases cd
  · exact Classical.em (x = y)
  · exact (Classical.em (x = y)).symm
theorem cA_v {cd : ClassFile.ACond} {x y : Value} {b : Bool} (hb : decide (x = y) = b) : (acV cd b = true ↔ cA cd x y) := by
  subst hb; cases cd <;> simp [acV, cA]

theorem go_acmp (K : Cx p s m meth c Z own nm bytes maxL ret) {cd : ClassFile.ACond} {x y : Value} {o : Int} {q' : Nat} (hd : decode bytes pc = .ok (.if_acmp cd o, 3)) (h1 : x.isRef = true) (h2 : y.isRef = true) (ho : 0 ≤ (pc : Int) + o) (hq : ((pc : Int) + o).toNat = q) (hq' : pc + 3 = q') (r : cA cd x y → Go p l e R s m args below meth c n0 Q h k n (mkF m q ls st)) (r' : cAN cd x y → Go p l e R s m args below meth c n0 Q h k n (mkF m q' ls st)) : Go p l e R s m args below meth c n0 Q h k n (mkF m pc ls (y :: x :: st)) := by
  subst hq'; rcases cA_or cd x y with hc | hc
  · exact Go.ofX (fun T L tg S _ => acmp S K.1 rfl h1 h2 rfl (hb K.2.2.2.1 hd) rfl rfl ho (by rw [if_pos ((cA_v rfl).mpr hc)]; exact hq.symm)) (r hc)
  · exact Go.ofX (fun T L tg S _ => acmp S K.1 rfl h1 h2 rfl (hb K.2.2.2.1 hd) rfl rfl ho (by rw [if_neg (fun z => cAN_no ((cA_v rfl).mp z) hc)])) (r' hc)
theorem go_ldcI (K : Cx p s m meth c Z own nm bytes maxL ret) {i : Nat} {v : Int32} (wc : (Cond.constant own i v).before a0 Z = true) (hd : decode bytes pc = .ok (.ldc i, 2)) (hq : pc + 2 = q) (r : Go p l e R s m args below meth c n0 Q h k n (mkF m q ls (.int v :: st))) : Go p l e R s m args below meth c n0 Q h k n (mkF m pc ls st) := by
  subst hq; exact Go.ofX (fun T L tg S _ => S.ldcI K.1 K.2.2.1 (mvT K.2.1 wc) rfl (hb K.2.2.2.1 hd)) r
theorem go_ldcWI (K : Cx p s m meth c Z own nm bytes maxL ret) {i : Nat} {v : Int32} (wc : (Cond.constant own i v).before a0 Z = true) (hd : decode bytes pc = .ok (.ldc_w i, 3)) (hq : pc + 3 = q) (r : Go p l e R s m args below meth c n0 Q h k n (mkF m q ls (.int v :: st))) : Go p l e R s m args below meth c n0 Q h k n (mkF m pc ls st) := by
  subst hq; exact Go.ofX (fun T L tg S _ => S.ldcWI K.1 K.2.2.1 (mvT K.2.1 wc) rfl (hb K.2.2.2.1 hd)) r
theorem go_ldc2J (K : Cx p s m meth c Z own nm bytes maxL ret) {i : Nat} {v : Int64} (wc : (Cond.constantLong own i v).before a0 Z = true) (hd : decode bytes pc = .ok (.ldc2_w i, 3)) (hq : pc + 3 = q) (r : Go p l e R s m args below meth c n0 Q h k n (mkF m q ls (.long v :: st))) : Go p l e R s m args below meth c n0 Q h k n (mkF m pc ls st) := by
  subst hq; exact Go.ofX (fun T L tg S _ => S.ldc2J K.1 K.2.2.1 (mvT K.2.1 wc) rfl (hb K.2.2.2.1 hd)) r
theorem go_ldcF (K : Cx p s m meth c Z own nm bytes maxL ret) {i : Nat} {v : UInt32} (wc : (Cond.constantFloat own i v).before a0 Z = true) (hd : decode bytes pc = .ok (.ldc i, 2)) (hq : pc + 2 = q) (r : Go p l e R s m args below meth c n0 Q h k n (mkF m q ls (.float v :: st))) : Go p l e R s m args below meth c n0 Q h k n (mkF m pc ls st) := by
  subst hq; exact Go.ofX (fun T L tg S _ => S.ldcFloatC K.1 K.2.2.1 (mvT K.2.1 wc) (g := mkF m pc ls st) rfl (hb K.2.2.2.1 hd) tg) r
theorem lswAt {tb : Tables} [Ours tb] {e : Env} {below : List Frame} {T target : State} {m : MethodId} {c : Code} {g : JFrame} (h : At T m c below) (hx : tb.exec = Jvm.exec) (hg : g.method = m) {dflt o : Int} {prs : Array (Int × Int)} {len pc0 pc' : Nat} (hpc : g.pc = pc0) (hd : decode c.code g.pc = .ok (.lookupswitch dflt prs, len)) {i : Int32} {rest : List Value} (hs : g.stack = .int i :: rest)
    (hinc : (prs.toList.zip (prs.toList.drop 1)).all (fun (a, next) => a.1 < next.1) = true) (hoff : lookupswitch.offset prs.toList dflt i.toInt = o) (ho : 0 ≤ (pc0 : Int) + o) (hp : ((pc0 : Int) + o).toNat = pc')
    (hr : Steps tb e below (T.setTop { g with pc := pc', stack := rest }) target) : Steps tb e below (T.setTop g) target := by
  subst hg hpc hp
  jvm_step h [h.top, hx, hd, hs, lookupswitch.wp_chain, hoff, ho]
  exact ⟨by simpa using hinc, hr⟩
theorem go_lsw (K : Cx p s m meth c Z own nm bytes maxL ret) {dflt o : Int} {prs : Array (Int × Int)} {len : Nat} {x : Int32} (hd : decode bytes pc = .ok (.lookupswitch dflt prs, len)) (hinc : (prs.toList.zip (prs.toList.drop 1)).all (fun (a, next) => a.1 < next.1) = true) (hoff : lookupswitch.offset prs.toList dflt x.toInt = o) (ho : 0 ≤ (pc : Int) + o) (hq : ((pc : Int) + o).toNat = q)
    (r : Go p l e R s m args below meth c n0 Q h k n (mkF m q ls st)) : Go p l e R s m args below meth c n0 Q h k n (mkF m pc ls (.int x :: st)) :=
  by exact Go.of (fun T tg A => lswAt (g := mkF m pc ls (.int x :: st)) A K.1 rfl (pc0 := pc) (pc' := q) rfl (hb K.2.2.2.1 hd) rfl hinc hoff ho hq) r
theorem go_tsw (K : Cx p s m meth c Z own nm bytes maxL ret) {dflt low high o : Int} {offs : Array Int} {len : Nat} {x : Int32} (hd : decode bytes pc = .ok (.tableswitch dflt low high offs, len)) (hin : ¬ (x.toInt < low ∨ x.toInt > high)) (hoff : offs[(x.toInt - low).toNat]? = some o) (ho : 0 ≤ (pc : Int) + o) (hq : ((pc : Int) + o).toNat = q)
    (r : Go p l e R s m args below meth c n0 Q h k n (mkF m q ls st)) : Go p l e R s m args below meth c n0 Q h k n (mkF m pc ls (.int x :: st)) :=
  by exact Go.of (fun T tg A => XS.tswIn (g := mkF m pc ls (.int x :: st)) A K.1 rfl (pc0 := pc) (pc' := q) rfl (hb K.2.2.2.1 hd) rfl hin hoff ho hq) r

theorem go_return (K : Cx p s m meth c Z own nm bytes maxL ret) (hd : decode bytes pc = .ok (.return_, 1)) (hr : ret = none) (hk : k ≤ R.cells) (hn : n ≤ R.slots) (hQ : Q0 none h) : Go p l e R s m args below meth c n0 (Nor s R n0 Q0) h k n (mkF m pc ls []) := fun T L S N eT => by
  obtain ⟨fs, hr', hrun, hended, hW, hsame⟩ := S.leave (v := none) (fun _ => rfl) K.2.2.2.2.2.2.1
  exact ⟨_, _, S.returnOut K.1 (K.2.2.2.2.2.1.trans hr) (hb K.2.2.2.1 hd) hr', hrun, hended, _, _, rfl, ⟨by show Q0 none T.heap; rw [eT]; exact hQ, N⟩, ⟨_, rfl⟩, hW, hsame.mono hk hn⟩
theorem go_ret (K : Cx p s m meth c Z own nm bytes maxL ret) {v : Value} {t : FieldType} {i : Instr} (hd : decode bytes pc = .ok (i, 1)) (hr : ret = some t) (hnw : narrow t v = v) (hi : (i = .ireturn ∧ (t = .int ∨ t = .boolean ∨ t = .byte ∨ t = .char ∨ t = .short) ∧ ∃ z, v = .int z) ∨ (i = .lreturn ∧ t = .long ∧ ∃ z, v = .long z) ∨ (i = .dreturn ∧ t = .double ∧ ∃ z, v = .double z) ∨ (i = .freturn ∧ t = .float ∧ ∃ z, v = .float z) ∨ (i = .areturn ∧ t.isReference = true ∧ v.isRef = true)) (hk : k ≤ R.cells) (hn : n ≤ R.slots) (hQ : Q0 (some v) h) : Go p l e R s m args below meth c n0 (Nor s R n0 Q0) h k n (mkF m pc ls (v :: st)) := fun T L S N eT => by
  obtain ⟨fs, hr', hrun, hended, hW, hsame⟩ := S.leave (v := some v) (fun z => by rw [K.2.2.2.2.2.1, hr] at z; cases z) K.2.2.2.2.2.2.1
  exact ⟨_, _, retOut S K.1 (K.2.2.2.2.2.1.trans hr) hnw hi (hb K.2.2.2.1 hd) hr', hrun, hended, _, _, rfl, ⟨by show Q0 (some v) T.heap; rw [eT]; exact hQ, N⟩, ⟨_, rfl⟩, hW, hsame.mono hk hn⟩
theorem go_iret (K : Cx p s m meth c Z own nm bytes maxL ret) {v : Int32} {t : FieldType} (hd : decode bytes pc = .ok (.ireturn, 1)) (hr : ret = some t) (ht : t = .int ∨ t = .boolean ∨ t = .byte ∨ t = .char ∨ t = .short) (hnw : narrow t (.int v) = .int v) (hk : k ≤ R.cells) (hn : n ≤ R.slots) (hQ : Q0 (some (.int v)) h) : Go p l e R s m args below meth c n0 (Nor s R n0 Q0) h k n (mkF m pc ls (.int v :: st)) :=
  go_ret K hd hr hnw (Or.inl ⟨rfl, ht, v, rfl⟩) hk hn hQ
theorem go_lret (K : Cx p s m meth c Z own nm bytes maxL ret) {v : Int64} (hd : decode bytes pc = .ok (.lreturn, 1)) (hr : ret = some .long) (hk : k ≤ R.cells) (hn : n ≤ R.slots) (hQ : Q0 (some (.long v)) h) : Go p l e R s m args below meth c n0 (Nor s R n0 Q0) h k n (mkF m pc ls (.long v :: st)) :=
  go_ret K hd hr rfl (Or.inr (Or.inl ⟨rfl, rfl, v, rfl⟩)) hk hn hQ
theorem go_aret (K : Cx p s m meth c Z own nm bytes maxL ret) {v : Value} {t : FieldType} (hd : decode bytes pc = .ok (.areturn, 1)) (hr : ret = some t) (ht : t.isReference = true) (hv : v.isRef = true) (hnw : narrow t v = v) (hk : k ≤ R.cells) (hn : n ≤ R.slots) (hQ : Q0 (some v) h) : Go p l e R s m args below meth c n0 (Nor s R n0 Q0) h k n (mkF m pc ls (v :: st)) :=
  go_ret K hd hr hnw (Or.inr (Or.inr (Or.inr (Or.inr ⟨rfl, ht, hv⟩)))) hk hn hQ
/-- a body's contract: called with just these arguments over the heap h it comes back, Q holds, and nothing below n0 was written -/
def Met (l : Launch) (y : MethodName) (bytes : ByteArray) (maxL : Nat) (ret : Option FieldType) (ws : List Jvm.Cond) (R : Room) (as' : Array Value) (Z : State) (h : Heap) (n0 : Nat) (Q : Option Value → Heap → Prop) : Prop :=
  MetFree l y (head1 (Jvm.Cond.code y bytes maxL ret :: ws) R) (fun a U => a = as' ∧ Z.Warmed39 U.vm ∧ U.heap = h) (fun _ _ _ _ _ => True) (fun _ U o U' => ∃ v L, o = .returned v ∧ (Q v U'.heap ∧ Fr n0 L) ∧ FrameEnd U o U' L R.cells R.slots)
theorem Met.of {y : MethodName} {ws : List Jvm.Cond} {as' : Array Value} (hp : plainFor y = true)
    (body : ∀ (p : Program) (e : Env) (s : State) (m : MethodId) (below : List Frame) (meth : Method) (c : Code), Cx p s m meth c Z y.cls y.name bytes maxL ret → Go p l e R s m as' below meth c n0 (Nor s R n0 Q0) h 0 0 (entryFrame m as' maxL)) : Met l y bytes maxL ret ws R as' Z h n0 Q0 := by
  refine MetFree.of_bodySF hp hisR ?_
  intro p e s m args below meth c s₁ Bd hml0 hP hK
  obtain ⟨rfl, hZ, hh⟩ := hP
  have hown : s.vm.findClass y.cls = some m.cls := findClass_of_methodNamed Bd.named
  have hnm := (name_of_methodNamed Bd.named Bd.method).1
  exact body p e s m below meth c ⟨Bd.exec, hZ, hown, Bd.bytes, hml0, Bd.returns, Bd.notSynchronized, hnm⟩ s₁ [] (Stand.of_body Bd) (Fr.nil n0) (by rw [← hh, Bd.state]; rfl)
theorem Met.mono {y : MethodName} {ws : List Jvm.Cond} {as' : Array Value} {Q' : Option Value → Heap → Prop} (M : Met l y bytes maxL ret ws R as' Z h n0 Q0) (f : ∀ v h', Q0 v h' → Q' v h') : Met l y bytes maxL ret ws R as' Z h n0 Q' := by
  intro p e ha hc hk s m args below hf happ hP hK
  obtain ⟨n, o, h1, h2, h3, v, L, h4, h5, h6⟩ := M p e ha hc hk s m args below hf happ hP hK
  exact ⟨n, o, h1, h2, h3, v, L, h4, ⟨f _ _ h5.1, h5.2⟩, h6⟩
theorem Go.entry {maxL' : Nat} {as' : Array Value} (hl : argsToLocals as' maxL' = ls) (r : Go p l e R s m args below meth c n0 Q h k n (mkF m 0 ls [])) : Go p l e R s m args below meth c n0 Q h k n (entryFrame m as' maxL') := by
  subst hl; exact r

/-- what a static call by contract needs -/
theorem go_callS (K : Cx p s m meth c Z own nm bytes maxL ret) {y : MethodName} {bytes' : ByteArray} {maxL' : Nat} {ret' : Option FieldType} {rm : Room} {W i : Nat} {Q' : Option Value → Heap → Prop} {ps : List FieldType}
    (w1 : (Cond.methodLink own i y).before a0 Z = true) (w2 : (Cond.static y).before a0 Z = true) (w3 : (Cond.initialized y.cls).before a0 Z = true) (w4 : (Cond.code y bytes' maxL' ret').before a0 Z = true)
    (argsL rest : List Value) (hM : Met l y bytes' maxL' ret' [] rm argsL.toArray Z h n0 Q') (hd : decode bytes pc = .ok (.invokestatic i, 3)) (hpd : parseMethodDescriptor y.desc = some ⟨ps, ret'⟩) (hlen : argsL.length = ps.length) (hst : st = argsL.reverse ++ rest)
    (hls : ls.size = maxL) (hy : y.cls ≠ "java/lang/invoke/MethodHandle" ∧ y.cls ≠ "java/lang/invoke/VarHandle") (hW : (rest.map fun v => v.category).sum = W) (hfr : rm.frames + 1 ≤ R.frames) (hlo : W + (maxL' + 11) + rm.locals ≤ R.locals) (hce : k + rm.cells ≤ R.cells) (hsl : n + rm.slots ≤ R.slots) (hq : pc + 3 = q)
    (r : ∀ v h', Q' v h' → Go p l e R s m args below meth c n0 Q h' (k + rm.cells) (n + rm.slots) (mkF m q ls (v.toList ++ rest))) : Go p l e R s m args below meth c n0 Q h k n (mkF m pc ls st) := fun T L S N eT => by
  subst hq hst
  obtain ⟨v, _, B, -, X, ⟨Lc, hQ, l1, y1, z1⟩, stp⟩ := Jvm.LawKit.callS S K.1 (y := y) K.2.2.1 (mvT K.2.1 w1) (mvT K.2.1 w2) (mvT K.2.1 w3) (mvT K.2.1 w4) hy (backOf (W := W) (Q := fun v h' L => Q' v h' ∧ Fr n0 L) hM K.2.1 w4 w3 hfr hlo) (g := mkF m pc ls (argsL.reverse ++ rest)) rfl (hls.trans K.2.2.2.2.1.symm) (argsL := argsL) (rest := rest) (lenOf hpd hlen) rfl (by show 2 * 0 + _ ≤ _; rw [hW]; omega) (hb K.2.2.2.1 hd) (fun _ _ => ⟨rfl, eT, hce, hsl⟩)
  obtain ⟨T', L', k', n'⟩ := B
  dsimp only [Pt.U, Pt.locs, Pt.cells, Pt.slots] at X l1 y1 z1 stp hQ
  subst l1 y1 z1
  obtain ⟨s₂, o, hs, z⟩ := r v _ hQ.1 T' _ X (Fr.app N hQ.2) rfl
  exact ⟨s₂, o, stp _ hs, z⟩
theorem go_callI (K : Cx p s m meth c Z own nm bytes maxL ret) {y : MethodName} {bytes' : ByteArray} {maxL' : Nat} {rm : Room} {W i : Nat} {Q' : Option Value → Heap → Prop} {ps : List FieldType} {a : Addr}
    (w1 : (Cond.methodLink own i y).before a0 Z = true) (w2 : (Cond.instanceMethod y).before a0 Z = true) (w3 : (Cond.initialized y.cls).before a0 Z = true) (w4 : (Cond.code y bytes' maxL' none).before a0 Z = true) (hy1 : y.name = "<init>")
    (argsL rest : List Value) (hM : Met l y bytes' maxL' none [] rm (.ref a :: argsL).toArray Z h n0 Q') (hd : decode bytes pc = .ok (.invokespecial i, 3)) (hpd : parseMethodDescriptor y.desc = some ⟨ps, none⟩) (hlen : argsL.length = ps.length) (hst : st = argsL.reverse ++ .ref a :: rest)
    (hls : ls.size = maxL) (hy : y.cls ≠ "java/lang/invoke/MethodHandle" ∧ y.cls ≠ "java/lang/invoke/VarHandle") (hW : (rest.map fun v => v.category).sum = W) (hfr : rm.frames + 1 ≤ R.frames) (hlo : W + (maxL' + 11) + rm.locals ≤ R.locals) (hce : k + rm.cells ≤ R.cells) (hsl : n + rm.slots ≤ R.slots) (hq : pc + 3 = q)
    (r : ∀ v h', Q' v h' → Go p l e R s m args below meth c n0 Q h' (k + rm.cells) (n + rm.slots) (mkF m q ls (v.toList ++ rest))) : Go p l e R s m args below meth c n0 Q h k n (mkF m pc ls st) := fun T L S N eT => by
  subst hq hst
  obtain ⟨v, _, B, -, X, ⟨Lc, hQ, l1, y1, z1⟩, stp⟩ := S.specialBack K.1 (y := y) hy1 K.2.2.1 (mvT K.2.1 w1) (mvT K.2.1 w2) (mvT K.2.1 w4) hy (backOf (W := W) (Q := fun v h' L => Q' v h' ∧ Fr n0 L) hM K.2.1 w4 w3 hfr hlo) (g := mkF m pc ls (argsL.reverse ++ .ref a :: rest)) rfl (hls.trans K.2.2.2.2.1.symm) (Steps.refl _) (a := a) (argsL := argsL) (rest := rest) (lenOf hpd hlen) rfl (by show 2 * 0 + _ ≤ _; rw [hW]; omega) (hb K.2.2.2.1 hd) (fun _ _ => ⟨rfl, eT, hce, hsl⟩)
  obtain ⟨T', L', k', n'⟩ := B
  dsimp only [Pt.U, Pt.locs, Pt.cells, Pt.slots] at X l1 y1 z1 stp hQ
  subst l1 y1 z1
  obtain ⟨s₂, o, hs, z⟩ := r v _ hQ.1 T' _ X (Fr.app N hQ.2) rfl
  exact ⟨s₂, o, stp.trans hs, z⟩
theorem nf_of {y yf : MethodName} {Cf : String} (w : (Cond.selects Cf yf yf).before args s = true) (hyf : yf.cls = y.cls) : NotFace s y := fun r0 h0 => by
  obtain ⟨c2, r2, m2, -, -, q3, -, kP, hkP, hkPi⟩ := Cond.selects_spec w
  have hcl : m2.cls = r0.cls := by
    have e1 := findClass_of_methodNamed q3
    have e2 := findClass_of_methodNamed h0
    rw [hyf] at e1
    exact Option.some.inj (e1.symm.trans e2)
  rw [hcl] at hkP
  exact ⟨kP, hkP, hkPi⟩
theorem go_callV (K : Cx p s m meth c Z own nm bytes maxL ret) {y yz yf : MethodName} {C Cf : String} {bytes' : ByteArray} {maxL' : Nat} {ret' : Option FieldType} {rm : Room} {W i : Nat} {Q' : Option Value → Heap → Prop} {ps : List FieldType} {a : Addr}
    (w1 : (Cond.methodLink own i y).before a0 Z = true) (w2 : (Cond.declares y).before a0 Z = true) (w3 : (Cond.selects C y yz).before a0 Z = true) (w4 : (Cond.instanceMethod yz).before a0 Z = true) (w5 : (Cond.initialized yz.cls).before a0 Z = true) (w6 : (Cond.code yz bytes' maxL' ret').before a0 Z = true) (w7 : (Cond.selects Cf yf yf).before a0 Z = true) (hyf : yf.cls = y.cls)
    (E : Exa Z h a C) (argsL rest : List Value) (hM : Met l yz bytes' maxL' ret' [] rm (.ref a :: argsL).toArray Z h n0 Q') (hd : decode bytes pc = .ok (.invokevirtual i, 3)) (hpd : parseMethodDescriptor y.desc = some ⟨ps, ret'⟩) (hlen : argsL.length = ps.length) (hst : st = argsL.reverse ++ .ref a :: rest)
    (hls : ls.size = maxL) (hy : y.cls ≠ "java/lang/invoke/MethodHandle" ∧ y.cls ≠ "java/lang/invoke/VarHandle") (hW : (rest.map fun v => v.category).sum = W) (hfr : rm.frames + 1 ≤ R.frames) (hlo : W + (maxL' + 11) + rm.locals ≤ R.locals) (hce : k + rm.cells ≤ R.cells) (hsl : n + rm.slots ≤ R.slots) (hq : pc + 3 = q)
    (r : ∀ v h', Q' v h' → Go p l e R s m args below meth c n0 Q h' (k + rm.cells) (n + rm.slots) (mkF m q ls (v.toList ++ rest))) : Go p l e R s m args below meth c n0 Q h k n (mkF m pc ls st) := fun T L S N eT => by
  subst hq hst
  obtain ⟨cq, kq, qa, qb, qc⟩ := isOf K.2.1 eT E
  obtain ⟨v, _, B, -, X, ⟨Lc, hQ, l1, y1, z1⟩, stp⟩ := S.virtualBack K.1 (y := y) (z := yz) K.2.2.1 (mvT K.2.1 w1) (mvT K.2.1 w2) (nf_of (args := #[]) (mvT K.2.1 w7) hyf) (mvT K.2.1 w3) (mvT K.2.1 w4) hy (backOf (W := W) (Q := fun v h' L => Q' v h' ∧ Fr n0 L) hM K.2.1 w6 w5 hfr hlo) qa qc (g := mkF m pc ls (argsL.reverse ++ .ref a :: rest)) rfl (hls.trans K.2.2.2.2.1.symm) (Steps.refl _) (argsL := argsL) (rest := rest) (lenOf hpd hlen) rfl (by show 2 * 0 + _ ≤ _; rw [hW]; omega) (hb K.2.2.2.1 hd) (fun _ _ => ⟨rfl, eT, hce, hsl⟩)
  obtain ⟨T', L', k', n'⟩ := B
  dsimp only [Pt.U, Pt.locs, Pt.cells, Pt.slots] at X l1 y1 z1 stp hQ
  subst l1 y1 z1
  obtain ⟨s₂, o, hs, z⟩ := r v _ hQ.1 T' _ X (Fr.app N hQ.2) rfl
  exact ⟨s₂, o, stp.trans hs, z⟩

/-! the heap: fields, statics, objects -/
theorem go_getF (K : Cx p s m meth c Z own nm bytes maxL ret) {R0 O f d : String} {i : Nat} {a : Addr} {v : Value} (w1 : (Cond.fieldLink own i R0 f d).before a0 Z = true) (via : Via Z R0 O f d) (F : Fld Z h a O f d v) (hd : decode bytes pc = .ok (.getfield i, 3)) (hq : pc + 3 = q)
    (r : Go p l e R s m args below meth c n0 Q h k n (mkF m q ls (v :: st))) : Go p l e R s m args below meth c n0 Q h k n (mkF m pc ls (.ref a :: st)) := fun T L S N eT => by
  subst hq
  obtain ⟨T', X, e', stp⟩ := getF S K.1 K.2.1 K.2.2.1 (host := "") (Or.inl w1) via eT F (g := mkF m pc ls (.ref a :: st)) rfl rfl (hb K.2.2.2.1 hd)
  obtain ⟨s₂, o, hs, z⟩ := r T' L X N e'
  exact ⟨s₂, o, stp _ hs, z⟩
theorem go_getS (K : Cx p s m meth c Z own nm bytes maxL ret) {R0 O f d : String} {i : Nat} {v : Value} (w1 : (Cond.fieldLink own i R0 f d).before a0 Z = true) (via : Via Z R0 O f d) (F : Sta Z h O f d v) (hd : decode bytes pc = .ok (.getstatic i, 3)) (hq : pc + 3 = q)
    (r : Go p l e R s m args below meth c n0 Q h k n (mkF m q ls (v :: st))) : Go p l e R s m args below meth c n0 Q h k n (mkF m pc ls st) := fun T L S N eT => by
  subst hq
  obtain ⟨T', X, e', stp⟩ := getS S K.1 K.2.1 (host := "") K.2.2.1 w1 via eT F (g := mkF m pc ls st) rfl (hb K.2.2.2.1 hd)
  obtain ⟨s₂, o, hs, z⟩ := r T' L X N e'
  exact ⟨s₂, o, stp _ hs, z⟩
theorem go_putF (K : Cx p s m meth c Z own nm bytes maxL ret) {R0 O f d C : String} {i kk : Nat} {ty : FieldType} {a : Addr} {v old : Value} (w1 : (Cond.fieldLink own i R0 f d).before a0 Z = true) (via : Via Z R0 O f d) (F : Fld Z h a O f d old) (E : Exa Z h a C)
    (Ly : (Cond.lays C O f d).before a0 Z = true ∨ ((Cond.laysFinal C O f d).before a0 Z = true ∧ own = O ∧ nm = "<init>")) (wi : (Cond.instantiable C kk).before a0 Z = true) (hty : parseFieldDescriptor d = some ty) (hnw : narrow ty v = v) (hf : fits ty v = true) (ha : n0 ≤ a)
    (hd : decode bytes pc = .ok (.putfield i, 3)) (hq : pc + 3 = q)
    (r : ∀ h', Wr h h' a (Jvm.RoadKit.slotOf Z O f d) v → Go p l e R s m args below meth c n0 Q h' k n (mkF m q ls st)) : Go p l e R s m args below meth c n0 Q h k n (mkF m pc ls (v :: .ref a :: st)) := fun T L S N eT => by
  subst hq
  obtain ⟨T', h', X, e', W, stp⟩ := putF S K.1 K.2.1 K.2.2.1 (host := "") (Or.inl w1) via eT F E (Ly.imp id fun z => ⟨z.1, z.2.1, K.2.2.2.2.2.2.2.trans z.2.2⟩) wi hty hnw hf (g := mkF m pc ls (v :: .ref a :: st)) rfl rfl (hb K.2.2.2.1 hd)
  obtain ⟨s₂, o, hs, z⟩ := r h' W T' _ X (Fr.snoc X N ha) e'
  exact ⟨s₂, o, stp _ hs, z⟩
theorem go_new (K : Cx p s m meth c Z own nm bytes maxL ret) {C : String} {i sz : Nat} (w1 : (Cond.classLink own i C).before a0 Z = true) (w2 : (Cond.instantiable C sz).before a0 Z = true) (w3 : (Cond.initialized C).before a0 Z = true) (hd : decode bytes pc = .ok (.new i, 3)) (hce : k + 1 ≤ R.cells) (hsl : n + sz ≤ R.slots) (hq : pc + 3 = q)
    (r : ∀ h' a, a = h.size → Ext h h' → Exa Z h' a C → (∀ {O f d : String} {ty : FieldType}, Laid Z a0 C O f d → parseFieldDescriptor d = some ty → Fld Z h' a O f d (defaultValue ty)) → Go p l e R s m args below meth c n0 Q h' (k + 1) (n + sz) (mkF m q ls (.ref a :: st))) : Go p l e R s m args below meth c n0 Q h k n (mkF m pc ls st) := fun T L S N eT => by
  subst hq
  obtain ⟨T', h', X, e', E, A, D, -, stp⟩ := newO S K.1 K.2.1 K.2.2.1 w1 w2 w3 eT (g := mkF m pc ls st) rfl (hb K.2.2.2.1 hd) hce hsl
  obtain ⟨s₂, o, hs, z⟩ := r h' _ rfl E A D T' _ X N e'
  exact ⟨s₂, o, stp _ hs, z⟩
theorem go_initO (K : Cx p s m meth c Z own nm bytes maxL ret) {i : Nat} {a : Addr} (w1 : (Cond.methodLink own i Lib.objectInit).before a0 Z = true) (w2 : (Cond.instanceMethod Lib.objectInit).before a0 Z = true) (w3 : (Cond.code Lib.objectInit ⟨#[0xb1]⟩ 1 none).before a0 Z = true) (hd : decode bytes pc = .ok (.invokespecial i, 3)) {W : Nat} (hls : ls.size = maxL) (hW : (st.map fun v => v.category).sum = W) (hfr : 1 ≤ R.frames) (hlo : W + 12 ≤ R.locals) (hq : pc + 3 = q)
    (r : Go p l e R s m args below meth c n0 Q h k n (mkF m q ls st)) : Go p l e R s m args below meth c n0 Q h k n (mkF m pc ls (.ref a :: st)) := fun T L S N eT => by
  subst hq
  obtain ⟨T', X, e', stp⟩ := initO S K.1 K.2.1 K.2.2.1 w1 w2 w3 eT (g := mkF m pc ls (.ref a :: st)) rfl (hls.trans K.2.2.2.2.1.symm) rfl (hb K.2.2.2.1 hd) hfr (W := W) (by show 2 * 0 + _ ≤ _; rw [hW]; omega) hlo
  obtain ⟨s₂, o, hs, z⟩ := r T' L X N e'
  exact ⟨s₂, o, stp _ hs, z⟩
/-! arrays: a known array and the list of what it holds -/
def Ary (Z : State) (h : Heap) (a : Addr) (kl : ClassId) (ty : FieldType) (vs : List Value) : Prop := ∃ cl : Cell, Arr Z h a cl ty ∧ cl.cls = kl ∧ cl.slots.toList = vs ∧ vs.length < 2 ^ 31
theorem Ary.lt {a : Addr} {kl : ClassId} {ty : FieldType} {vs : List Value} (F : Ary Z h a kl ty vs) : a < h.size := by obtain ⟨cl, A, -⟩ := F; exact A.lt
theorem Ary.ext {h' : Heap} {a : Addr} {kl : ClassId} {ty : FieldType} {vs : List Value} (F : Ary Z h a kl ty vs) (E : Ext h h') : Ary Z h' a kl ty vs := by obtain ⟨cl, A, r⟩ := F; exact ⟨cl, A.ext E, r⟩
theorem Ary.other {h' : Heap} {a b : Addr} {sl : Nat} {v : Value} {kl : ClassId} {ty : FieldType} {vs : List Value} (F : Ary Z h b kl ty vs) (W : Wr h h' a sl v) (q : b ≠ a) : Ary Z h' b kl ty vs := by obtain ⟨cl, A, r⟩ := F; exact ⟨cl, A.other W q, r⟩
theorem Ary.keep {h' : Heap} {ws : List Addr} {a : Addr} {kl : ClassId} {ty : FieldType} {vs : List Value} (F : Ary Z h a kl ty vs) (K : Keep h h' ws) (q : a ∉ ws) : Ary Z h' a kl ty vs := by obtain ⟨cl, A, r⟩ := F; exact ⟨cl, ⟨K.2.1 a cl A.1 q, A.2⟩, r⟩
theorem Ary.set {h' : Heap} {a : Addr} {j : Nat} {v : Value} {kl : ClassId} {ty : FieldType} {vs : List Value} (F : Ary Z h a kl ty vs) (W : Wr h h' a j v) : Ary Z h' a kl ty (vs.set j v) := by
  obtain ⟨cl, A, r1, r2, r3⟩ := F
  refine ⟨_, A.same W, r1, ?_, by simpa using r3⟩
  subst r2
  simp [Cell.setSlot]
theorem ary_in {cl : Cell} {vs : List Value} {j : Int32} (r2 : cl.slots.toList = vs) (hj0 : ¬ j < 0) (hj : j.toNatClampNeg < vs.length) : ¬ (j < 0 ∨ cl.slots.size ≤ j.toNatClampNeg) := by
  subst r2
  rintro (q | q)
  · exact hj0 q
  · simp at hj; omega

theorem go_iaload (K : Cx p s m meth c Z own nm bytes maxL ret) {a : Addr} {kl : ClassId} {vs : List Value} {j : Int32} {v : Int32} (F : Ary Z h a kl .int vs) (hj0 : ¬ j < 0) (hj : vs[j.toNatClampNeg]? = some (.int v)) (hd : decode bytes pc = .ok (.iaload, 1)) (hq : pc + 1 = q)
    (r : Go p l e R s m args below meth c n0 Q h k n (mkF m q ls ((.int v) :: st))) : Go p l e R s m args below meth c n0 Q h k n (mkF m pc ls (.int j :: .ref a :: st)) := by
  subst hq
  obtain ⟨cl, A, r1, r2, r3⟩ := F
  refine Go.ofX (fun T L tg S eT => S.iaload K.1 (j := j) (v := (.int v)) (by rw [eT]; exact A.1) (State.isArrayOf_alike K.2.1.alike A.2.1) A.2.2 (ary_in r2 hj0 (List.getElem?_eq_some_iff.mp hj).1) (by rw [← hj, ← r2]; simp) (g := mkF m pc ls (.int j :: .ref a :: st)) rfl rfl (hb K.2.2.2.1 hd) tg) r
theorem go_laload (K : Cx p s m meth c Z own nm bytes maxL ret) {a : Addr} {kl : ClassId} {vs : List Value} {j : Int32} {v : Int64} (F : Ary Z h a kl .long vs) (hj0 : ¬ j < 0) (hj : vs[j.toNatClampNeg]? = some (.long v)) (hd : decode bytes pc = .ok (.laload, 1)) (hq : pc + 1 = q)
    (r : Go p l e R s m args below meth c n0 Q h k n (mkF m q ls ((.long v) :: st))) : Go p l e R s m args below meth c n0 Q h k n (mkF m pc ls (.int j :: .ref a :: st)) := by
  subst hq
  obtain ⟨cl, A, r1, r2, r3⟩ := F
  refine Go.ofX (fun T L tg S eT => S.laload K.1 (j := j) (v := (.long v)) (by rw [eT]; exact A.1) (State.isArrayOf_alike K.2.1.alike A.2.1) A.2.2 (ary_in r2 hj0 (List.getElem?_eq_some_iff.mp hj).1) (by rw [← hj, ← r2]; simp) (g := mkF m pc ls (.int j :: .ref a :: st)) rfl rfl (hb K.2.2.2.1 hd) tg) r
theorem go_caload (K : Cx p s m meth c Z own nm bytes maxL ret) {a : Addr} {kl : ClassId} {vs : List Value} {j : Int32} {v : Int32} (F : Ary Z h a kl .char vs) (hj0 : ¬ j < 0) (hj : vs[j.toNatClampNeg]? = some (.int v)) (hd : decode bytes pc = .ok (.caload, 1)) (hq : pc + 1 = q)
    (r : Go p l e R s m args below meth c n0 Q h k n (mkF m q ls ((.int v) :: st))) : Go p l e R s m args below meth c n0 Q h k n (mkF m pc ls (.int j :: .ref a :: st)) := by
  subst hq
  obtain ⟨cl, A, r1, r2, r3⟩ := F
  refine Go.ofX (fun T L tg S eT => S.caload K.1 (j := j) (v := (.int v)) (by rw [eT]; exact A.1) (State.isArrayOf_alike K.2.1.alike A.2.1) A.2.2 (ary_in r2 hj0 (List.getElem?_eq_some_iff.mp hj).1) (by rw [← hj, ← r2]; simp) (g := mkF m pc ls (.int j :: .ref a :: st)) rfl rfl (hb K.2.2.2.1 hd) tg) r
theorem go_baload (K : Cx p s m meth c Z own nm bytes maxL ret) {a : Addr} {kl : ClassId} {vs : List Value} {j : Int32} {v : Int32} (F : Ary Z h a kl .byte vs) (hj0 : ¬ j < 0) (hj : vs[j.toNatClampNeg]? = some (.int v)) (hd : decode bytes pc = .ok (.baload, 1)) (hq : pc + 1 = q)
    (r : Go p l e R s m args below meth c n0 Q h k n (mkF m q ls ((.int v) :: st))) : Go p l e R s m args below meth c n0 Q h k n (mkF m pc ls (.int j :: .ref a :: st)) := by
  subst hq
  obtain ⟨cl, A, r1, r2, r3⟩ := F
  refine Go.ofX (fun T L tg S eT => S.baloadBytes K.1 (j := j) (v := (.int v)) (by rw [eT]; exact A.1) (State.isArrayOf_alike K.2.1.alike A.2.1) A.2.2 (ary_in r2 hj0 (List.getElem?_eq_some_iff.mp hj).1) (by rw [← hj, ← r2]; simp) (g := mkF m pc ls (.int j :: .ref a :: st)) rfl rfl (hb K.2.2.2.1 hd) tg) r
theorem go_aaload (K : Cx p s m meth c Z own nm bytes maxL ret) {a : Addr} {kl : ClassId} {vs : List Value} {j : Int32} {v : Value} {ty : FieldType} (F : Ary Z h a kl ty vs) (ht : ty.isReference = true) (hv : v.isRef = true) (hj0 : ¬ j < 0) (hj : vs[j.toNatClampNeg]? = some v) (hd : decode bytes pc = .ok (.aaload, 1)) (hq : pc + 1 = q)
    (r : Go p l e R s m args below meth c n0 Q h k n (mkF m q ls (v :: st))) : Go p l e R s m args below meth c n0 Q h k n (mkF m pc ls (.int j :: .ref a :: st)) := by
  subst hq
  obtain ⟨cl, A, r1, r2, r3⟩ := F
  refine Go.ofX (fun T L tg S eT => S.aaload K.1 (j := j) (v := v) (by rw [eT]; exact A.1) (State.isArrayOf_alike K.2.1.alike A.2.1) ht A.2.2 (ary_in r2 hj0 (List.getElem?_eq_some_iff.mp hj).1) (by rw [← hj, ← r2]; simp) (g := mkF m pc ls (.int j :: .ref a :: st)) rfl rfl (hb K.2.2.2.1 hd) tg) r
theorem go_arraylength (K : Cx p s m meth c Z own nm bytes maxL ret) {a : Addr} {kl : ClassId} {vs : List Value} {ty : FieldType} {z : Int32} (F : Ary Z h a kl ty vs) (hz : vs.length.toInt32 = z) (hd : decode bytes pc = .ok (.arraylength, 1)) (hq : pc + 1 = q)
    (r : Go p l e R s m args below meth c n0 Q h k n (mkF m q ls (.int z :: st))) : Go p l e R s m args below meth c n0 Q h k n (mkF m pc ls (.ref a :: st)) := by
  subst hq
  obtain ⟨cl, A, r1, r2, r3⟩ := F
  have e1 : cl.slots.size.toInt32 = z := by rw [← hz, ← r2]; simp
  subst e1
  refine Go.ofX (fun T L tg S eT => S.arraylength K.1 (cell := cl) (by rw [eT]; exact A.1) (State.isArrayOf_alike K.2.1.alike A.2.1) (g := mkF m pc ls (.ref a :: st)) rfl (rest := st) rfl (hb K.2.2.2.1 hd) tg) r
theorem go_iastore (K : Cx p s m meth c Z own nm bytes maxL ret) {a : Addr} {kl : ClassId} {vs : List Value} {j : Int32} {v : Int32} (F : Ary Z h a kl .int vs) (hj0 : ¬ j < 0) (hj : j.toNatClampNeg < vs.length) (ha : n0 ≤ a) (hd : decode bytes pc = .ok (.iastore, 1)) (hq : pc + 1 = q)
    (r : ∀ h', Wr h h' a j.toNatClampNeg (.int v) → Ary Z h' a kl .int (vs.set j.toNatClampNeg (.int v)) → Go p l e R s m args below meth c n0 Q h' k n (mkF m q ls st)) : Go p l e R s m args below meth c n0 Q h k n (mkF m pc ls (.int v :: .int j :: .ref a :: st)) := fun T L S N eT => by
  subst hq
  obtain ⟨cl, A, r1, r2, r3⟩ := id F
  obtain ⟨T', h', X, e', W, stp⟩ := stI S K.1 K.2.1 eT A (j := j) (x := v) (ary_in r2 hj0 hj) (g := mkF m pc ls (.int v :: .int j :: .ref a :: st)) rfl rfl (hb K.2.2.2.1 hd)
  obtain ⟨s₂, o, hs, z⟩ := r h' W (F.set W) T' _ X (Fr.snoc X N ha) e'
  exact ⟨s₂, o, stp _ hs, z⟩
theorem go_lastore (K : Cx p s m meth c Z own nm bytes maxL ret) {a : Addr} {kl : ClassId} {vs : List Value} {j : Int32} {v : Int64} (F : Ary Z h a kl .long vs) (hj0 : ¬ j < 0) (hj : j.toNatClampNeg < vs.length) (ha : n0 ≤ a) (hd : decode bytes pc = .ok (.lastore, 1)) (hq : pc + 1 = q)
    (r : ∀ h', Wr h h' a j.toNatClampNeg (.long v) → Ary Z h' a kl .long (vs.set j.toNatClampNeg (.long v)) → Go p l e R s m args below meth c n0 Q h' k n (mkF m q ls st)) : Go p l e R s m args below meth c n0 Q h k n (mkF m pc ls (.long v :: .int j :: .ref a :: st)) := fun T L S N eT => by
  subst hq
  obtain ⟨cl, A, r1, r2, r3⟩ := id F
  obtain ⟨T', h', X, e', W, stp⟩ := stJ S K.1 K.2.1 eT A (j := j) (x := v) (ary_in r2 hj0 hj) (g := mkF m pc ls (.long v :: .int j :: .ref a :: st)) rfl rfl (hb K.2.2.2.1 hd)
  obtain ⟨s₂, o, hs, z⟩ := r h' W (F.set W) T' _ X (Fr.snoc X N ha) e'
  exact ⟨s₂, o, stp _ hs, z⟩
theorem go_castore (K : Cx p s m meth c Z own nm bytes maxL ret) {a : Addr} {kl : ClassId} {vs : List Value} {j : Int32} {v : Int32} (F : Ary Z h a kl .char vs) (hj0 : ¬ j < 0) (hj : j.toNatClampNeg < vs.length) (ha : n0 ≤ a) (hd : decode bytes pc = .ok (.castore, 1)) (hq : pc + 1 = q)
    (r : ∀ h', Wr h h' a j.toNatClampNeg (.int (nar .char v)) → Ary Z h' a kl .char (vs.set j.toNatClampNeg (.int (nar .char v))) → Go p l e R s m args below meth c n0 Q h' k n (mkF m q ls st)) : Go p l e R s m args below meth c n0 Q h k n (mkF m pc ls (.int v :: .int j :: .ref a :: st)) := fun T L S N eT => by
  subst hq
  obtain ⟨cl, A, r1, r2, r3⟩ := id F
  obtain ⟨T', h', X, e', W, stp⟩ := stC S K.1 K.2.1 eT A (j := j) (x := v) (ary_in r2 hj0 hj) (g := mkF m pc ls (.int v :: .int j :: .ref a :: st)) rfl rfl (hb K.2.2.2.1 hd)
  obtain ⟨s₂, o, hs, z⟩ := r h' W (F.set W) T' _ X (Fr.snoc X N ha) e'
  exact ⟨s₂, o, stp _ hs, z⟩
theorem go_bastore (K : Cx p s m meth c Z own nm bytes maxL ret) {a : Addr} {kl : ClassId} {vs : List Value} {j : Int32} {v : Int32} (F : Ary Z h a kl .byte vs) (hj0 : ¬ j < 0) (hj : j.toNatClampNeg < vs.length) (ha : n0 ≤ a) (hd : decode bytes pc = .ok (.bastore, 1)) (hq : pc + 1 = q)
    (r : ∀ h', Wr h h' a j.toNatClampNeg (.int (nar .byte v)) → Ary Z h' a kl .byte (vs.set j.toNatClampNeg (.int (nar .byte v))) → Go p l e R s m args below meth c n0 Q h' k n (mkF m q ls st)) : Go p l e R s m args below meth c n0 Q h k n (mkF m pc ls (.int v :: .int j :: .ref a :: st)) := fun T L S N eT => by
  subst hq
  obtain ⟨cl, A, r1, r2, r3⟩ := id F
  obtain ⟨T', h', X, e', W, stp⟩ := stB S K.1 K.2.1 eT A (j := j) (x := v) (ary_in r2 hj0 hj) (g := mkF m pc ls (.int v :: .int j :: .ref a :: st)) rfl rfl (hb K.2.2.2.1 hd)
  obtain ⟨s₂, o, hs, z⟩ := r h' W (F.set W) T' _ X (Fr.snoc X N ha) e'
  exact ⟨s₂, o, stp _ hs, z⟩
theorem go_newarray (K : Cx p s m meth c Z own nm bytes maxL ret) {aty : ArrayType} {z : Int32} {num cap : Nat} (w1 : (Cond.arrayClass (newarray.typeOf aty)).before a0 Z = true) (hd : decode bytes pc = .ok (.newarray aty, 2)) (hz : ¬ z < 0) (hzn : z.toNatClampNeg = num) (hcap : num ≤ cap) (hcb : cap * 8 ≤ 536870912) (hce : k + 1 ≤ R.cells) (hsl : n + cap ≤ R.slots) (hq : pc + 2 = q)
    (r : ∀ h' a kl, a = h.size → Ext h h' → Ary Z h' a kl (newarray.typeOf aty) (List.replicate num (defaultValue (newarray.typeOf aty))) → Go p l e R s m args below meth c n0 Q h' (k + 1) (n + cap) (mkF m q ls (.ref a :: st))) : Go p l e R s m args below meth c n0 Q h k n (mkF m pc ls (.int z :: st)) := fun T L S N eT => by
  subst hq hzn
  obtain ⟨T', h', kl, X, e', E, A, stp⟩ := newP S K.1 K.2.1 w1 eT (g := mkF m pc ls (.int z :: st)) rfl (hb K.2.2.2.1 hd) (n := z) (rest := st) rfl hz hcap hcb hce hsl
  obtain ⟨s₂, o, hs, zz⟩ := r h' _ kl rfl E ⟨_, A, rfl, by simp [newA], by simp; omega⟩ T' _ X N e'
  exact ⟨s₂, o, stp _ hs, zz⟩

theorem go_anewarray (K : Cx p s m meth c Z own nm bytes maxL ret) {C : String} {i : Nat} {z : Int32} {num cap : Nat} (w1 : (Cond.classLink own i C).before a0 Z = true) (w2 : (Cond.arrayOver (.object C)).before a0 Z = true) (hd : decode bytes pc = .ok (.anewarray i, 3)) (hz : ¬ z < 0) (hzn : z.toNatClampNeg = num) (hcap : num ≤ cap) (hcb : cap * 8 ≤ 536870912) (hce : k + 1 ≤ R.cells) (hsl : n + cap ≤ R.slots) (hq : pc + 3 = q)
    (r : ∀ h' a kl, a = h.size → Ext h h' → Ary Z h' a kl (.object C) (List.replicate num .null) → Ovr Z kl C → Go p l e R s m args below meth c n0 Q h' (k + 1) (n + cap) (mkF m q ls (.ref a :: st))) : Go p l e R s m args below meth c n0 Q h k n (mkF m pc ls (.int z :: st)) := fun T L S N eT => by
  subst hq hzn
  obtain ⟨T', h', kl, X, e', E, A, O, stp⟩ := newR S K.1 K.2.1 K.2.2.1 w1 w2 eT (g := mkF m pc ls (.int z :: st)) rfl (hb K.2.2.2.1 hd) (n := z) (rest := st) rfl hz hcap hcb hce hsl
  obtain ⟨s₂, o, hs, zz⟩ := r h' _ kl rfl E ⟨_, A, rfl, by simp [newA, defaultValue], by simp; omega⟩ O T' _ X N e'
  exact ⟨s₂, o, stp _ hs, zz⟩
theorem go_aastore (K : Cx p s m meth c Z own nm bytes maxL ret) {a : Addr} {kl : ClassId} {vs : List Value} {j : Int32} {v : Value} {ty : FieldType} (F : Ary Z h a kl ty vs) (hty : ty.isReference = true) (So : Sto Z h a v) (hj0 : ¬ j < 0) (hj : j.toNatClampNeg < vs.length) (ha : n0 ≤ a) (hd : decode bytes pc = .ok (.aastore, 1)) (hq : pc + 1 = q)
    (r : ∀ h', Wr h h' a j.toNatClampNeg v → Ary Z h' a kl ty (vs.set j.toNatClampNeg v) → Go p l e R s m args below meth c n0 Q h' k n (mkF m q ls st)) : Go p l e R s m args below meth c n0 Q h k n (mkF m pc ls (v :: .int j :: .ref a :: st)) := fun T L S N eT => by
  subst hq
  obtain ⟨cl, A, r1, r2, r3⟩ := id F
  obtain ⟨T', h', X, e', W, stp⟩ := stR S K.1 K.2.1 eT A (j := j) (v := v) (ary_in r2 hj0 hj) hty So (g := mkF m pc ls (v :: .int j :: .ref a :: st)) rfl rfl (hb K.2.2.2.1 hd)
  obtain ⟨s₂, o, hs, z⟩ := r h' W (F.set W) T' _ X (Fr.snoc X N ha) e'
  exact ⟨s₂, o, stp _ hs, z⟩
theorem sto_of {a y : Addr} {kl : ClassId} {ty : FieldType} {vs : List Value} {C : String} (F : Ary Z h a kl ty vs) (O : Ovr Z kl C) (Iy : Ins Z h y C true) : Sto Z h a (.ref y) := by
  obtain ⟨cl, A, rfl, -⟩ := F
  exact Sto.of A O Iy
theorem go_checkcast (K : Cx p s m meth c Z own nm bytes maxL ret) {C : String} {i : Nat} {a : Addr} (w1 : (Cond.classLink own i C).before a0 Z = true) (F : Ins Z h a C true) (hd : decode bytes pc = .ok (.checkcast i, 3)) (hq : pc + 3 = q)
    (r : Go p l e R s m args below meth c n0 Q h k n (mkF m q ls (.ref a :: st))) : Go p l e R s m args below meth c n0 Q h k n (mkF m pc ls (.ref a :: st)) := fun T L S N eT => by
  subst hq
  obtain ⟨T', X, e', stp⟩ := castY S K.1 K.2.1 K.2.2.1 w1 eT F (g := mkF m pc ls (.ref a :: st)) rfl rfl (hb K.2.2.2.1 hd)
  obtain ⟨s₂, o, hs, z⟩ := r T' L X N e'
  exact ⟨s₂, o, stp _ hs, z⟩
theorem go_instY (K : Cx p s m meth c Z own nm bytes maxL ret) {C : String} {i : Nat} {a : Addr} (w1 : (Cond.classLink own i C).before a0 Z = true) (F : Ins Z h a C true) (hd : decode bytes pc = .ok (.instanceof i, 3)) (hq : pc + 3 = q)
    (r : Go p l e R s m args below meth c n0 Q h k n (mkF m q ls (.int 1 :: st))) : Go p l e R s m args below meth c n0 Q h k n (mkF m pc ls (.ref a :: st)) := fun T L S N eT => by
  subst hq
  obtain ⟨T', X, e', stp⟩ := instY S K.1 K.2.1 K.2.2.1 w1 eT F (g := mkF m pc ls (.ref a :: st)) rfl rfl (hb K.2.2.2.1 hd)
  obtain ⟨s₂, o, hs, z⟩ := r T' L X N e'
  exact ⟨s₂, o, stp _ hs, z⟩
/-- a virtual call through a subclass's name (the class 'ow' above declares the method) -/
theorem go_callU (K : Cx p s m meth c Z own nm bytes maxL ret) {y yz : MethodName} {C ow : String} {bytes' : ByteArray} {maxL' : Nat} {ret' : Option FieldType} {rm : Room} {W i : Nat} {Q' : Option Value → Heap → Prop} {ps : List FieldType} {a : Addr}
    (w1 : (Cond.methodLink own i y).before a0 Z = true) (w2 : (Cond.declares ⟨ow, y.name, y.desc⟩).before a0 Z = true) (w3 : (Cond.selects C y yz).before a0 Z = true) (w4 : (Cond.instanceMethod yz).before a0 Z = true) (w5 : (Cond.initialized yz.cls).before a0 Z = true) (w6 : (Cond.code yz bytes' maxL' ret').before a0 Z = true) (w7 : (Cond.sameMethod y.cls ow y.name y.desc).before a0 Z = true)
    (E : Exa Z h a C) (argsL rest : List Value) (hM : Met l yz bytes' maxL' ret' [] rm (.ref a :: argsL).toArray Z h n0 Q') (hd : decode bytes pc = .ok (.invokevirtual i, 3)) (hpd : parseMethodDescriptor y.desc = some ⟨ps, ret'⟩) (hlen : argsL.length = ps.length) (hst : st = argsL.reverse ++ .ref a :: rest)
    (hls : ls.size = maxL) (hy : ow ≠ "java/lang/invoke/MethodHandle" ∧ ow ≠ "java/lang/invoke/VarHandle") (hW : (rest.map fun v => v.category).sum = W) (hfr : rm.frames + 1 ≤ R.frames) (hlo : W + (maxL' + 11) + rm.locals ≤ R.locals) (hce : k + rm.cells ≤ R.cells) (hsl : n + rm.slots ≤ R.slots) (hq : pc + 3 = q)
    (r : ∀ v h', Q' v h' → Go p l e R s m args below meth c n0 Q h' (k + rm.cells) (n + rm.slots) (mkF m q ls (v.toList ++ rest))) : Go p l e R s m args below meth c n0 Q h k n (mkF m pc ls st) := fun T L S N eT => by
  subst hq hst
  obtain ⟨cq, kq, qa, qb, qc⟩ := isOf K.2.1 eT E
  obtain ⟨v, _, B, -, X, ⟨Lc, hQ, l1, y1, z1⟩, stp⟩ := S.virtualBackUp K.1 (x := y) (y := yz) K.2.2.1 (mvT K.2.1 w1) (mvT K.2.1 w7) (mvT K.2.1 w2) hy (mvT K.2.1 w3) (mvT K.2.1 w4) (backOf (W := W) (Q := fun v h' L => Q' v h' ∧ Fr n0 L) hM K.2.1 w6 w5 hfr hlo) qa qc (g := mkF m pc ls (argsL.reverse ++ .ref a :: rest)) rfl (hls.trans K.2.2.2.2.1.symm) (Steps.refl _) (argsL := argsL) (rest := rest) (lenOf hpd hlen) rfl (by show 2 * 0 + _ ≤ _; rw [hW]; omega) (hb K.2.2.2.1 hd) (fun _ _ => ⟨rfl, eT, hce, hsl⟩)
  obtain ⟨T', L', k', n'⟩ := B
  dsimp only [Pt.U, Pt.locs, Pt.cells, Pt.slots] at X l1 y1 z1 stp hQ
  subst l1 y1 z1
  obtain ⟨s₂, o, hs, z⟩ := r v _ hQ.1 T' _ X (Fr.app N hQ.2) rfl
  exact ⟨s₂, o, stp.trans hs, z⟩
/-- invokevirtual of a private method -/
theorem go_callP (K : Cx p s m meth c Z own nm bytes maxL ret) {y : MethodName} {C : String} {bytes' : ByteArray} {maxL' : Nat} {ret' : Option FieldType} {rm : Room} {W i : Nat} {Q' : Option Value → Heap → Prop} {ps : List FieldType} {a : Addr} {yf : MethodName} {Cf : String}
    (w1 : (Cond.methodLink own i y).before a0 Z = true) (w2 : (Cond.privateMethod y).before a0 Z = true) (w3 : (Cond.selects Cf yf yf).before a0 Z = true) (hyf : yf.cls = y.cls) (w4 : (Cond.instanceMethod y).before a0 Z = true) (w5 : (Cond.initialized y.cls).before a0 Z = true) (w6 : (Cond.code y bytes' maxL' ret').before a0 Z = true)
    (E : Exa Z h a C) (argsL rest : List Value) (hM : Met l y bytes' maxL' ret' [] rm (.ref a :: argsL).toArray Z h n0 Q') (hd : decode bytes pc = .ok (.invokevirtual i, 3)) (hpd : parseMethodDescriptor y.desc = some ⟨ps, ret'⟩) (hlen : argsL.length = ps.length) (hst : st = argsL.reverse ++ .ref a :: rest)
    (hls : ls.size = maxL) (hy : y.cls ≠ "java/lang/invoke/MethodHandle" ∧ y.cls ≠ "java/lang/invoke/VarHandle") (hW : (rest.map fun v => v.category).sum = W) (hfr : rm.frames + 1 ≤ R.frames) (hlo : W + (maxL' + 11) + rm.locals ≤ R.locals) (hce : k + rm.cells ≤ R.cells) (hsl : n + rm.slots ≤ R.slots) (hq : pc + 3 = q)
    (r : ∀ v h', Q' v h' → Go p l e R s m args below meth c n0 Q h' (k + rm.cells) (n + rm.slots) (mkF m q ls (v.toList ++ rest))) : Go p l e R s m args below meth c n0 Q h k n (mkF m pc ls st) := fun T L S N eT => by
  subst hq hst
  obtain ⟨cell, hcell, hobj⟩ := E.cell
  have hK := backOf (len := 3) (W := W) (R := R) (p := p) (e := e) (below := below) (args := args) (Q := fun v h' L => Q' v h' ∧ Fr n0 L) hM K.2.1 w6 w5 hfr hlo
  obtain ⟨mk, methM, hnamed, hmethM, hstM, habM⟩ := Cond.instanceMethod_spec (mvT (args := args) K.2.1 w4)
  obtain ⟨methM', cM, hmethM', -, -, -, -, -, -, hsigM⟩ := Cond.code_spec hnamed (mvT (args := args) K.2.1 w6)
  cases hmethM.symm.trans hmethM'
  obtain ⟨c2, r2, m2, -, -, q3, -, kP, hkP, hkPi⟩ := Cond.selects_spec (mvT (args := args) K.2.1 w3)
  have hcl : m2.cls = mk.cls := by
    have e1 := findClass_of_methodNamed q3
    have e2 := findClass_of_methodNamed hnamed
    rw [hyf] at e1
    exact Option.some.inj (e1.symm.trans e2)
  rw [hcl] at hkP
  have hpriv : s.PrivateAt y := Cond.privateMethod_at (mvP K.2.1 w2 (args := #[]))
  have hselP : selectMethod e.platform s.vm cell.cls mk = .method mk := selectMethod_private hmethM (hpriv mk methM hnamed hmethM)
  obtain ⟨vm₁, X₁, hstep₁⟩ := S.invokevirtual K.1 K.2.2.1 (mvT K.2.1 w1) hnamed hmethM hstM hkP hkPi hy (a := a) (cell := cell) (by rw [eT]; exact hcell) hobj hselP hmethM habM hkP hkPi (g := mkF m pc ls (argsL.reverse ++ .ref a :: rest)) rfl (argsL := argsL) (rest := rest) (by rw [lenOf hpd hlen _ hsigM]) rfl (hb K.2.2.2.1 hd)
  obtain ⟨v, B, X, ⟨Lc, hQ, l1, y1, z1⟩, hsteps⟩ := hK m meth c ⟨T.setVm vm₁, L, k, n⟩ (mkF m pc ls rest) (.invokevirtual i) mk (.ref a :: argsL).toArray X₁ rfl (hls.trans K.2.2.2.2.1.symm) (hb K.2.2.2.1 hd) (by show 2 * 0 + _ ≤ _; rw [hW]; omega) (X₁.named hnamed) ⟨rfl, eT, hce, hsl⟩
  obtain ⟨T', L', k', n'⟩ := B
  dsimp only [Pt.U, Pt.locs, Pt.cells, Pt.slots] at X l1 y1 z1 hsteps hQ
  subst l1 y1 z1
  obtain ⟨s₂, o, hs, z⟩ := r v _ hQ.1 T' _ X (Fr.app N hQ.2) rfl
  exact ⟨s₂, o, hstep₁ _ fun acts => by rw [doInvoke_state]; exact hsteps.trans hs, z⟩
/-- invokeinterface -/
theorem go_callF (K : Cx p s m meth c Z own nm bytes maxL ret) {y yz : MethodName} {C : String} {bytes' : ByteArray} {maxL' : Nat} {ret' : Option FieldType} {rm : Room} {W i cnt : Nat} {Q' : Option Value → Heap → Prop} {ps : List FieldType} {a : Addr}
    (w1 : (Cond.methodLink own i y).before a0 Z = true) (w2 : (Cond.declares y).before a0 Z = true) (w3 : (Cond.selects C y yz).before a0 Z = true) (w4 : (Cond.instanceMethod yz).before a0 Z = true) (w5 : (Cond.initialized yz.cls).before a0 Z = true) (w6 : (Cond.code yz bytes' maxL' ret').before a0 Z = true) (w7 : (Cond.interfaceMethod y.cls y.cls y.name y.desc).before a0 Z = true) (w8 : (Cond.publicMethod yz).before a0 Z = true) (w9 : (Cond.unhidden C y.name y.desc).before a0 Z = true) (wa : (Cond.castable C y.cls).before a0 Z = true)
    (E : Exa Z h a C) (argsL rest : List Value) (hM : Met l yz bytes' maxL' ret' [] rm (.ref a :: argsL).toArray Z h n0 Q') (hd : decode bytes pc = .ok (.invokeinterface i cnt, 5)) (hpd : parseMethodDescriptor y.desc = some ⟨ps, ret'⟩) (hlen : argsL.length = ps.length) (hst : st = argsL.reverse ++ .ref a :: rest)
    (hls : ls.size = maxL) (hy : y.cls ≠ "java/lang/invoke/MethodHandle" ∧ y.cls ≠ "java/lang/invoke/VarHandle") (hW : (rest.map fun v => v.category).sum = W) (hfr : rm.frames + 1 ≤ R.frames) (hlo : W + (maxL' + 11) + rm.locals ≤ R.locals) (hce : k + rm.cells ≤ R.cells) (hsl : n + rm.slots ≤ R.slots) (hq : pc + 5 = q)
    (r : ∀ v h', Q' v h' → Go p l e R s m args below meth c n0 Q h' (k + rm.cells) (n + rm.slots) (mkF m q ls (v.toList ++ rest))) : Go p l e R s m args below meth c n0 Q h k n (mkF m pc ls st) := fun T L S N eT => by
  subst hq hst
  obtain ⟨cq, kq, qa, qb, qc⟩ := isOf K.2.1 eT E
  obtain ⟨v, _, B, -, X, ⟨Lc, hQ, l1, y1, z1⟩, stp⟩ := S.interfaceBack K.1 (xi := y) (y := yz) K.2.2.1 (mvT K.2.1 w1) (mvT K.2.1 w2) (mvT K.2.1 w7 (by simp [Cond.onTables, Cond.keepsFace, Cond.keeps, Cond.steady, Cond.faceAtom, hy.1, hy.2])) (mvT K.2.1 w3) (mvT K.2.1 w4) (mvT K.2.1 w8) (mvT K.2.1 w9) (mvT K.2.1 wa) hy (backOf (W := W) (Q := fun v h' L => Q' v h' ∧ Fr n0 L) hM K.2.1 w6 w5 hfr hlo) qa qb qc (g := mkF m pc ls (argsL.reverse ++ .ref a :: rest)) rfl (hls.trans K.2.2.2.2.1.symm) (Steps.refl _) (argsL := argsL) (rest := rest) (lenOf hpd hlen) rfl (by show 2 * 0 + _ ≤ _; rw [hW]; omega) (hb K.2.2.2.1 hd) (fun _ _ => ⟨rfl, eT, hce, hsl⟩)
  obtain ⟨T', L', k', n'⟩ := B
  dsimp only [Pt.U, Pt.locs, Pt.cells, Pt.slots] at X l1 y1 z1 stp hQ
  subst l1 y1 z1
  obtain ⟨s₂, o, hs, z⟩ := r v _ hQ.1 T' _ X (Fr.app N hQ.2) rfl
  exact ⟨s₂, o, stp.trans hs, z⟩

/-! what may intern -/
variable {s0 : State} {vm0 vm1 : Vm} {EL : List (String × Nat)} {h' : Heap}
/-- what a body that may intern bears: its true start is s0, the tables at hand are vm0 -/
def Wx (s0 : State) (vm0 : Vm) (Z : State) (EL : List (String × Nat)) (h : Heap) : Prop := (∃ k0, s0.Since vm0 k0 ∧ k0 ≤ h.size) ∧ CHv Z EL vm0 h ∧ CHr Z EL s0.vm s0.heap vm0 h
theorem Wx.step (X : Wx s0 vm0 Z EL h) (r : CHr Z EL vm0 h vm0 h') : Wx s0 vm0 Z EL h' := by
  obtain ⟨⟨k0, h1, h2⟩, h3, h4⟩ := X
  exact ⟨⟨k0, h1, Nat.le_trans h2 r.2.1⟩, r.1, h4.trans r⟩
theorem Wx.ext (X : Wx s0 vm0 Z EL h) (E : Ext h h') : Wx s0 vm0 Z EL h' := X.step (CHr.ext E X.2.1)
theorem Wx.keep {ws : List Addr} (X : Wx s0 vm0 Z EL h) (K : Keep h h' ws) (hs : ∀ x ∈ ws, Safe Z EL vm0 h x) : Wx s0 vm0 Z EL h' := X.step (CHr.keep K hs X.2.1)
theorem Wx.wr {a : Addr} {sl : Nat} {v : Value} (X : Wx s0 vm0 Z EL h) (W : Wr h h' a sl v) (S : Safe Z EL vm0 h a) : Wx s0 vm0 Z EL h' := X.step (CHr.wr W S X.2.1)
theorem Wx.later (X : Wx s0 vm0 Z EL h) (K : Cx p (s0.setVm vm0) m meth c Z own nm bytes maxL ret) {nn : Nat} (hS : (s0.setVm vm0).Since vm1 nn) (hn : h.size ≤ nn) (r : CHr Z EL vm0 h vm1 h') (hn' : nn ≤ h'.size := by exact Nat.le_refl _) : Wx s0 vm1 Z EL h' ∧ Cx p (s0.setVm vm1) m meth c Z own nm bytes maxL ret := by
  obtain ⟨⟨k0, h1, h2⟩, h3, h4⟩ := X
  exact ⟨⟨⟨nn, h1.trans hS (Nat.le_trans h2 hn), hn'⟩, r.1, h4.trans r⟩, ⟨K.1, State.Warmed39.trans (t := s0.setVm vm0) K.2.1 hS.1, (hS.1.alike.findClass _ _).trans K.2.2.1, K.2.2.2⟩⟩
/-- the end of a body that may intern -/
def Wid (s0 : State) (R : Room) (n0 : Nat) (Z : State) (EL : List (String × Nat)) (Q0 : Option Value → Heap → Prop) (o : Outcome) (t : State) : Prop :=
  ∃ v L', o = .returned v ∧ (Q0 v t.heap ∧ Fr n0 L') ∧ CHr Z EL s0.vm s0.heap t.vm t.heap ∧ ReturnedEndW s0 o t L' R.cells R.slots
theorem Nat.wmono {s t : State} {o : Outcome} {L : List Loc} {k n k' n' : Nat} (r : ReturnedEndW s o t L k n) (hk : k ≤ k') (hn : n ≤ n') : ReturnedEndW s o t L k' n' := ⟨r.1, r.2.1, r.2.2.1, r.2.2.2.mono hk hn⟩
theorem gw_return (K : Cx p (s0.setVm vm0) m meth c Z own nm bytes maxL ret) (X : Wx s0 vm0 Z EL h) (hEL : EW Z a0 EL) (hd : decode bytes pc = .ok (.return_, 1)) (hr : ret = none) (hk : k ≤ R.cells) (hn : n ≤ R.slots) (hQ : Q0 none h) : Go p l e R (s0.setVm vm0) m args below meth c n0 (Wid s0 R n0 Z EL Q0) h k n (mkF m pc ls []) := fun T L S N eT => by
  obtain ⟨k0, hS, hk0⟩ := X.1
  obtain ⟨fs, hr', hrun, hended, hW⟩ := S.leaveW hS (by rw [eT]; exact hk0) (v := none) (fun _ => rfl) K.2.2.2.2.2.2.1
  have A := CHv.at S K.2.1 hEL X.2.1
  exact ⟨_, _, S.returnOut K.1 (K.2.2.2.2.2.1.trans hr) (hb K.2.2.2.1 hd) hr', hrun, hended, _, _, rfl, ⟨by show Q0 none T.heap; rw [eT]; exact hQ, N⟩, by show CHr Z EL s0.vm s0.heap T.vm T.heap; rw [eT]; exact X.2.2.trans A, Nat.wmono hW hk hn⟩
theorem gw_ret (K : Cx p (s0.setVm vm0) m meth c Z own nm bytes maxL ret) (X : Wx s0 vm0 Z EL h) (hEL : EW Z a0 EL) {v : Value} {t : FieldType} {i : Instr} (hd : decode bytes pc = .ok (i, 1)) (hr : ret = some t) (hnw : narrow t v = v) (hi : (i = .ireturn ∧ (t = .int ∨ t = .boolean ∨ t = .byte ∨ t = .char ∨ t = .short) ∧ ∃ z, v = .int z) ∨ (i = .lreturn ∧ t = .long ∧ ∃ z, v = .long z) ∨ (i = .dreturn ∧ t = .double ∧ ∃ z, v = .double z) ∨ (i = .freturn ∧ t = .float ∧ ∃ z, v = .float z) ∨ (i = .areturn ∧ t.isReference = true ∧ v.isRef = true)) (hk : k ≤ R.cells) (hn : n ≤ R.slots) (hQ : Q0 (some v) h) : Go p l e R (s0.setVm vm0) m args below meth c n0 (Wid s0 R n0 Z EL Q0) h k n (mkF m pc ls (v :: st)) := fun T L S N eT => by
  obtain ⟨k0, hS, hk0⟩ := X.1
  obtain ⟨fs, hr', hrun, hended, hW⟩ := S.leaveW hS (by rw [eT]; exact hk0) (v := some v) (fun z => by rw [K.2.2.2.2.2.1, hr] at z; cases z) K.2.2.2.2.2.2.1
  have A := CHv.at S K.2.1 hEL X.2.1
  exact ⟨_, _, retOut S K.1 (K.2.2.2.2.2.1.trans hr) hnw hi (hb K.2.2.2.1 hd) hr', hrun, hended, _, _, rfl, ⟨by show Q0 (some v) T.heap; rw [eT]; exact hQ, N⟩, by show CHr Z EL s0.vm s0.heap T.vm T.heap; rw [eT]; exact X.2.2.trans A, Nat.wmono hW hk hn⟩
theorem gw_iret (K : Cx p (s0.setVm vm0) m meth c Z own nm bytes maxL ret) (X : Wx s0 vm0 Z EL h) (hEL : EW Z a0 EL) {v : Int32} {t : FieldType} (hd : decode bytes pc = .ok (.ireturn, 1)) (hr : ret = some t) (ht : t = .int ∨ t = .boolean ∨ t = .byte ∨ t = .char ∨ t = .short) (hnw : narrow t (.int v) = .int v) (hk : k ≤ R.cells) (hn : n ≤ R.slots) (hQ : Q0 (some (.int v)) h) : Go p l e R (s0.setVm vm0) m args below meth c n0 (Wid s0 R n0 Z EL Q0) h k n (mkF m pc ls (.int v :: st)) :=
  gw_ret K X hEL hd hr hnw (Or.inl ⟨rfl, ht, v, rfl⟩) hk hn hQ
theorem gw_aret (K : Cx p (s0.setVm vm0) m meth c Z own nm bytes maxL ret) (X : Wx s0 vm0 Z EL h) (hEL : EW Z a0 EL) {v : Value} {t : FieldType} (hd : decode bytes pc = .ok (.areturn, 1)) (hr : ret = some t) (ht : t.isReference = true) (hv : v.isRef = true) (hnw : narrow t v = v) (hk : k ≤ R.cells) (hn : n ≤ R.slots) (hQ : Q0 (some v) h) : Go p l e R (s0.setVm vm0) m args below meth c n0 (Wid s0 R n0 Z EL Q0) h k n (mkF m pc ls (v :: st)) :=
  gw_ret K X hEL hd hr hnw (Or.inr (Or.inr (Or.inr (Or.inr ⟨rfl, ht, hv⟩)))) hk hn hQ
/-- the contract of a body that may intern; sf: what it may write of what is there and no constant bears -/
def MetW (l : Launch) (y : MethodName) (bytes : ByteArray) (maxL : Nat) (ret : Option FieldType) (ws : List Jvm.Cond) (R : Room) (as' : Array Value) (Z : State) (EL : List (String × Nat)) (h : Heap) (n0 : Nat) (sf : List Addr) (Q : Option Value → Heap → Prop) : Prop :=
  MetFree l y (head1 (Jvm.Cond.code y bytes maxL ret :: ws) R) (fun a U => a = as' ∧ Z.Warmed39 U.vm ∧ U.heap = h ∧ CHv Z EL U.vm h ∧ ∀ x ∈ sf, Safe Z EL U.vm h x) (fun _ _ _ _ _ => True) (fun _ U o U' => ∃ v L, o = .returned v ∧ (Q v U'.heap ∧ Fr n0 L) ∧ CHr Z EL U.vm U.heap U'.vm U'.heap ∧ ReturnedEndW U o U' L R.cells R.slots)
theorem MetW.of {y : MethodName} {ws : List Jvm.Cond} {as' : Array Value} {sf : List Addr} (hp : plainFor y = true)
    (body : ∀ (p : Program) (e : Env) (s0 : State) (m : MethodId) (below : List Frame) (meth : Method) (c : Code), Cx p (s0.setVm s0.vm) m meth c Z y.cls y.name bytes maxL ret → Wx s0 s0.vm Z EL h → (∀ x ∈ sf, Safe Z EL s0.vm h x) → Go p l e R (s0.setVm s0.vm) m as' below meth c n0 (Wid s0 R n0 Z EL Q0) h 0 0 (entryFrame m as' maxL)) : MetW l y bytes maxL ret ws R as' Z EL h n0 sf Q0 := by
  refine MetFree.of_bodySF hp hisR ?_
  intro p e s m args below meth c s₁ Bd hml0 hP hK
  obtain ⟨rfl, hZ, hh, hC, hsf⟩ := hP
  have hown : s.vm.findClass y.cls = some m.cls := findClass_of_methodNamed Bd.named
  have hnm := (name_of_methodNamed Bd.named Bd.method).1
  exact body p e s m below meth c ⟨Bd.exec, hZ, hown, Bd.bytes, hml0, Bd.returns, Bd.notSynchronized, hnm⟩ ⟨⟨0, (State.WarmedH.refl s).since 0, Nat.zero_le _⟩, hC, hh ▸ CHr.refl (hh.symm ▸ hC)⟩ hsf s₁ [] (Stand.of_body Bd) (Fr.nil n0) (by rw [← hh, Bd.state]; rfl)
/-- RW14's backOfSH with the list sf -/
theorem backW {y : MethodName} {bytes : ByteArray} {maxL : Nat} {ret : Option FieldType} {rm : Room} {len W : Nat} {as' : Array Value} {sf : List Addr} {Q' : Option Value → Heap → Prop}
    (hM : MetW l y bytes maxL ret [] rm as' Z EL h n0 sf Q')
    (hZ : Z.Warmed39 vm0) (wc : (Cond.code y bytes maxL ret).before a0 Z = true) (wz : (Cond.initialized y.cls).before a0 Z = true) (hf : rm.frames + 1 ≤ R.frames) (hl : W + (maxL + 11) + rm.locals ≤ R.locals) (hEL : EW Z a0 EL) (H : CHv Z EL vm0 h) (hsf : ∀ x ∈ sf, x < h.size ∧ Safe Z EL vm0 h x) :
    BackS l R p e below (s0.setVm vm0) args y len W (fun A a => a = as' ∧ A.U.heap = h ∧ A.cells + rm.cells ≤ R.cells ∧ A.slots + rm.slots ≤ R.slots)
      (fun A _ v B => ∃ L, (Q' v B.U.heap ∧ Fr n0 L) ∧ B.locs = A.locs ++ L ∧ B.cells = A.cells + rm.cells ∧ B.slots = A.slots + rm.slots ∧ CHr Z EL vm0 h B.U.vm B.U.heap) :=
  BackS.of_freeW (bytes := bytes) (maxL := maxL) (ret := ret) (E := fun _ first o t L k n => k = rm.cells ∧ n = rm.slots ∧ (∃ v, o = .returned v ∧ (Q' v t.heap ∧ Fr n0 L)) ∧ CHr Z EL first.vm first.heap t.vm t.heap) hM hf hl
    (fun m meth c A a Y hp => have hU : Z.Warmed39 A.U.vm := wtrans (s := s0.setVm vm0) hZ Y.warmed
      ⟨by show (Cond.and _ .tt).before a A.U = true; rw [Cond.before_and, mv hU wc]; rfl, mv hU wc, mv hU wz, hp.2.2.1, hp.2.2.2⟩)
    (fun m meth c A a g mk Y hp => ⟨hp.1, wtrans (s := s0.setVm vm0) hZ Y.warmed, hp.2.1, (CHv.at Y hZ hEL H).1, fun x hx => (CHv.at Y hZ hEL H).safe (hsf x hx).1 (hsf x hx).2⟩) (fun _ _ _ _ _ _ _ _ _ => trivial)
    (fun _ _ _ _ ⟨v, L, h1, h2, h3, h4⟩ => ⟨L, _, _, h4, rfl, rfl, ⟨v, h1, h2⟩, h3⟩)
    (fun m meth c A a g mk v t L k n Y hp _ _ ⟨e1, e2, ⟨v', e3, e4⟩, e5⟩ => by
      cases e3; subst e1 e2
      refine ⟨L, e4, rfl, rfl, rfl, (CHv.at Y hZ hEL H).trans ?_⟩
      rw [← hp.2.1]; exact e5)
theorem ary_of_arv {a : Addr} {kl : ClassId} {ty : FieldType} {z : Int32} {vs : List Value} {d : Value} (F : Arv Z h a kl ty z vs d) (hl : z.toNatClampNeg = vs.length) : Ary Z h a kl ty vs := by
  obtain ⟨cl, A, e1, e2, e3, H, -⟩ := F
  have hs : cl.slots.size = vs.length := e2.trans hl
  refine ⟨cl, A, e1, ?_, ?_⟩
  · apply List.ext_getElem?
    intro j
    by_cases hj : j < vs.length
    · have q := H j (by omega)
      rw [Array.getElem?_toList, q, List.getD_eq_getElem?_getD, List.getElem?_eq_getElem hj]; rfl
    · rw [Array.getElem?_toList, Array.getElem?_eq_none (by omega), List.getElem?_eq_none (by omega)]
  · have := z.toInt_lt
    rw [← hl]; simp only [Int32.toNatClampNeg]; omega
theorem arv_of_ary {a : Addr} {kl : ClassId} {ty : FieldType} {vs : List Value} (d : Value) {z : Int32} (F : Ary Z h a kl ty vs) (hz : z.toNatClampNeg = vs.length) (hz0 : ¬ z < 0) (hf : ∀ v ∈ vs, fits ty v = true) : Arv Z h a kl ty z vs d := by
  obtain ⟨cl, A, e1, e2, e3⟩ := F
  have hs : cl.slots.size = vs.length := by rw [← e2]; simp
  have H : Has cl vs d := fun j hj => by
    have hj' : j < vs.length := by omega
    rw [List.getD_eq_getElem?_getD, ← e2, Array.getElem?_toList, Array.getElem?_eq_getElem hj]; rfl
  refine ⟨cl, A, e1, by rw [hs, hz], hz0, H, fun i hi => ?_⟩
  have hi' : i < vs.length := by omega
  rw [List.getD_eq_getElem?_getD, List.getElem?_eq_getElem hi']
  exact hf _ (List.getElem_mem hi')
/-- ldc of a String constant of EL: at any time -/
theorem go_ldcS (K : Cx p (s0.setVm vm0) m meth c Z own nm bytes maxL ret) (X : Wx s0 vm0 Z EL h) (hEL : EW Z a0 EL) (wS : ∀ a ∈ Bundle.stringAtoms, a.before a0 Z = true) {i num : Nat} {text : String} (w : (Cond.stringLink own i text).before a0 Z = true) (hmem : (own, i) ∈ EL) (vs : List Value) (z : Int32)
    (ht : (∀ c ∈ text.toList, c.toNat < 256) ∧ text.toList.map (fun c => Value.int (Jvm.Lit.byteI c.toNat.toUInt16)) = vs) (hz : ¬ z < 0) (hl : z.toNatClampNeg = vs.length) (hnum : 4 * text.toList.length ≤ num) (hbig : num ≤ 536870912) (hce : k + 2 ≤ R.cells) (hsl : n + (num + 4) ≤ R.slots) (hd : decode bytes pc = .ok (.ldc i, 2)) (hq : pc + 2 = q)
    (r : ∀ vm1 h' a b kl, Ext h h' → Cx p (s0.setVm vm1) m meth c Z own nm bytes maxL ret → Wx s0 vm1 Z EL h' → (∀ x, x < h.size → Safe Z EL vm0 h x → Safe Z EL vm1 h' x) → (∀ x, Safe Z EL vm1 h' x → x ≠ a ∧ x ≠ b) → Exa Z h' a "java/lang/String" → Fld Z h' a "java/lang/String" "coder" "B" (.int 0) → Fld Z h' a "java/lang/String" "value" "[B" (.ref b) → Ary Z h' b kl .byte vs →
      Go p l e R (s0.setVm vm1) m args below meth c n0 Q h' (k + 2) (n + (num + 4)) (mkF m q ls (.ref a :: st))) : Go p l e R (s0.setVm vm0) m args below meth c n0 Q h k n (mkF m pc ls st) := fun T L S N eT => by
  subst hq
  obtain ⟨⟨k0, hS, hk0⟩, hC, hR⟩ := X
  obtain ⟨a, T', h', k1, b, kl, Y, e', E, hS1, hk1, hZ1, hown1, r1, r2, r3, r4, -, -, r5, -, r6, stp⟩ := ldcCH S K.1 K.2.1 K.2.2.1 w wS eT hS hk0 hEL hmem hC ht hz hl (g := mkF m pc ls st) rfl (hb K.2.2.2.1 hd) hnum hbig hce hsl
  obtain ⟨s₂, o, hs, zz⟩ := r T'.vm h' a b kl E ⟨K.1, hZ1, hown1, K.2.2.2⟩ ⟨⟨k1, hS1, hk1⟩, r5.1, hR.trans r5⟩ (fun x hx hs => r5.safe hx hs) r6 r1 r2 r3 (ary_of_arv r4 hl) T' _ Y N e'
  exact ⟨s₂, o, stp _ hs, zz⟩
theorem gw_callS (K : Cx p (s0.setVm vm0) m meth c Z own nm bytes maxL ret) {y : MethodName} {bytes' : ByteArray} {maxL' : Nat} {ret' : Option FieldType} {rm : Room} {W i : Nat} {Q' : Option Value → Heap → Prop} {ps : List FieldType} {sf : List Addr}
    (X : Wx s0 vm0 Z EL h) (hEL : EW Z a0 EL) (hsf : ∀ x ∈ sf, x < h.size ∧ Safe Z EL vm0 h x) (w1 : (Cond.methodLink own i y).before a0 Z = true) (w2 : (Cond.static y).before a0 Z = true) (w3 : (Cond.initialized y.cls).before a0 Z = true) (w4 : (Cond.code y bytes' maxL' ret').before a0 Z = true)
    (argsL rest : List Value) (hM : MetW l y bytes' maxL' ret' [] rm argsL.toArray Z EL h n0 sf Q') (hd : decode bytes pc = .ok (.invokestatic i, 3)) (hpd : parseMethodDescriptor y.desc = some ⟨ps, ret'⟩) (hlen : argsL.length = ps.length) (hst : st = argsL.reverse ++ rest)
    (hls : ls.size = maxL) (hy : y.cls ≠ "java/lang/invoke/MethodHandle" ∧ y.cls ≠ "java/lang/invoke/VarHandle") (hW : (rest.map fun v => v.category).sum = W) (hfr : rm.frames + 1 ≤ R.frames) (hlo : W + (maxL' + 11) + rm.locals ≤ R.locals) (hce : k + rm.cells ≤ R.cells) (hsl : n + rm.slots ≤ R.slots) (hq : pc + 3 = q)
    (r : ∀ v h', Q' v h' → ∀ vm1, Cx p (s0.setVm vm1) m meth c Z own nm bytes maxL ret → Wx s0 vm1 Z EL h' → (∀ x, x < h.size → Safe Z EL vm0 h x → Safe Z EL vm1 h' x) → Go p l e R (s0.setVm vm1) m args below meth c n0 Q h' (k + rm.cells) (n + rm.slots) (mkF m q ls (v.toList ++ rest))) : Go p l e R (s0.setVm vm0) m args below meth c n0 Q h k n (mkF m pc ls st) := fun T L S N eT => by
  subst hq hst
  obtain ⟨v, _, B, -, Y, hS2, hgr, ⟨Lc, hQ, l1, y1, z1, hC⟩, stp⟩ := RoadKit.callSS S K.1 (y := y) K.2.2.1 (mvT K.2.1 w1) (mvT K.2.1 w2) (mvT K.2.1 w3) (mvT K.2.1 w4) hy (backW (W := W) hM K.2.1 w4 w3 hfr hlo hEL X.2.1 hsf) (g := mkF m pc ls (argsL.reverse ++ rest)) rfl (hls.trans K.2.2.2.2.1.symm) (argsL := argsL) (rest := rest) (lenOf hpd hlen) rfl (by show 2 * 0 + _ ≤ _; rw [hW]; omega) (hb K.2.2.2.1 hd) (fun _ _ => ⟨rfl, eT, hce, hsl⟩)
  obtain ⟨T', L', k', n'⟩ := B
  dsimp only [Pt.U, Pt.locs, Pt.cells, Pt.slots] at Y l1 y1 z1 stp hQ hS2 hgr hC
  subst l1 y1 z1
  rw [eT] at hgr
  obtain ⟨X', K'⟩ := Wx.later X K hS2 hgr hC
  obtain ⟨s₂, o, hs, z⟩ := r v _ hQ.1 T'.vm K' X' (fun x hx hs => hC.safe hx hs) T' _ Y (Fr.app N hQ.2) rfl
  exact ⟨s₂, o, stp.trans hs, z⟩
theorem gw_callI (K : Cx p (s0.setVm vm0) m meth c Z own nm bytes maxL ret) {y : MethodName} {a : Addr} {bytes' : ByteArray} {maxL' : Nat} {rm : Room} {W i : Nat} {Q' : Option Value → Heap → Prop} {ps : List FieldType} {sf : List Addr}
    (X : Wx s0 vm0 Z EL h) (hEL : EW Z a0 EL) (hsf : ∀ x ∈ sf, x < h.size ∧ Safe Z EL vm0 h x) (w1 : (Cond.methodLink own i y).before a0 Z = true) (w2 : (Cond.instanceMethod y).before a0 Z = true) (w3 : (Cond.initialized y.cls).before a0 Z = true) (w4 : (Cond.code y bytes' maxL' none).before a0 Z = true) (hy1 : y.name = "<init>")
    (argsL rest : List Value) (hM : MetW l y bytes' maxL' none [] rm (.ref a :: argsL).toArray Z EL h n0 sf Q') (hd : decode bytes pc = .ok (.invokespecial i, 3)) (hpd : parseMethodDescriptor y.desc = some ⟨ps, none⟩) (hlen : argsL.length = ps.length) (hst : st = argsL.reverse ++ .ref a :: rest)
    (hls : ls.size = maxL) (hy : y.cls ≠ "java/lang/invoke/MethodHandle" ∧ y.cls ≠ "java/lang/invoke/VarHandle") (hW : (rest.map fun v => v.category).sum = W) (hfr : rm.frames + 1 ≤ R.frames) (hlo : W + (maxL' + 11) + rm.locals ≤ R.locals) (hce : k + rm.cells ≤ R.cells) (hsl : n + rm.slots ≤ R.slots) (hq : pc + 3 = q)
    (r : ∀ v h', Q' v h' → ∀ vm1, Cx p (s0.setVm vm1) m meth c Z own nm bytes maxL ret → Wx s0 vm1 Z EL h' → (∀ x, x < h.size → Safe Z EL vm0 h x → Safe Z EL vm1 h' x) → Go p l e R (s0.setVm vm1) m args below meth c n0 Q h' (k + rm.cells) (n + rm.slots) (mkF m q ls (v.toList ++ rest))) : Go p l e R (s0.setVm vm0) m args below meth c n0 Q h k n (mkF m pc ls st) := fun T L S N eT => by
  subst hq hst
  obtain ⟨v, _, B, -, Y, hS2, hgr, ⟨Lc, hQ, l1, y1, z1, hC⟩, stp⟩ := S.specialBackS K.1 (y := y) hy1 K.2.2.1 (mvT K.2.1 w1) (mvT K.2.1 w2) (mvT K.2.1 w4) hy (backW (W := W) hM K.2.1 w4 w3 hfr hlo hEL X.2.1 hsf) (g := mkF m pc ls (argsL.reverse ++ .ref a :: rest)) rfl (hls.trans K.2.2.2.2.1.symm) (Steps.refl _) (a := a) (argsL := argsL) (rest := rest) (lenOf hpd hlen) rfl (by show 2 * 0 + _ ≤ _; rw [hW]; omega) (hb K.2.2.2.1 hd) (fun _ _ => ⟨rfl, eT, hce, hsl⟩)
  obtain ⟨T', L', k', n'⟩ := B
  dsimp only [Pt.U, Pt.locs, Pt.cells, Pt.slots] at Y l1 y1 z1 stp hQ hS2 hgr hC
  subst l1 y1 z1
  rw [eT] at hgr
  obtain ⟨X', K'⟩ := Wx.later X K hS2 hgr hC
  obtain ⟨s₂, o, hs, z⟩ := r v _ hQ.1 T'.vm K' X' (fun x hx hs => hC.safe hx hs) T' _ Y (Fr.app N hQ.2) rfl
  exact ⟨s₂, o, stp.trans hs, z⟩
theorem gw_callV (K : Cx p (s0.setVm vm0) m meth c Z own nm bytes maxL ret) {y yz yf : MethodName} {C Cf : String} {a : Addr} {bytes' : ByteArray} {maxL' : Nat} {ret' : Option FieldType} {rm : Room} {W i : Nat} {Q' : Option Value → Heap → Prop} {ps : List FieldType} {sf : List Addr}
    (X : Wx s0 vm0 Z EL h) (hEL : EW Z a0 EL) (hsf : ∀ x ∈ sf, x < h.size ∧ Safe Z EL vm0 h x) (w1 : (Cond.methodLink own i y).before a0 Z = true) (w2 : (Cond.declares y).before a0 Z = true) (w3 : (Cond.selects C y yz).before a0 Z = true) (w4 : (Cond.instanceMethod yz).before a0 Z = true) (w5 : (Cond.initialized yz.cls).before a0 Z = true) (w6 : (Cond.code yz bytes' maxL' ret').before a0 Z = true) (w7 : (Cond.selects Cf yf yf).before a0 Z = true) (hyf : yf.cls = y.cls) (E : Exa Z h a C)
    (argsL rest : List Value) (hM : MetW l yz bytes' maxL' ret' [] rm (.ref a :: argsL).toArray Z EL h n0 sf Q') (hd : decode bytes pc = .ok (.invokevirtual i, 3)) (hpd : parseMethodDescriptor y.desc = some ⟨ps, ret'⟩) (hlen : argsL.length = ps.length) (hst : st = argsL.reverse ++ .ref a :: rest)
    (hls : ls.size = maxL) (hy : y.cls ≠ "java/lang/invoke/MethodHandle" ∧ y.cls ≠ "java/lang/invoke/VarHandle") (hW : (rest.map fun v => v.category).sum = W) (hfr : rm.frames + 1 ≤ R.frames) (hlo : W + (maxL' + 11) + rm.locals ≤ R.locals) (hce : k + rm.cells ≤ R.cells) (hsl : n + rm.slots ≤ R.slots) (hq : pc + 3 = q)
    (r : ∀ v h', Q' v h' → ∀ vm1, Cx p (s0.setVm vm1) m meth c Z own nm bytes maxL ret → Wx s0 vm1 Z EL h' → (∀ x, x < h.size → Safe Z EL vm0 h x → Safe Z EL vm1 h' x) → Go p l e R (s0.setVm vm1) m args below meth c n0 Q h' (k + rm.cells) (n + rm.slots) (mkF m q ls (v.toList ++ rest))) : Go p l e R (s0.setVm vm0) m args below meth c n0 Q h k n (mkF m pc ls st) := fun T L S N eT => by
  subst hq hst
  obtain ⟨cq, kq, qa, qb, qc⟩ := isOf K.2.1 eT E
  obtain ⟨v, _, B, -, Y, hS2, hgr, ⟨Lc, hQ, l1, y1, z1, hC⟩, stp⟩ := S.virtualBackS K.1 (y := y) (z := yz) K.2.2.1 (mvT K.2.1 w1) (mvT K.2.1 w2) (nf_of (args := #[]) (mvT K.2.1 w7) hyf) (mvT K.2.1 w3) (mvT K.2.1 w4) hy (backW (W := W) hM K.2.1 w6 w5 hfr hlo hEL X.2.1 hsf) qa qc (g := mkF m pc ls (argsL.reverse ++ .ref a :: rest)) rfl (hls.trans K.2.2.2.2.1.symm) (Steps.refl _) (argsL := argsL) (rest := rest) (lenOf hpd hlen) rfl (by show 2 * 0 + _ ≤ _; rw [hW]; omega) (hb K.2.2.2.1 hd) (fun _ _ => ⟨rfl, eT, hce, hsl⟩)
  obtain ⟨T', L', k', n'⟩ := B
  dsimp only [Pt.U, Pt.locs, Pt.cells, Pt.slots] at Y l1 y1 z1 stp hQ hS2 hgr hC
  subst l1 y1 z1
  rw [eT] at hgr
  obtain ⟨X', K'⟩ := Wx.later X K hS2 hgr hC
  obtain ⟨s₂, o, hs, z⟩ := r v _ hQ.1 T'.vm K' X' (fun x hx hs => hC.safe hx hs) T' _ Y (Fr.app N hQ.2) rfl
  exact ⟨s₂, o, stp.trans hs, z⟩
/-- System.arraycopy between two byte arrays -/
theorem go_arraycopy (K : Cx p s m meth c Z own nm bytes maxL ret) {i W : Nat} {a b : Addr} {ka kb : ClassId} {sp dp nn za zb : Int32} {vs vd us : List Value} (w1 : (Cond.methodLink own i Jvm.Stand.acN).before a0 Z = true) (w2 : (Cond.native Jvm.Stand.acN).before a0 Z = true) (w3 : (Cond.static Jvm.Stand.acN).before a0 Z = true) (w4 : (Cond.initialized "java/lang/System").before a0 Z = true)
    (A : Ary Z h a ka .byte vs) (B : Ary Z h b kb .byte vd) (fa : ∀ v ∈ vs, fits .byte v = true) (fb : ∀ v ∈ vd, fits .byte v = true) (ez : za.toNatClampNeg = vs.length) (ez0 : ¬ za < 0) (ew : zb.toNatClampNeg = vd.length) (ew0 : ¬ zb < 0)
    (h1 : ¬ sp < 0) (h2 : ¬ dp < 0) (h3 : ¬ nn < 0) (h4 : sp.toNatClampNeg + nn.toNatClampNeg ≤ vs.length) (h5 : dp.toNatClampNeg + nn.toNatClampNeg ≤ vd.length) (hus : us = (List.range nn.toNatClampNeg).map fun i => vs.getD (sp.toNatClampNeg + i) (.int 0)) (ge : n0 ≤ b)
    (hd : decode bytes pc = .ok (.invokestatic i, 3)) (hls : ls.size = maxL) (hW : (st.map fun v => v.category).sum = W) (hfr : 1 ≤ R.frames) (hlo : W + (nativeFrameWords "java/lang/System" "arraycopy" 5 + 11) ≤ R.locals) (hq : pc + 3 = q)
    (r : ∀ h', Keep h h' [b] → Ary Z h' b kb .byte (vd.take dp.toNatClampNeg ++ us ++ vd.drop (dp.toNatClampNeg + nn.toNatClampNeg)) → Go p l e R s m args below meth c n0 Q h' k n (mkF m q ls st)) : Go p l e R s m args below meth c n0 Q h k n (mkF m pc ls (.int nn :: .int dp :: .ref b :: .int sp :: .ref a :: st)) := fun T L S N eT => by
  subst hq
  obtain ⟨T', h', L', Y, e', N', Kp, F, stp⟩ := cpA S K.1 K.2.1 K.2.2.1 w1 w2 w3 w4 eT (arv_of_ary (.int 0) A ez ez0 fa) (arv_of_ary (.int 0) B ew ew0 fb) (Or.inl ⟨rfl, rfl⟩) h1 h2 h3 (by rw [ez]; exact h4) (by rw [ew]; exact h5) hus h5 N ge (g := mkF m pc ls (.int nn :: .int dp :: .ref b :: .int sp :: .ref a :: st)) rfl (hls.trans K.2.2.2.2.1.symm) rfl (hb K.2.2.2.1 hd) hfr (W := W) (by show 2 * 0 + _ ≤ _; rw [hW]; omega) hlo
  have ul : us.length = nn.toNatClampNeg := by rw [hus]; simp
  obtain ⟨s₂, o, hs, z⟩ := r h' Kp (ary_of_arv F (by rw [ew]; simp [ul]; omega)) T' L' Y N' e'
  exact ⟨s₂, o, stp _ hs, z⟩
theorem go_clone (K : Cx p s m meth c Z own nm bytes maxL ret) {i W cap : Nat} {ad : String} {a : Addr} {kl : ClassId} {ty : FieldType} {vs : List Value}
    (w1 : (Cond.methodLink own i ⟨ad, "clone", "()Ljava/lang/Object;"⟩).before a0 Z = true) (w2 : (Cond.sameMethod ad "java/lang/Object" "clone" "()Ljava/lang/Object;").before a0 Z = true) (w3 : (Cond.native ⟨"java/lang/Object", "clone", "()Ljava/lang/Object;"⟩).before a0 Z = true)
    (w4 : (Cond.instanceMethod ⟨"java/lang/Object", "clone", "()Ljava/lang/Object;"⟩).before a0 Z = true) (w5 : (Cond.selects ad ⟨ad, "clone", "()Ljava/lang/Object;"⟩ ⟨"java/lang/Object", "clone", "()Ljava/lang/Object;"⟩).before a0 Z = true) (w6 : (Cond.castable ad "java/lang/Cloneable").before a0 Z = true)
    (F : Ary Z h a kl ty vs) (E : Exa Z h a ad) (hf : ∀ v ∈ vs, fits ty v = true) (hd : decode bytes pc = .ok (.invokevirtual i, 3)) (hls : ls.size = maxL) (hW : (st.map fun v => v.category).sum = W) (hfr : 1 ≤ R.frames) (hlo : W + 14 ≤ R.locals) (hcap : vs.length ≤ cap) (hce : k + 1 ≤ R.cells) (hsl : n + cap ≤ R.slots) (hq : pc + 3 = q)
    (r : ∀ h' a', a' = h.size → Ext h h' → Ary Z h' a' kl ty vs → Exa Z h' a' ad → Go p l e R s m args below meth c n0 Q h' (k + 1) (n + cap) (mkF m q ls (.ref a' :: st))) : Go p l e R s m args below meth c n0 Q h k n (mkF m pc ls (.ref a :: st)) := fun T L S N eT => by
  subst hq
  obtain ⟨cl, A, e1, e2, e3⟩ := F
  have hs : cl.slots.size = vs.length := by rw [← e2]; simp
  have FC : FitC Z cl := fitC_of A fun j hj v hv => hf v (by rw [← e2]; exact Array.mem_toList_iff.mpr (Array.mem_of_getElem? hv))
  obtain ⟨T', h', Y, e', X, A', E', stp⟩ := cloneA S K.1 K.2.1 K.2.2.1 w1 w2 w3 w4 w5 w6 eT A E FC (g := mkF m pc ls (.ref a :: st)) rfl (hls.trans K.2.2.2.2.1.symm) (rest := st) rfl (hb K.2.2.2.1 hd) hfr (W := W) (by show 2 * 0 + _ ≤ _; rw [hW]; omega) hlo (by rw [hs]; exact hcap) hce hsl
  obtain ⟨s₂, o, hs', z⟩ := r h' _ rfl X ⟨_, A', e1, e2, e3⟩ E' T' _ Y N e'
  exact ⟨s₂, o, stp _ hs', z⟩
theorem go_anewarrayE (K : Cx p s m meth c Z own nm bytes maxL ret) {C ad : String} {i : Nat} {z : Int32} {num cap : Nat} (w1 : (Cond.classLink own i C).before a0 Z = true) (w2 : (Cond.arrayOver (.object C)).before a0 Z = true) (had : "[" ++ (FieldType.object C).toString = ad) (hd : decode bytes pc = .ok (.anewarray i, 3)) (hz : ¬ z < 0) (hzn : z.toNatClampNeg = num) (hcap : num ≤ cap) (hcb : cap * 8 ≤ 536870912) (hce : k + 1 ≤ R.cells) (hsl : n + cap ≤ R.slots) (hq : pc + 3 = q)
    (r : ∀ h' a kl, a = h.size → Ext h h' → Ary Z h' a kl (.object C) (List.replicate num .null) → Ovr Z kl C → Exa Z h' a ad → Go p l e R s m args below meth c n0 Q h' (k + 1) (n + cap) (mkF m q ls (.ref a :: st))) : Go p l e R s m args below meth c n0 Q h k n (mkF m pc ls (.int z :: st)) := fun T L S N eT => by
  subst hq hzn
  obtain ⟨T', h', kl, X, e', E, A, Ex, O, stp⟩ := newRE S K.1 K.2.1 K.2.2.1 w1 w2 eT (g := mkF m pc ls (.int z :: st)) rfl (hb K.2.2.2.1 hd) (n := z) (rest := st) rfl hz hcap hcb hce hsl had
  obtain ⟨s₂, o, hs, zz⟩ := r h' _ kl rfl E ⟨_, A, rfl, by simp [newA, defaultValue], by simp; omega⟩ O Ex T' _ X N e'
  exact ⟨s₂, o, stp _ hs, zz⟩
theorem same_self {y yf : MethodName} {Cf : String} (w3 : (Cond.instanceMethod y).before args s = true) (w : (Cond.selects Cf yf yf).before args s = true) (hyf : yf.cls = y.cls) (hy : y.cls ≠ "java/lang/invoke/MethodHandle" ∧ y.cls ≠ "java/lang/invoke/VarHandle") : (Cond.sameMethod y.cls y.cls y.name y.desc).before args s = true := by
  obtain ⟨mk, methM, hnamed, hmethM, -, -⟩ := Cond.instanceMethod_spec w3
  obtain ⟨kP, hk, hi⟩ := nf_of (y := y) w hyf mk hnamed
  have e1 := findClass_of_methodNamed hnamed
  have e2 := State.methodFound?_of_named hnamed hy
  have hn : s.methodNamed? ⟨y.cls, y.name, y.desc⟩ = some mk := hnamed
  simp [Cond.before, Cond.holds, Cond.value, e1, e2, hn, hk, hi]
/-- super.m(..) -/
theorem go_callT (K : Cx p s m meth c Z own nm bytes maxL ret) {y yf : MethodName} {C Cf : String} {bytes' : ByteArray} {maxL' : Nat} {ret' : Option FieldType} {rm : Room} {W i : Nat} {Q' : Option Value → Heap → Prop} {ps : List FieldType} {a : Addr}
    (w1 : (Cond.methodLink own i y).before a0 Z = true) (w3 : (Cond.instanceMethod y).before a0 Z = true) (w4 : (Cond.superclass own y.cls).before a0 Z = true) (w5 : (Cond.initialized y.cls).before a0 Z = true) (w6 : (Cond.code y bytes' maxL' ret').before a0 Z = true) (w7 : (Cond.selects Cf yf yf).before a0 Z = true) (hyf : yf.cls = y.cls) (hn : y.name ≠ "<init>")
    (E : Exa Z h a C) (argsL rest : List Value) (hM : Met l y bytes' maxL' ret' [] rm (.ref a :: argsL).toArray Z h n0 Q') (hd : decode bytes pc = .ok (.invokespecial i, 3)) (hpd : parseMethodDescriptor y.desc = some ⟨ps, ret'⟩) (hlen : argsL.length = ps.length) (hst : st = argsL.reverse ++ .ref a :: rest)
    (hls : ls.size = maxL) (hy : y.cls ≠ "java/lang/invoke/MethodHandle" ∧ y.cls ≠ "java/lang/invoke/VarHandle") (hW : (rest.map fun v => v.category).sum = W) (hfr : rm.frames + 1 ≤ R.frames) (hlo : W + (maxL' + 11) + rm.locals ≤ R.locals) (hce : k + rm.cells ≤ R.cells) (hsl : n + rm.slots ≤ R.slots) (hq : pc + 3 = q)
    (r : ∀ v h', Q' v h' → Go p l e R s m args below meth c n0 Q h' (k + rm.cells) (n + rm.slots) (mkF m q ls (v.toList ++ rest))) : Go p l e R s m args below meth c n0 Q h k n (mkF m pc ls st) := fun T L S N eT => by
  subst hq hst
  obtain ⟨v, _, B, -, X, ⟨Lc, hQ, l1, y1, z1⟩, stp⟩ := superBack S K.1 K.2.1 (y := y) K.2.2.1 w1 (same_self w3 w7 hyf hy) w3 w4 hn (backOf (W := W) (Q := fun v h' L => Q' v h' ∧ Fr n0 L) hM K.2.1 w6 w5 hfr hlo) eT (Ins.self E) (g := mkF m pc ls (argsL.reverse ++ .ref a :: rest)) rfl (hls.trans K.2.2.2.2.1.symm) w6 (argsL := argsL) (rest := rest) (lenOf hpd hlen) rfl (by show 2 * 0 + _ ≤ _; rw [hW]; omega) (hb K.2.2.2.1 hd) (fun _ _ => ⟨rfl, eT, hce, hsl⟩)
  obtain ⟨T', L', k', n'⟩ := B
  dsimp only [Pt.U, Pt.locs, Pt.cells, Pt.slots] at X l1 y1 z1 stp hQ
  subst l1 y1 z1
  obtain ⟨s₂, o, hs, z⟩ := r v _ hQ.1 T' _ X (Fr.app N hQ.2) rfl
  exact ⟨s₂, o, stp.trans hs, z⟩
end Layer
theorem own_nel {a b n : Nat} (h : a < n) (g : n ≤ b) : a ≠ b := Nat.ne_of_lt (Nat.lt_of_lt_of_le h g)
theorem own_ge {Z : State} {n0 : Nat} {h : Heap} (O : Old Z n0 h) : n0 ≤ h.size := O.1 ▸ O.2.1
theorem keep_ext {h h' : Heap} (E : Ext h h') : Keep h h' [] := (Keep.refl h []).ext E

theorem fits0 {ty : FieldType} : ∀ v ∈ ([] : List Value), fits ty v = true := fun _ q => nomatch q
theorem fitsS {ty : FieldType} {y : Value} {L : List Value} (q : fits ty y = true) (r : ∀ v ∈ L, fits ty v = true) : ∀ v ∈ y :: L, fits ty v = true := fun x z => (List.mem_cons.mp z).elim (fun u => u ▸ q) (r x)
theorem fits_nar (x : Int32) : fits .byte (.int (nar .byte x)) = true := Jvm.Free.SBG.fits_of_int8 _
theorem Cx.safe {p : Program} {s0 : State} {vm0 : Vm} {m : MethodId} {meth : Method} {c : Code} {Z : State} {own nm : String} {bytes : ByteArray} {maxL : Nat} {ret : Option FieldType} {EL : List (String × Nat)} {h : Heap} {x : Addr} {C : String} (K : Cx p (s0.setVm vm0) m meth c Z own nm bytes maxL ret) (E : Exa Z h x C) (h1 : C ≠ "java/lang/String") (h2 : C ≠ "[B") : Safe Z EL vm0 h x := Safe.exa (vm := vm0) K.2.1.alike E h1 h2
theorem Cx.safeA {p : Program} {s0 : State} {vm0 : Vm} {m : MethodId} {meth : Method} {c : Code} {Z : State} {own nm : String} {bytes : ByteArray} {maxL : Nat} {ret : Option FieldType} {EL : List (String × Nat)} {h : Heap} {x : Addr} {kl : ClassId} {ty : FieldType} {vs : List Value} (K : Cx p (s0.setVm vm0) m meth c Z own nm bytes maxL ret) (A : Ary Z h x kl ty vs) (ht : ty ≠ .byte) : Safe Z EL vm0 h x := by
  obtain ⟨cl, A, -⟩ := A
  exact Safe.arr (vm := vm0) K.2.1.alike A ht

theorem own_shr0 (n : Int32) : n >>> ((0 : Int32) &&& 31) = n := by
  show n >>> (0 : Int32) = n
  rw [← Int32.toBitVec_inj]
  simp [Int32.toBitVec_shiftRight]
theorem own_narC (x : Int32) : narrow .char (.int x.toUInt32.toUInt16.toUInt32.toInt32) = .int x.toUInt32.toUInt16.toUInt32.toInt32 := by
  have e : ∀ y : UInt16, y.toUInt32.toInt32.toUInt32.toUInt16.toUInt32.toInt32 = y.toUInt32.toInt32 := fun y => by
    rw [← Int32.toBitVec_inj]; simp
  exact congrArg Value.int (e _)

theorem ewn {Z : State} {a0 : Array Value} (hw : ∀ d ∈ tables_1, d.before a0 Z = true) : EW Z a0 consts_1 := (EW.cons (wd hw 42 rfl) (by decide) (EW.cons (wd hw 128 rfl) (by decide) (EW.cons (wd hw 57 rfl) (by decide) EW.nil)))
theorem wSn {Z : State} {a0 : Array Value} (hw : ∀ d ∈ tables_1, d.before a0 Z = true) : ∀ a ∈ Bundle.stringAtoms, a.before a0 Z = true := by
  intro a ha
  simp only [Bundle.stringAtoms, List.mem_cons, List.not_mem_nil, or_false] at ha
  rcases ha with rfl | rfl | rfl | rfl | rfl | rfl | rfl
  · exact (wd hw 5 rfl)
  · exact (wd hw 13 rfl)
  · exact (wd hw 17 rfl)
  · exact (wd hw 26 rfl)
  · exact (wd hw 28 rfl)
  · exact (wd hw 43 rfl)
  · exact (wd hw 44 rfl)
theorem dmin_0 : decode jdk_29_method_69_code 0 = .ok (.iload_n 0, 1) := by decide +kernel
theorem dmin_1 : decode jdk_29_method_69_code 1 = .ok (.iload_n 1, 1) := by decide +kernel
theorem dmin_2 : decode jdk_29_method_69_code 2 = .ok (.if_icmp .gt 7, 3) := by decide +kernel
theorem dmin_5 : decode jdk_29_method_69_code 5 = .ok (.iload_n 0, 1) := by decide +kernel
theorem dmin_6 : decode jdk_29_method_69_code 6 = .ok (.goto 4, 3) := by decide +kernel
theorem dmin_9 : decode jdk_29_method_69_code 9 = .ok (.iload_n 1, 1) := by decide +kernel
theorem dmin_10 : decode jdk_29_method_69_code 10 = .ok (.ireturn, 1) := by decide +kernel
set_option maxRecDepth 65536 in
set_option maxHeartbeats 40000000 in
theorem min_met (l : Launch) (Z : State) (a0 : Array Value) (hw : ∀ d ∈ tables_1, d.before a0 Z = true) (xa ya : Int32) (h : Heap) (n0 : Nat)  :
    Met l (⟨"java/lang/Math", "min", "(II)I"⟩ : MethodName) jdk_29_method_69_code 2 (some .int) [] ({ frames := 0, cells := 0, slots := 0, locals := 0 } : Room) #[(.int xa), (.int ya)] Z h n0 (fun v h' => v = some (.int (if ya < xa then ya else xa)) ∧ h = h') := by
  refine Met.of (Jvm.Free.JP.mathPlain rfl (by decide +kernel)) ?_
  intro pP eE sS mM bB tT cC K
  refine Go.entry (ls := #[.val (.int xa), .val (.int ya)]) (by first | (simp [argsToLocals, Value.category]; done) | rfl) ?_
  refine go_iloadN (q := 1) K dmin_0 rfl rfl ?_
  refine go_iloadN (q := 2) K dmin_1 rfl rfl ?_
  refine go_icmp (q := 9) (q' := 5) K dmin_2 (by decide) rfl rfl (fun hc2 => ?_) (fun hc2 => ?_)
  · have hc2 : ya < xa := hc2
    refine go_iloadN (q := 10) K dmin_9 rfl rfl ?_
    refine go_iret K dmin_10 rfl (Or.inl rfl) rfl (by decide) (by decide) ?_
    exact ⟨by rw [if_pos hc2], rfl⟩
  · have hc2 : ¬ ya < xa := hc2
    refine go_iloadN (q := 6) K dmin_5 rfl rfl ?_
    refine go_goto (q := 10) K dmin_6 (by decide) rfl ?_
    refine go_iret K dmin_10 rfl (Or.inl rfl) rfl (by decide) (by decide) ?_
    exact ⟨by rw [if_neg hc2], rfl⟩
theorem dsinit_0 : decode jdk_42_method_151_code 0 = .ok (.aload_n 0, 1) := by decide +kernel
theorem dsinit_1 : decode jdk_42_method_151_code 1 = .ok (.invokespecial 1, 3) := by decide +kernel
theorem dsinit_4 : decode jdk_42_method_151_code 4 = .ok (.aload_n 0, 1) := by decide +kernel
theorem dsinit_5 : decode jdk_42_method_151_code 5 = .ok (.aload_n 1, 1) := by decide +kernel
theorem dsinit_6 : decode jdk_42_method_151_code 6 = .ok (.putfield 9, 3) := by decide +kernel
theorem dsinit_9 : decode jdk_42_method_151_code 9 = .ok (.aload_n 0, 1) := by decide +kernel
theorem dsinit_10 : decode jdk_42_method_151_code 10 = .ok (.iload_n 2, 1) := by decide +kernel
theorem dsinit_11 : decode jdk_42_method_151_code 11 = .ok (.putfield 15, 3) := by decide +kernel
theorem dsinit_14 : decode jdk_42_method_151_code 14 = .ok (.return_, 1) := by decide +kernel
set_option maxRecDepth 65536 in
set_option maxHeartbeats 40000000 in
theorem sinit (l : Launch) (Z : State) (a0 : Array Value) (hw : ∀ d ∈ tables_1, d.before a0 Z = true) (a : Addr) (b : Addr) (h : Heap) (n0 : Nat) (p0_ : Exa Z h a "java/lang/String") (p1_ : Fld Z h a "java/lang/String" "value" "[B" .null) (p2_ : Fld Z h a "java/lang/String" "coder" "B" (.int (0 : Int32))) (p3_ : n0 ≤ a) :
    Met l (⟨"java/lang/String", "<init>", "([BB)V"⟩ : MethodName) jdk_42_method_151_code 3 none [] ({ frames := 1, cells := 0, slots := 0, locals := 12 } : Room) #[(.ref a), (.ref b), (.int (0 : Int32))] Z h n0 (fun v h' => v = none ∧ Keep h h' [a] ∧ Exa Z h' a "java/lang/String" ∧ Fld Z h' a "java/lang/String" "value" "[B" (.ref b) ∧ Fld Z h' a "java/lang/String" "coder" "B" (.int (0 : Int32))) := by
  refine Met.of (plainFor_of_name (by first | (simp [plainName, overriddenIn]; done) | decide +kernel)) ?_
  intro pP eE sS mM bB tT cC K
  refine Go.entry (ls := #[.val (.ref a), .val (.ref b), .val (.int (0 : Int32))]) (by first | (simp [argsToLocals, Value.category]; done) | rfl) ?_
  refine go_aloadN (q := 1) K dsinit_0 rfl rfl rfl ?_
  refine go_initO (q := 4) (W := 0) K (wd hw 22 rfl) (wd hw 23 rfl) (wd hw 24 rfl) dsinit_1 rfl rfl (by decide) (by decide) rfl ?_
  refine go_aloadN (q := 5) K dsinit_4 rfl rfl rfl ?_
  refine go_aloadN (q := 6) K dsinit_5 rfl rfl rfl ?_
  refine go_putF (q := 9) K (wd hw 25 rfl) Via.refl p1_ p0_ (Or.inr ⟨(wd hw 26 rfl), rfl, rfl⟩) (wd hw 13 rfl) (ty := (.array .byte)) (by decide +kernel) rfl rfl p3_ dsinit_6 rfl ?_
  intro h1 Wh1
  refine go_aloadN (q := 10) K dsinit_9 rfl rfl rfl ?_
  refine go_iloadN (q := 11) K dsinit_10 rfl rfl ?_
  have f1 := (p2_.other Wh1 (Or.inr (slot_ne (C := "java/lang/String") (Or.inr (wd hw 28 rfl)) (Or.inr (wd hw 26 rfl)) (by decide) (t := .byte) (t' := (.array .byte)) (by decide +kernel) (by decide +kernel))))
  have f2 := (p0_.wr Wh1)
  refine go_putF (q := 14) K (wd hw 27 rfl) Via.refl f1 f2 (Or.inr ⟨(wd hw 28 rfl), rfl, rfl⟩) (wd hw 13 rfl) (ty := .byte) (by decide +kernel) rfl rfl p3_ dsinit_11 rfl ?_
  intro h2 Wh2
  refine go_return K dsinit_14 rfl (by decide) (by decide) ?_
  have f3 := (((Keep.refl h [a]).wr Wh1 (Or.inl (by simp))).wr Wh2 (Or.inl (by simp)))
  have f4 := (f2.wr Wh2)
  have f5 := ((p1_.same Wh1).other Wh2 (Or.inr (slot_ne (C := "java/lang/String") (Or.inr (wd hw 26 rfl)) (Or.inr (wd hw 28 rfl)) (by decide) (t := (.array .byte)) (t' := .byte) (by decide +kernel) (by decide +kernel))))
  exact ⟨rfl, f3, f4, f5, (f1.same Wh2)⟩
theorem dcanEnc_0 : decode jdk_43_method_3_code 0 = .ok (.iload_n 0, 1) := by decide +kernel
theorem dcanEnc_1 : decode jdk_43_method_3_code 1 = .ok (.sipush 255, 3) := by decide +kernel
theorem dcanEnc_4 : decode jdk_43_method_3_code 4 = .ok (.if_icmp .gt 7, 3) := by decide +kernel
theorem dcanEnc_7 : decode jdk_43_method_3_code 7 = .ok (.iconst 1, 1) := by decide +kernel
theorem dcanEnc_8 : decode jdk_43_method_3_code 8 = .ok (.goto 4, 3) := by decide +kernel
theorem dcanEnc_11 : decode jdk_43_method_3_code 11 = .ok (.iconst 0, 1) := by decide +kernel
theorem dcanEnc_12 : decode jdk_43_method_3_code 12 = .ok (.ireturn, 1) := by decide +kernel
set_option maxRecDepth 65536 in
set_option maxHeartbeats 40000000 in
theorem canEnc (l : Launch) (Z : State) (a0 : Array Value) (hw : ∀ d ∈ tables_1, d.before a0 Z = true) (z : Int32) (h : Heap) (n0 : Nat) (hz : ¬ (255 : Int32) < z) :
    Met l (⟨"java/lang/StringLatin1", "canEncode", "(C)Z"⟩ : MethodName) jdk_43_method_3_code 1 (some .boolean) [] ({ frames := 0, cells := 0, slots := 0, locals := 0 } : Room) #[(.int z)] Z h n0 (fun v h' => v = some (.int (1 : Int32)) ∧ h = h') := by
  refine Met.of (plainFor_of_name (by first | (simp [plainName, overriddenIn]; done) | decide +kernel)) ?_
  intro pP eE sS mM bB tT cC K
  refine Go.entry (ls := #[.val (.int z)]) (by first | (simp [argsToLocals, Value.category]; done) | rfl) ?_
  refine go_iloadN (q := 1) K dcanEnc_0 rfl rfl ?_
  refine go_sipush (q := 4) K dcanEnc_1 (255 : Int32) rfl rfl ?_
  refine go_icmp (q := 11) (q' := 7) K dcanEnc_4 (by decide) rfl rfl (fun hn => cN_no hn (show ¬ (255 : Int32) < z from hz)) (fun _ => ?_)
  refine go_iconst (q := 8) K dcanEnc_7 (1 : Int32) rfl rfl ?_
  refine go_goto (q := 12) K dcanEnc_8 (by decide) rfl ?_
  refine go_iret K dcanEnc_12 rfl (Or.inr (Or.inl rfl)) rfl (by decide) (by decide) ?_
  exact ⟨rfl, rfl⟩
theorem dtoBytes_0 : decode jdk_43_method_46_code 0 = .ok (.iconst 1, 1) := by decide +kernel
theorem dtoBytes_1 : decode jdk_43_method_46_code 1 = .ok (.newarray .byte, 2) := by decide +kernel
theorem dtoBytes_3 : decode jdk_43_method_46_code 3 = .ok (.dup, 1) := by decide +kernel
theorem dtoBytes_4 : decode jdk_43_method_46_code 4 = .ok (.iconst 0, 1) := by decide +kernel
theorem dtoBytes_5 : decode jdk_43_method_46_code 5 = .ok (.iload_n 0, 1) := by decide +kernel
theorem dtoBytes_6 : decode jdk_43_method_46_code 6 = .ok (.i2b, 1) := by decide +kernel
theorem dtoBytes_7 : decode jdk_43_method_46_code 7 = .ok (.bastore, 1) := by decide +kernel
theorem dtoBytes_8 : decode jdk_43_method_46_code 8 = .ok (.areturn, 1) := by decide +kernel
set_option maxRecDepth 65536 in
set_option maxHeartbeats 40000000 in
theorem toBytes (l : Launch) (Z : State) (a0 : Array Value) (hw : ∀ d ∈ tables_1, d.before a0 Z = true) (z : Int32) (h : Heap) (n0 : Nat) (p0_ : Old Z n0 h) :
    Met l (⟨"java/lang/StringLatin1", "toBytes", "(C)[B"⟩ : MethodName) jdk_43_method_46_code 1 (some (.array .byte)) [] ({ frames := 0, cells := 1, slots := 1, locals := 0 } : Room) #[(.int z)] Z h n0 (fun v h' => ∃ (b : Addr) (kb : ClassId), v = some (.ref b) ∧ Keep h h' [] ∧ h.size ≤ b ∧ Ary Z h' b kb .byte [(.int (nar .byte z.toInt8.toInt32))]) := by
  refine Met.of (plainFor_of_name (by first | (simp [plainName, overriddenIn]; done) | decide +kernel)) ?_
  intro pP eE sS mM bB tT cC K
  refine Go.entry (ls := #[.val (.int z)]) (by first | (simp [argsToLocals, Value.category]; done) | rfl) ?_
  refine go_iconst (q := 1) K dtoBytes_0 (1 : Int32) rfl rfl ?_
  refine go_newarray (q := 3) (num := 1) (cap := 1) K (wd hw 17 rfl) dtoBytes_1 (by decide) rfl (by decide) (by decide) (by decide) (by decide) rfl ?_
  intro h1 ah1 kh1 gah1 Eh1 Yh1
  refine go_dup (q := 4) K dtoBytes_3 rfl rfl ?_
  refine go_iconst (q := 5) K dtoBytes_4 (0 : Int32) rfl rfl ?_
  refine go_iloadN (q := 6) K dtoBytes_5 rfl rfl ?_
  refine go_i2b (q := 7) K dtoBytes_6 rfl ?_
  refine go_bastore (q := 8) K Yh1 (by decide) (show 0 < 1 from by decide) (Nat.le_trans (own_ge p0_) (Nat.le_of_eq gah1.symm)) dtoBytes_7 rfl ?_
  intro h2 Wh2 Yh2
  refine go_aret K dtoBytes_8 rfl rfl rfl rfl (by decide) (by decide) ?_
  have f1 := (((Keep.refl h []).ext Eh1).wr Wh2 (Or.inr (Nat.le_trans ((Keep.refl h [])).1 (Nat.le_of_eq gah1.symm))))
  exact ⟨ah1, kh1, rfl, f1, (Nat.le_trans ((Keep.refl h [])).1 (Nat.le_of_eq gah1.symm)), Yh2⟩
theorem dvalueOfC_0 : decode jdk_42_method_139_code 0 = .ok (.getstatic 38, 3) := by decide +kernel
theorem dvalueOfC_3 : decode jdk_42_method_139_code 3 = .ok (.ifCond .eq 23, 3) := by decide +kernel
theorem dvalueOfC_6 : decode jdk_42_method_139_code 6 = .ok (.iload_n 0, 1) := by decide +kernel
theorem dvalueOfC_7 : decode jdk_42_method_139_code 7 = .ok (.invokestatic 1015, 3) := by decide +kernel
theorem dvalueOfC_10 : decode jdk_42_method_139_code 10 = .ok (.ifCond .eq 16, 3) := by decide +kernel
theorem dvalueOfC_13 : decode jdk_42_method_139_code 13 = .ok (.new 10, 3) := by decide +kernel
theorem dvalueOfC_16 : decode jdk_42_method_139_code 16 = .ok (.dup, 1) := by decide +kernel
theorem dvalueOfC_17 : decode jdk_42_method_139_code 17 = .ok (.iload_n 0, 1) := by decide +kernel
theorem dvalueOfC_18 : decode jdk_42_method_139_code 18 = .ok (.invokestatic 1018, 3) := by decide +kernel
theorem dvalueOfC_21 : decode jdk_42_method_139_code 21 = .ok (.iconst 0, 1) := by decide +kernel
theorem dvalueOfC_22 : decode jdk_42_method_139_code 22 = .ok (.invokespecial 209, 3) := by decide +kernel
theorem dvalueOfC_25 : decode jdk_42_method_139_code 25 = .ok (.areturn, 1) := by decide +kernel
theorem dvalueOfC_26 : decode jdk_42_method_139_code 26 = .ok (.new 10, 3) := by decide +kernel
theorem dvalueOfC_29 : decode jdk_42_method_139_code 29 = .ok (.dup, 1) := by decide +kernel
theorem dvalueOfC_30 : decode jdk_42_method_139_code 30 = .ok (.iload_n 0, 1) := by decide +kernel
theorem dvalueOfC_31 : decode jdk_42_method_139_code 31 = .ok (.invokestatic 1021, 3) := by decide +kernel
theorem dvalueOfC_34 : decode jdk_42_method_139_code 34 = .ok (.iconst 1, 1) := by decide +kernel
theorem dvalueOfC_35 : decode jdk_42_method_139_code 35 = .ok (.invokespecial 209, 3) := by decide +kernel
theorem dvalueOfC_38 : decode jdk_42_method_139_code 38 = .ok (.areturn, 1) := by decide +kernel
set_option maxRecDepth 65536 in
set_option maxHeartbeats 40000000 in
theorem valueOfC (l : Launch) (Z : State) (a0 : Array Value) (hw : ∀ d ∈ tables_1, d.before a0 Z = true) (z : Int32) (cs : Int32) (h : Heap) (n0 : Nat) (p0_ : Old Z n0 h) (p1_ : Sta Z Z.heap "java/lang/String" "COMPACT_STRINGS" "Z" (.int cs)) (hcs : ¬ cs = (0 : Int32)) (hz : ¬ (255 : Int32) < z) :
    Met l (⟨"java/lang/String", "valueOf", "(C)Ljava/lang/String;"⟩ : MethodName) jdk_42_method_139_code 1 (some (.object "java/lang/String")) [] ({ frames := 2, cells := 2, slots := 5, locals := 40 } : Room) #[(.int z)] Z h n0 (fun v h' => ∃ (a : Addr) (b : Addr) (kb : ClassId), v = some (.ref a) ∧ Keep h h' [] ∧ h.size ≤ a ∧ h.size ≤ b ∧ Exa Z h' a "java/lang/String" ∧ Fld Z h' a "java/lang/String" "value" "[B" (.ref b) ∧ Fld Z h' a "java/lang/String" "coder" "B" (.int (0 : Int32)) ∧ Ary Z h' b kb .byte [(.int (nar .byte z.toInt8.toInt32))] ∧ a ≠ b) := by
  refine Met.of (plainFor_of_name (by first | (simp [plainName, overriddenIn]; done) | decide +kernel)) ?_
  intro pP eE sS mM bB tT cC K
  refine Go.entry (ls := #[.val (.int z)]) (by first | (simp [argsToLocals, Value.category]; done) | rfl) ?_
  refine go_getS (q := 3) K (wd hw 7 rfl) Via.refl (p1_.ext p0_.2) dvalueOfC_0 rfl ?_
  refine go_if0 (q := 26) (q' := 6) K dvalueOfC_3 (by decide) rfl rfl (fun hn => cN_no hn (show ¬ cs = (0 : Int32) from hcs)) (fun _ => ?_)
  refine go_iloadN (q := 7) K dvalueOfC_6 rfl rfl ?_
  refine go_callS (q := 10) (W := 0) K (wd hw 8 rfl) (wd hw 9 rfl) (wd hw 10 rfl) (wd hw 11 rfl) [(.int z)] [] (canEnc l Z a0 hw _ _ n0 (by assumption)) dvalueOfC_7 (ps := [.char]) (by decide +kernel) rfl rfl rfl (by decide) rfl (by decide) (by decide) (by decide) (by decide) rfl ?_
  rintro _ _ ⟨rfl, rfl⟩
  show Go pP l eE _ sS mM _ bB tT cC n0 _ h 0 0 (mkF mM 10 #[.val (.int z)] [(.int (1 : Int32))])
  refine go_if0 (q := 26) (q' := 13) K dvalueOfC_10 (by decide) rfl rfl (fun hn => cN_no hn (show ¬ (1 : Int32) = (0 : Int32) from (by decide))) (fun _ => ?_)
  refine go_new (q := 16) (sz := 4) K (wd hw 12 rfl) (wd hw 13 rfl) (wd hw 5 rfl) dvalueOfC_13 (by decide) (by decide) rfl ?_
  intro h2 ah2 gah2 Eh2 Xah2 Dah2
  refine go_dup (q := 17) K dvalueOfC_16 rfl rfl ?_
  refine go_iloadN (q := 18) K dvalueOfC_17 rfl rfl ?_
  have f1 := (p0_.ext Eh2)
  have f2 := ((Keep.refl h []).ext Eh2)
  refine go_callS (q := 21) (W := 2) K (wd hw 14 rfl) (wd hw 15 rfl) (wd hw 10 rfl) (wd hw 16 rfl) [(.int z)] [(.ref ah2), (.ref ah2)] (toBytes l Z a0 hw _ _ n0 f1) dvalueOfC_18 (ps := [.char]) (by decide +kernel) rfl rfl rfl (by decide) rfl (by decide) (by decide) (by decide) (by decide) rfl ?_
  rintro _ h3 ⟨bh3, kbh3, rfl, Kh3, gbh3, q0h3⟩
  show Go pP l eE _ sS mM _ bB tT cC n0 _ h3 2 5 (mkF mM 21 #[.val (.int z)] [(.ref bh3), (.ref ah2), (.ref ah2)])
  refine go_iconst (q := 22) K dvalueOfC_21 (0 : Int32) rfl rfl ?_
  have f3 := (Xah2.keep Kh3)
  have f4 := ((Dah2 (Or.inr (wd hw 26 rfl)) (ty := (.array .byte)) (by decide +kernel)).keep Kh3 nin0)
  have f5 := ((Dah2 (Or.inr (wd hw 28 rfl)) (ty := .byte) (by decide +kernel)).keep Kh3 nin0)
  refine go_callI (q := 25) (W := 1) K (wd hw 18 rfl) (wd hw 19 rfl) (wd hw 5 rfl) (wd hw 21 rfl) rfl [(.ref bh3), (.int (0 : Int32))] [(.ref ah2)] (sinit l Z a0 hw _ _ _ n0 f3 f4 f5 (Nat.le_trans (own_ge p0_) (Nat.le_of_eq gah2.symm))) dvalueOfC_22 (ps := [(.array .byte), .byte]) (by decide +kernel) rfl rfl rfl (by decide) rfl (by decide) (by decide) (by decide) (by decide) rfl ?_
  rintro _ h4 ⟨rfl, Kh4, q0h4, q1h4, q2h4⟩
  show Go pP l eE _ sS mM _ bB tT cC n0 _ h4 2 5 (mkF mM 25 #[.val (.int z)] [(.ref ah2)])
  refine go_aret K dvalueOfC_25 rfl rfl rfl rfl (by decide) (by decide) ?_
  have f6 := ((f2.trans Kh3 all0).trans Kh4 (allS (Or.inr (Nat.le_trans ((Keep.refl h [])).1 (Nat.le_of_eq gah2.symm))) all0))
  have f7 := (q0h3.keep Kh4 (ninS ((own_nel (Xah2).lt gbh3)).symm nin0))
  exact ⟨ah2, bh3, kbh3, rfl, f6, (Nat.le_trans ((Keep.refl h [])).1 (Nat.le_of_eq gah2.symm)), (Nat.le_trans (f2).1 gbh3), q0h4, q1h4, q2h4, f7, (own_nel (Xah2).lt gbh3)⟩
theorem dstrCoder_0 : decode jdk_42_method_152_code 0 = .ok (.getstatic 38, 3) := by decide +kernel
theorem dstrCoder_3 : decode jdk_42_method_152_code 3 = .ok (.ifCond .eq 10, 3) := by decide +kernel
theorem dstrCoder_6 : decode jdk_42_method_152_code 6 = .ok (.aload_n 0, 1) := by decide +kernel
theorem dstrCoder_7 : decode jdk_42_method_152_code 7 = .ok (.getfield 15, 3) := by decide +kernel
theorem dstrCoder_10 : decode jdk_42_method_152_code 10 = .ok (.goto 4, 3) := by decide +kernel
theorem dstrCoder_13 : decode jdk_42_method_152_code 13 = .ok (.iconst 1, 1) := by decide +kernel
theorem dstrCoder_14 : decode jdk_42_method_152_code 14 = .ok (.ireturn, 1) := by decide +kernel
set_option maxRecDepth 65536 in
set_option maxHeartbeats 40000000 in
theorem strCoder (l : Launch) (Z : State) (a0 : Array Value) (hw : ∀ d ∈ tables_1, d.before a0 Z = true) (a : Addr) (cs : Int32) (h : Heap) (n0 : Nat) (p0_ : Old Z n0 h) (p1_ : Sta Z Z.heap "java/lang/String" "COMPACT_STRINGS" "Z" (.int cs)) (hcs : ¬ cs = (0 : Int32)) (p3_ : Fld Z h a "java/lang/String" "coder" "B" (.int (0 : Int32))) :
    Met l (⟨"java/lang/String", "coder", "()B"⟩ : MethodName) jdk_42_method_152_code 1 (some .byte) [] ({ frames := 0, cells := 0, slots := 0, locals := 0 } : Room) #[(.ref a)] Z h n0 (fun v h' => v = some (.int (0 : Int32)) ∧ h = h') := by
  refine Met.of (plainFor_of_name (by first | (simp [plainName, overriddenIn]; done) | decide +kernel)) ?_
  intro pP eE sS mM bB tT cC K
  refine Go.entry (ls := #[.val (.ref a)]) (by first | (simp [argsToLocals, Value.category]; done) | rfl) ?_
  refine go_getS (q := 3) K (wd hw 7 rfl) Via.refl (p1_.ext p0_.2) dstrCoder_0 rfl ?_
  refine go_if0 (q := 13) (q' := 6) K dstrCoder_3 (by decide) rfl rfl (fun hn => cN_no hn (show ¬ cs = (0 : Int32) from hcs)) (fun _ => ?_)
  refine go_aloadN (q := 7) K dstrCoder_6 rfl rfl rfl ?_
  refine go_getF (q := 10) K (wd hw 27 rfl) Via.refl p3_ dstrCoder_7 rfl ?_
  refine go_goto (q := 14) K dstrCoder_10 (by decide) rfl ?_
  refine go_iret K dstrCoder_14 rfl (Or.inr (Or.inr (Or.inl rfl))) rfl (by decide) (by decide) ?_
  exact ⟨rfl, rfl⟩
theorem dstrLen_0 : decode jdk_42_method_54_code 0 = .ok (.aload_n 0, 1) := by decide +kernel
theorem dstrLen_1 : decode jdk_42_method_54_code 1 = .ok (.getfield 9, 3) := by decide +kernel
theorem dstrLen_4 : decode jdk_42_method_54_code 4 = .ok (.arraylength, 1) := by decide +kernel
theorem dstrLen_5 : decode jdk_42_method_54_code 5 = .ok (.aload_n 0, 1) := by decide +kernel
theorem dstrLen_6 : decode jdk_42_method_54_code 6 = .ok (.invokevirtual 335, 3) := by decide +kernel
theorem dstrLen_9 : decode jdk_42_method_54_code 9 = .ok (.ishr, 1) := by decide +kernel
theorem dstrLen_10 : decode jdk_42_method_54_code 10 = .ok (.ireturn, 1) := by decide +kernel
set_option maxRecDepth 65536 in
set_option maxHeartbeats 40000000 in
theorem strLen (l : Launch) (Z : State) (a0 : Array Value) (hw : ∀ d ∈ tables_1, d.before a0 Z = true) (a : Addr) (b : Addr) (kb : ClassId) (vs : List Value) (n : Int32) (cs : Int32) (h : Heap) (n0 : Nat) (p0_ : Old Z n0 h) (p1_ : Sta Z Z.heap "java/lang/String" "COMPACT_STRINGS" "Z" (.int cs)) (hcs : ¬ cs = (0 : Int32)) (p3_ : Exa Z h a "java/lang/String") (p4_ : Fld Z h a "java/lang/String" "value" "[B" (.ref b)) (p5_ : Fld Z h a "java/lang/String" "coder" "B" (.int (0 : Int32))) (p6_ : Ary Z h b kb .byte vs) (hn : vs.length.toInt32 = n) :
    Met l (⟨"java/lang/String", "length", "()I"⟩ : MethodName) jdk_42_method_54_code 1 (some .int) [] ({ frames := 1, cells := 0, slots := 0, locals := 14 } : Room) #[(.ref a)] Z h n0 (fun v h' => v = some (.int n) ∧ h = h') := by
  refine Met.of (plainFor_of_name (by first | (simp [plainName, overriddenIn]; done) | decide +kernel)) ?_
  intro pP eE sS mM bB tT cC K
  refine Go.entry (ls := #[.val (.ref a)]) (by first | (simp [argsToLocals, Value.category]; done) | rfl) ?_
  refine go_aloadN (q := 1) K dstrLen_0 rfl rfl rfl ?_
  refine go_getF (q := 4) K (wd hw 25 rfl) Via.refl p4_ dstrLen_1 rfl ?_
  refine go_arraylength (q := 5) (z := n) K p6_ hn dstrLen_4 rfl ?_
  refine go_aloadN (q := 6) K dstrLen_5 rfl rfl rfl ?_
  refine go_callV (q := 9) (W := 1) K (wd hw 96 rfl) (wd hw 97 rfl) (wd hw 99 rfl) (wd hw 98 rfl) (wd hw 5 rfl) (wd hw 100 rfl) (wd hw 94 rfl) rfl p3_ [] [(.int n)] (strCoder l Z a0 hw _ _ _ n0 p0_ p1_ (by assumption) p5_) dstrLen_6 (ps := []) (by decide +kernel) rfl rfl rfl (by decide) rfl (by decide) (by decide) (by decide) (by decide) rfl ?_
  rintro _ _ ⟨rfl, rfl⟩
  show Go pP l eE _ sS mM _ bB tT cC n0 _ h 0 0 (mkF mM 9 #[.val (.ref a)] [(.int (0 : Int32)), (.int n)])
  refine go_ishr (q := 10) K dstrLen_9 rfl ?_
  refine go_eqI (y := n) (own_shr0 n) ?_
  refine go_iret K dstrLen_10 rfl (Or.inl rfl) rfl (by decide) (by decide) ?_
  exact ⟨rfl, rfl⟩
theorem dsLat_0 : decode jdk_42_method_154_code 0 = .ok (.getstatic 38, 3) := by decide +kernel
theorem dsLat_3 : decode jdk_42_method_154_code 3 = .ok (.ifCond .eq 14, 3) := by decide +kernel
theorem dsLat_6 : decode jdk_42_method_154_code 6 = .ok (.aload_n 0, 1) := by decide +kernel
theorem dsLat_7 : decode jdk_42_method_154_code 7 = .ok (.getfield 15, 3) := by decide +kernel
theorem dsLat_10 : decode jdk_42_method_154_code 10 = .ok (.ifCond .ne 7, 3) := by decide +kernel
theorem dsLat_13 : decode jdk_42_method_154_code 13 = .ok (.iconst 1, 1) := by decide +kernel
theorem dsLat_14 : decode jdk_42_method_154_code 14 = .ok (.goto 4, 3) := by decide +kernel
theorem dsLat_17 : decode jdk_42_method_154_code 17 = .ok (.iconst 0, 1) := by decide +kernel
theorem dsLat_18 : decode jdk_42_method_154_code 18 = .ok (.ireturn, 1) := by decide +kernel
set_option maxRecDepth 65536 in
set_option maxHeartbeats 40000000 in
theorem sLat (l : Launch) (Z : State) (a0 : Array Value) (hw : ∀ d ∈ tables_1, d.before a0 Z = true) (a : Addr) (cs : Int32) (h : Heap) (n0 : Nat) (p0_ : Old Z n0 h) (p1_ : Sta Z Z.heap "java/lang/String" "COMPACT_STRINGS" "Z" (.int cs)) (hcs : ¬ cs = (0 : Int32)) (p3_ : Fld Z h a "java/lang/String" "coder" "B" (.int (0 : Int32))) :
    Met l (⟨"java/lang/String", "isLatin1", "()Z"⟩ : MethodName) jdk_42_method_154_code 1 (some .boolean) [] ({ frames := 0, cells := 0, slots := 0, locals := 0 } : Room) #[(.ref a)] Z h n0 (fun v h' => v = some (.int (1 : Int32)) ∧ h = h') := by
  refine Met.of (plainFor_of_name (by first | (simp [plainName, overriddenIn]; done) | decide +kernel)) ?_
  intro pP eE sS mM bB tT cC K
  refine Go.entry (ls := #[.val (.ref a)]) (by first | (simp [argsToLocals, Value.category]; done) | rfl) ?_
  refine go_getS (q := 3) K (wd hw 7 rfl) Via.refl (p1_.ext p0_.2) dsLat_0 rfl ?_
  refine go_if0 (q := 17) (q' := 6) K dsLat_3 (by decide) rfl rfl (fun hn => cN_no hn (show ¬ cs = (0 : Int32) from hcs)) (fun _ => ?_)
  refine go_aloadN (q := 7) K dsLat_6 rfl rfl rfl ?_
  refine go_getF (q := 10) K (wd hw 27 rfl) Via.refl p3_ dsLat_7 rfl ?_
  refine go_if0 (q := 17) (q' := 13) K dsLat_10 (by decide) rfl rfl (fun hn => cN_no hn (show (0 : Int32) = (0 : Int32) from (by decide))) (fun _ => ?_)
  refine go_iconst (q := 14) K dsLat_13 (1 : Int32) rfl rfl ?_
  refine go_goto (q := 18) K dsLat_14 (by decide) rfl ?_
  refine go_iret K dsLat_18 rfl (Or.inr (Or.inl rfl)) rfl (by decide) (by decide) ?_
  exact ⟨rfl, rfl⟩
theorem dpreCk_0 : decode jdk_41_method_11_code 0 = .ok (.iload_n 0, 1) := by decide +kernel
theorem dpreCk_1 : decode jdk_41_method_11_code 1 = .ok (.ifCond .lt 8, 3) := by decide +kernel
theorem dpreCk_4 : decode jdk_41_method_11_code 4 = .ok (.iload_n 0, 1) := by decide +kernel
theorem dpreCk_5 : decode jdk_41_method_11_code 5 = .ok (.iload_n 1, 1) := by decide +kernel
theorem dpreCk_6 : decode jdk_41_method_11_code 6 = .ok (.if_icmp .lt 10, 3) := by decide +kernel
theorem dpreCk_9 : decode jdk_41_method_11_code 9 = .ok (.aload_n 2, 1) := by decide +kernel
theorem dpreCk_10 : decode jdk_41_method_11_code 10 = .ok (.iload_n 0, 1) := by decide +kernel
theorem dpreCk_11 : decode jdk_41_method_11_code 11 = .ok (.iload_n 1, 1) := by decide +kernel
theorem dpreCk_12 : decode jdk_41_method_11_code 12 = .ok (.invokestatic 95, 3) := by decide +kernel
theorem dpreCk_15 : decode jdk_41_method_11_code 15 = .ok (.athrow, 1) := by decide +kernel
theorem dpreCk_16 : decode jdk_41_method_11_code 16 = .ok (.iload_n 0, 1) := by decide +kernel
theorem dpreCk_17 : decode jdk_41_method_11_code 17 = .ok (.ireturn, 1) := by decide +kernel
set_option maxRecDepth 65536 in
set_option maxHeartbeats 40000000 in
theorem preCk (l : Launch) (Z : State) (a0 : Array Value) (hw : ∀ d ∈ tables_1, d.before a0 Z = true) (i : Int32) (n : Int32) (fm : Value) (h : Heap) (n0 : Nat) (hi0 : ¬ i < (0 : Int32)) (hin : i < n) (hfc : fm.category = 1) :
    Met l (⟨"jdk/internal/util/Preconditions", "checkIndex", "(IILjava/util/function/BiFunction;)I"⟩ : MethodName) jdk_41_method_11_code 3 (some .int) [] ({ frames := 0, cells := 0, slots := 0, locals := 0 } : Room) #[(.int i), (.int n), fm] Z h n0 (fun v h' => v = some (.int i) ∧ h = h') := by
  refine Met.of (plainFor_of_name (by first | (simp [plainName, overriddenIn]; done) | decide +kernel)) ?_
  intro pP eE sS mM bB tT cC K
  refine Go.entry (ls := #[.val (.int i), .val (.int n), .val fm]) (by first | (simp [argsToLocals, Value.category]; done) | (cases fm <;> first | (simp [argsToLocals, Value.category]; done) | (simp [Value.category] at hfc)) | rfl) ?_
  refine go_iloadN (q := 1) K dpreCk_0 rfl rfl ?_
  refine go_if0 (q := 9) (q' := 4) K dpreCk_1 (by decide) rfl rfl (fun hn => cN_no hn (show ¬ i < (0 : Int32) from hi0)) (fun _ => ?_)
  refine go_iloadN (q := 5) K dpreCk_4 rfl rfl ?_
  refine go_iloadN (q := 6) K dpreCk_5 rfl rfl ?_
  refine go_icmp (q := 16) (q' := 9) K dpreCk_6 (by decide) rfl rfl (fun _ => ?_) (fun hn => cN_no2 hn (show i < n from hin))
  refine go_iloadN (q := 17) K dpreCk_16 rfl rfl ?_
  refine go_iret K dpreCk_17 rfl (Or.inl rfl) rfl (by decide) (by decide) ?_
  exact ⟨rfl, rfl⟩
theorem dstrCk_0 : decode jdk_42_method_155_code 0 = .ok (.iload_n 0, 1) := by decide +kernel
theorem dstrCk_1 : decode jdk_42_method_155_code 1 = .ok (.iload_n 1, 1) := by decide +kernel
theorem dstrCk_2 : decode jdk_42_method_155_code 2 = .ok (.getstatic 1053, 3) := by decide +kernel
theorem dstrCk_5 : decode jdk_42_method_155_code 5 = .ok (.invokestatic 1059, 3) := by decide +kernel
theorem dstrCk_8 : decode jdk_42_method_155_code 8 = .ok (.pop, 1) := by decide +kernel
theorem dstrCk_9 : decode jdk_42_method_155_code 9 = .ok (.return_, 1) := by decide +kernel
set_option maxRecDepth 65536 in
set_option maxHeartbeats 40000000 in
theorem strCk (l : Launch) (Z : State) (a0 : Array Value) (hw : ∀ d ∈ tables_1, d.before a0 Z = true) (i : Int32) (n : Int32) (fm : Value) (h : Heap) (n0 : Nat) (p0_ : Old Z n0 h) (hi0 : ¬ i < (0 : Int32)) (hin : i < n) (p3_ : Sta Z Z.heap "jdk/internal/util/Preconditions" "SIOOBE_FORMATTER" "Ljava/util/function/BiFunction;" fm) (hfm : fm.isRef = true) (hfc : fm.category = 1) :
    Met l (⟨"java/lang/String", "checkIndex", "(II)V"⟩ : MethodName) jdk_42_method_155_code 2 none [] ({ frames := 1, cells := 0, slots := 0, locals := 16 } : Room) #[(.int i), (.int n)] Z h n0 (fun v h' => v = none ∧ h = h') := by
  refine Met.of (plainFor_of_name (by first | (simp [plainName, overriddenIn]; done) | decide +kernel)) ?_
  intro pP eE sS mM bB tT cC K
  refine Go.entry (ls := #[.val (.int i), .val (.int n)]) (by first | (simp [argsToLocals, Value.category]; done) | rfl) ?_
  refine go_iloadN (q := 1) K dstrCk_0 rfl rfl ?_
  refine go_iloadN (q := 2) K dstrCk_1 rfl rfl ?_
  refine go_getS (q := 5) K (wd hw 206 rfl) Via.refl (p3_.ext p0_.2) dstrCk_2 rfl ?_
  refine go_callS (q := 8) (W := 0) K (wd hw 208 rfl) (wd hw 209 rfl) (wd hw 207 rfl) (wd hw 210 rfl) [(.int i), (.int n), fm] [] (preCk l Z a0 hw _ _ _ _ n0 (by assumption) (by assumption) (by assumption)) dstrCk_5 (ps := [.int, .int, (.object "java/util/function/BiFunction")]) (by decide +kernel) rfl rfl rfl (by decide) rfl (by decide) (by decide) (by decide) (by decide) rfl ?_
  rintro _ _ ⟨rfl, rfl⟩
  show Go pP l eE _ sS mM _ bB tT cC n0 _ h 0 0 (mkF mM 8 #[.val (.int i), .val (.int n)] [(.int i)])
  refine go_pop (q := 9) K dstrCk_8 rfl rfl ?_
  refine go_return K dstrCk_9 rfl (by decide) (by decide) ?_
  exact ⟨rfl, rfl⟩
theorem dlatAt_0 : decode jdk_43_method_2_code 0 = .ok (.iload_n 1, 1) := by decide +kernel
theorem dlatAt_1 : decode jdk_43_method_2_code 1 = .ok (.aload_n 0, 1) := by decide +kernel
theorem dlatAt_2 : decode jdk_43_method_2_code 2 = .ok (.arraylength, 1) := by decide +kernel
theorem dlatAt_3 : decode jdk_43_method_2_code 3 = .ok (.invokestatic 9, 3) := by decide +kernel
theorem dlatAt_6 : decode jdk_43_method_2_code 6 = .ok (.aload_n 0, 1) := by decide +kernel
theorem dlatAt_7 : decode jdk_43_method_2_code 7 = .ok (.iload_n 1, 1) := by decide +kernel
theorem dlatAt_8 : decode jdk_43_method_2_code 8 = .ok (.baload, 1) := by decide +kernel
theorem dlatAt_9 : decode jdk_43_method_2_code 9 = .ok (.sipush 255, 3) := by decide +kernel
theorem dlatAt_12 : decode jdk_43_method_2_code 12 = .ok (.iand, 1) := by decide +kernel
theorem dlatAt_13 : decode jdk_43_method_2_code 13 = .ok (.i2c, 1) := by decide +kernel
theorem dlatAt_14 : decode jdk_43_method_2_code 14 = .ok (.ireturn, 1) := by decide +kernel
set_option maxRecDepth 65536 in
set_option maxHeartbeats 40000000 in
theorem latAt (l : Launch) (Z : State) (a0 : Array Value) (hw : ∀ d ∈ tables_1, d.before a0 Z = true) (b : Addr) (kb : ClassId) (vs : List Value) (i : Int32) (n : Int32) (e : Int32) (fm : Value) (h : Heap) (n0 : Nat) (p0_ : Old Z n0 h) (p1_ : Ary Z h b kb .byte vs) (hn : vs.length.toInt32 = n) (hvs : vs[i.toNatClampNeg]? = some (.int e)) (hi0 : ¬ i < (0 : Int32)) (hin : i < n) (p6_ : Sta Z Z.heap "jdk/internal/util/Preconditions" "SIOOBE_FORMATTER" "Ljava/util/function/BiFunction;" fm) (hfm : fm.isRef = true) (hfc : fm.category = 1) :
    Met l (⟨"java/lang/StringLatin1", "charAt", "([BI)C"⟩ : MethodName) jdk_43_method_2_code 2 (some .char) [] ({ frames := 2, cells := 0, slots := 0, locals := 32 } : Room) #[(.ref b), (.int i)] Z h n0 (fun v h' => v = some (.int ((e &&& (255 : Int32)).toUInt32.toUInt16.toUInt32.toInt32)) ∧ h = h') := by
  refine Met.of (plainFor_of_name (by first | (simp [plainName, overriddenIn]; done) | decide +kernel)) ?_
  intro pP eE sS mM bB tT cC K
  refine Go.entry (ls := #[.val (.ref b), .val (.int i)]) (by first | (simp [argsToLocals, Value.category]; done) | rfl) ?_
  refine go_iloadN (q := 1) K dlatAt_0 rfl rfl ?_
  refine go_aloadN (q := 2) K dlatAt_1 rfl rfl rfl ?_
  refine go_arraylength (q := 3) (z := n) K p1_ hn dlatAt_2 rfl ?_
  refine go_callS (q := 6) (W := 0) K (wd hw 203 rfl) (wd hw 204 rfl) (wd hw 5 rfl) (wd hw 205 rfl) [(.int i), (.int n)] [] (strCk l Z a0 hw _ _ _ _ n0 p0_ (by assumption) (by assumption) p6_ (by assumption) (by assumption)) dlatAt_3 (ps := [.int, .int]) (by decide +kernel) rfl rfl rfl (by decide) rfl (by decide) (by decide) (by decide) (by decide) rfl ?_
  rintro _ _ ⟨rfl, rfl⟩
  show Go pP l eE _ sS mM _ bB tT cC n0 _ h 0 0 (mkF mM 6 #[.val (.ref b), .val (.int i)] [])
  refine go_aloadN (q := 7) K dlatAt_6 rfl rfl rfl ?_
  refine go_iloadN (q := 8) K dlatAt_7 rfl rfl ?_
  refine go_baload (q := 9) K p1_ hi0 hvs dlatAt_8 rfl ?_
  refine go_sipush (q := 12) K dlatAt_9 (255 : Int32) rfl rfl ?_
  refine go_iand (q := 13) K dlatAt_12 rfl ?_
  refine go_i2c (q := 14) K dlatAt_13 rfl ?_
  refine go_iret K dlatAt_14 rfl (Or.inr (Or.inr (Or.inr (Or.inl rfl)))) (own_narC _) (by decide) (by decide) ?_
  exact ⟨rfl, rfl⟩
theorem dcharAt_0 : decode jdk_42_method_56_code 0 = .ok (.aload_n 0, 1) := by decide +kernel
theorem dcharAt_1 : decode jdk_42_method_56_code 1 = .ok (.invokevirtual 492, 3) := by decide +kernel
theorem dcharAt_4 : decode jdk_42_method_56_code 4 = .ok (.ifCond .eq 12, 3) := by decide +kernel
theorem dcharAt_7 : decode jdk_42_method_56_code 7 = .ok (.aload_n 0, 1) := by decide +kernel
theorem dcharAt_8 : decode jdk_42_method_56_code 8 = .ok (.getfield 9, 3) := by decide +kernel
theorem dcharAt_11 : decode jdk_42_method_56_code 11 = .ok (.iload_n 1, 1) := by decide +kernel
theorem dcharAt_12 : decode jdk_42_method_56_code 12 = .ok (.invokestatic 495, 3) := by decide +kernel
theorem dcharAt_15 : decode jdk_42_method_56_code 15 = .ok (.ireturn, 1) := by decide +kernel
theorem dcharAt_16 : decode jdk_42_method_56_code 16 = .ok (.aload_n 0, 1) := by decide +kernel
theorem dcharAt_17 : decode jdk_42_method_56_code 17 = .ok (.getfield 9, 3) := by decide +kernel
theorem dcharAt_20 : decode jdk_42_method_56_code 20 = .ok (.iload_n 1, 1) := by decide +kernel
theorem dcharAt_21 : decode jdk_42_method_56_code 21 = .ok (.invokestatic 498, 3) := by decide +kernel
theorem dcharAt_24 : decode jdk_42_method_56_code 24 = .ok (.ireturn, 1) := by decide +kernel
set_option maxRecDepth 65536 in
set_option maxHeartbeats 40000000 in
theorem charAt (l : Launch) (Z : State) (a0 : Array Value) (hw : ∀ d ∈ tables_1, d.before a0 Z = true) (a : Addr) (cs : Int32) (b : Addr) (kb : ClassId) (vs : List Value) (i : Int32) (n : Int32) (e : Int32) (fm : Value) (h : Heap) (n0 : Nat) (p0_ : Old Z n0 h) (p1_ : Ary Z h b kb .byte vs) (hn : vs.length.toInt32 = n) (hvs : vs[i.toNatClampNeg]? = some (.int e)) (hi0 : ¬ i < (0 : Int32)) (hin : i < n) (p6_ : Sta Z Z.heap "jdk/internal/util/Preconditions" "SIOOBE_FORMATTER" "Ljava/util/function/BiFunction;" fm) (hfm : fm.isRef = true) (hfc : fm.category = 1) (p9_ : Sta Z Z.heap "java/lang/String" "COMPACT_STRINGS" "Z" (.int cs)) (hcs : ¬ cs = (0 : Int32)) (p11_ : Exa Z h a "java/lang/String") (p12_ : Fld Z h a "java/lang/String" "value" "[B" (.ref b)) (p13_ : Fld Z h a "java/lang/String" "coder" "B" (.int (0 : Int32))) :
    Met l (⟨"java/lang/String", "charAt", "(I)C"⟩ : MethodName) jdk_42_method_56_code 2 (some .char) [] ({ frames := 3, cells := 0, slots := 0, locals := 48 } : Room) #[(.ref a), (.int i)] Z h n0 (fun v h' => v = some (.int ((e &&& (255 : Int32)).toUInt32.toUInt16.toUInt32.toInt32)) ∧ h = h') := by
  refine Met.of (plainFor_of_name (by first | (simp [plainName, overriddenIn]; done) | decide +kernel)) ?_
  intro pP eE sS mM bB tT cC K
  refine Go.entry (ls := #[.val (.ref a), .val (.int i)]) (by first | (simp [argsToLocals, Value.category]; done) | rfl) ?_
  refine go_aloadN (q := 1) K dcharAt_0 rfl rfl rfl ?_
  refine go_callV (q := 4) (W := 0) K (wd hw 195 rfl) (wd hw 196 rfl) (wd hw 198 rfl) (wd hw 197 rfl) (wd hw 5 rfl) (wd hw 199 rfl) (wd hw 94 rfl) rfl p11_ [] [] (sLat l Z a0 hw _ _ _ n0 p0_ p9_ (by assumption) p13_) dcharAt_1 (ps := []) (by decide +kernel) rfl rfl rfl (by decide) rfl (by decide) (by decide) (by decide) (by decide) rfl ?_
  rintro _ _ ⟨rfl, rfl⟩
  show Go pP l eE _ sS mM _ bB tT cC n0 _ h 0 0 (mkF mM 4 #[.val (.ref a), .val (.int i)] [(.int (1 : Int32))])
  refine go_if0 (q := 16) (q' := 7) K dcharAt_4 (by decide) rfl rfl (fun hn => cN_no hn (show ¬ (1 : Int32) = (0 : Int32) from (by decide))) (fun _ => ?_)
  refine go_aloadN (q := 8) K dcharAt_7 rfl rfl rfl ?_
  refine go_getF (q := 11) K (wd hw 25 rfl) Via.refl p12_ dcharAt_8 rfl ?_
  refine go_iloadN (q := 12) K dcharAt_11 rfl rfl ?_
  refine go_callS (q := 15) (W := 0) K (wd hw 200 rfl) (wd hw 201 rfl) (wd hw 10 rfl) (wd hw 202 rfl) [(.ref b), (.int i)] [] (latAt l Z a0 hw _ _ _ _ _ _ _ _ n0 p0_ p1_ (by assumption) (by assumption) (by assumption) (by assumption) p6_ (by assumption) (by assumption)) dcharAt_12 (ps := [(.array .byte), .int]) (by decide +kernel) rfl rfl rfl (by decide) rfl (by decide) (by decide) (by decide) (by decide) rfl ?_
  rintro _ _ ⟨rfl, rfl⟩
  show Go pP l eE _ sS mM _ bB tT cC n0 _ h 0 0 (mkF mM 15 #[.val (.ref a), .val (.int i)] [(.int ((e &&& (255 : Int32)).toUInt32.toUInt16.toUInt32.toInt32))])
  refine go_iret K dcharAt_15 rfl (Or.inr (Or.inr (Or.inr (Or.inl rfl)))) (own_narC _) (by decide) (by decide) ?_
  exact ⟨rfl, rfl⟩
theorem dasbInit_0 : decode jdk_68_method_2_code 0 = .ok (.aload_n 0, 1) := by decide +kernel
theorem dasbInit_1 : decode jdk_68_method_2_code 1 = .ok (.invokespecial 3, 3) := by decide +kernel
theorem dasbInit_4 : decode jdk_68_method_2_code 4 = .ok (.getstatic 18, 3) := by decide +kernel
theorem dasbInit_7 : decode jdk_68_method_2_code 7 = .ok (.ifCond .eq 18, 3) := by decide +kernel
theorem dasbInit_10 : decode jdk_68_method_2_code 10 = .ok (.aload_n 0, 1) := by decide +kernel
theorem dasbInit_11 : decode jdk_68_method_2_code 11 = .ok (.iload_n 1, 1) := by decide +kernel
theorem dasbInit_12 : decode jdk_68_method_2_code 12 = .ok (.newarray .byte, 2) := by decide +kernel
theorem dasbInit_14 : decode jdk_68_method_2_code 14 = .ok (.putfield 15, 3) := by decide +kernel
theorem dasbInit_17 : decode jdk_68_method_2_code 17 = .ok (.aload_n 0, 1) := by decide +kernel
theorem dasbInit_18 : decode jdk_68_method_2_code 18 = .ok (.iconst 0, 1) := by decide +kernel
theorem dasbInit_19 : decode jdk_68_method_2_code 19 = .ok (.putfield 22, 3) := by decide +kernel
theorem dasbInit_22 : decode jdk_68_method_2_code 22 = .ok (.goto 16, 3) := by decide +kernel
theorem dasbInit_25 : decode jdk_68_method_2_code 25 = .ok (.aload_n 0, 1) := by decide +kernel
theorem dasbInit_26 : decode jdk_68_method_2_code 26 = .ok (.iload_n 1, 1) := by decide +kernel
theorem dasbInit_27 : decode jdk_68_method_2_code 27 = .ok (.invokestatic 26, 3) := by decide +kernel
theorem dasbInit_30 : decode jdk_68_method_2_code 30 = .ok (.putfield 15, 3) := by decide +kernel
theorem dasbInit_33 : decode jdk_68_method_2_code 33 = .ok (.aload_n 0, 1) := by decide +kernel
theorem dasbInit_34 : decode jdk_68_method_2_code 34 = .ok (.iconst 1, 1) := by decide +kernel
theorem dasbInit_35 : decode jdk_68_method_2_code 35 = .ok (.putfield 22, 3) := by decide +kernel
theorem dasbInit_38 : decode jdk_68_method_2_code 38 = .ok (.return_, 1) := by decide +kernel
set_option maxRecDepth 65536 in
set_option maxHeartbeats 40000000 in
theorem asbInit (l : Launch) (Z : State) (a0 : Array Value) (hw : ∀ d ∈ tables_1, d.before a0 Z = true) (t : Addr) (cs : Int32) (h : Heap) (n0 : Nat) (p0_ : Old Z n0 h) (p1_ : Sta Z Z.heap "java/lang/String" "COMPACT_STRINGS" "Z" (.int cs)) (hcs : ¬ cs = (0 : Int32)) (p3_ : Exa Z h t "java/lang/StringBuilder") (p4_ : Fld Z h t "java/lang/AbstractStringBuilder" "value" "[B" .null) (p5_ : Fld Z h t "java/lang/AbstractStringBuilder" "coder" "B" (.int (0 : Int32))) (p6_ : Fld Z h t "java/lang/AbstractStringBuilder" "count" "I" (.int (0 : Int32))) (p7_ : n0 ≤ t) :
    Met l (⟨"java/lang/AbstractStringBuilder", "<init>", "(I)V"⟩ : MethodName) jdk_68_method_2_code 2 none [] ({ frames := 1, cells := 1, slots := 16, locals := 12 } : Room) #[(.ref t), (.int (16 : Int32))] Z h n0 (fun v h' => ∃ (va : Addr) (kv : ClassId), v = none ∧ Keep h h' [t] ∧ h.size ≤ va ∧ Exa Z h' t "java/lang/StringBuilder" ∧ Fld Z h' t "java/lang/AbstractStringBuilder" "value" "[B" (.ref va) ∧ Fld Z h' t "java/lang/AbstractStringBuilder" "coder" "B" (.int (0 : Int32)) ∧ Fld Z h' t "java/lang/AbstractStringBuilder" "count" "I" (.int (0 : Int32)) ∧ Ary Z h' va kv .byte [(.int (0 : Int32)), (.int (0 : Int32)), (.int (0 : Int32)), (.int (0 : Int32)), (.int (0 : Int32)), (.int (0 : Int32)), (.int (0 : Int32)), (.int (0 : Int32)), (.int (0 : Int32)), (.int (0 : Int32)), (.int (0 : Int32)), (.int (0 : Int32)), (.int (0 : Int32)), (.int (0 : Int32)), (.int (0 : Int32)), (.int (0 : Int32))] ∧ t ≠ va) := by
  refine Met.of (plainFor_of_name (by first | (simp [plainName, overriddenIn]; done) | decide +kernel)) ?_
  intro pP eE sS mM bB tT cC K
  refine Go.entry (ls := #[.val (.ref t), .val (.int (16 : Int32))]) (by first | (simp [argsToLocals, Value.category]; done) | rfl) ?_
  refine go_aloadN (q := 1) K dasbInit_0 rfl rfl rfl ?_
  refine go_initO (q := 4) (W := 0) K (wd hw 75 rfl) (wd hw 23 rfl) (wd hw 24 rfl) dasbInit_1 rfl rfl (by decide) (by decide) rfl ?_
  refine go_getS (q := 7) K (wd hw 76 rfl) Via.refl (p1_.ext p0_.2) dasbInit_4 rfl ?_
  refine go_if0 (q := 25) (q' := 10) K dasbInit_7 (by decide) rfl rfl (fun hn => cN_no hn (show ¬ cs = (0 : Int32) from hcs)) (fun _ => ?_)
  refine go_aloadN (q := 11) K dasbInit_10 rfl rfl rfl ?_
  refine go_iloadN (q := 12) K dasbInit_11 rfl rfl ?_
  refine go_newarray (q := 14) (num := 16) (cap := 16) K (wd hw 17 rfl) dasbInit_12 (by decide) rfl (by decide) (by decide) (by decide) (by decide) rfl ?_
  intro h1 ah1 kh1 gah1 Eh1 Yh1
  have f1 := (p4_.ext Eh1)
  have f2 := (p3_.ext Eh1)
  refine go_putF (q := 17) K (wd hw 77 rfl) Via.refl f1 f2 (Or.inl (wd hw 78 rfl)) (wd hw 64 rfl) (ty := (.array .byte)) (by decide +kernel) rfl rfl p7_ dasbInit_14 rfl ?_
  intro h2 Wh2
  refine go_aloadN (q := 18) K dasbInit_17 rfl rfl rfl ?_
  refine go_iconst (q := 19) K dasbInit_18 (0 : Int32) rfl rfl ?_
  have f3 := ((p5_.ext Eh1).other Wh2 (Or.inr (slot_ne (C := "java/lang/StringBuilder") (Or.inl (wd hw 80 rfl)) (Or.inl (wd hw 78 rfl)) (by decide) (t := .byte) (t' := (.array .byte)) (by decide +kernel) (by decide +kernel))))
  have f4 := (f2.wr Wh2)
  refine go_putF (q := 22) K (wd hw 79 rfl) Via.refl f3 f4 (Or.inl (wd hw 80 rfl)) (wd hw 64 rfl) (ty := .byte) (by decide +kernel) rfl rfl p7_ dasbInit_19 rfl ?_
  intro h3 Wh3
  refine go_goto (q := 38) K dasbInit_22 (by decide) rfl ?_
  refine go_return K dasbInit_38 rfl (by decide) (by decide) ?_
  have f5 := ((((Keep.refl h [t]).ext Eh1).wr Wh2 (Or.inl (by simp))).wr Wh3 (Or.inl (by simp)))
  have f6 := (f4.wr Wh3)
  have f7 := ((f1.same Wh2).other Wh3 (Or.inr (slot_ne (C := "java/lang/StringBuilder") (Or.inl (wd hw 78 rfl)) (Or.inl (wd hw 80 rfl)) (by decide) (t := (.array .byte)) (t' := .byte) (by decide +kernel) (by decide +kernel))))
  have f8 := (((p6_.ext Eh1).other Wh2 (Or.inr (slot_ne (C := "java/lang/StringBuilder") (Or.inl (wd hw 102 rfl)) (Or.inl (wd hw 78 rfl)) (by decide) (t := .int) (t' := (.array .byte)) (by decide +kernel) (by decide +kernel)))).other Wh3 (Or.inr (slot_ne (C := "java/lang/StringBuilder") (Or.inl (wd hw 102 rfl)) (Or.inl (wd hw 80 rfl)) (by decide) (t := .int) (t' := .byte) (by decide +kernel) (by decide +kernel))))
  have f9 := ((Yh1.other Wh2 ((own_nel (p3_).lt (Nat.le_of_eq gah1.symm))).symm).other Wh3 ((own_nel (p3_).lt (Nat.le_of_eq gah1.symm))).symm)
  exact ⟨ah1, kh1, rfl, f5, (Nat.le_trans ((Keep.refl h [t])).1 (Nat.le_of_eq gah1.symm)), f6, f7, (f3.same Wh3), f8, f9, (own_nel (p3_).lt (Nat.le_of_eq gah1.symm))⟩
theorem dsbInit_0 : decode jdk_67_method_1_code 0 = .ok (.aload_n 0, 1) := by decide +kernel
theorem dsbInit_1 : decode jdk_67_method_1_code 1 = .ok (.bipush 16, 2) := by decide +kernel
theorem dsbInit_3 : decode jdk_67_method_1_code 3 = .ok (.invokespecial 1, 3) := by decide +kernel
theorem dsbInit_6 : decode jdk_67_method_1_code 6 = .ok (.return_, 1) := by decide +kernel
set_option maxRecDepth 65536 in
set_option maxHeartbeats 40000000 in
theorem sbInit (l : Launch) (Z : State) (a0 : Array Value) (hw : ∀ d ∈ tables_1, d.before a0 Z = true) (t : Addr) (cs : Int32) (h : Heap) (n0 : Nat) (p0_ : Old Z n0 h) (p1_ : Sta Z Z.heap "java/lang/String" "COMPACT_STRINGS" "Z" (.int cs)) (hcs : ¬ cs = (0 : Int32)) (p3_ : Exa Z h t "java/lang/StringBuilder") (p4_ : Fld Z h t "java/lang/AbstractStringBuilder" "value" "[B" .null) (p5_ : Fld Z h t "java/lang/AbstractStringBuilder" "coder" "B" (.int (0 : Int32))) (p6_ : Fld Z h t "java/lang/AbstractStringBuilder" "count" "I" (.int (0 : Int32))) (p7_ : n0 ≤ t) :
    Met l (⟨"java/lang/StringBuilder", "<init>", "()V"⟩ : MethodName) jdk_67_method_1_code 1 none [] ({ frames := 2, cells := 1, slots := 16, locals := 26 } : Room) #[(.ref t)] Z h n0 (fun v h' => ∃ (va : Addr) (kv : ClassId), v = none ∧ Keep h h' [t] ∧ h.size ≤ va ∧ Exa Z h' t "java/lang/StringBuilder" ∧ Fld Z h' t "java/lang/AbstractStringBuilder" "value" "[B" (.ref va) ∧ Fld Z h' t "java/lang/AbstractStringBuilder" "coder" "B" (.int (0 : Int32)) ∧ Fld Z h' t "java/lang/AbstractStringBuilder" "count" "I" (.int (0 : Int32)) ∧ Ary Z h' va kv .byte [(.int (0 : Int32)), (.int (0 : Int32)), (.int (0 : Int32)), (.int (0 : Int32)), (.int (0 : Int32)), (.int (0 : Int32)), (.int (0 : Int32)), (.int (0 : Int32)), (.int (0 : Int32)), (.int (0 : Int32)), (.int (0 : Int32)), (.int (0 : Int32)), (.int (0 : Int32)), (.int (0 : Int32)), (.int (0 : Int32)), (.int (0 : Int32))] ∧ t ≠ va) := by
  refine Met.of (plainFor_of_name (by first | (simp [plainName, overriddenIn]; done) | decide +kernel)) ?_
  intro pP eE sS mM bB tT cC K
  refine Go.entry (ls := #[.val (.ref t)]) (by first | (simp [argsToLocals, Value.category]; done) | rfl) ?_
  refine go_aloadN (q := 1) K dsbInit_0 rfl rfl rfl ?_
  refine go_bipush (q := 3) K dsbInit_1 (16 : Int32) rfl rfl ?_
  refine go_callI (q := 6) (W := 0) K (wd hw 69 rfl) (wd hw 70 rfl) (wd hw 73 rfl) (wd hw 74 rfl) rfl [(.int (16 : Int32))] [] (asbInit l Z a0 hw _ _ _ n0 p0_ p1_ (by assumption) p3_ p4_ p5_ p6_ p7_) dsbInit_3 (ps := [.int]) (by decide +kernel) rfl rfl rfl (by decide) rfl (by decide) (by decide) (by decide) (by decide) rfl ?_
  rintro _ h1 ⟨vah1, kvh1, rfl, Kh1, gvah1, q0h1, q1h1, q2h1, q3h1, q4h1, q5h1⟩
  show Go pP l eE _ sS mM _ bB tT cC n0 _ h1 1 16 (mkF mM 6 #[.val (.ref t)] [])
  refine go_return K dsbInit_6 rfl (by decide) (by decide) ?_
  have f1 := ((Keep.refl h [t]).trans Kh1 (allS (Or.inl (by simp)) all0))
  exact ⟨vah1, kvh1, rfl, f1, (Nat.le_trans ((Keep.refl h [t])).1 gvah1), q0h1, q1h1, q2h1, q3h1, q4h1, q5h1⟩
theorem densCap_0 : decode jdk_68_method_9_code 0 = .ok (.aload_n 0, 1) := by decide +kernel
theorem densCap_1 : decode jdk_68_method_9_code 1 = .ok (.getfield 15, 3) := by decide +kernel
theorem densCap_4 : decode jdk_68_method_9_code 4 = .ok (.arraylength, 1) := by decide +kernel
theorem densCap_5 : decode jdk_68_method_9_code 5 = .ok (.aload_n 0, 1) := by decide +kernel
theorem densCap_6 : decode jdk_68_method_9_code 6 = .ok (.getfield 22, 3) := by decide +kernel
theorem densCap_9 : decode jdk_68_method_9_code 9 = .ok (.ishr, 1) := by decide +kernel
theorem densCap_10 : decode jdk_68_method_9_code 10 = .ok (.istore_n 2, 1) := by decide +kernel
theorem densCap_11 : decode jdk_68_method_9_code 11 = .ok (.iload_n 1, 1) := by decide +kernel
theorem densCap_12 : decode jdk_68_method_9_code 12 = .ok (.iload_n 2, 1) := by decide +kernel
theorem densCap_13 : decode jdk_68_method_9_code 13 = .ok (.isub, 1) := by decide +kernel
theorem densCap_14 : decode jdk_68_method_9_code 14 = .ok (.ifCond .le 24, 3) := by decide +kernel
theorem densCap_17 : decode jdk_68_method_9_code 17 = .ok (.aload_n 0, 1) := by decide +kernel
theorem densCap_18 : decode jdk_68_method_9_code 18 = .ok (.aload_n 0, 1) := by decide +kernel
theorem densCap_19 : decode jdk_68_method_9_code 19 = .ok (.getfield 15, 3) := by decide +kernel
theorem densCap_22 : decode jdk_68_method_9_code 22 = .ok (.aload_n 0, 1) := by decide +kernel
theorem densCap_23 : decode jdk_68_method_9_code 23 = .ok (.iload_n 1, 1) := by decide +kernel
theorem densCap_24 : decode jdk_68_method_9_code 24 = .ok (.invokevirtual 104, 3) := by decide +kernel
theorem densCap_27 : decode jdk_68_method_9_code 27 = .ok (.aload_n 0, 1) := by decide +kernel
theorem densCap_28 : decode jdk_68_method_9_code 28 = .ok (.getfield 22, 3) := by decide +kernel
theorem densCap_31 : decode jdk_68_method_9_code 31 = .ok (.ishl, 1) := by decide +kernel
theorem densCap_32 : decode jdk_68_method_9_code 32 = .ok (.invokestatic 108, 3) := by decide +kernel
theorem densCap_35 : decode jdk_68_method_9_code 35 = .ok (.putfield 15, 3) := by decide +kernel
theorem densCap_38 : decode jdk_68_method_9_code 38 = .ok (.return_, 1) := by decide +kernel
set_option maxRecDepth 65536 in
set_option maxHeartbeats 40000000 in
theorem ensCap (l : Launch) (Z : State) (a0 : Array Value) (hw : ∀ d ∈ tables_1, d.before a0 Z = true) (t : Addr) (va : Addr) (kv : ClassId) (vs : List Value) (n : Int32) (h : Heap) (n0 : Nat) (p0_ : Fld Z h t "java/lang/AbstractStringBuilder" "value" "[B" (.ref va)) (p1_ : Fld Z h t "java/lang/AbstractStringBuilder" "coder" "B" (.int (0 : Int32))) (p2_ : Ary Z h va kv .byte vs) (hvl : vs.length.toInt32 = 16) (hcap : ¬ (0 : Int32) < n - (16 : Int32)) :
    Met l (⟨"java/lang/AbstractStringBuilder", "ensureCapacityInternal", "(I)V"⟩ : MethodName) jdk_68_method_9_code 3 none [] ({ frames := 0, cells := 0, slots := 0, locals := 0 } : Room) #[(.ref t), (.int n)] Z h n0 (fun v h' => v = none ∧ h = h') := by
  refine Met.of (plainFor_of_name (by first | (simp [plainName, overriddenIn]; done) | decide +kernel)) ?_
  intro pP eE sS mM bB tT cC K
  refine Go.entry (ls := #[.val (.ref t), .val (.int n), .unset]) (by first | (simp [argsToLocals, Value.category]; done) | rfl) ?_
  refine go_aloadN (q := 1) K densCap_0 rfl rfl rfl ?_
  refine go_getF (q := 4) K (wd hw 77 rfl) Via.refl p0_ densCap_1 rfl ?_
  refine go_arraylength (q := 5) (z := (16 : Int32)) K p2_ hvl densCap_4 rfl ?_
  refine go_aloadN (q := 6) K densCap_5 rfl rfl rfl ?_
  refine go_getF (q := 9) K (wd hw 79 rfl) Via.refl p1_ densCap_6 rfl ?_
  refine go_ishr (q := 10) K densCap_9 rfl ?_
  refine go_eqI (y := (16 : Int32)) (by decide) ?_
  refine go_istoreN (q := 11) K densCap_10 #[.val (.ref t), .val (.int n), .val (.int (16 : Int32))] rfl rfl ?_
  refine go_iloadN (q := 12) K densCap_11 rfl rfl ?_
  refine go_iloadN (q := 13) K densCap_12 rfl rfl ?_
  refine go_isub (q := 14) K densCap_13 rfl ?_
  refine go_if0 (q := 38) (q' := 17) K densCap_14 (by decide) rfl rfl (fun _ => ?_) (fun hn => cN_no2 hn (show ¬ (0 : Int32) < (n - (16 : Int32)) from hcap))
  refine go_return K densCap_38 rfl (by decide) (by decide) ?_
  exact ⟨rfl, rfl⟩
theorem daLat_0 : decode jdk_68_method_68_code 0 = .ok (.getstatic 18, 3) := by decide +kernel
theorem daLat_3 : decode jdk_68_method_68_code 3 = .ok (.ifCond .eq 14, 3) := by decide +kernel
theorem daLat_6 : decode jdk_68_method_68_code 6 = .ok (.aload_n 0, 1) := by decide +kernel
theorem daLat_7 : decode jdk_68_method_68_code 7 = .ok (.getfield 22, 3) := by decide +kernel
theorem daLat_10 : decode jdk_68_method_68_code 10 = .ok (.ifCond .ne 7, 3) := by decide +kernel
theorem daLat_13 : decode jdk_68_method_68_code 13 = .ok (.iconst 1, 1) := by decide +kernel
theorem daLat_14 : decode jdk_68_method_68_code 14 = .ok (.goto 4, 3) := by decide +kernel
theorem daLat_17 : decode jdk_68_method_68_code 17 = .ok (.iconst 0, 1) := by decide +kernel
theorem daLat_18 : decode jdk_68_method_68_code 18 = .ok (.ireturn, 1) := by decide +kernel
set_option maxRecDepth 65536 in
set_option maxHeartbeats 40000000 in
theorem aLat (l : Launch) (Z : State) (a0 : Array Value) (hw : ∀ d ∈ tables_1, d.before a0 Z = true) (t : Addr) (cs : Int32) (h : Heap) (n0 : Nat) (p0_ : Old Z n0 h) (p1_ : Sta Z Z.heap "java/lang/String" "COMPACT_STRINGS" "Z" (.int cs)) (hcs : ¬ cs = (0 : Int32)) (p3_ : Fld Z h t "java/lang/AbstractStringBuilder" "coder" "B" (.int (0 : Int32))) :
    Met l (⟨"java/lang/AbstractStringBuilder", "isLatin1", "()Z"⟩ : MethodName) jdk_68_method_68_code 1 (some .boolean) [] ({ frames := 0, cells := 0, slots := 0, locals := 0 } : Room) #[(.ref t)] Z h n0 (fun v h' => v = some (.int (1 : Int32)) ∧ h = h') := by
  refine Met.of (plainFor_of_name (by first | (simp [plainName, overriddenIn]; done) | decide +kernel)) ?_
  intro pP eE sS mM bB tT cC K
  refine Go.entry (ls := #[.val (.ref t)]) (by first | (simp [argsToLocals, Value.category]; done) | rfl) ?_
  refine go_getS (q := 3) K (wd hw 76 rfl) Via.refl (p1_.ext p0_.2) daLat_0 rfl ?_
  refine go_if0 (q := 17) (q' := 6) K daLat_3 (by decide) rfl rfl (fun hn => cN_no hn (show ¬ cs = (0 : Int32) from hcs)) (fun _ => ?_)
  refine go_aloadN (q := 7) K daLat_6 rfl rfl rfl ?_
  refine go_getF (q := 10) K (wd hw 79 rfl) Via.refl p3_ daLat_7 rfl ?_
  refine go_if0 (q := 17) (q' := 13) K daLat_10 (by decide) rfl rfl (fun hn => cN_no hn (show (0 : Int32) = (0 : Int32) from (by decide))) (fun _ => ?_)
  refine go_iconst (q := 14) K daLat_13 (1 : Int32) rfl rfl ?_
  refine go_goto (q := 18) K daLat_14 (by decide) rfl ?_
  refine go_iret K daLat_18 rfl (Or.inr (Or.inl rfl)) rfl (by decide) (by decide) ?_
  exact ⟨rfl, rfl⟩
theorem dinflate_0 : decode jdk_68_method_71_code 0 = .ok (.getstatic 18, 3) := by decide +kernel
theorem dinflate_3 : decode jdk_68_method_71_code 3 = .ok (.ifCond .eq 18, 3) := by decide +kernel
theorem dinflate_6 : decode jdk_68_method_71_code 6 = .ok (.aload_n 0, 1) := by decide +kernel
theorem dinflate_7 : decode jdk_68_method_71_code 7 = .ok (.getfield 22, 3) := by decide +kernel
theorem dinflate_10 : decode jdk_68_method_71_code 10 = .ok (.aload_n 1, 1) := by decide +kernel
theorem dinflate_11 : decode jdk_68_method_71_code 11 = .ok (.invokevirtual 40, 3) := by decide +kernel
theorem dinflate_14 : decode jdk_68_method_71_code 14 = .ok (.if_icmp .eq 7, 3) := by decide +kernel
theorem dinflate_17 : decode jdk_68_method_71_code 17 = .ok (.aload_n 0, 1) := by decide +kernel
theorem dinflate_18 : decode jdk_68_method_71_code 18 = .ok (.invokevirtual 195, 3) := by decide +kernel
theorem dinflate_21 : decode jdk_68_method_71_code 21 = .ok (.return_, 1) := by decide +kernel
set_option maxRecDepth 65536 in
set_option maxHeartbeats 40000000 in
theorem inflate (l : Launch) (Z : State) (a0 : Array Value) (hw : ∀ d ∈ tables_1, d.before a0 Z = true) (t : Addr) (a : Addr) (cs : Int32) (h : Heap) (n0 : Nat) (p0_ : Old Z n0 h) (p1_ : Sta Z Z.heap "java/lang/String" "COMPACT_STRINGS" "Z" (.int cs)) (hcs : ¬ cs = (0 : Int32)) (p3_ : Fld Z h t "java/lang/AbstractStringBuilder" "coder" "B" (.int (0 : Int32))) (p4_ : Exa Z h a "java/lang/String") (p5_ : Fld Z h a "java/lang/String" "coder" "B" (.int (0 : Int32))) :
    Met l (⟨"java/lang/AbstractStringBuilder", "inflateIfNeededFor", "(Ljava/lang/String;)V"⟩ : MethodName) jdk_68_method_71_code 2 none [] ({ frames := 1, cells := 0, slots := 0, locals := 14 } : Room) #[(.ref t), (.ref a)] Z h n0 (fun v h' => v = none ∧ h = h') := by
  refine Met.of (plainFor_of_name (by first | (simp [plainName, overriddenIn]; done) | decide +kernel)) ?_
  intro pP eE sS mM bB tT cC K
  refine Go.entry (ls := #[.val (.ref t), .val (.ref a)]) (by first | (simp [argsToLocals, Value.category]; done) | rfl) ?_
  refine go_getS (q := 3) K (wd hw 76 rfl) Via.refl (p1_.ext p0_.2) dinflate_0 rfl ?_
  refine go_if0 (q := 21) (q' := 6) K dinflate_3 (by decide) rfl rfl (fun hn => cN_no hn (show ¬ cs = (0 : Int32) from hcs)) (fun _ => ?_)
  refine go_aloadN (q := 7) K dinflate_6 rfl rfl rfl ?_
  refine go_getF (q := 10) K (wd hw 79 rfl) Via.refl p3_ dinflate_7 rfl ?_
  refine go_aloadN (q := 11) K dinflate_10 rfl rfl rfl ?_
  refine go_callV (q := 14) (W := 1) K (wd hw 118 rfl) (wd hw 97 rfl) (wd hw 99 rfl) (wd hw 98 rfl) (wd hw 5 rfl) (wd hw 100 rfl) (wd hw 94 rfl) rfl p4_ [] [(.int (0 : Int32))] (strCoder l Z a0 hw _ _ _ n0 p0_ p1_ (by assumption) p5_) dinflate_11 (ps := []) (by decide +kernel) rfl rfl rfl (by decide) rfl (by decide) (by decide) (by decide) (by decide) rfl ?_
  rintro _ _ ⟨rfl, rfl⟩
  show Go pP l eE _ sS mM _ bB tT cC n0 _ h 0 0 (mkF mM 14 #[.val (.ref t), .val (.ref a)] [(.int (0 : Int32)), (.int (0 : Int32))])
  refine go_icmp (q := 21) (q' := 17) K dinflate_14 (by decide) rfl rfl (fun _ => ?_) (fun hn => cN_no2 hn (show (0 : Int32) = (0 : Int32) from (by decide)))
  refine go_return K dinflate_21 rfl (by decide) (by decide) ?_
  exact ⟨rfl, rfl⟩
theorem dgb0_1_0 : decode jdk_42_method_147_code 0 = .ok (.aload_n 0, 1) := by decide +kernel
theorem dgb0_1_1 : decode jdk_42_method_147_code 1 = .ok (.invokevirtual 335, 3) := by decide +kernel
theorem dgb0_1_4 : decode jdk_42_method_147_code 4 = .ok (.iload_n 3, 1) := by decide +kernel
theorem dgb0_1_5 : decode jdk_42_method_147_code 5 = .ok (.if_icmp .ne 23, 3) := by decide +kernel
theorem dgb0_1_8 : decode jdk_42_method_147_code 8 = .ok (.aload_n 0, 1) := by decide +kernel
theorem dgb0_1_9 : decode jdk_42_method_147_code 9 = .ok (.getfield 9, 3) := by decide +kernel
theorem dgb0_1_12 : decode jdk_42_method_147_code 12 = .ok (.iconst 0, 1) := by decide +kernel
theorem dgb0_1_13 : decode jdk_42_method_147_code 13 = .ok (.aload_n 1, 1) := by decide +kernel
theorem dgb0_1_14 : decode jdk_42_method_147_code 14 = .ok (.iload_n 2, 1) := by decide +kernel
theorem dgb0_1_15 : decode jdk_42_method_147_code 15 = .ok (.iload_n 3, 1) := by decide +kernel
theorem dgb0_1_16 : decode jdk_42_method_147_code 16 = .ok (.ishl, 1) := by decide +kernel
theorem dgb0_1_17 : decode jdk_42_method_147_code 17 = .ok (.aload_n 0, 1) := by decide +kernel
theorem dgb0_1_18 : decode jdk_42_method_147_code 18 = .ok (.getfield 9, 3) := by decide +kernel
theorem dgb0_1_21 : decode jdk_42_method_147_code 21 = .ok (.arraylength, 1) := by decide +kernel
theorem dgb0_1_22 : decode jdk_42_method_147_code 22 = .ok (.invokestatic 212, 3) := by decide +kernel
theorem dgb0_1_25 : decode jdk_42_method_147_code 25 = .ok (.goto 18, 3) := by decide +kernel
theorem dgb0_1_28 : decode jdk_42_method_147_code 28 = .ok (.aload_n 0, 1) := by decide +kernel
theorem dgb0_1_29 : decode jdk_42_method_147_code 29 = .ok (.getfield 9, 3) := by decide +kernel
theorem dgb0_1_32 : decode jdk_42_method_147_code 32 = .ok (.iconst 0, 1) := by decide +kernel
theorem dgb0_1_33 : decode jdk_42_method_147_code 33 = .ok (.aload_n 1, 1) := by decide +kernel
theorem dgb0_1_34 : decode jdk_42_method_147_code 34 = .ok (.iload_n 2, 1) := by decide +kernel
theorem dgb0_1_35 : decode jdk_42_method_147_code 35 = .ok (.aload_n 0, 1) := by decide +kernel
theorem dgb0_1_36 : decode jdk_42_method_147_code 36 = .ok (.getfield 9, 3) := by decide +kernel
theorem dgb0_1_39 : decode jdk_42_method_147_code 39 = .ok (.arraylength, 1) := by decide +kernel
theorem dgb0_1_40 : decode jdk_42_method_147_code 40 = .ok (.invokestatic 106, 3) := by decide +kernel
theorem dgb0_1_43 : decode jdk_42_method_147_code 43 = .ok (.return_, 1) := by decide +kernel
set_option maxRecDepth 65536 in
set_option maxHeartbeats 40000000 in
theorem gb0_1 (l : Launch) (Z : State) (a0 : Array Value) (hw : ∀ d ∈ tables_1, d.before a0 Z = true) (va : Addr) (kv : ClassId) (a : Addr) (b : Addr) (kb : ClassId) (cs : Int32) (q0 : Int32) (h : Heap) (n0 : Nat) (p0_ : Old Z n0 h) (p1_ : Sta Z Z.heap "java/lang/String" "COMPACT_STRINGS" "Z" (.int cs)) (hcs : ¬ cs = (0 : Int32)) (p3_ : Exa Z h a "java/lang/String") (p4_ : Fld Z h a "java/lang/String" "value" "[B" (.ref b)) (p5_ : Fld Z h a "java/lang/String" "coder" "B" (.int (0 : Int32))) (p6_ : Ary Z h b kb .byte [(.int q0)]) (p7_ : Ary Z h va kv .byte [(.int (0 : Int32)), (.int (0 : Int32)), (.int (0 : Int32)), (.int (0 : Int32)), (.int (0 : Int32)), (.int (0 : Int32)), (.int (0 : Int32)), (.int (0 : Int32)), (.int (0 : Int32)), (.int (0 : Int32)), (.int (0 : Int32)), (.int (0 : Int32)), (.int (0 : Int32)), (.int (0 : Int32)), (.int (0 : Int32)), (.int (0 : Int32))]) (p8_ : n0 ≤ va) (hf_q0 : fits .byte (.int q0) = true) :
    Met l (⟨"java/lang/String", "getBytes", "([BIB)V"⟩ : MethodName) jdk_42_method_147_code 4 none [] ({ frames := 1, cells := 0, slots := 0, locals := 40 } : Room) #[(.ref a), (.ref va), (.int (0 : Int32)), (.int (0 : Int32))] Z h n0 (fun v h' => v = none ∧ Keep h h' [va] ∧ Ary Z h' va kv .byte [(.int q0), (.int (0 : Int32)), (.int (0 : Int32)), (.int (0 : Int32)), (.int (0 : Int32)), (.int (0 : Int32)), (.int (0 : Int32)), (.int (0 : Int32)), (.int (0 : Int32)), (.int (0 : Int32)), (.int (0 : Int32)), (.int (0 : Int32)), (.int (0 : Int32)), (.int (0 : Int32)), (.int (0 : Int32)), (.int (0 : Int32))]) := by
  refine Met.of (plainFor_of_name (by first | (simp [plainName, overriddenIn]; done) | decide +kernel)) ?_
  intro pP eE sS mM bB tT cC K
  refine Go.entry (ls := #[.val (.ref a), .val (.ref va), .val (.int (0 : Int32)), .val (.int (0 : Int32))]) (by first | (simp [argsToLocals, Value.category]; done) | rfl) ?_
  refine go_aloadN (q := 1) K dgb0_1_0 rfl rfl rfl ?_
  refine go_callV (q := 4) (W := 0) K (wd hw 96 rfl) (wd hw 97 rfl) (wd hw 99 rfl) (wd hw 98 rfl) (wd hw 5 rfl) (wd hw 100 rfl) (wd hw 94 rfl) rfl p3_ [] [] (strCoder l Z a0 hw _ _ _ n0 p0_ p1_ (by assumption) p5_) dgb0_1_1 (ps := []) (by decide +kernel) rfl rfl rfl (by decide) rfl (by decide) (by decide) (by decide) (by decide) rfl ?_
  rintro _ _ ⟨rfl, rfl⟩
  show Go pP l eE _ sS mM _ bB tT cC n0 _ h 0 0 (mkF mM 4 #[.val (.ref a), .val (.ref va), .val (.int (0 : Int32)), .val (.int (0 : Int32))] [(.int (0 : Int32))])
  refine go_iloadN (q := 5) K dgb0_1_4 rfl rfl ?_
  refine go_icmp (q := 28) (q' := 8) K dgb0_1_5 (by decide) rfl rfl (fun hn => cN_no hn (show (0 : Int32) = (0 : Int32) from (by decide))) (fun _ => ?_)
  refine go_aloadN (q := 9) K dgb0_1_8 rfl rfl rfl ?_
  refine go_getF (q := 12) K (wd hw 25 rfl) Via.refl p4_ dgb0_1_9 rfl ?_
  refine go_iconst (q := 13) K dgb0_1_12 (0 : Int32) rfl rfl ?_
  refine go_aloadN (q := 14) K dgb0_1_13 rfl rfl rfl ?_
  refine go_iloadN (q := 15) K dgb0_1_14 rfl rfl ?_
  refine go_iloadN (q := 16) K dgb0_1_15 rfl rfl ?_
  refine go_ishl (q := 17) K dgb0_1_16 rfl ?_
  refine go_eqI (y := (0 : Int32)) (by decide) ?_
  refine go_aloadN (q := 18) K dgb0_1_17 rfl rfl rfl ?_
  refine go_getF (q := 21) K (wd hw 25 rfl) Via.refl p4_ dgb0_1_18 rfl ?_
  refine go_arraylength (q := 22) (z := (1 : Int32)) K p6_ rfl dgb0_1_21 rfl ?_
  refine go_arraycopy (q := 25) (W := 0) (us := [(.int q0)]) (za := (1 : Int32)) (zb := (16 : Int32)) K (wd hw 124 rfl) (wd hw 127 rfl) (wd hw 125 rfl) (wd hw 126 rfl) p6_ p7_ (fitsS hf_q0 fits0) (fitsS (by decide) (fitsS (by decide) (fitsS (by decide) (fitsS (by decide) (fitsS (by decide) (fitsS (by decide) (fitsS (by decide) (fitsS (by decide) (fitsS (by decide) (fitsS (by decide) (fitsS (by decide) (fitsS (by decide) (fitsS (by decide) (fitsS (by decide) (fitsS (by decide) (fitsS (by decide) fits0)))))))))))))))) rfl (by decide) rfl (by decide) (by decide) (by decide) (by decide) (show 0 + 1 ≤ 1 from by decide) (show 0 + 1 ≤ 16 from by decide) rfl p8_ dgb0_1_22 rfl rfl (by decide) (by decide) rfl ?_
  intro h2 Kh2 Yh20
  have Yh2 : Ary Z h2 va kv .byte [(.int q0), (.int (0 : Int32)), (.int (0 : Int32)), (.int (0 : Int32)), (.int (0 : Int32)), (.int (0 : Int32)), (.int (0 : Int32)), (.int (0 : Int32)), (.int (0 : Int32)), (.int (0 : Int32)), (.int (0 : Int32)), (.int (0 : Int32)), (.int (0 : Int32)), (.int (0 : Int32)), (.int (0 : Int32)), (.int (0 : Int32))] := Yh20
  refine go_goto (q := 43) K dgb0_1_25 (by decide) rfl ?_
  refine go_return K dgb0_1_43 rfl (by decide) (by decide) ?_
  have f1 := ((Keep.refl h [va]).trans Kh2 (allS (Or.inl (by simp)) all0))
  exact ⟨rfl, f1, Yh2⟩
theorem dput0_1_0 : decode jdk_68_method_73_code 0 = .ok (.aload_n 0, 1) := by decide +kernel
theorem dput0_1_1 : decode jdk_68_method_73_code 1 = .ok (.aload_n 2, 1) := by decide +kernel
theorem dput0_1_2 : decode jdk_68_method_73_code 2 = .ok (.invokevirtual 397, 3) := by decide +kernel
theorem dput0_1_5 : decode jdk_68_method_73_code 5 = .ok (.aload_n 2, 1) := by decide +kernel
theorem dput0_1_6 : decode jdk_68_method_73_code 6 = .ok (.aload_n 0, 1) := by decide +kernel
theorem dput0_1_7 : decode jdk_68_method_73_code 7 = .ok (.getfield 15, 3) := by decide +kernel
theorem dput0_1_10 : decode jdk_68_method_73_code 10 = .ok (.iload_n 1, 1) := by decide +kernel
theorem dput0_1_11 : decode jdk_68_method_73_code 11 = .ok (.aload_n 0, 1) := by decide +kernel
theorem dput0_1_12 : decode jdk_68_method_73_code 12 = .ok (.getfield 22, 3) := by decide +kernel
theorem dput0_1_15 : decode jdk_68_method_73_code 15 = .ok (.invokevirtual 399, 3) := by decide +kernel
theorem dput0_1_18 : decode jdk_68_method_73_code 18 = .ok (.return_, 1) := by decide +kernel
set_option maxRecDepth 65536 in
set_option maxHeartbeats 40000000 in
theorem put0_1 (l : Launch) (Z : State) (a0 : Array Value) (hw : ∀ d ∈ tables_1, d.before a0 Z = true) (t : Addr) (va : Addr) (kv : ClassId) (a : Addr) (b : Addr) (kb : ClassId) (cs : Int32) (q0 : Int32) (h : Heap) (n0 : Nat) (p0_ : Old Z n0 h) (p1_ : Sta Z Z.heap "java/lang/String" "COMPACT_STRINGS" "Z" (.int cs)) (hcs : ¬ cs = (0 : Int32)) (p3_ : Exa Z h t "java/lang/StringBuilder") (p4_ : Fld Z h t "java/lang/AbstractStringBuilder" "value" "[B" (.ref va)) (p5_ : Fld Z h t "java/lang/AbstractStringBuilder" "coder" "B" (.int (0 : Int32))) (p6_ : Exa Z h a "java/lang/String") (p7_ : Fld Z h a "java/lang/String" "value" "[B" (.ref b)) (p8_ : Fld Z h a "java/lang/String" "coder" "B" (.int (0 : Int32))) (p9_ : Ary Z h b kb .byte [(.int q0)]) (p10_ : Ary Z h va kv .byte [(.int (0 : Int32)), (.int (0 : Int32)), (.int (0 : Int32)), (.int (0 : Int32)), (.int (0 : Int32)), (.int (0 : Int32)), (.int (0 : Int32)), (.int (0 : Int32)), (.int (0 : Int32)), (.int (0 : Int32)), (.int (0 : Int32)), (.int (0 : Int32)), (.int (0 : Int32)), (.int (0 : Int32)), (.int (0 : Int32)), (.int (0 : Int32))]) (p11_ : n0 ≤ va) (hf_q0 : fits .byte (.int q0) = true) :
    Met l (⟨"java/lang/AbstractStringBuilder", "putStringAt", "(ILjava/lang/String;)V"⟩ : MethodName) jdk_68_method_73_code 3 none [] ({ frames := 2, cells := 0, slots := 0, locals := 60 } : Room) #[(.ref t), (.int (0 : Int32)), (.ref a)] Z h n0 (fun v h' => v = none ∧ Keep h h' [va] ∧ Ary Z h' va kv .byte [(.int q0), (.int (0 : Int32)), (.int (0 : Int32)), (.int (0 : Int32)), (.int (0 : Int32)), (.int (0 : Int32)), (.int (0 : Int32)), (.int (0 : Int32)), (.int (0 : Int32)), (.int (0 : Int32)), (.int (0 : Int32)), (.int (0 : Int32)), (.int (0 : Int32)), (.int (0 : Int32)), (.int (0 : Int32)), (.int (0 : Int32))]) := by
  refine Met.of (plainFor_of_name (by first | (simp [plainName, overriddenIn]; done) | decide +kernel)) ?_
  intro pP eE sS mM bB tT cC K
  refine Go.entry (ls := #[.val (.ref t), .val (.int (0 : Int32)), .val (.ref a)]) (by first | (simp [argsToLocals, Value.category]; done) | rfl) ?_
  refine go_aloadN (q := 1) K dput0_1_0 rfl rfl rfl ?_
  refine go_aloadN (q := 2) K dput0_1_1 rfl rfl rfl ?_
  refine go_callP (q := 5) (W := 0) K (wd hw 113 rfl) (wd hw 115 rfl) (wd hw 106 rfl) rfl (wd hw 114 rfl) (wd hw 73 rfl) (wd hw 117 rfl) p3_ [(.ref a)] [] (inflate l Z a0 hw _ _ _ _ n0 p0_ p1_ (by assumption) p5_ p6_ p8_) dput0_1_2 (ps := [(.object "java/lang/String")]) (by decide +kernel) rfl rfl rfl (by decide) rfl (by decide) (by decide) (by decide) (by decide) rfl ?_
  rintro _ _ ⟨rfl, rfl⟩
  show Go pP l eE _ sS mM _ bB tT cC n0 _ h 0 0 (mkF mM 5 #[.val (.ref t), .val (.int (0 : Int32)), .val (.ref a)] [])
  refine go_aloadN (q := 6) K dput0_1_5 rfl rfl rfl ?_
  refine go_aloadN (q := 7) K dput0_1_6 rfl rfl rfl ?_
  refine go_getF (q := 10) K (wd hw 77 rfl) Via.refl p4_ dput0_1_7 rfl ?_
  refine go_iloadN (q := 11) K dput0_1_10 rfl rfl ?_
  refine go_aloadN (q := 12) K dput0_1_11 rfl rfl rfl ?_
  refine go_getF (q := 15) K (wd hw 79 rfl) Via.refl p5_ dput0_1_12 rfl ?_
  refine go_callV (q := 18) (W := 0) K (wd hw 119 rfl) (wd hw 120 rfl) (wd hw 122 rfl) (wd hw 121 rfl) (wd hw 5 rfl) (wd hw 123 rfl) (wd hw 94 rfl) rfl p6_ [(.ref va), (.int (0 : Int32)), (.int (0 : Int32))] [] (gb0_1 l Z a0 hw _ _ _ _ _ _ _ _ n0 p0_ p1_ (by assumption) p6_ p7_ p8_ p9_ p10_ p11_ (by assumption)) dput0_1_15 (ps := [(.array .byte), .int, .byte]) (by decide +kernel) rfl rfl rfl (by decide) rfl (by decide) (by decide) (by decide) (by decide) rfl ?_
  rintro _ h2 ⟨rfl, Kh2, q0h2⟩
  show Go pP l eE _ sS mM _ bB tT cC n0 _ h2 0 0 (mkF mM 18 #[.val (.ref t), .val (.int (0 : Int32)), .val (.ref a)] [])
  refine go_return K dput0_1_18 rfl (by decide) (by decide) ?_
  have f1 := ((Keep.refl h [va]).trans Kh2 (allS (Or.inl (by simp)) all0))
  exact ⟨rfl, f1, q0h2⟩
theorem daapp0_1_0 : decode jdk_68_method_22_code 0 = .ok (.aload_n 1, 1) := by decide +kernel
theorem daapp0_1_1 : decode jdk_68_method_22_code 1 = .ok (.ifnonnull 8, 3) := by decide +kernel
theorem daapp0_1_4 : decode jdk_68_method_22_code 4 = .ok (.aload_n 0, 1) := by decide +kernel
theorem daapp0_1_5 : decode jdk_68_method_22_code 5 = .ok (.invokevirtual 204, 3) := by decide +kernel
theorem daapp0_1_8 : decode jdk_68_method_22_code 8 = .ok (.areturn, 1) := by decide +kernel
theorem daapp0_1_9 : decode jdk_68_method_22_code 9 = .ok (.aload_n 1, 1) := by decide +kernel
theorem daapp0_1_10 : decode jdk_68_method_22_code 10 = .ok (.invokevirtual 32, 3) := by decide +kernel
theorem daapp0_1_13 : decode jdk_68_method_22_code 13 = .ok (.istore_n 2, 1) := by decide +kernel
theorem daapp0_1_14 : decode jdk_68_method_22_code 14 = .ok (.aload_n 0, 1) := by decide +kernel
theorem daapp0_1_15 : decode jdk_68_method_22_code 15 = .ok (.aload_n 0, 1) := by decide +kernel
theorem daapp0_1_16 : decode jdk_68_method_22_code 16 = .ok (.getfield 79, 3) := by decide +kernel
theorem daapp0_1_19 : decode jdk_68_method_22_code 19 = .ok (.iload_n 2, 1) := by decide +kernel
theorem daapp0_1_20 : decode jdk_68_method_22_code 20 = .ok (.iadd, 1) := by decide +kernel
theorem daapp0_1_21 : decode jdk_68_method_22_code 21 = .ok (.invokevirtual 100, 3) := by decide +kernel
theorem daapp0_1_24 : decode jdk_68_method_22_code 24 = .ok (.aload_n 0, 1) := by decide +kernel
theorem daapp0_1_25 : decode jdk_68_method_22_code 25 = .ok (.aload_n 0, 1) := by decide +kernel
theorem daapp0_1_26 : decode jdk_68_method_22_code 26 = .ok (.getfield 79, 3) := by decide +kernel
theorem daapp0_1_29 : decode jdk_68_method_22_code 29 = .ok (.aload_n 1, 1) := by decide +kernel
theorem daapp0_1_30 : decode jdk_68_method_22_code 30 = .ok (.invokevirtual 208, 3) := by decide +kernel
theorem daapp0_1_33 : decode jdk_68_method_22_code 33 = .ok (.aload_n 0, 1) := by decide +kernel
theorem daapp0_1_34 : decode jdk_68_method_22_code 34 = .ok (.dup, 1) := by decide +kernel
theorem daapp0_1_35 : decode jdk_68_method_22_code 35 = .ok (.getfield 79, 3) := by decide +kernel
theorem daapp0_1_38 : decode jdk_68_method_22_code 38 = .ok (.iload_n 2, 1) := by decide +kernel
theorem daapp0_1_39 : decode jdk_68_method_22_code 39 = .ok (.iadd, 1) := by decide +kernel
theorem daapp0_1_40 : decode jdk_68_method_22_code 40 = .ok (.putfield 79, 3) := by decide +kernel
theorem daapp0_1_43 : decode jdk_68_method_22_code 43 = .ok (.aload_n 0, 1) := by decide +kernel
theorem daapp0_1_44 : decode jdk_68_method_22_code 44 = .ok (.areturn, 1) := by decide +kernel
set_option maxRecDepth 65536 in
set_option maxHeartbeats 40000000 in
theorem aapp0_1 (l : Launch) (Z : State) (a0 : Array Value) (hw : ∀ d ∈ tables_1, d.before a0 Z = true) (t : Addr) (va : Addr) (kv : ClassId) (a : Addr) (b : Addr) (kb : ClassId) (cs : Int32) (q0 : Int32) (h : Heap) (n0 : Nat) (p0_ : Old Z n0 h) (p1_ : Sta Z Z.heap "java/lang/String" "COMPACT_STRINGS" "Z" (.int cs)) (hcs : ¬ cs = (0 : Int32)) (p3_ : Exa Z h t "java/lang/StringBuilder") (p4_ : Fld Z h t "java/lang/AbstractStringBuilder" "value" "[B" (.ref va)) (p5_ : Fld Z h t "java/lang/AbstractStringBuilder" "coder" "B" (.int (0 : Int32))) (p6_ : Fld Z h t "java/lang/AbstractStringBuilder" "count" "I" (.int (0 : Int32))) (p7_ : Exa Z h a "java/lang/String") (p8_ : Fld Z h a "java/lang/String" "value" "[B" (.ref b)) (p9_ : Fld Z h a "java/lang/String" "coder" "B" (.int (0 : Int32))) (p10_ : Ary Z h b kb .byte [(.int q0)]) (p11_ : Ary Z h va kv .byte [(.int (0 : Int32)), (.int (0 : Int32)), (.int (0 : Int32)), (.int (0 : Int32)), (.int (0 : Int32)), (.int (0 : Int32)), (.int (0 : Int32)), (.int (0 : Int32)), (.int (0 : Int32)), (.int (0 : Int32)), (.int (0 : Int32)), (.int (0 : Int32)), (.int (0 : Int32)), (.int (0 : Int32)), (.int (0 : Int32)), (.int (0 : Int32))]) (p12_ : n0 ≤ t) (p13_ : n0 ≤ va) (p14_ : t ≠ va) (p15_ : t ≠ a) (p16_ : t ≠ b) (hf_q0 : fits .byte (.int q0) = true) :
    Met l (⟨"java/lang/AbstractStringBuilder", "append", "(Ljava/lang/String;)Ljava/lang/AbstractStringBuilder;"⟩ : MethodName) jdk_68_method_22_code 3 (some (.object "java/lang/AbstractStringBuilder")) [] ({ frames := 3, cells := 0, slots := 0, locals := 80 } : Room) #[(.ref t), (.ref a)] Z h n0 (fun v h' => v = some (.ref t) ∧ Keep h h' [t, va] ∧ Exa Z h' t "java/lang/StringBuilder" ∧ Fld Z h' t "java/lang/AbstractStringBuilder" "value" "[B" (.ref va) ∧ Fld Z h' t "java/lang/AbstractStringBuilder" "coder" "B" (.int (0 : Int32)) ∧ Fld Z h' t "java/lang/AbstractStringBuilder" "count" "I" (.int (1 : Int32)) ∧ Ary Z h' va kv .byte [(.int q0), (.int (0 : Int32)), (.int (0 : Int32)), (.int (0 : Int32)), (.int (0 : Int32)), (.int (0 : Int32)), (.int (0 : Int32)), (.int (0 : Int32)), (.int (0 : Int32)), (.int (0 : Int32)), (.int (0 : Int32)), (.int (0 : Int32)), (.int (0 : Int32)), (.int (0 : Int32)), (.int (0 : Int32)), (.int (0 : Int32))]) := by
  refine Met.of (plainFor_of_name (by first | (simp [plainName, overriddenIn]; done) | decide +kernel)) ?_
  intro pP eE sS mM bB tT cC K
  refine Go.entry (ls := #[.val (.ref t), .val (.ref a), .unset]) (by first | (simp [argsToLocals, Value.category]; done) | rfl) ?_
  refine go_aloadN (q := 1) K daapp0_1_0 rfl rfl rfl ?_
  refine go_ifnonnullY (q := 9) K daapp0_1_1 (by decide) rfl ?_
  refine go_aloadN (q := 10) K daapp0_1_9 rfl rfl rfl ?_
  refine go_callV (q := 13) (W := 0) K (wd hw 91 rfl) (wd hw 92 rfl) (wd hw 94 rfl) (wd hw 93 rfl) (wd hw 5 rfl) (wd hw 95 rfl) (wd hw 94 rfl) rfl p7_ [] [] (strLen l Z a0 hw _ _ _ _ _ _ _ n0 p0_ p1_ hcs p7_ p8_ p9_ p10_ rfl) daapp0_1_10 (ps := []) (by decide +kernel) rfl rfl rfl (by decide) rfl (by decide) (by decide) (by decide) (by decide) rfl ?_
  rintro _ _ ⟨rfl, rfl⟩
  show Go pP l eE _ sS mM _ bB tT cC n0 _ h 0 0 (mkF mM 13 #[.val (.ref t), .val (.ref a), .unset] [(.int (1 : Int32))])
  refine go_istoreN (q := 14) K daapp0_1_13 #[.val (.ref t), .val (.ref a), .val (.int (1 : Int32))] rfl rfl ?_
  refine go_aloadN (q := 15) K daapp0_1_14 rfl rfl rfl ?_
  refine go_aloadN (q := 16) K daapp0_1_15 rfl rfl rfl ?_
  refine go_getF (q := 19) K (wd hw 101 rfl) Via.refl p6_ daapp0_1_16 rfl ?_
  refine go_iloadN (q := 20) K daapp0_1_19 rfl rfl ?_
  refine go_iadd (q := 21) K daapp0_1_20 rfl ?_
  refine go_eqI (y := (1 : Int32)) (by decide) ?_
  refine go_callP (q := 24) (W := 0) K (wd hw 103 rfl) (wd hw 105 rfl) (wd hw 106 rfl) rfl (wd hw 104 rfl) (wd hw 73 rfl) (wd hw 107 rfl) p3_ [(.int (1 : Int32))] [] (ensCap l Z a0 hw _ _ _ _ _ _ n0 p4_ p5_ p11_ rfl (by decide)) daapp0_1_21 (ps := [.int]) (by decide +kernel) rfl rfl rfl (by decide) rfl (by decide) (by decide) (by decide) (by decide) rfl ?_
  rintro _ _ ⟨rfl, rfl⟩
  show Go pP l eE _ sS mM _ bB tT cC n0 _ h 0 0 (mkF mM 24 #[.val (.ref t), .val (.ref a), .val (.int (1 : Int32))] [])
  refine go_aloadN (q := 25) K daapp0_1_24 rfl rfl rfl ?_
  refine go_aloadN (q := 26) K daapp0_1_25 rfl rfl rfl ?_
  refine go_getF (q := 29) K (wd hw 101 rfl) Via.refl p6_ daapp0_1_26 rfl ?_
  refine go_aloadN (q := 30) K daapp0_1_29 rfl rfl rfl ?_
  refine go_callP (q := 33) (W := 0) K (wd hw 108 rfl) (wd hw 110 rfl) (wd hw 106 rfl) rfl (wd hw 109 rfl) (wd hw 73 rfl) (wd hw 112 rfl) p3_ [(.int (0 : Int32)), (.ref a)] [] (put0_1 l Z a0 hw _ _ _ _ _ _ _ _ _ n0 p0_ p1_ (by assumption) p3_ p4_ p5_ p7_ p8_ p9_ p10_ p11_ p13_ (by assumption)) daapp0_1_30 (ps := [.int, (.object "java/lang/String")]) (by decide +kernel) rfl rfl rfl (by decide) rfl (by decide) (by decide) (by decide) (by decide) rfl ?_
  rintro _ h3 ⟨rfl, Kh3, q0h3⟩
  show Go pP l eE _ sS mM _ bB tT cC n0 _ h3 0 0 (mkF mM 33 #[.val (.ref t), .val (.ref a), .val (.int (1 : Int32))] [])
  refine go_aloadN (q := 34) K daapp0_1_33 rfl rfl rfl ?_
  refine go_dup (q := 35) K daapp0_1_34 rfl rfl ?_
  have f1 := (p6_.keep Kh3 (ninS p14_ nin0))
  refine go_getF (q := 38) K (wd hw 101 rfl) Via.refl f1 daapp0_1_35 rfl ?_
  refine go_iloadN (q := 39) K daapp0_1_38 rfl rfl ?_
  refine go_iadd (q := 40) K daapp0_1_39 rfl ?_
  refine go_eqI (y := (1 : Int32)) (by decide) ?_
  have f2 := (p3_.keep Kh3)
  refine go_putF (q := 43) K (wd hw 101 rfl) Via.refl f1 f2 (Or.inl (wd hw 102 rfl)) (wd hw 64 rfl) (ty := .int) (by decide +kernel) rfl rfl p12_ daapp0_1_40 rfl ?_
  intro h4 Wh4
  refine go_aloadN (q := 44) K daapp0_1_43 rfl rfl rfl ?_
  refine go_aret K daapp0_1_44 rfl rfl rfl rfl (by decide) (by decide) ?_
  have f3 := (((Keep.refl h [t, va]).trans Kh3 (allS (Or.inl (by simp)) all0)).wr Wh4 (Or.inl (by simp)))
  have f4 := (f2.wr Wh4)
  have f5 := ((p4_.keep Kh3 (ninS p14_ nin0)).other Wh4 (Or.inr (slot_ne (C := "java/lang/StringBuilder") (Or.inl (wd hw 78 rfl)) (Or.inl (wd hw 102 rfl)) (by decide) (t := (.array .byte)) (t' := .int) (by decide +kernel) (by decide +kernel))))
  have f6 := ((p5_.keep Kh3 (ninS p14_ nin0)).other Wh4 (Or.inr (slot_ne (C := "java/lang/StringBuilder") (Or.inl (wd hw 80 rfl)) (Or.inl (wd hw 102 rfl)) (by decide) (t := .byte) (t' := .int) (by decide +kernel) (by decide +kernel))))
  have f7 := (q0h3.other Wh4 (p14_).symm)
  exact ⟨rfl, f3, f4, f5, f6, (f1.same Wh4), f7⟩
theorem dapp0_1_0 : decode jdk_67_method_7_code 0 = .ok (.aload_n 0, 1) := by decide +kernel
theorem dapp0_1_1 : decode jdk_67_method_7_code 1 = .ok (.aload_n 1, 1) := by decide +kernel
theorem dapp0_1_2 : decode jdk_67_method_7_code 2 = .ok (.invokespecial 29, 3) := by decide +kernel
theorem dapp0_1_5 : decode jdk_67_method_7_code 5 = .ok (.pop, 1) := by decide +kernel
theorem dapp0_1_6 : decode jdk_67_method_7_code 6 = .ok (.aload_n 0, 1) := by decide +kernel
theorem dapp0_1_7 : decode jdk_67_method_7_code 7 = .ok (.areturn, 1) := by decide +kernel
set_option maxRecDepth 65536 in
set_option maxHeartbeats 40000000 in
theorem app0_1 (l : Launch) (Z : State) (a0 : Array Value) (hw : ∀ d ∈ tables_1, d.before a0 Z = true) (t : Addr) (va : Addr) (kv : ClassId) (a : Addr) (b : Addr) (kb : ClassId) (cs : Int32) (q0 : Int32) (h : Heap) (n0 : Nat) (p0_ : Old Z n0 h) (p1_ : Sta Z Z.heap "java/lang/String" "COMPACT_STRINGS" "Z" (.int cs)) (hcs : ¬ cs = (0 : Int32)) (p3_ : Exa Z h t "java/lang/StringBuilder") (p4_ : Fld Z h t "java/lang/AbstractStringBuilder" "value" "[B" (.ref va)) (p5_ : Fld Z h t "java/lang/AbstractStringBuilder" "coder" "B" (.int (0 : Int32))) (p6_ : Fld Z h t "java/lang/AbstractStringBuilder" "count" "I" (.int (0 : Int32))) (p7_ : Exa Z h a "java/lang/String") (p8_ : Fld Z h a "java/lang/String" "value" "[B" (.ref b)) (p9_ : Fld Z h a "java/lang/String" "coder" "B" (.int (0 : Int32))) (p10_ : Ary Z h b kb .byte [(.int q0)]) (p11_ : Ary Z h va kv .byte [(.int (0 : Int32)), (.int (0 : Int32)), (.int (0 : Int32)), (.int (0 : Int32)), (.int (0 : Int32)), (.int (0 : Int32)), (.int (0 : Int32)), (.int (0 : Int32)), (.int (0 : Int32)), (.int (0 : Int32)), (.int (0 : Int32)), (.int (0 : Int32)), (.int (0 : Int32)), (.int (0 : Int32)), (.int (0 : Int32)), (.int (0 : Int32))]) (p12_ : n0 ≤ t) (p13_ : n0 ≤ va) (p14_ : t ≠ va) (p15_ : t ≠ a) (p16_ : t ≠ b) (hf_q0 : fits .byte (.int q0) = true) :
    Met l (⟨"java/lang/StringBuilder", "append", "(Ljava/lang/String;)Ljava/lang/StringBuilder;"⟩ : MethodName) jdk_67_method_7_code 2 (some (.object "java/lang/StringBuilder")) [] ({ frames := 4, cells := 0, slots := 0, locals := 96 } : Room) #[(.ref t), (.ref a)] Z h n0 (fun v h' => v = some (.ref t) ∧ Keep h h' [t, va] ∧ Exa Z h' t "java/lang/StringBuilder" ∧ Fld Z h' t "java/lang/AbstractStringBuilder" "value" "[B" (.ref va) ∧ Fld Z h' t "java/lang/AbstractStringBuilder" "coder" "B" (.int (0 : Int32)) ∧ Fld Z h' t "java/lang/AbstractStringBuilder" "count" "I" (.int (1 : Int32)) ∧ Ary Z h' va kv .byte [(.int q0), (.int (0 : Int32)), (.int (0 : Int32)), (.int (0 : Int32)), (.int (0 : Int32)), (.int (0 : Int32)), (.int (0 : Int32)), (.int (0 : Int32)), (.int (0 : Int32)), (.int (0 : Int32)), (.int (0 : Int32)), (.int (0 : Int32)), (.int (0 : Int32)), (.int (0 : Int32)), (.int (0 : Int32)), (.int (0 : Int32))]) := by
  refine Met.of (plainFor_of_name (by first | (simp [plainName, overriddenIn]; done) | decide +kernel)) ?_
  intro pP eE sS mM bB tT cC K
  refine Go.entry (ls := #[.val (.ref t), .val (.ref a)]) (by first | (simp [argsToLocals, Value.category]; done) | rfl) ?_
  refine go_aloadN (q := 1) K dapp0_1_0 rfl rfl rfl ?_
  refine go_aloadN (q := 2) K dapp0_1_1 rfl rfl rfl ?_
  refine go_callT (q := 5) (W := 0) K (wd hw 86 rfl) (wd hw 87 rfl) (wd hw 88 rfl) (wd hw 73 rfl) (wd hw 90 rfl) (wd hw 106 rfl) rfl (by decide) p3_ [(.ref a)] [] (aapp0_1 l Z a0 hw _ _ _ _ _ _ _ _ _ n0 p0_ p1_ (by assumption) p3_ p4_ p5_ p6_ p7_ p8_ p9_ p10_ p11_ p12_ p13_ p14_ p15_ p16_ (by assumption)) dapp0_1_2 (ps := [(.object "java/lang/String")]) (by decide +kernel) rfl rfl rfl (by decide) rfl (by decide) (by decide) (by decide) (by decide) rfl ?_
  rintro _ h1 ⟨rfl, Kh1, q0h1, q1h1, q2h1, q3h1, q4h1⟩
  show Go pP l eE _ sS mM _ bB tT cC n0 _ h1 0 0 (mkF mM 5 #[.val (.ref t), .val (.ref a)] [(.ref t)])
  refine go_pop (q := 6) K dapp0_1_5 rfl rfl ?_
  refine go_aloadN (q := 7) K dapp0_1_6 rfl rfl rfl ?_
  refine go_aret K dapp0_1_7 rfl rfl rfl rfl (by decide) (by decide) ?_
  have f1 := ((Keep.refl h [t, va]).trans Kh1 (allS (Or.inl (by simp)) (allS (Or.inl (by simp)) all0)))
  exact ⟨rfl, f1, q0h1, q1h1, q2h1, q3h1, q4h1⟩
set_option maxRecDepth 65536 in
set_option maxHeartbeats 40000000 in
theorem gb1_2 (l : Launch) (Z : State) (a0 : Array Value) (hw : ∀ d ∈ tables_1, d.before a0 Z = true) (va : Addr) (kv : ClassId) (a : Addr) (b : Addr) (kb : ClassId) (cs : Int32) (p0 : Int32) (q0 : Int32) (q1 : Int32) (h : Heap) (n0 : Nat) (p0_ : Old Z n0 h) (p1_ : Sta Z Z.heap "java/lang/String" "COMPACT_STRINGS" "Z" (.int cs)) (hcs : ¬ cs = (0 : Int32)) (p3_ : Exa Z h a "java/lang/String") (p4_ : Fld Z h a "java/lang/String" "value" "[B" (.ref b)) (p5_ : Fld Z h a "java/lang/String" "coder" "B" (.int (0 : Int32))) (p6_ : Ary Z h b kb .byte [(.int q0), (.int q1)]) (p7_ : Ary Z h va kv .byte [(.int p0), (.int (0 : Int32)), (.int (0 : Int32)), (.int (0 : Int32)), (.int (0 : Int32)), (.int (0 : Int32)), (.int (0 : Int32)), (.int (0 : Int32)), (.int (0 : Int32)), (.int (0 : Int32)), (.int (0 : Int32)), (.int (0 : Int32)), (.int (0 : Int32)), (.int (0 : Int32)), (.int (0 : Int32)), (.int (0 : Int32))]) (p8_ : n0 ≤ va) (hf_p0 : fits .byte (.int p0) = true) (hf_q0 : fits .byte (.int q0) = true) (hf_q1 : fits .byte (.int q1) = true) :
    Met l (⟨"java/lang/String", "getBytes", "([BIB)V"⟩ : MethodName) jdk_42_method_147_code 4 none [] ({ frames := 1, cells := 0, slots := 0, locals := 40 } : Room) #[(.ref a), (.ref va), (.int (1 : Int32)), (.int (0 : Int32))] Z h n0 (fun v h' => v = none ∧ Keep h h' [va] ∧ Ary Z h' va kv .byte [(.int p0), (.int q0), (.int q1), (.int (0 : Int32)), (.int (0 : Int32)), (.int (0 : Int32)), (.int (0 : Int32)), (.int (0 : Int32)), (.int (0 : Int32)), (.int (0 : Int32)), (.int (0 : Int32)), (.int (0 : Int32)), (.int (0 : Int32)), (.int (0 : Int32)), (.int (0 : Int32)), (.int (0 : Int32))]) := by
  refine Met.of (plainFor_of_name (by first | (simp [plainName, overriddenIn]; done) | decide +kernel)) ?_
  intro pP eE sS mM bB tT cC K
  refine Go.entry (ls := #[.val (.ref a), .val (.ref va), .val (.int (1 : Int32)), .val (.int (0 : Int32))]) (by first | (simp [argsToLocals, Value.category]; done) | rfl) ?_
  refine go_aloadN (q := 1) K dgb0_1_0 rfl rfl rfl ?_
  refine go_callV (q := 4) (W := 0) K (wd hw 96 rfl) (wd hw 97 rfl) (wd hw 99 rfl) (wd hw 98 rfl) (wd hw 5 rfl) (wd hw 100 rfl) (wd hw 94 rfl) rfl p3_ [] [] (strCoder l Z a0 hw _ _ _ n0 p0_ p1_ (by assumption) p5_) dgb0_1_1 (ps := []) (by decide +kernel) rfl rfl rfl (by decide) rfl (by decide) (by decide) (by decide) (by decide) rfl ?_
  rintro _ _ ⟨rfl, rfl⟩
  show Go pP l eE _ sS mM _ bB tT cC n0 _ h 0 0 (mkF mM 4 #[.val (.ref a), .val (.ref va), .val (.int (1 : Int32)), .val (.int (0 : Int32))] [(.int (0 : Int32))])
  refine go_iloadN (q := 5) K dgb0_1_4 rfl rfl ?_
  refine go_icmp (q := 28) (q' := 8) K dgb0_1_5 (by decide) rfl rfl (fun hn => cN_no hn (show (0 : Int32) = (0 : Int32) from (by decide))) (fun _ => ?_)
  refine go_aloadN (q := 9) K dgb0_1_8 rfl rfl rfl ?_
  refine go_getF (q := 12) K (wd hw 25 rfl) Via.refl p4_ dgb0_1_9 rfl ?_
  refine go_iconst (q := 13) K dgb0_1_12 (0 : Int32) rfl rfl ?_
  refine go_aloadN (q := 14) K dgb0_1_13 rfl rfl rfl ?_
  refine go_iloadN (q := 15) K dgb0_1_14 rfl rfl ?_
  refine go_iloadN (q := 16) K dgb0_1_15 rfl rfl ?_
  refine go_ishl (q := 17) K dgb0_1_16 rfl ?_
  refine go_eqI (y := (1 : Int32)) (by decide) ?_
  refine go_aloadN (q := 18) K dgb0_1_17 rfl rfl rfl ?_
  refine go_getF (q := 21) K (wd hw 25 rfl) Via.refl p4_ dgb0_1_18 rfl ?_
  refine go_arraylength (q := 22) (z := (2 : Int32)) K p6_ rfl dgb0_1_21 rfl ?_
  refine go_arraycopy (q := 25) (W := 0) (us := [(.int q0), (.int q1)]) (za := (2 : Int32)) (zb := (16 : Int32)) K (wd hw 124 rfl) (wd hw 127 rfl) (wd hw 125 rfl) (wd hw 126 rfl) p6_ p7_ (fitsS hf_q0 (fitsS hf_q1 fits0)) (fitsS hf_p0 (fitsS (by decide) (fitsS (by decide) (fitsS (by decide) (fitsS (by decide) (fitsS (by decide) (fitsS (by decide) (fitsS (by decide) (fitsS (by decide) (fitsS (by decide) (fitsS (by decide) (fitsS (by decide) (fitsS (by decide) (fitsS (by decide) (fitsS (by decide) (fitsS (by decide) fits0)))))))))))))))) rfl (by decide) rfl (by decide) (by decide) (by decide) (by decide) (show 0 + 2 ≤ 2 from by decide) (show 1 + 2 ≤ 16 from by decide) rfl p8_ dgb0_1_22 rfl rfl (by decide) (by decide) rfl ?_
  intro h2 Kh2 Yh20
  have Yh2 : Ary Z h2 va kv .byte [(.int p0), (.int q0), (.int q1), (.int (0 : Int32)), (.int (0 : Int32)), (.int (0 : Int32)), (.int (0 : Int32)), (.int (0 : Int32)), (.int (0 : Int32)), (.int (0 : Int32)), (.int (0 : Int32)), (.int (0 : Int32)), (.int (0 : Int32)), (.int (0 : Int32)), (.int (0 : Int32)), (.int (0 : Int32))] := Yh20
  refine go_goto (q := 43) K dgb0_1_25 (by decide) rfl ?_
  refine go_return K dgb0_1_43 rfl (by decide) (by decide) ?_
  have f1 := ((Keep.refl h [va]).trans Kh2 (allS (Or.inl (by simp)) all0))
  exact ⟨rfl, f1, Yh2⟩
set_option maxRecDepth 65536 in
set_option maxHeartbeats 40000000 in
theorem put1_2 (l : Launch) (Z : State) (a0 : Array Value) (hw : ∀ d ∈ tables_1, d.before a0 Z = true) (t : Addr) (va : Addr) (kv : ClassId) (a : Addr) (b : Addr) (kb : ClassId) (cs : Int32) (p0 : Int32) (q0 : Int32) (q1 : Int32) (h : Heap) (n0 : Nat) (p0_ : Old Z n0 h) (p1_ : Sta Z Z.heap "java/lang/String" "COMPACT_STRINGS" "Z" (.int cs)) (hcs : ¬ cs = (0 : Int32)) (p3_ : Exa Z h t "java/lang/StringBuilder") (p4_ : Fld Z h t "java/lang/AbstractStringBuilder" "value" "[B" (.ref va)) (p5_ : Fld Z h t "java/lang/AbstractStringBuilder" "coder" "B" (.int (0 : Int32))) (p6_ : Exa Z h a "java/lang/String") (p7_ : Fld Z h a "java/lang/String" "value" "[B" (.ref b)) (p8_ : Fld Z h a "java/lang/String" "coder" "B" (.int (0 : Int32))) (p9_ : Ary Z h b kb .byte [(.int q0), (.int q1)]) (p10_ : Ary Z h va kv .byte [(.int p0), (.int (0 : Int32)), (.int (0 : Int32)), (.int (0 : Int32)), (.int (0 : Int32)), (.int (0 : Int32)), (.int (0 : Int32)), (.int (0 : Int32)), (.int (0 : Int32)), (.int (0 : Int32)), (.int (0 : Int32)), (.int (0 : Int32)), (.int (0 : Int32)), (.int (0 : Int32)), (.int (0 : Int32)), (.int (0 : Int32))]) (p11_ : n0 ≤ va) (hf_p0 : fits .byte (.int p0) = true) (hf_q0 : fits .byte (.int q0) = true) (hf_q1 : fits .byte (.int q1) = true) :
    Met l (⟨"java/lang/AbstractStringBuilder", "putStringAt", "(ILjava/lang/String;)V"⟩ : MethodName) jdk_68_method_73_code 3 none [] ({ frames := 2, cells := 0, slots := 0, locals := 60 } : Room) #[(.ref t), (.int (1 : Int32)), (.ref a)] Z h n0 (fun v h' => v = none ∧ Keep h h' [va] ∧ Ary Z h' va kv .byte [(.int p0), (.int q0), (.int q1), (.int (0 : Int32)), (.int (0 : Int32)), (.int (0 : Int32)), (.int (0 : Int32)), (.int (0 : Int32)), (.int (0 : Int32)), (.int (0 : Int32)), (.int (0 : Int32)), (.int (0 : Int32)), (.int (0 : Int32)), (.int (0 : Int32)), (.int (0 : Int32)), (.int (0 : Int32))]) := by
  refine Met.of (plainFor_of_name (by first | (simp [plainName, overriddenIn]; done) | decide +kernel)) ?_
  intro pP eE sS mM bB tT cC K
  refine Go.entry (ls := #[.val (.ref t), .val (.int (1 : Int32)), .val (.ref a)]) (by first | (simp [argsToLocals, Value.category]; done) | rfl) ?_
  refine go_aloadN (q := 1) K dput0_1_0 rfl rfl rfl ?_
  refine go_aloadN (q := 2) K dput0_1_1 rfl rfl rfl ?_
  refine go_callP (q := 5) (W := 0) K (wd hw 113 rfl) (wd hw 115 rfl) (wd hw 106 rfl) rfl (wd hw 114 rfl) (wd hw 73 rfl) (wd hw 117 rfl) p3_ [(.ref a)] [] (inflate l Z a0 hw _ _ _ _ n0 p0_ p1_ (by assumption) p5_ p6_ p8_) dput0_1_2 (ps := [(.object "java/lang/String")]) (by decide +kernel) rfl rfl rfl (by decide) rfl (by decide) (by decide) (by decide) (by decide) rfl ?_
  rintro _ _ ⟨rfl, rfl⟩
  show Go pP l eE _ sS mM _ bB tT cC n0 _ h 0 0 (mkF mM 5 #[.val (.ref t), .val (.int (1 : Int32)), .val (.ref a)] [])
  refine go_aloadN (q := 6) K dput0_1_5 rfl rfl rfl ?_
  refine go_aloadN (q := 7) K dput0_1_6 rfl rfl rfl ?_
  refine go_getF (q := 10) K (wd hw 77 rfl) Via.refl p4_ dput0_1_7 rfl ?_
  refine go_iloadN (q := 11) K dput0_1_10 rfl rfl ?_
  refine go_aloadN (q := 12) K dput0_1_11 rfl rfl rfl ?_
  refine go_getF (q := 15) K (wd hw 79 rfl) Via.refl p5_ dput0_1_12 rfl ?_
  refine go_callV (q := 18) (W := 0) K (wd hw 119 rfl) (wd hw 120 rfl) (wd hw 122 rfl) (wd hw 121 rfl) (wd hw 5 rfl) (wd hw 123 rfl) (wd hw 94 rfl) rfl p6_ [(.ref va), (.int (1 : Int32)), (.int (0 : Int32))] [] (gb1_2 l Z a0 hw _ _ _ _ _ _ _ _ _ _ n0 p0_ p1_ (by assumption) p6_ p7_ p8_ p9_ p10_ p11_ (by assumption) (by assumption) (by assumption)) dput0_1_15 (ps := [(.array .byte), .int, .byte]) (by decide +kernel) rfl rfl rfl (by decide) rfl (by decide) (by decide) (by decide) (by decide) rfl ?_
  rintro _ h2 ⟨rfl, Kh2, q0h2⟩
  show Go pP l eE _ sS mM _ bB tT cC n0 _ h2 0 0 (mkF mM 18 #[.val (.ref t), .val (.int (1 : Int32)), .val (.ref a)] [])
  refine go_return K dput0_1_18 rfl (by decide) (by decide) ?_
  have f1 := ((Keep.refl h [va]).trans Kh2 (allS (Or.inl (by simp)) all0))
  exact ⟨rfl, f1, q0h2⟩
set_option maxRecDepth 65536 in
set_option maxHeartbeats 40000000 in
theorem aapp1_2 (l : Launch) (Z : State) (a0 : Array Value) (hw : ∀ d ∈ tables_1, d.before a0 Z = true) (t : Addr) (va : Addr) (kv : ClassId) (a : Addr) (b : Addr) (kb : ClassId) (cs : Int32) (p0 : Int32) (q0 : Int32) (q1 : Int32) (h : Heap) (n0 : Nat) (p0_ : Old Z n0 h) (p1_ : Sta Z Z.heap "java/lang/String" "COMPACT_STRINGS" "Z" (.int cs)) (hcs : ¬ cs = (0 : Int32)) (p3_ : Exa Z h t "java/lang/StringBuilder") (p4_ : Fld Z h t "java/lang/AbstractStringBuilder" "value" "[B" (.ref va)) (p5_ : Fld Z h t "java/lang/AbstractStringBuilder" "coder" "B" (.int (0 : Int32))) (p6_ : Fld Z h t "java/lang/AbstractStringBuilder" "count" "I" (.int (1 : Int32))) (p7_ : Exa Z h a "java/lang/String") (p8_ : Fld Z h a "java/lang/String" "value" "[B" (.ref b)) (p9_ : Fld Z h a "java/lang/String" "coder" "B" (.int (0 : Int32))) (p10_ : Ary Z h b kb .byte [(.int q0), (.int q1)]) (p11_ : Ary Z h va kv .byte [(.int p0), (.int (0 : Int32)), (.int (0 : Int32)), (.int (0 : Int32)), (.int (0 : Int32)), (.int (0 : Int32)), (.int (0 : Int32)), (.int (0 : Int32)), (.int (0 : Int32)), (.int (0 : Int32)), (.int (0 : Int32)), (.int (0 : Int32)), (.int (0 : Int32)), (.int (0 : Int32)), (.int (0 : Int32)), (.int (0 : Int32))]) (p12_ : n0 ≤ t) (p13_ : n0 ≤ va) (p14_ : t ≠ va) (p15_ : t ≠ a) (p16_ : t ≠ b) (hf_p0 : fits .byte (.int p0) = true) (hf_q0 : fits .byte (.int q0) = true) (hf_q1 : fits .byte (.int q1) = true) :
    Met l (⟨"java/lang/AbstractStringBuilder", "append", "(Ljava/lang/String;)Ljava/lang/AbstractStringBuilder;"⟩ : MethodName) jdk_68_method_22_code 3 (some (.object "java/lang/AbstractStringBuilder")) [] ({ frames := 3, cells := 0, slots := 0, locals := 80 } : Room) #[(.ref t), (.ref a)] Z h n0 (fun v h' => v = some (.ref t) ∧ Keep h h' [t, va] ∧ Exa Z h' t "java/lang/StringBuilder" ∧ Fld Z h' t "java/lang/AbstractStringBuilder" "value" "[B" (.ref va) ∧ Fld Z h' t "java/lang/AbstractStringBuilder" "coder" "B" (.int (0 : Int32)) ∧ Fld Z h' t "java/lang/AbstractStringBuilder" "count" "I" (.int (3 : Int32)) ∧ Ary Z h' va kv .byte [(.int p0), (.int q0), (.int q1), (.int (0 : Int32)), (.int (0 : Int32)), (.int (0 : Int32)), (.int (0 : Int32)), (.int (0 : Int32)), (.int (0 : Int32)), (.int (0 : Int32)), (.int (0 : Int32)), (.int (0 : Int32)), (.int (0 : Int32)), (.int (0 : Int32)), (.int (0 : Int32)), (.int (0 : Int32))]) := by
  refine Met.of (plainFor_of_name (by first | (simp [plainName, overriddenIn]; done) | decide +kernel)) ?_
  intro pP eE sS mM bB tT cC K
  refine Go.entry (ls := #[.val (.ref t), .val (.ref a), .unset]) (by first | (simp [argsToLocals, Value.category]; done) | rfl) ?_
  refine go_aloadN (q := 1) K daapp0_1_0 rfl rfl rfl ?_
  refine go_ifnonnullY (q := 9) K daapp0_1_1 (by decide) rfl ?_
  refine go_aloadN (q := 10) K daapp0_1_9 rfl rfl rfl ?_
  refine go_callV (q := 13) (W := 0) K (wd hw 91 rfl) (wd hw 92 rfl) (wd hw 94 rfl) (wd hw 93 rfl) (wd hw 5 rfl) (wd hw 95 rfl) (wd hw 94 rfl) rfl p7_ [] [] (strLen l Z a0 hw _ _ _ _ _ _ _ n0 p0_ p1_ hcs p7_ p8_ p9_ p10_ rfl) daapp0_1_10 (ps := []) (by decide +kernel) rfl rfl rfl (by decide) rfl (by decide) (by decide) (by decide) (by decide) rfl ?_
  rintro _ _ ⟨rfl, rfl⟩
  show Go pP l eE _ sS mM _ bB tT cC n0 _ h 0 0 (mkF mM 13 #[.val (.ref t), .val (.ref a), .unset] [(.int (2 : Int32))])
  refine go_istoreN (q := 14) K daapp0_1_13 #[.val (.ref t), .val (.ref a), .val (.int (2 : Int32))] rfl rfl ?_
  refine go_aloadN (q := 15) K daapp0_1_14 rfl rfl rfl ?_
  refine go_aloadN (q := 16) K daapp0_1_15 rfl rfl rfl ?_
  refine go_getF (q := 19) K (wd hw 101 rfl) Via.refl p6_ daapp0_1_16 rfl ?_
  refine go_iloadN (q := 20) K daapp0_1_19 rfl rfl ?_
  refine go_iadd (q := 21) K daapp0_1_20 rfl ?_
  refine go_eqI (y := (3 : Int32)) (by decide) ?_
  refine go_callP (q := 24) (W := 0) K (wd hw 103 rfl) (wd hw 105 rfl) (wd hw 106 rfl) rfl (wd hw 104 rfl) (wd hw 73 rfl) (wd hw 107 rfl) p3_ [(.int (3 : Int32))] [] (ensCap l Z a0 hw _ _ _ _ _ _ n0 p4_ p5_ p11_ rfl (by decide)) daapp0_1_21 (ps := [.int]) (by decide +kernel) rfl rfl rfl (by decide) rfl (by decide) (by decide) (by decide) (by decide) rfl ?_
  rintro _ _ ⟨rfl, rfl⟩
  show Go pP l eE _ sS mM _ bB tT cC n0 _ h 0 0 (mkF mM 24 #[.val (.ref t), .val (.ref a), .val (.int (2 : Int32))] [])
  refine go_aloadN (q := 25) K daapp0_1_24 rfl rfl rfl ?_
  refine go_aloadN (q := 26) K daapp0_1_25 rfl rfl rfl ?_
  refine go_getF (q := 29) K (wd hw 101 rfl) Via.refl p6_ daapp0_1_26 rfl ?_
  refine go_aloadN (q := 30) K daapp0_1_29 rfl rfl rfl ?_
  refine go_callP (q := 33) (W := 0) K (wd hw 108 rfl) (wd hw 110 rfl) (wd hw 106 rfl) rfl (wd hw 109 rfl) (wd hw 73 rfl) (wd hw 112 rfl) p3_ [(.int (1 : Int32)), (.ref a)] [] (put1_2 l Z a0 hw _ _ _ _ _ _ _ _ _ _ _ n0 p0_ p1_ (by assumption) p3_ p4_ p5_ p7_ p8_ p9_ p10_ p11_ p13_ (by assumption) (by assumption) (by assumption)) daapp0_1_30 (ps := [.int, (.object "java/lang/String")]) (by decide +kernel) rfl rfl rfl (by decide) rfl (by decide) (by decide) (by decide) (by decide) rfl ?_
  rintro _ h3 ⟨rfl, Kh3, q0h3⟩
  show Go pP l eE _ sS mM _ bB tT cC n0 _ h3 0 0 (mkF mM 33 #[.val (.ref t), .val (.ref a), .val (.int (2 : Int32))] [])
  refine go_aloadN (q := 34) K daapp0_1_33 rfl rfl rfl ?_
  refine go_dup (q := 35) K daapp0_1_34 rfl rfl ?_
  have f1 := (p6_.keep Kh3 (ninS p14_ nin0))
  refine go_getF (q := 38) K (wd hw 101 rfl) Via.refl f1 daapp0_1_35 rfl ?_
  refine go_iloadN (q := 39) K daapp0_1_38 rfl rfl ?_
  refine go_iadd (q := 40) K daapp0_1_39 rfl ?_
  refine go_eqI (y := (3 : Int32)) (by decide) ?_
  have f2 := (p3_.keep Kh3)
  refine go_putF (q := 43) K (wd hw 101 rfl) Via.refl f1 f2 (Or.inl (wd hw 102 rfl)) (wd hw 64 rfl) (ty := .int) (by decide +kernel) rfl rfl p12_ daapp0_1_40 rfl ?_
  intro h4 Wh4
  refine go_aloadN (q := 44) K daapp0_1_43 rfl rfl rfl ?_
  refine go_aret K daapp0_1_44 rfl rfl rfl rfl (by decide) (by decide) ?_
  have f3 := (((Keep.refl h [t, va]).trans Kh3 (allS (Or.inl (by simp)) all0)).wr Wh4 (Or.inl (by simp)))
  have f4 := (f2.wr Wh4)
  have f5 := ((p4_.keep Kh3 (ninS p14_ nin0)).other Wh4 (Or.inr (slot_ne (C := "java/lang/StringBuilder") (Or.inl (wd hw 78 rfl)) (Or.inl (wd hw 102 rfl)) (by decide) (t := (.array .byte)) (t' := .int) (by decide +kernel) (by decide +kernel))))
  have f6 := ((p5_.keep Kh3 (ninS p14_ nin0)).other Wh4 (Or.inr (slot_ne (C := "java/lang/StringBuilder") (Or.inl (wd hw 80 rfl)) (Or.inl (wd hw 102 rfl)) (by decide) (t := .byte) (t' := .int) (by decide +kernel) (by decide +kernel))))
  have f7 := (q0h3.other Wh4 (p14_).symm)
  exact ⟨rfl, f3, f4, f5, f6, (f1.same Wh4), f7⟩
set_option maxRecDepth 65536 in
set_option maxHeartbeats 40000000 in
theorem app1_2 (l : Launch) (Z : State) (a0 : Array Value) (hw : ∀ d ∈ tables_1, d.before a0 Z = true) (t : Addr) (va : Addr) (kv : ClassId) (a : Addr) (b : Addr) (kb : ClassId) (cs : Int32) (p0 : Int32) (q0 : Int32) (q1 : Int32) (h : Heap) (n0 : Nat) (p0_ : Old Z n0 h) (p1_ : Sta Z Z.heap "java/lang/String" "COMPACT_STRINGS" "Z" (.int cs)) (hcs : ¬ cs = (0 : Int32)) (p3_ : Exa Z h t "java/lang/StringBuilder") (p4_ : Fld Z h t "java/lang/AbstractStringBuilder" "value" "[B" (.ref va)) (p5_ : Fld Z h t "java/lang/AbstractStringBuilder" "coder" "B" (.int (0 : Int32))) (p6_ : Fld Z h t "java/lang/AbstractStringBuilder" "count" "I" (.int (1 : Int32))) (p7_ : Exa Z h a "java/lang/String") (p8_ : Fld Z h a "java/lang/String" "value" "[B" (.ref b)) (p9_ : Fld Z h a "java/lang/String" "coder" "B" (.int (0 : Int32))) (p10_ : Ary Z h b kb .byte [(.int q0), (.int q1)]) (p11_ : Ary Z h va kv .byte [(.int p0), (.int (0 : Int32)), (.int (0 : Int32)), (.int (0 : Int32)), (.int (0 : Int32)), (.int (0 : Int32)), (.int (0 : Int32)), (.int (0 : Int32)), (.int (0 : Int32)), (.int (0 : Int32)), (.int (0 : Int32)), (.int (0 : Int32)), (.int (0 : Int32)), (.int (0 : Int32)), (.int (0 : Int32)), (.int (0 : Int32))]) (p12_ : n0 ≤ t) (p13_ : n0 ≤ va) (p14_ : t ≠ va) (p15_ : t ≠ a) (p16_ : t ≠ b) (hf_p0 : fits .byte (.int p0) = true) (hf_q0 : fits .byte (.int q0) = true) (hf_q1 : fits .byte (.int q1) = true) :
    Met l (⟨"java/lang/StringBuilder", "append", "(Ljava/lang/String;)Ljava/lang/StringBuilder;"⟩ : MethodName) jdk_67_method_7_code 2 (some (.object "java/lang/StringBuilder")) [] ({ frames := 4, cells := 0, slots := 0, locals := 96 } : Room) #[(.ref t), (.ref a)] Z h n0 (fun v h' => v = some (.ref t) ∧ Keep h h' [t, va] ∧ Exa Z h' t "java/lang/StringBuilder" ∧ Fld Z h' t "java/lang/AbstractStringBuilder" "value" "[B" (.ref va) ∧ Fld Z h' t "java/lang/AbstractStringBuilder" "coder" "B" (.int (0 : Int32)) ∧ Fld Z h' t "java/lang/AbstractStringBuilder" "count" "I" (.int (3 : Int32)) ∧ Ary Z h' va kv .byte [(.int p0), (.int q0), (.int q1), (.int (0 : Int32)), (.int (0 : Int32)), (.int (0 : Int32)), (.int (0 : Int32)), (.int (0 : Int32)), (.int (0 : Int32)), (.int (0 : Int32)), (.int (0 : Int32)), (.int (0 : Int32)), (.int (0 : Int32)), (.int (0 : Int32)), (.int (0 : Int32)), (.int (0 : Int32))]) := by
  refine Met.of (plainFor_of_name (by first | (simp [plainName, overriddenIn]; done) | decide +kernel)) ?_
  intro pP eE sS mM bB tT cC K
  refine Go.entry (ls := #[.val (.ref t), .val (.ref a)]) (by first | (simp [argsToLocals, Value.category]; done) | rfl) ?_
  refine go_aloadN (q := 1) K dapp0_1_0 rfl rfl rfl ?_
  refine go_aloadN (q := 2) K dapp0_1_1 rfl rfl rfl ?_
  refine go_callT (q := 5) (W := 0) K (wd hw 86 rfl) (wd hw 87 rfl) (wd hw 88 rfl) (wd hw 73 rfl) (wd hw 90 rfl) (wd hw 106 rfl) rfl (by decide) p3_ [(.ref a)] [] (aapp1_2 l Z a0 hw _ _ _ _ _ _ _ _ _ _ _ n0 p0_ p1_ (by assumption) p3_ p4_ p5_ p6_ p7_ p8_ p9_ p10_ p11_ p12_ p13_ p14_ p15_ p16_ (by assumption) (by assumption) (by assumption)) dapp0_1_2 (ps := [(.object "java/lang/String")]) (by decide +kernel) rfl rfl rfl (by decide) rfl (by decide) (by decide) (by decide) (by decide) rfl ?_
  rintro _ h1 ⟨rfl, Kh1, q0h1, q1h1, q2h1, q3h1, q4h1⟩
  show Go pP l eE _ sS mM _ bB tT cC n0 _ h1 0 0 (mkF mM 5 #[.val (.ref t), .val (.ref a)] [(.ref t)])
  refine go_pop (q := 6) K dapp0_1_5 rfl rfl ?_
  refine go_aloadN (q := 7) K dapp0_1_6 rfl rfl rfl ?_
  refine go_aret K dapp0_1_7 rfl rfl rfl rfl (by decide) (by decide) ?_
  have f1 := ((Keep.refl h [t, va]).trans Kh1 (allS (Or.inl (by simp)) (allS (Or.inl (by simp)) all0)))
  exact ⟨rfl, f1, q0h1, q1h1, q2h1, q3h1, q4h1⟩
set_option maxRecDepth 65536 in
set_option maxHeartbeats 40000000 in
theorem gb3_1 (l : Launch) (Z : State) (a0 : Array Value) (hw : ∀ d ∈ tables_1, d.before a0 Z = true) (va : Addr) (kv : ClassId) (a : Addr) (b : Addr) (kb : ClassId) (cs : Int32) (p0 : Int32) (p1 : Int32) (p2 : Int32) (q0 : Int32) (h : Heap) (n0 : Nat) (p0_ : Old Z n0 h) (p1_ : Sta Z Z.heap "java/lang/String" "COMPACT_STRINGS" "Z" (.int cs)) (hcs : ¬ cs = (0 : Int32)) (p3_ : Exa Z h a "java/lang/String") (p4_ : Fld Z h a "java/lang/String" "value" "[B" (.ref b)) (p5_ : Fld Z h a "java/lang/String" "coder" "B" (.int (0 : Int32))) (p6_ : Ary Z h b kb .byte [(.int q0)]) (p7_ : Ary Z h va kv .byte [(.int p0), (.int p1), (.int p2), (.int (0 : Int32)), (.int (0 : Int32)), (.int (0 : Int32)), (.int (0 : Int32)), (.int (0 : Int32)), (.int (0 : Int32)), (.int (0 : Int32)), (.int (0 : Int32)), (.int (0 : Int32)), (.int (0 : Int32)), (.int (0 : Int32)), (.int (0 : Int32)), (.int (0 : Int32))]) (p8_ : n0 ≤ va) (hf_p0 : fits .byte (.int p0) = true) (hf_p1 : fits .byte (.int p1) = true) (hf_p2 : fits .byte (.int p2) = true) (hf_q0 : fits .byte (.int q0) = true) :
    Met l (⟨"java/lang/String", "getBytes", "([BIB)V"⟩ : MethodName) jdk_42_method_147_code 4 none [] ({ frames := 1, cells := 0, slots := 0, locals := 40 } : Room) #[(.ref a), (.ref va), (.int (3 : Int32)), (.int (0 : Int32))] Z h n0 (fun v h' => v = none ∧ Keep h h' [va] ∧ Ary Z h' va kv .byte [(.int p0), (.int p1), (.int p2), (.int q0), (.int (0 : Int32)), (.int (0 : Int32)), (.int (0 : Int32)), (.int (0 : Int32)), (.int (0 : Int32)), (.int (0 : Int32)), (.int (0 : Int32)), (.int (0 : Int32)), (.int (0 : Int32)), (.int (0 : Int32)), (.int (0 : Int32)), (.int (0 : Int32))]) := by
  refine Met.of (plainFor_of_name (by first | (simp [plainName, overriddenIn]; done) | decide +kernel)) ?_
  intro pP eE sS mM bB tT cC K
  refine Go.entry (ls := #[.val (.ref a), .val (.ref va), .val (.int (3 : Int32)), .val (.int (0 : Int32))]) (by first | (simp [argsToLocals, Value.category]; done) | rfl) ?_
  refine go_aloadN (q := 1) K dgb0_1_0 rfl rfl rfl ?_
  refine go_callV (q := 4) (W := 0) K (wd hw 96 rfl) (wd hw 97 rfl) (wd hw 99 rfl) (wd hw 98 rfl) (wd hw 5 rfl) (wd hw 100 rfl) (wd hw 94 rfl) rfl p3_ [] [] (strCoder l Z a0 hw _ _ _ n0 p0_ p1_ (by assumption) p5_) dgb0_1_1 (ps := []) (by decide +kernel) rfl rfl rfl (by decide) rfl (by decide) (by decide) (by decide) (by decide) rfl ?_
  rintro _ _ ⟨rfl, rfl⟩
  show Go pP l eE _ sS mM _ bB tT cC n0 _ h 0 0 (mkF mM 4 #[.val (.ref a), .val (.ref va), .val (.int (3 : Int32)), .val (.int (0 : Int32))] [(.int (0 : Int32))])
  refine go_iloadN (q := 5) K dgb0_1_4 rfl rfl ?_
  refine go_icmp (q := 28) (q' := 8) K dgb0_1_5 (by decide) rfl rfl (fun hn => cN_no hn (show (0 : Int32) = (0 : Int32) from (by decide))) (fun _ => ?_)
  refine go_aloadN (q := 9) K dgb0_1_8 rfl rfl rfl ?_
  refine go_getF (q := 12) K (wd hw 25 rfl) Via.refl p4_ dgb0_1_9 rfl ?_
  refine go_iconst (q := 13) K dgb0_1_12 (0 : Int32) rfl rfl ?_
  refine go_aloadN (q := 14) K dgb0_1_13 rfl rfl rfl ?_
  refine go_iloadN (q := 15) K dgb0_1_14 rfl rfl ?_
  refine go_iloadN (q := 16) K dgb0_1_15 rfl rfl ?_
  refine go_ishl (q := 17) K dgb0_1_16 rfl ?_
  refine go_eqI (y := (3 : Int32)) (by decide) ?_
  refine go_aloadN (q := 18) K dgb0_1_17 rfl rfl rfl ?_
  refine go_getF (q := 21) K (wd hw 25 rfl) Via.refl p4_ dgb0_1_18 rfl ?_
  refine go_arraylength (q := 22) (z := (1 : Int32)) K p6_ rfl dgb0_1_21 rfl ?_
  refine go_arraycopy (q := 25) (W := 0) (us := [(.int q0)]) (za := (1 : Int32)) (zb := (16 : Int32)) K (wd hw 124 rfl) (wd hw 127 rfl) (wd hw 125 rfl) (wd hw 126 rfl) p6_ p7_ (fitsS hf_q0 fits0) (fitsS hf_p0 (fitsS hf_p1 (fitsS hf_p2 (fitsS (by decide) (fitsS (by decide) (fitsS (by decide) (fitsS (by decide) (fitsS (by decide) (fitsS (by decide) (fitsS (by decide) (fitsS (by decide) (fitsS (by decide) (fitsS (by decide) (fitsS (by decide) (fitsS (by decide) (fitsS (by decide) fits0)))))))))))))))) rfl (by decide) rfl (by decide) (by decide) (by decide) (by decide) (show 0 + 1 ≤ 1 from by decide) (show 3 + 1 ≤ 16 from by decide) rfl p8_ dgb0_1_22 rfl rfl (by decide) (by decide) rfl ?_
  intro h2 Kh2 Yh20
  have Yh2 : Ary Z h2 va kv .byte [(.int p0), (.int p1), (.int p2), (.int q0), (.int (0 : Int32)), (.int (0 : Int32)), (.int (0 : Int32)), (.int (0 : Int32)), (.int (0 : Int32)), (.int (0 : Int32)), (.int (0 : Int32)), (.int (0 : Int32)), (.int (0 : Int32)), (.int (0 : Int32)), (.int (0 : Int32)), (.int (0 : Int32))] := Yh20
  refine go_goto (q := 43) K dgb0_1_25 (by decide) rfl ?_
  refine go_return K dgb0_1_43 rfl (by decide) (by decide) ?_
  have f1 := ((Keep.refl h [va]).trans Kh2 (allS (Or.inl (by simp)) all0))
  exact ⟨rfl, f1, Yh2⟩
set_option maxRecDepth 65536 in
set_option maxHeartbeats 40000000 in
theorem put3_1 (l : Launch) (Z : State) (a0 : Array Value) (hw : ∀ d ∈ tables_1, d.before a0 Z = true) (t : Addr) (va : Addr) (kv : ClassId) (a : Addr) (b : Addr) (kb : ClassId) (cs : Int32) (p0 : Int32) (p1 : Int32) (p2 : Int32) (q0 : Int32) (h : Heap) (n0 : Nat) (p0_ : Old Z n0 h) (p1_ : Sta Z Z.heap "java/lang/String" "COMPACT_STRINGS" "Z" (.int cs)) (hcs : ¬ cs = (0 : Int32)) (p3_ : Exa Z h t "java/lang/StringBuilder") (p4_ : Fld Z h t "java/lang/AbstractStringBuilder" "value" "[B" (.ref va)) (p5_ : Fld Z h t "java/lang/AbstractStringBuilder" "coder" "B" (.int (0 : Int32))) (p6_ : Exa Z h a "java/lang/String") (p7_ : Fld Z h a "java/lang/String" "value" "[B" (.ref b)) (p8_ : Fld Z h a "java/lang/String" "coder" "B" (.int (0 : Int32))) (p9_ : Ary Z h b kb .byte [(.int q0)]) (p10_ : Ary Z h va kv .byte [(.int p0), (.int p1), (.int p2), (.int (0 : Int32)), (.int (0 : Int32)), (.int (0 : Int32)), (.int (0 : Int32)), (.int (0 : Int32)), (.int (0 : Int32)), (.int (0 : Int32)), (.int (0 : Int32)), (.int (0 : Int32)), (.int (0 : Int32)), (.int (0 : Int32)), (.int (0 : Int32)), (.int (0 : Int32))]) (p11_ : n0 ≤ va) (hf_p0 : fits .byte (.int p0) = true) (hf_p1 : fits .byte (.int p1) = true) (hf_p2 : fits .byte (.int p2) = true) (hf_q0 : fits .byte (.int q0) = true) :
    Met l (⟨"java/lang/AbstractStringBuilder", "putStringAt", "(ILjava/lang/String;)V"⟩ : MethodName) jdk_68_method_73_code 3 none [] ({ frames := 2, cells := 0, slots := 0, locals := 60 } : Room) #[(.ref t), (.int (3 : Int32)), (.ref a)] Z h n0 (fun v h' => v = none ∧ Keep h h' [va] ∧ Ary Z h' va kv .byte [(.int p0), (.int p1), (.int p2), (.int q0), (.int (0 : Int32)), (.int (0 : Int32)), (.int (0 : Int32)), (.int (0 : Int32)), (.int (0 : Int32)), (.int (0 : Int32)), (.int (0 : Int32)), (.int (0 : Int32)), (.int (0 : Int32)), (.int (0 : Int32)), (.int (0 : Int32)), (.int (0 : Int32))]) := by
  refine Met.of (plainFor_of_name (by first | (simp [plainName, overriddenIn]; done) | decide +kernel)) ?_
  intro pP eE sS mM bB tT cC K
  refine Go.entry (ls := #[.val (.ref t), .val (.int (3 : Int32)), .val (.ref a)]) (by first | (simp [argsToLocals, Value.category]; done) | rfl) ?_
  refine go_aloadN (q := 1) K dput0_1_0 rfl rfl rfl ?_
  refine go_aloadN (q := 2) K dput0_1_1 rfl rfl rfl ?_
  refine go_callP (q := 5) (W := 0) K (wd hw 113 rfl) (wd hw 115 rfl) (wd hw 106 rfl) rfl (wd hw 114 rfl) (wd hw 73 rfl) (wd hw 117 rfl) p3_ [(.ref a)] [] (inflate l Z a0 hw _ _ _ _ n0 p0_ p1_ (by assumption) p5_ p6_ p8_) dput0_1_2 (ps := [(.object "java/lang/String")]) (by decide +kernel) rfl rfl rfl (by decide) rfl (by decide) (by decide) (by decide) (by decide) rfl ?_
  rintro _ _ ⟨rfl, rfl⟩
  show Go pP l eE _ sS mM _ bB tT cC n0 _ h 0 0 (mkF mM 5 #[.val (.ref t), .val (.int (3 : Int32)), .val (.ref a)] [])
  refine go_aloadN (q := 6) K dput0_1_5 rfl rfl rfl ?_
  refine go_aloadN (q := 7) K dput0_1_6 rfl rfl rfl ?_
  refine go_getF (q := 10) K (wd hw 77 rfl) Via.refl p4_ dput0_1_7 rfl ?_
  refine go_iloadN (q := 11) K dput0_1_10 rfl rfl ?_
  refine go_aloadN (q := 12) K dput0_1_11 rfl rfl rfl ?_
  refine go_getF (q := 15) K (wd hw 79 rfl) Via.refl p5_ dput0_1_12 rfl ?_
  refine go_callV (q := 18) (W := 0) K (wd hw 119 rfl) (wd hw 120 rfl) (wd hw 122 rfl) (wd hw 121 rfl) (wd hw 5 rfl) (wd hw 123 rfl) (wd hw 94 rfl) rfl p6_ [(.ref va), (.int (3 : Int32)), (.int (0 : Int32))] [] (gb3_1 l Z a0 hw _ _ _ _ _ _ _ _ _ _ _ n0 p0_ p1_ (by assumption) p6_ p7_ p8_ p9_ p10_ p11_ (by assumption) (by assumption) (by assumption) (by assumption)) dput0_1_15 (ps := [(.array .byte), .int, .byte]) (by decide +kernel) rfl rfl rfl (by decide) rfl (by decide) (by decide) (by decide) (by decide) rfl ?_
  rintro _ h2 ⟨rfl, Kh2, q0h2⟩
  show Go pP l eE _ sS mM _ bB tT cC n0 _ h2 0 0 (mkF mM 18 #[.val (.ref t), .val (.int (3 : Int32)), .val (.ref a)] [])
  refine go_return K dput0_1_18 rfl (by decide) (by decide) ?_
  have f1 := ((Keep.refl h [va]).trans Kh2 (allS (Or.inl (by simp)) all0))
  exact ⟨rfl, f1, q0h2⟩
set_option maxRecDepth 65536 in
set_option maxHeartbeats 40000000 in
theorem aapp3_1 (l : Launch) (Z : State) (a0 : Array Value) (hw : ∀ d ∈ tables_1, d.before a0 Z = true) (t : Addr) (va : Addr) (kv : ClassId) (a : Addr) (b : Addr) (kb : ClassId) (cs : Int32) (p0 : Int32) (p1 : Int32) (p2 : Int32) (q0 : Int32) (h : Heap) (n0 : Nat) (p0_ : Old Z n0 h) (p1_ : Sta Z Z.heap "java/lang/String" "COMPACT_STRINGS" "Z" (.int cs)) (hcs : ¬ cs = (0 : Int32)) (p3_ : Exa Z h t "java/lang/StringBuilder") (p4_ : Fld Z h t "java/lang/AbstractStringBuilder" "value" "[B" (.ref va)) (p5_ : Fld Z h t "java/lang/AbstractStringBuilder" "coder" "B" (.int (0 : Int32))) (p6_ : Fld Z h t "java/lang/AbstractStringBuilder" "count" "I" (.int (3 : Int32))) (p7_ : Exa Z h a "java/lang/String") (p8_ : Fld Z h a "java/lang/String" "value" "[B" (.ref b)) (p9_ : Fld Z h a "java/lang/String" "coder" "B" (.int (0 : Int32))) (p10_ : Ary Z h b kb .byte [(.int q0)]) (p11_ : Ary Z h va kv .byte [(.int p0), (.int p1), (.int p2), (.int (0 : Int32)), (.int (0 : Int32)), (.int (0 : Int32)), (.int (0 : Int32)), (.int (0 : Int32)), (.int (0 : Int32)), (.int (0 : Int32)), (.int (0 : Int32)), (.int (0 : Int32)), (.int (0 : Int32)), (.int (0 : Int32)), (.int (0 : Int32)), (.int (0 : Int32))]) (p12_ : n0 ≤ t) (p13_ : n0 ≤ va) (p14_ : t ≠ va) (p15_ : t ≠ a) (p16_ : t ≠ b) (hf_p0 : fits .byte (.int p0) = true) (hf_p1 : fits .byte (.int p1) = true) (hf_p2 : fits .byte (.int p2) = true) (hf_q0 : fits .byte (.int q0) = true) :
    Met l (⟨"java/lang/AbstractStringBuilder", "append", "(Ljava/lang/String;)Ljava/lang/AbstractStringBuilder;"⟩ : MethodName) jdk_68_method_22_code 3 (some (.object "java/lang/AbstractStringBuilder")) [] ({ frames := 3, cells := 0, slots := 0, locals := 80 } : Room) #[(.ref t), (.ref a)] Z h n0 (fun v h' => v = some (.ref t) ∧ Keep h h' [t, va] ∧ Exa Z h' t "java/lang/StringBuilder" ∧ Fld Z h' t "java/lang/AbstractStringBuilder" "value" "[B" (.ref va) ∧ Fld Z h' t "java/lang/AbstractStringBuilder" "coder" "B" (.int (0 : Int32)) ∧ Fld Z h' t "java/lang/AbstractStringBuilder" "count" "I" (.int (4 : Int32)) ∧ Ary Z h' va kv .byte [(.int p0), (.int p1), (.int p2), (.int q0), (.int (0 : Int32)), (.int (0 : Int32)), (.int (0 : Int32)), (.int (0 : Int32)), (.int (0 : Int32)), (.int (0 : Int32)), (.int (0 : Int32)), (.int (0 : Int32)), (.int (0 : Int32)), (.int (0 : Int32)), (.int (0 : Int32)), (.int (0 : Int32))]) := by
  refine Met.of (plainFor_of_name (by first | (simp [plainName, overriddenIn]; done) | decide +kernel)) ?_
  intro pP eE sS mM bB tT cC K
  refine Go.entry (ls := #[.val (.ref t), .val (.ref a), .unset]) (by first | (simp [argsToLocals, Value.category]; done) | rfl) ?_
  refine go_aloadN (q := 1) K daapp0_1_0 rfl rfl rfl ?_
  refine go_ifnonnullY (q := 9) K daapp0_1_1 (by decide) rfl ?_
  refine go_aloadN (q := 10) K daapp0_1_9 rfl rfl rfl ?_
  refine go_callV (q := 13) (W := 0) K (wd hw 91 rfl) (wd hw 92 rfl) (wd hw 94 rfl) (wd hw 93 rfl) (wd hw 5 rfl) (wd hw 95 rfl) (wd hw 94 rfl) rfl p7_ [] [] (strLen l Z a0 hw _ _ _ _ _ _ _ n0 p0_ p1_ hcs p7_ p8_ p9_ p10_ rfl) daapp0_1_10 (ps := []) (by decide +kernel) rfl rfl rfl (by decide) rfl (by decide) (by decide) (by decide) (by decide) rfl ?_
  rintro _ _ ⟨rfl, rfl⟩
  show Go pP l eE _ sS mM _ bB tT cC n0 _ h 0 0 (mkF mM 13 #[.val (.ref t), .val (.ref a), .unset] [(.int (1 : Int32))])
  refine go_istoreN (q := 14) K daapp0_1_13 #[.val (.ref t), .val (.ref a), .val (.int (1 : Int32))] rfl rfl ?_
  refine go_aloadN (q := 15) K daapp0_1_14 rfl rfl rfl ?_
  refine go_aloadN (q := 16) K daapp0_1_15 rfl rfl rfl ?_
  refine go_getF (q := 19) K (wd hw 101 rfl) Via.refl p6_ daapp0_1_16 rfl ?_
  refine go_iloadN (q := 20) K daapp0_1_19 rfl rfl ?_
  refine go_iadd (q := 21) K daapp0_1_20 rfl ?_
  refine go_eqI (y := (4 : Int32)) (by decide) ?_
  refine go_callP (q := 24) (W := 0) K (wd hw 103 rfl) (wd hw 105 rfl) (wd hw 106 rfl) rfl (wd hw 104 rfl) (wd hw 73 rfl) (wd hw 107 rfl) p3_ [(.int (4 : Int32))] [] (ensCap l Z a0 hw _ _ _ _ _ _ n0 p4_ p5_ p11_ rfl (by decide)) daapp0_1_21 (ps := [.int]) (by decide +kernel) rfl rfl rfl (by decide) rfl (by decide) (by decide) (by decide) (by decide) rfl ?_
  rintro _ _ ⟨rfl, rfl⟩
  show Go pP l eE _ sS mM _ bB tT cC n0 _ h 0 0 (mkF mM 24 #[.val (.ref t), .val (.ref a), .val (.int (1 : Int32))] [])
  refine go_aloadN (q := 25) K daapp0_1_24 rfl rfl rfl ?_
  refine go_aloadN (q := 26) K daapp0_1_25 rfl rfl rfl ?_
  refine go_getF (q := 29) K (wd hw 101 rfl) Via.refl p6_ daapp0_1_26 rfl ?_
  refine go_aloadN (q := 30) K daapp0_1_29 rfl rfl rfl ?_
  refine go_callP (q := 33) (W := 0) K (wd hw 108 rfl) (wd hw 110 rfl) (wd hw 106 rfl) rfl (wd hw 109 rfl) (wd hw 73 rfl) (wd hw 112 rfl) p3_ [(.int (3 : Int32)), (.ref a)] [] (put3_1 l Z a0 hw _ _ _ _ _ _ _ _ _ _ _ _ n0 p0_ p1_ (by assumption) p3_ p4_ p5_ p7_ p8_ p9_ p10_ p11_ p13_ (by assumption) (by assumption) (by assumption) (by assumption)) daapp0_1_30 (ps := [.int, (.object "java/lang/String")]) (by decide +kernel) rfl rfl rfl (by decide) rfl (by decide) (by decide) (by decide) (by decide) rfl ?_
  rintro _ h3 ⟨rfl, Kh3, q0h3⟩
  show Go pP l eE _ sS mM _ bB tT cC n0 _ h3 0 0 (mkF mM 33 #[.val (.ref t), .val (.ref a), .val (.int (1 : Int32))] [])
  refine go_aloadN (q := 34) K daapp0_1_33 rfl rfl rfl ?_
  refine go_dup (q := 35) K daapp0_1_34 rfl rfl ?_
  have f1 := (p6_.keep Kh3 (ninS p14_ nin0))
  refine go_getF (q := 38) K (wd hw 101 rfl) Via.refl f1 daapp0_1_35 rfl ?_
  refine go_iloadN (q := 39) K daapp0_1_38 rfl rfl ?_
  refine go_iadd (q := 40) K daapp0_1_39 rfl ?_
  refine go_eqI (y := (4 : Int32)) (by decide) ?_
  have f2 := (p3_.keep Kh3)
  refine go_putF (q := 43) K (wd hw 101 rfl) Via.refl f1 f2 (Or.inl (wd hw 102 rfl)) (wd hw 64 rfl) (ty := .int) (by decide +kernel) rfl rfl p12_ daapp0_1_40 rfl ?_
  intro h4 Wh4
  refine go_aloadN (q := 44) K daapp0_1_43 rfl rfl rfl ?_
  refine go_aret K daapp0_1_44 rfl rfl rfl rfl (by decide) (by decide) ?_
  have f3 := (((Keep.refl h [t, va]).trans Kh3 (allS (Or.inl (by simp)) all0)).wr Wh4 (Or.inl (by simp)))
  have f4 := (f2.wr Wh4)
  have f5 := ((p4_.keep Kh3 (ninS p14_ nin0)).other Wh4 (Or.inr (slot_ne (C := "java/lang/StringBuilder") (Or.inl (wd hw 78 rfl)) (Or.inl (wd hw 102 rfl)) (by decide) (t := (.array .byte)) (t' := .int) (by decide +kernel) (by decide +kernel))))
  have f6 := ((p5_.keep Kh3 (ninS p14_ nin0)).other Wh4 (Or.inr (slot_ne (C := "java/lang/StringBuilder") (Or.inl (wd hw 80 rfl)) (Or.inl (wd hw 102 rfl)) (by decide) (t := .byte) (t' := .int) (by decide +kernel) (by decide +kernel))))
  have f7 := (q0h3.other Wh4 (p14_).symm)
  exact ⟨rfl, f3, f4, f5, f6, (f1.same Wh4), f7⟩
set_option maxRecDepth 65536 in
set_option maxHeartbeats 40000000 in
theorem app3_1 (l : Launch) (Z : State) (a0 : Array Value) (hw : ∀ d ∈ tables_1, d.before a0 Z = true) (t : Addr) (va : Addr) (kv : ClassId) (a : Addr) (b : Addr) (kb : ClassId) (cs : Int32) (p0 : Int32) (p1 : Int32) (p2 : Int32) (q0 : Int32) (h : Heap) (n0 : Nat) (p0_ : Old Z n0 h) (p1_ : Sta Z Z.heap "java/lang/String" "COMPACT_STRINGS" "Z" (.int cs)) (hcs : ¬ cs = (0 : Int32)) (p3_ : Exa Z h t "java/lang/StringBuilder") (p4_ : Fld Z h t "java/lang/AbstractStringBuilder" "value" "[B" (.ref va)) (p5_ : Fld Z h t "java/lang/AbstractStringBuilder" "coder" "B" (.int (0 : Int32))) (p6_ : Fld Z h t "java/lang/AbstractStringBuilder" "count" "I" (.int (3 : Int32))) (p7_ : Exa Z h a "java/lang/String") (p8_ : Fld Z h a "java/lang/String" "value" "[B" (.ref b)) (p9_ : Fld Z h a "java/lang/String" "coder" "B" (.int (0 : Int32))) (p10_ : Ary Z h b kb .byte [(.int q0)]) (p11_ : Ary Z h va kv .byte [(.int p0), (.int p1), (.int p2), (.int (0 : Int32)), (.int (0 : Int32)), (.int (0 : Int32)), (.int (0 : Int32)), (.int (0 : Int32)), (.int (0 : Int32)), (.int (0 : Int32)), (.int (0 : Int32)), (.int (0 : Int32)), (.int (0 : Int32)), (.int (0 : Int32)), (.int (0 : Int32)), (.int (0 : Int32))]) (p12_ : n0 ≤ t) (p13_ : n0 ≤ va) (p14_ : t ≠ va) (p15_ : t ≠ a) (p16_ : t ≠ b) (hf_p0 : fits .byte (.int p0) = true) (hf_p1 : fits .byte (.int p1) = true) (hf_p2 : fits .byte (.int p2) = true) (hf_q0 : fits .byte (.int q0) = true) :
    Met l (⟨"java/lang/StringBuilder", "append", "(Ljava/lang/String;)Ljava/lang/StringBuilder;"⟩ : MethodName) jdk_67_method_7_code 2 (some (.object "java/lang/StringBuilder")) [] ({ frames := 4, cells := 0, slots := 0, locals := 96 } : Room) #[(.ref t), (.ref a)] Z h n0 (fun v h' => v = some (.ref t) ∧ Keep h h' [t, va] ∧ Exa Z h' t "java/lang/StringBuilder" ∧ Fld Z h' t "java/lang/AbstractStringBuilder" "value" "[B" (.ref va) ∧ Fld Z h' t "java/lang/AbstractStringBuilder" "coder" "B" (.int (0 : Int32)) ∧ Fld Z h' t "java/lang/AbstractStringBuilder" "count" "I" (.int (4 : Int32)) ∧ Ary Z h' va kv .byte [(.int p0), (.int p1), (.int p2), (.int q0), (.int (0 : Int32)), (.int (0 : Int32)), (.int (0 : Int32)), (.int (0 : Int32)), (.int (0 : Int32)), (.int (0 : Int32)), (.int (0 : Int32)), (.int (0 : Int32)), (.int (0 : Int32)), (.int (0 : Int32)), (.int (0 : Int32)), (.int (0 : Int32))]) := by
  refine Met.of (plainFor_of_name (by first | (simp [plainName, overriddenIn]; done) | decide +kernel)) ?_
  intro pP eE sS mM bB tT cC K
  refine Go.entry (ls := #[.val (.ref t), .val (.ref a)]) (by first | (simp [argsToLocals, Value.category]; done) | rfl) ?_
  refine go_aloadN (q := 1) K dapp0_1_0 rfl rfl rfl ?_
  refine go_aloadN (q := 2) K dapp0_1_1 rfl rfl rfl ?_
  refine go_callT (q := 5) (W := 0) K (wd hw 86 rfl) (wd hw 87 rfl) (wd hw 88 rfl) (wd hw 73 rfl) (wd hw 90 rfl) (wd hw 106 rfl) rfl (by decide) p3_ [(.ref a)] [] (aapp3_1 l Z a0 hw _ _ _ _ _ _ _ _ _ _ _ _ n0 p0_ p1_ (by assumption) p3_ p4_ p5_ p6_ p7_ p8_ p9_ p10_ p11_ p12_ p13_ p14_ p15_ p16_ (by assumption) (by assumption) (by assumption) (by assumption)) dapp0_1_2 (ps := [(.object "java/lang/String")]) (by decide +kernel) rfl rfl rfl (by decide) rfl (by decide) (by decide) (by decide) (by decide) rfl ?_
  rintro _ h1 ⟨rfl, Kh1, q0h1, q1h1, q2h1, q3h1, q4h1⟩
  show Go pP l eE _ sS mM _ bB tT cC n0 _ h1 0 0 (mkF mM 5 #[.val (.ref t), .val (.ref a)] [(.ref t)])
  refine go_pop (q := 6) K dapp0_1_5 rfl rfl ?_
  refine go_aloadN (q := 7) K dapp0_1_6 rfl rfl rfl ?_
  refine go_aret K dapp0_1_7 rfl rfl rfl rfl (by decide) (by decide) ?_
  have f1 := ((Keep.refl h [t, va]).trans Kh1 (allS (Or.inl (by simp)) (allS (Or.inl (by simp)) all0)))
  exact ⟨rfl, f1, q0h1, q1h1, q2h1, q3h1, q4h1⟩
set_option maxRecDepth 65536 in
set_option maxHeartbeats 40000000 in
theorem gb5_1 (l : Launch) (Z : State) (a0 : Array Value) (hw : ∀ d ∈ tables_1, d.before a0 Z = true) (va : Addr) (kv : ClassId) (a : Addr) (b : Addr) (kb : ClassId) (cs : Int32) (p0 : Int32) (p1 : Int32) (p2 : Int32) (p3 : Int32) (p4 : Int32) (q0 : Int32) (h : Heap) (n0 : Nat) (p0_ : Old Z n0 h) (p1_ : Sta Z Z.heap "java/lang/String" "COMPACT_STRINGS" "Z" (.int cs)) (hcs : ¬ cs = (0 : Int32)) (p3_ : Exa Z h a "java/lang/String") (p4_ : Fld Z h a "java/lang/String" "value" "[B" (.ref b)) (p5_ : Fld Z h a "java/lang/String" "coder" "B" (.int (0 : Int32))) (p6_ : Ary Z h b kb .byte [(.int q0)]) (p7_ : Ary Z h va kv .byte [(.int p0), (.int p1), (.int p2), (.int p3), (.int p4), (.int (0 : Int32)), (.int (0 : Int32)), (.int (0 : Int32)), (.int (0 : Int32)), (.int (0 : Int32)), (.int (0 : Int32)), (.int (0 : Int32)), (.int (0 : Int32)), (.int (0 : Int32)), (.int (0 : Int32)), (.int (0 : Int32))]) (p8_ : n0 ≤ va) (hf_p0 : fits .byte (.int p0) = true) (hf_p1 : fits .byte (.int p1) = true) (hf_p2 : fits .byte (.int p2) = true) (hf_p3 : fits .byte (.int p3) = true) (hf_p4 : fits .byte (.int p4) = true) (hf_q0 : fits .byte (.int q0) = true) :
    Met l (⟨"java/lang/String", "getBytes", "([BIB)V"⟩ : MethodName) jdk_42_method_147_code 4 none [] ({ frames := 1, cells := 0, slots := 0, locals := 40 } : Room) #[(.ref a), (.ref va), (.int (5 : Int32)), (.int (0 : Int32))] Z h n0 (fun v h' => v = none ∧ Keep h h' [va] ∧ Ary Z h' va kv .byte [(.int p0), (.int p1), (.int p2), (.int p3), (.int p4), (.int q0), (.int (0 : Int32)), (.int (0 : Int32)), (.int (0 : Int32)), (.int (0 : Int32)), (.int (0 : Int32)), (.int (0 : Int32)), (.int (0 : Int32)), (.int (0 : Int32)), (.int (0 : Int32)), (.int (0 : Int32))]) := by
  refine Met.of (plainFor_of_name (by first | (simp [plainName, overriddenIn]; done) | decide +kernel)) ?_
  intro pP eE sS mM bB tT cC K
  refine Go.entry (ls := #[.val (.ref a), .val (.ref va), .val (.int (5 : Int32)), .val (.int (0 : Int32))]) (by first | (simp [argsToLocals, Value.category]; done) | rfl) ?_
  refine go_aloadN (q := 1) K dgb0_1_0 rfl rfl rfl ?_
  refine go_callV (q := 4) (W := 0) K (wd hw 96 rfl) (wd hw 97 rfl) (wd hw 99 rfl) (wd hw 98 rfl) (wd hw 5 rfl) (wd hw 100 rfl) (wd hw 94 rfl) rfl p3_ [] [] (strCoder l Z a0 hw _ _ _ n0 p0_ p1_ (by assumption) p5_) dgb0_1_1 (ps := []) (by decide +kernel) rfl rfl rfl (by decide) rfl (by decide) (by decide) (by decide) (by decide) rfl ?_
  rintro _ _ ⟨rfl, rfl⟩
  show Go pP l eE _ sS mM _ bB tT cC n0 _ h 0 0 (mkF mM 4 #[.val (.ref a), .val (.ref va), .val (.int (5 : Int32)), .val (.int (0 : Int32))] [(.int (0 : Int32))])
  refine go_iloadN (q := 5) K dgb0_1_4 rfl rfl ?_
  refine go_icmp (q := 28) (q' := 8) K dgb0_1_5 (by decide) rfl rfl (fun hn => cN_no hn (show (0 : Int32) = (0 : Int32) from (by decide))) (fun _ => ?_)
  refine go_aloadN (q := 9) K dgb0_1_8 rfl rfl rfl ?_
  refine go_getF (q := 12) K (wd hw 25 rfl) Via.refl p4_ dgb0_1_9 rfl ?_
  refine go_iconst (q := 13) K dgb0_1_12 (0 : Int32) rfl rfl ?_
  refine go_aloadN (q := 14) K dgb0_1_13 rfl rfl rfl ?_
  refine go_iloadN (q := 15) K dgb0_1_14 rfl rfl ?_
  refine go_iloadN (q := 16) K dgb0_1_15 rfl rfl ?_
  refine go_ishl (q := 17) K dgb0_1_16 rfl ?_
  refine go_eqI (y := (5 : Int32)) (by decide) ?_
  refine go_aloadN (q := 18) K dgb0_1_17 rfl rfl rfl ?_
  refine go_getF (q := 21) K (wd hw 25 rfl) Via.refl p4_ dgb0_1_18 rfl ?_
  refine go_arraylength (q := 22) (z := (1 : Int32)) K p6_ rfl dgb0_1_21 rfl ?_
  refine go_arraycopy (q := 25) (W := 0) (us := [(.int q0)]) (za := (1 : Int32)) (zb := (16 : Int32)) K (wd hw 124 rfl) (wd hw 127 rfl) (wd hw 125 rfl) (wd hw 126 rfl) p6_ p7_ (fitsS hf_q0 fits0) (fitsS hf_p0 (fitsS hf_p1 (fitsS hf_p2 (fitsS hf_p3 (fitsS hf_p4 (fitsS (by decide) (fitsS (by decide) (fitsS (by decide) (fitsS (by decide) (fitsS (by decide) (fitsS (by decide) (fitsS (by decide) (fitsS (by decide) (fitsS (by decide) (fitsS (by decide) (fitsS (by decide) fits0)))))))))))))))) rfl (by decide) rfl (by decide) (by decide) (by decide) (by decide) (show 0 + 1 ≤ 1 from by decide) (show 5 + 1 ≤ 16 from by decide) rfl p8_ dgb0_1_22 rfl rfl (by decide) (by decide) rfl ?_
  intro h2 Kh2 Yh20
  have Yh2 : Ary Z h2 va kv .byte [(.int p0), (.int p1), (.int p2), (.int p3), (.int p4), (.int q0), (.int (0 : Int32)), (.int (0 : Int32)), (.int (0 : Int32)), (.int (0 : Int32)), (.int (0 : Int32)), (.int (0 : Int32)), (.int (0 : Int32)), (.int (0 : Int32)), (.int (0 : Int32)), (.int (0 : Int32))] := Yh20
  refine go_goto (q := 43) K dgb0_1_25 (by decide) rfl ?_
  refine go_return K dgb0_1_43 rfl (by decide) (by decide) ?_
  have f1 := ((Keep.refl h [va]).trans Kh2 (allS (Or.inl (by simp)) all0))
  exact ⟨rfl, f1, Yh2⟩
set_option maxRecDepth 65536 in
set_option maxHeartbeats 40000000 in
theorem put5_1 (l : Launch) (Z : State) (a0 : Array Value) (hw : ∀ d ∈ tables_1, d.before a0 Z = true) (t : Addr) (va : Addr) (kv : ClassId) (a : Addr) (b : Addr) (kb : ClassId) (cs : Int32) (p0 : Int32) (p1 : Int32) (p2 : Int32) (p3 : Int32) (p4 : Int32) (q0 : Int32) (h : Heap) (n0 : Nat) (p0_ : Old Z n0 h) (p1_ : Sta Z Z.heap "java/lang/String" "COMPACT_STRINGS" "Z" (.int cs)) (hcs : ¬ cs = (0 : Int32)) (p3_ : Exa Z h t "java/lang/StringBuilder") (p4_ : Fld Z h t "java/lang/AbstractStringBuilder" "value" "[B" (.ref va)) (p5_ : Fld Z h t "java/lang/AbstractStringBuilder" "coder" "B" (.int (0 : Int32))) (p6_ : Exa Z h a "java/lang/String") (p7_ : Fld Z h a "java/lang/String" "value" "[B" (.ref b)) (p8_ : Fld Z h a "java/lang/String" "coder" "B" (.int (0 : Int32))) (p9_ : Ary Z h b kb .byte [(.int q0)]) (p10_ : Ary Z h va kv .byte [(.int p0), (.int p1), (.int p2), (.int p3), (.int p4), (.int (0 : Int32)), (.int (0 : Int32)), (.int (0 : Int32)), (.int (0 : Int32)), (.int (0 : Int32)), (.int (0 : Int32)), (.int (0 : Int32)), (.int (0 : Int32)), (.int (0 : Int32)), (.int (0 : Int32)), (.int (0 : Int32))]) (p11_ : n0 ≤ va) (hf_p0 : fits .byte (.int p0) = true) (hf_p1 : fits .byte (.int p1) = true) (hf_p2 : fits .byte (.int p2) = true) (hf_p3 : fits .byte (.int p3) = true) (hf_p4 : fits .byte (.int p4) = true) (hf_q0 : fits .byte (.int q0) = true) :
    Met l (⟨"java/lang/AbstractStringBuilder", "putStringAt", "(ILjava/lang/String;)V"⟩ : MethodName) jdk_68_method_73_code 3 none [] ({ frames := 2, cells := 0, slots := 0, locals := 60 } : Room) #[(.ref t), (.int (5 : Int32)), (.ref a)] Z h n0 (fun v h' => v = none ∧ Keep h h' [va] ∧ Ary Z h' va kv .byte [(.int p0), (.int p1), (.int p2), (.int p3), (.int p4), (.int q0), (.int (0 : Int32)), (.int (0 : Int32)), (.int (0 : Int32)), (.int (0 : Int32)), (.int (0 : Int32)), (.int (0 : Int32)), (.int (0 : Int32)), (.int (0 : Int32)), (.int (0 : Int32)), (.int (0 : Int32))]) := by
  refine Met.of (plainFor_of_name (by first | (simp [plainName, overriddenIn]; done) | decide +kernel)) ?_
  intro pP eE sS mM bB tT cC K
  refine Go.entry (ls := #[.val (.ref t), .val (.int (5 : Int32)), .val (.ref a)]) (by first | (simp [argsToLocals, Value.category]; done) | rfl) ?_
  refine go_aloadN (q := 1) K dput0_1_0 rfl rfl rfl ?_
  refine go_aloadN (q := 2) K dput0_1_1 rfl rfl rfl ?_
  refine go_callP (q := 5) (W := 0) K (wd hw 113 rfl) (wd hw 115 rfl) (wd hw 106 rfl) rfl (wd hw 114 rfl) (wd hw 73 rfl) (wd hw 117 rfl) p3_ [(.ref a)] [] (inflate l Z a0 hw _ _ _ _ n0 p0_ p1_ (by assumption) p5_ p6_ p8_) dput0_1_2 (ps := [(.object "java/lang/String")]) (by decide +kernel) rfl rfl rfl (by decide) rfl (by decide) (by decide) (by decide) (by decide) rfl ?_
  rintro _ _ ⟨rfl, rfl⟩
  show Go pP l eE _ sS mM _ bB tT cC n0 _ h 0 0 (mkF mM 5 #[.val (.ref t), .val (.int (5 : Int32)), .val (.ref a)] [])
  refine go_aloadN (q := 6) K dput0_1_5 rfl rfl rfl ?_
  refine go_aloadN (q := 7) K dput0_1_6 rfl rfl rfl ?_
  refine go_getF (q := 10) K (wd hw 77 rfl) Via.refl p4_ dput0_1_7 rfl ?_
  refine go_iloadN (q := 11) K dput0_1_10 rfl rfl ?_
  refine go_aloadN (q := 12) K dput0_1_11 rfl rfl rfl ?_
  refine go_getF (q := 15) K (wd hw 79 rfl) Via.refl p5_ dput0_1_12 rfl ?_
  refine go_callV (q := 18) (W := 0) K (wd hw 119 rfl) (wd hw 120 rfl) (wd hw 122 rfl) (wd hw 121 rfl) (wd hw 5 rfl) (wd hw 123 rfl) (wd hw 94 rfl) rfl p6_ [(.ref va), (.int (5 : Int32)), (.int (0 : Int32))] [] (gb5_1 l Z a0 hw _ _ _ _ _ _ _ _ _ _ _ _ _ n0 p0_ p1_ (by assumption) p6_ p7_ p8_ p9_ p10_ p11_ (by assumption) (by assumption) (by assumption) (by assumption) (by assumption) (by assumption)) dput0_1_15 (ps := [(.array .byte), .int, .byte]) (by decide +kernel) rfl rfl rfl (by decide) rfl (by decide) (by decide) (by decide) (by decide) rfl ?_
  rintro _ h2 ⟨rfl, Kh2, q0h2⟩
  show Go pP l eE _ sS mM _ bB tT cC n0 _ h2 0 0 (mkF mM 18 #[.val (.ref t), .val (.int (5 : Int32)), .val (.ref a)] [])
  refine go_return K dput0_1_18 rfl (by decide) (by decide) ?_
  have f1 := ((Keep.refl h [va]).trans Kh2 (allS (Or.inl (by simp)) all0))
  exact ⟨rfl, f1, q0h2⟩
set_option maxRecDepth 65536 in
set_option maxHeartbeats 40000000 in
theorem aapp5_1 (l : Launch) (Z : State) (a0 : Array Value) (hw : ∀ d ∈ tables_1, d.before a0 Z = true) (t : Addr) (va : Addr) (kv : ClassId) (a : Addr) (b : Addr) (kb : ClassId) (cs : Int32) (p0 : Int32) (p1 : Int32) (p2 : Int32) (p3 : Int32) (p4 : Int32) (q0 : Int32) (h : Heap) (n0 : Nat) (p0_ : Old Z n0 h) (p1_ : Sta Z Z.heap "java/lang/String" "COMPACT_STRINGS" "Z" (.int cs)) (hcs : ¬ cs = (0 : Int32)) (p3_ : Exa Z h t "java/lang/StringBuilder") (p4_ : Fld Z h t "java/lang/AbstractStringBuilder" "value" "[B" (.ref va)) (p5_ : Fld Z h t "java/lang/AbstractStringBuilder" "coder" "B" (.int (0 : Int32))) (p6_ : Fld Z h t "java/lang/AbstractStringBuilder" "count" "I" (.int (5 : Int32))) (p7_ : Exa Z h a "java/lang/String") (p8_ : Fld Z h a "java/lang/String" "value" "[B" (.ref b)) (p9_ : Fld Z h a "java/lang/String" "coder" "B" (.int (0 : Int32))) (p10_ : Ary Z h b kb .byte [(.int q0)]) (p11_ : Ary Z h va kv .byte [(.int p0), (.int p1), (.int p2), (.int p3), (.int p4), (.int (0 : Int32)), (.int (0 : Int32)), (.int (0 : Int32)), (.int (0 : Int32)), (.int (0 : Int32)), (.int (0 : Int32)), (.int (0 : Int32)), (.int (0 : Int32)), (.int (0 : Int32)), (.int (0 : Int32)), (.int (0 : Int32))]) (p12_ : n0 ≤ t) (p13_ : n0 ≤ va) (p14_ : t ≠ va) (p15_ : t ≠ a) (p16_ : t ≠ b) (hf_p0 : fits .byte (.int p0) = true) (hf_p1 : fits .byte (.int p1) = true) (hf_p2 : fits .byte (.int p2) = true) (hf_p3 : fits .byte (.int p3) = true) (hf_p4 : fits .byte (.int p4) = true) (hf_q0 : fits .byte (.int q0) = true) :
    Met l (⟨"java/lang/AbstractStringBuilder", "append", "(Ljava/lang/String;)Ljava/lang/AbstractStringBuilder;"⟩ : MethodName) jdk_68_method_22_code 3 (some (.object "java/lang/AbstractStringBuilder")) [] ({ frames := 3, cells := 0, slots := 0, locals := 80 } : Room) #[(.ref t), (.ref a)] Z h n0 (fun v h' => v = some (.ref t) ∧ Keep h h' [t, va] ∧ Exa Z h' t "java/lang/StringBuilder" ∧ Fld Z h' t "java/lang/AbstractStringBuilder" "value" "[B" (.ref va) ∧ Fld Z h' t "java/lang/AbstractStringBuilder" "coder" "B" (.int (0 : Int32)) ∧ Fld Z h' t "java/lang/AbstractStringBuilder" "count" "I" (.int (6 : Int32)) ∧ Ary Z h' va kv .byte [(.int p0), (.int p1), (.int p2), (.int p3), (.int p4), (.int q0), (.int (0 : Int32)), (.int (0 : Int32)), (.int (0 : Int32)), (.int (0 : Int32)), (.int (0 : Int32)), (.int (0 : Int32)), (.int (0 : Int32)), (.int (0 : Int32)), (.int (0 : Int32)), (.int (0 : Int32))]) := by
  refine Met.of (plainFor_of_name (by first | (simp [plainName, overriddenIn]; done) | decide +kernel)) ?_
  intro pP eE sS mM bB tT cC K
  refine Go.entry (ls := #[.val (.ref t), .val (.ref a), .unset]) (by first | (simp [argsToLocals, Value.category]; done) | rfl) ?_
  refine go_aloadN (q := 1) K daapp0_1_0 rfl rfl rfl ?_
  refine go_ifnonnullY (q := 9) K daapp0_1_1 (by decide) rfl ?_
  refine go_aloadN (q := 10) K daapp0_1_9 rfl rfl rfl ?_
  refine go_callV (q := 13) (W := 0) K (wd hw 91 rfl) (wd hw 92 rfl) (wd hw 94 rfl) (wd hw 93 rfl) (wd hw 5 rfl) (wd hw 95 rfl) (wd hw 94 rfl) rfl p7_ [] [] (strLen l Z a0 hw _ _ _ _ _ _ _ n0 p0_ p1_ hcs p7_ p8_ p9_ p10_ rfl) daapp0_1_10 (ps := []) (by decide +kernel) rfl rfl rfl (by decide) rfl (by decide) (by decide) (by decide) (by decide) rfl ?_
  rintro _ _ ⟨rfl, rfl⟩
  show Go pP l eE _ sS mM _ bB tT cC n0 _ h 0 0 (mkF mM 13 #[.val (.ref t), .val (.ref a), .unset] [(.int (1 : Int32))])
  refine go_istoreN (q := 14) K daapp0_1_13 #[.val (.ref t), .val (.ref a), .val (.int (1 : Int32))] rfl rfl ?_
  refine go_aloadN (q := 15) K daapp0_1_14 rfl rfl rfl ?_
  refine go_aloadN (q := 16) K daapp0_1_15 rfl rfl rfl ?_
  refine go_getF (q := 19) K (wd hw 101 rfl) Via.refl p6_ daapp0_1_16 rfl ?_
  refine go_iloadN (q := 20) K daapp0_1_19 rfl rfl ?_
  refine go_iadd (q := 21) K daapp0_1_20 rfl ?_
  refine go_eqI (y := (6 : Int32)) (by decide) ?_
  refine go_callP (q := 24) (W := 0) K (wd hw 103 rfl) (wd hw 105 rfl) (wd hw 106 rfl) rfl (wd hw 104 rfl) (wd hw 73 rfl) (wd hw 107 rfl) p3_ [(.int (6 : Int32))] [] (ensCap l Z a0 hw _ _ _ _ _ _ n0 p4_ p5_ p11_ rfl (by decide)) daapp0_1_21 (ps := [.int]) (by decide +kernel) rfl rfl rfl (by decide) rfl (by decide) (by decide) (by decide) (by decide) rfl ?_
  rintro _ _ ⟨rfl, rfl⟩
  show Go pP l eE _ sS mM _ bB tT cC n0 _ h 0 0 (mkF mM 24 #[.val (.ref t), .val (.ref a), .val (.int (1 : Int32))] [])
  refine go_aloadN (q := 25) K daapp0_1_24 rfl rfl rfl ?_
  refine go_aloadN (q := 26) K daapp0_1_25 rfl rfl rfl ?_
  refine go_getF (q := 29) K (wd hw 101 rfl) Via.refl p6_ daapp0_1_26 rfl ?_
  refine go_aloadN (q := 30) K daapp0_1_29 rfl rfl rfl ?_
  refine go_callP (q := 33) (W := 0) K (wd hw 108 rfl) (wd hw 110 rfl) (wd hw 106 rfl) rfl (wd hw 109 rfl) (wd hw 73 rfl) (wd hw 112 rfl) p3_ [(.int (5 : Int32)), (.ref a)] [] (put5_1 l Z a0 hw _ _ _ _ _ _ _ _ _ _ _ _ _ _ n0 p0_ p1_ (by assumption) p3_ p4_ p5_ p7_ p8_ p9_ p10_ p11_ p13_ (by assumption) (by assumption) (by assumption) (by assumption) (by assumption) (by assumption)) daapp0_1_30 (ps := [.int, (.object "java/lang/String")]) (by decide +kernel) rfl rfl rfl (by decide) rfl (by decide) (by decide) (by decide) (by decide) rfl ?_
  rintro _ h3 ⟨rfl, Kh3, q0h3⟩
  show Go pP l eE _ sS mM _ bB tT cC n0 _ h3 0 0 (mkF mM 33 #[.val (.ref t), .val (.ref a), .val (.int (1 : Int32))] [])
  refine go_aloadN (q := 34) K daapp0_1_33 rfl rfl rfl ?_
  refine go_dup (q := 35) K daapp0_1_34 rfl rfl ?_
  have f1 := (p6_.keep Kh3 (ninS p14_ nin0))
  refine go_getF (q := 38) K (wd hw 101 rfl) Via.refl f1 daapp0_1_35 rfl ?_
  refine go_iloadN (q := 39) K daapp0_1_38 rfl rfl ?_
  refine go_iadd (q := 40) K daapp0_1_39 rfl ?_
  refine go_eqI (y := (6 : Int32)) (by decide) ?_
  have f2 := (p3_.keep Kh3)
  refine go_putF (q := 43) K (wd hw 101 rfl) Via.refl f1 f2 (Or.inl (wd hw 102 rfl)) (wd hw 64 rfl) (ty := .int) (by decide +kernel) rfl rfl p12_ daapp0_1_40 rfl ?_
  intro h4 Wh4
  refine go_aloadN (q := 44) K daapp0_1_43 rfl rfl rfl ?_
  refine go_aret K daapp0_1_44 rfl rfl rfl rfl (by decide) (by decide) ?_
  have f3 := (((Keep.refl h [t, va]).trans Kh3 (allS (Or.inl (by simp)) all0)).wr Wh4 (Or.inl (by simp)))
  have f4 := (f2.wr Wh4)
  have f5 := ((p4_.keep Kh3 (ninS p14_ nin0)).other Wh4 (Or.inr (slot_ne (C := "java/lang/StringBuilder") (Or.inl (wd hw 78 rfl)) (Or.inl (wd hw 102 rfl)) (by decide) (t := (.array .byte)) (t' := .int) (by decide +kernel) (by decide +kernel))))
  have f6 := ((p5_.keep Kh3 (ninS p14_ nin0)).other Wh4 (Or.inr (slot_ne (C := "java/lang/StringBuilder") (Or.inl (wd hw 80 rfl)) (Or.inl (wd hw 102 rfl)) (by decide) (t := .byte) (t' := .int) (by decide +kernel) (by decide +kernel))))
  have f7 := (q0h3.other Wh4 (p14_).symm)
  exact ⟨rfl, f3, f4, f5, f6, (f1.same Wh4), f7⟩
set_option maxRecDepth 65536 in
set_option maxHeartbeats 40000000 in
theorem app5_1 (l : Launch) (Z : State) (a0 : Array Value) (hw : ∀ d ∈ tables_1, d.before a0 Z = true) (t : Addr) (va : Addr) (kv : ClassId) (a : Addr) (b : Addr) (kb : ClassId) (cs : Int32) (p0 : Int32) (p1 : Int32) (p2 : Int32) (p3 : Int32) (p4 : Int32) (q0 : Int32) (h : Heap) (n0 : Nat) (p0_ : Old Z n0 h) (p1_ : Sta Z Z.heap "java/lang/String" "COMPACT_STRINGS" "Z" (.int cs)) (hcs : ¬ cs = (0 : Int32)) (p3_ : Exa Z h t "java/lang/StringBuilder") (p4_ : Fld Z h t "java/lang/AbstractStringBuilder" "value" "[B" (.ref va)) (p5_ : Fld Z h t "java/lang/AbstractStringBuilder" "coder" "B" (.int (0 : Int32))) (p6_ : Fld Z h t "java/lang/AbstractStringBuilder" "count" "I" (.int (5 : Int32))) (p7_ : Exa Z h a "java/lang/String") (p8_ : Fld Z h a "java/lang/String" "value" "[B" (.ref b)) (p9_ : Fld Z h a "java/lang/String" "coder" "B" (.int (0 : Int32))) (p10_ : Ary Z h b kb .byte [(.int q0)]) (p11_ : Ary Z h va kv .byte [(.int p0), (.int p1), (.int p2), (.int p3), (.int p4), (.int (0 : Int32)), (.int (0 : Int32)), (.int (0 : Int32)), (.int (0 : Int32)), (.int (0 : Int32)), (.int (0 : Int32)), (.int (0 : Int32)), (.int (0 : Int32)), (.int (0 : Int32)), (.int (0 : Int32)), (.int (0 : Int32))]) (p12_ : n0 ≤ t) (p13_ : n0 ≤ va) (p14_ : t ≠ va) (p15_ : t ≠ a) (p16_ : t ≠ b) (hf_p0 : fits .byte (.int p0) = true) (hf_p1 : fits .byte (.int p1) = true) (hf_p2 : fits .byte (.int p2) = true) (hf_p3 : fits .byte (.int p3) = true) (hf_p4 : fits .byte (.int p4) = true) (hf_q0 : fits .byte (.int q0) = true) :
    Met l (⟨"java/lang/StringBuilder", "append", "(Ljava/lang/String;)Ljava/lang/StringBuilder;"⟩ : MethodName) jdk_67_method_7_code 2 (some (.object "java/lang/StringBuilder")) [] ({ frames := 4, cells := 0, slots := 0, locals := 96 } : Room) #[(.ref t), (.ref a)] Z h n0 (fun v h' => v = some (.ref t) ∧ Keep h h' [t, va] ∧ Exa Z h' t "java/lang/StringBuilder" ∧ Fld Z h' t "java/lang/AbstractStringBuilder" "value" "[B" (.ref va) ∧ Fld Z h' t "java/lang/AbstractStringBuilder" "coder" "B" (.int (0 : Int32)) ∧ Fld Z h' t "java/lang/AbstractStringBuilder" "count" "I" (.int (6 : Int32)) ∧ Ary Z h' va kv .byte [(.int p0), (.int p1), (.int p2), (.int p3), (.int p4), (.int q0), (.int (0 : Int32)), (.int (0 : Int32)), (.int (0 : Int32)), (.int (0 : Int32)), (.int (0 : Int32)), (.int (0 : Int32)), (.int (0 : Int32)), (.int (0 : Int32)), (.int (0 : Int32)), (.int (0 : Int32))]) := by
  refine Met.of (plainFor_of_name (by first | (simp [plainName, overriddenIn]; done) | decide +kernel)) ?_
  intro pP eE sS mM bB tT cC K
  refine Go.entry (ls := #[.val (.ref t), .val (.ref a)]) (by first | (simp [argsToLocals, Value.category]; done) | rfl) ?_
  refine go_aloadN (q := 1) K dapp0_1_0 rfl rfl rfl ?_
  refine go_aloadN (q := 2) K dapp0_1_1 rfl rfl rfl ?_
  refine go_callT (q := 5) (W := 0) K (wd hw 86 rfl) (wd hw 87 rfl) (wd hw 88 rfl) (wd hw 73 rfl) (wd hw 90 rfl) (wd hw 106 rfl) rfl (by decide) p3_ [(.ref a)] [] (aapp5_1 l Z a0 hw _ _ _ _ _ _ _ _ _ _ _ _ _ _ n0 p0_ p1_ (by assumption) p3_ p4_ p5_ p6_ p7_ p8_ p9_ p10_ p11_ p12_ p13_ p14_ p15_ p16_ (by assumption) (by assumption) (by assumption) (by assumption) (by assumption) (by assumption)) dapp0_1_2 (ps := [(.object "java/lang/String")]) (by decide +kernel) rfl rfl rfl (by decide) rfl (by decide) (by decide) (by decide) (by decide) rfl ?_
  rintro _ h1 ⟨rfl, Kh1, q0h1, q1h1, q2h1, q3h1, q4h1⟩
  show Go pP l eE _ sS mM _ bB tT cC n0 _ h1 0 0 (mkF mM 5 #[.val (.ref t), .val (.ref a)] [(.ref t)])
  refine go_pop (q := 6) K dapp0_1_5 rfl rfl ?_
  refine go_aloadN (q := 7) K dapp0_1_6 rfl rfl rfl ?_
  refine go_aret K dapp0_1_7 rfl rfl rfl rfl (by decide) (by decide) ?_
  have f1 := ((Keep.refl h [t, va]).trans Kh1 (allS (Or.inl (by simp)) (allS (Or.inl (by simp)) all0)))
  exact ⟨rfl, f1, q0h1, q1h1, q2h1, q3h1, q4h1⟩
set_option maxRecDepth 65536 in
set_option maxHeartbeats 40000000 in
theorem gb6_2 (l : Launch) (Z : State) (a0 : Array Value) (hw : ∀ d ∈ tables_1, d.before a0 Z = true) (va : Addr) (kv : ClassId) (a : Addr) (b : Addr) (kb : ClassId) (cs : Int32) (p0 : Int32) (p1 : Int32) (p2 : Int32) (p3 : Int32) (p4 : Int32) (p5 : Int32) (q0 : Int32) (q1 : Int32) (h : Heap) (n0 : Nat) (p0_ : Old Z n0 h) (p1_ : Sta Z Z.heap "java/lang/String" "COMPACT_STRINGS" "Z" (.int cs)) (hcs : ¬ cs = (0 : Int32)) (p3_ : Exa Z h a "java/lang/String") (p4_ : Fld Z h a "java/lang/String" "value" "[B" (.ref b)) (p5_ : Fld Z h a "java/lang/String" "coder" "B" (.int (0 : Int32))) (p6_ : Ary Z h b kb .byte [(.int q0), (.int q1)]) (p7_ : Ary Z h va kv .byte [(.int p0), (.int p1), (.int p2), (.int p3), (.int p4), (.int p5), (.int (0 : Int32)), (.int (0 : Int32)), (.int (0 : Int32)), (.int (0 : Int32)), (.int (0 : Int32)), (.int (0 : Int32)), (.int (0 : Int32)), (.int (0 : Int32)), (.int (0 : Int32)), (.int (0 : Int32))]) (p8_ : n0 ≤ va) (hf_p0 : fits .byte (.int p0) = true) (hf_p1 : fits .byte (.int p1) = true) (hf_p2 : fits .byte (.int p2) = true) (hf_p3 : fits .byte (.int p3) = true) (hf_p4 : fits .byte (.int p4) = true) (hf_p5 : fits .byte (.int p5) = true) (hf_q0 : fits .byte (.int q0) = true) (hf_q1 : fits .byte (.int q1) = true) :
    Met l (⟨"java/lang/String", "getBytes", "([BIB)V"⟩ : MethodName) jdk_42_method_147_code 4 none [] ({ frames := 1, cells := 0, slots := 0, locals := 40 } : Room) #[(.ref a), (.ref va), (.int (6 : Int32)), (.int (0 : Int32))] Z h n0 (fun v h' => v = none ∧ Keep h h' [va] ∧ Ary Z h' va kv .byte [(.int p0), (.int p1), (.int p2), (.int p3), (.int p4), (.int p5), (.int q0), (.int q1), (.int (0 : Int32)), (.int (0 : Int32)), (.int (0 : Int32)), (.int (0 : Int32)), (.int (0 : Int32)), (.int (0 : Int32)), (.int (0 : Int32)), (.int (0 : Int32))]) := by
  refine Met.of (plainFor_of_name (by first | (simp [plainName, overriddenIn]; done) | decide +kernel)) ?_
  intro pP eE sS mM bB tT cC K
  refine Go.entry (ls := #[.val (.ref a), .val (.ref va), .val (.int (6 : Int32)), .val (.int (0 : Int32))]) (by first | (simp [argsToLocals, Value.category]; done) | rfl) ?_
  refine go_aloadN (q := 1) K dgb0_1_0 rfl rfl rfl ?_
  refine go_callV (q := 4) (W := 0) K (wd hw 96 rfl) (wd hw 97 rfl) (wd hw 99 rfl) (wd hw 98 rfl) (wd hw 5 rfl) (wd hw 100 rfl) (wd hw 94 rfl) rfl p3_ [] [] (strCoder l Z a0 hw _ _ _ n0 p0_ p1_ (by assumption) p5_) dgb0_1_1 (ps := []) (by decide +kernel) rfl rfl rfl (by decide) rfl (by decide) (by decide) (by decide) (by decide) rfl ?_
  rintro _ _ ⟨rfl, rfl⟩
  show Go pP l eE _ sS mM _ bB tT cC n0 _ h 0 0 (mkF mM 4 #[.val (.ref a), .val (.ref va), .val (.int (6 : Int32)), .val (.int (0 : Int32))] [(.int (0 : Int32))])
  refine go_iloadN (q := 5) K dgb0_1_4 rfl rfl ?_
  refine go_icmp (q := 28) (q' := 8) K dgb0_1_5 (by decide) rfl rfl (fun hn => cN_no hn (show (0 : Int32) = (0 : Int32) from (by decide))) (fun _ => ?_)
  refine go_aloadN (q := 9) K dgb0_1_8 rfl rfl rfl ?_
  refine go_getF (q := 12) K (wd hw 25 rfl) Via.refl p4_ dgb0_1_9 rfl ?_
  refine go_iconst (q := 13) K dgb0_1_12 (0 : Int32) rfl rfl ?_
  refine go_aloadN (q := 14) K dgb0_1_13 rfl rfl rfl ?_
  refine go_iloadN (q := 15) K dgb0_1_14 rfl rfl ?_
  refine go_iloadN (q := 16) K dgb0_1_15 rfl rfl ?_
  refine go_ishl (q := 17) K dgb0_1_16 rfl ?_
  refine go_eqI (y := (6 : Int32)) (by decide) ?_
  refine go_aloadN (q := 18) K dgb0_1_17 rfl rfl rfl ?_
  refine go_getF (q := 21) K (wd hw 25 rfl) Via.refl p4_ dgb0_1_18 rfl ?_
  refine go_arraylength (q := 22) (z := (2 : Int32)) K p6_ rfl dgb0_1_21 rfl ?_
  refine go_arraycopy (q := 25) (W := 0) (us := [(.int q0), (.int q1)]) (za := (2 : Int32)) (zb := (16 : Int32)) K (wd hw 124 rfl) (wd hw 127 rfl) (wd hw 125 rfl) (wd hw 126 rfl) p6_ p7_ (fitsS hf_q0 (fitsS hf_q1 fits0)) (fitsS hf_p0 (fitsS hf_p1 (fitsS hf_p2 (fitsS hf_p3 (fitsS hf_p4 (fitsS hf_p5 (fitsS (by decide) (fitsS (by decide) (fitsS (by decide) (fitsS (by decide) (fitsS (by decide) (fitsS (by decide) (fitsS (by decide) (fitsS (by decide) (fitsS (by decide) (fitsS (by decide) fits0)))))))))))))))) rfl (by decide) rfl (by decide) (by decide) (by decide) (by decide) (show 0 + 2 ≤ 2 from by decide) (show 6 + 2 ≤ 16 from by decide) rfl p8_ dgb0_1_22 rfl rfl (by decide) (by decide) rfl ?_
  intro h2 Kh2 Yh20
  have Yh2 : Ary Z h2 va kv .byte [(.int p0), (.int p1), (.int p2), (.int p3), (.int p4), (.int p5), (.int q0), (.int q1), (.int (0 : Int32)), (.int (0 : Int32)), (.int (0 : Int32)), (.int (0 : Int32)), (.int (0 : Int32)), (.int (0 : Int32)), (.int (0 : Int32)), (.int (0 : Int32))] := Yh20
  refine go_goto (q := 43) K dgb0_1_25 (by decide) rfl ?_
  refine go_return K dgb0_1_43 rfl (by decide) (by decide) ?_
  have f1 := ((Keep.refl h [va]).trans Kh2 (allS (Or.inl (by simp)) all0))
  exact ⟨rfl, f1, Yh2⟩
set_option maxRecDepth 65536 in
set_option maxHeartbeats 40000000 in
theorem put6_2 (l : Launch) (Z : State) (a0 : Array Value) (hw : ∀ d ∈ tables_1, d.before a0 Z = true) (t : Addr) (va : Addr) (kv : ClassId) (a : Addr) (b : Addr) (kb : ClassId) (cs : Int32) (p0 : Int32) (p1 : Int32) (p2 : Int32) (p3 : Int32) (p4 : Int32) (p5 : Int32) (q0 : Int32) (q1 : Int32) (h : Heap) (n0 : Nat) (p0_ : Old Z n0 h) (p1_ : Sta Z Z.heap "java/lang/String" "COMPACT_STRINGS" "Z" (.int cs)) (hcs : ¬ cs = (0 : Int32)) (p3_ : Exa Z h t "java/lang/StringBuilder") (p4_ : Fld Z h t "java/lang/AbstractStringBuilder" "value" "[B" (.ref va)) (p5_ : Fld Z h t "java/lang/AbstractStringBuilder" "coder" "B" (.int (0 : Int32))) (p6_ : Exa Z h a "java/lang/String") (p7_ : Fld Z h a "java/lang/String" "value" "[B" (.ref b)) (p8_ : Fld Z h a "java/lang/String" "coder" "B" (.int (0 : Int32))) (p9_ : Ary Z h b kb .byte [(.int q0), (.int q1)]) (p10_ : Ary Z h va kv .byte [(.int p0), (.int p1), (.int p2), (.int p3), (.int p4), (.int p5), (.int (0 : Int32)), (.int (0 : Int32)), (.int (0 : Int32)), (.int (0 : Int32)), (.int (0 : Int32)), (.int (0 : Int32)), (.int (0 : Int32)), (.int (0 : Int32)), (.int (0 : Int32)), (.int (0 : Int32))]) (p11_ : n0 ≤ va) (hf_p0 : fits .byte (.int p0) = true) (hf_p1 : fits .byte (.int p1) = true) (hf_p2 : fits .byte (.int p2) = true) (hf_p3 : fits .byte (.int p3) = true) (hf_p4 : fits .byte (.int p4) = true) (hf_p5 : fits .byte (.int p5) = true) (hf_q0 : fits .byte (.int q0) = true) (hf_q1 : fits .byte (.int q1) = true) :
    Met l (⟨"java/lang/AbstractStringBuilder", "putStringAt", "(ILjava/lang/String;)V"⟩ : MethodName) jdk_68_method_73_code 3 none [] ({ frames := 2, cells := 0, slots := 0, locals := 60 } : Room) #[(.ref t), (.int (6 : Int32)), (.ref a)] Z h n0 (fun v h' => v = none ∧ Keep h h' [va] ∧ Ary Z h' va kv .byte [(.int p0), (.int p1), (.int p2), (.int p3), (.int p4), (.int p5), (.int q0), (.int q1), (.int (0 : Int32)), (.int (0 : Int32)), (.int (0 : Int32)), (.int (0 : Int32)), (.int (0 : Int32)), (.int (0 : Int32)), (.int (0 : Int32)), (.int (0 : Int32))]) := by
  refine Met.of (plainFor_of_name (by first | (simp [plainName, overriddenIn]; done) | decide +kernel)) ?_
  intro pP eE sS mM bB tT cC K
  refine Go.entry (ls := #[.val (.ref t), .val (.int (6 : Int32)), .val (.ref a)]) (by first | (simp [argsToLocals, Value.category]; done) | rfl) ?_
  refine go_aloadN (q := 1) K dput0_1_0 rfl rfl rfl ?_
  refine go_aloadN (q := 2) K dput0_1_1 rfl rfl rfl ?_
  refine go_callP (q := 5) (W := 0) K (wd hw 113 rfl) (wd hw 115 rfl) (wd hw 106 rfl) rfl (wd hw 114 rfl) (wd hw 73 rfl) (wd hw 117 rfl) p3_ [(.ref a)] [] (inflate l Z a0 hw _ _ _ _ n0 p0_ p1_ (by assumption) p5_ p6_ p8_) dput0_1_2 (ps := [(.object "java/lang/String")]) (by decide +kernel) rfl rfl rfl (by decide) rfl (by decide) (by decide) (by decide) (by decide) rfl ?_
  rintro _ _ ⟨rfl, rfl⟩
  show Go pP l eE _ sS mM _ bB tT cC n0 _ h 0 0 (mkF mM 5 #[.val (.ref t), .val (.int (6 : Int32)), .val (.ref a)] [])
  refine go_aloadN (q := 6) K dput0_1_5 rfl rfl rfl ?_
  refine go_aloadN (q := 7) K dput0_1_6 rfl rfl rfl ?_
  refine go_getF (q := 10) K (wd hw 77 rfl) Via.refl p4_ dput0_1_7 rfl ?_
  refine go_iloadN (q := 11) K dput0_1_10 rfl rfl ?_
  refine go_aloadN (q := 12) K dput0_1_11 rfl rfl rfl ?_
  refine go_getF (q := 15) K (wd hw 79 rfl) Via.refl p5_ dput0_1_12 rfl ?_
  refine go_callV (q := 18) (W := 0) K (wd hw 119 rfl) (wd hw 120 rfl) (wd hw 122 rfl) (wd hw 121 rfl) (wd hw 5 rfl) (wd hw 123 rfl) (wd hw 94 rfl) rfl p6_ [(.ref va), (.int (6 : Int32)), (.int (0 : Int32))] [] (gb6_2 l Z a0 hw _ _ _ _ _ _ _ _ _ _ _ _ _ _ _ n0 p0_ p1_ (by assumption) p6_ p7_ p8_ p9_ p10_ p11_ (by assumption) (by assumption) (by assumption) (by assumption) (by assumption) (by assumption) (by assumption) (by assumption)) dput0_1_15 (ps := [(.array .byte), .int, .byte]) (by decide +kernel) rfl rfl rfl (by decide) rfl (by decide) (by decide) (by decide) (by decide) rfl ?_
  rintro _ h2 ⟨rfl, Kh2, q0h2⟩
  show Go pP l eE _ sS mM _ bB tT cC n0 _ h2 0 0 (mkF mM 18 #[.val (.ref t), .val (.int (6 : Int32)), .val (.ref a)] [])
  refine go_return K dput0_1_18 rfl (by decide) (by decide) ?_
  have f1 := ((Keep.refl h [va]).trans Kh2 (allS (Or.inl (by simp)) all0))
  exact ⟨rfl, f1, q0h2⟩
set_option maxRecDepth 65536 in
set_option maxHeartbeats 40000000 in
theorem aapp6_2 (l : Launch) (Z : State) (a0 : Array Value) (hw : ∀ d ∈ tables_1, d.before a0 Z = true) (t : Addr) (va : Addr) (kv : ClassId) (a : Addr) (b : Addr) (kb : ClassId) (cs : Int32) (p0 : Int32) (p1 : Int32) (p2 : Int32) (p3 : Int32) (p4 : Int32) (p5 : Int32) (q0 : Int32) (q1 : Int32) (h : Heap) (n0 : Nat) (p0_ : Old Z n0 h) (p1_ : Sta Z Z.heap "java/lang/String" "COMPACT_STRINGS" "Z" (.int cs)) (hcs : ¬ cs = (0 : Int32)) (p3_ : Exa Z h t "java/lang/StringBuilder") (p4_ : Fld Z h t "java/lang/AbstractStringBuilder" "value" "[B" (.ref va)) (p5_ : Fld Z h t "java/lang/AbstractStringBuilder" "coder" "B" (.int (0 : Int32))) (p6_ : Fld Z h t "java/lang/AbstractStringBuilder" "count" "I" (.int (6 : Int32))) (p7_ : Exa Z h a "java/lang/String") (p8_ : Fld Z h a "java/lang/String" "value" "[B" (.ref b)) (p9_ : Fld Z h a "java/lang/String" "coder" "B" (.int (0 : Int32))) (p10_ : Ary Z h b kb .byte [(.int q0), (.int q1)]) (p11_ : Ary Z h va kv .byte [(.int p0), (.int p1), (.int p2), (.int p3), (.int p4), (.int p5), (.int (0 : Int32)), (.int (0 : Int32)), (.int (0 : Int32)), (.int (0 : Int32)), (.int (0 : Int32)), (.int (0 : Int32)), (.int (0 : Int32)), (.int (0 : Int32)), (.int (0 : Int32)), (.int (0 : Int32))]) (p12_ : n0 ≤ t) (p13_ : n0 ≤ va) (p14_ : t ≠ va) (p15_ : t ≠ a) (p16_ : t ≠ b) (hf_p0 : fits .byte (.int p0) = true) (hf_p1 : fits .byte (.int p1) = true) (hf_p2 : fits .byte (.int p2) = true) (hf_p3 : fits .byte (.int p3) = true) (hf_p4 : fits .byte (.int p4) = true) (hf_p5 : fits .byte (.int p5) = true) (hf_q0 : fits .byte (.int q0) = true) (hf_q1 : fits .byte (.int q1) = true) :
    Met l (⟨"java/lang/AbstractStringBuilder", "append", "(Ljava/lang/String;)Ljava/lang/AbstractStringBuilder;"⟩ : MethodName) jdk_68_method_22_code 3 (some (.object "java/lang/AbstractStringBuilder")) [] ({ frames := 3, cells := 0, slots := 0, locals := 80 } : Room) #[(.ref t), (.ref a)] Z h n0 (fun v h' => v = some (.ref t) ∧ Keep h h' [t, va] ∧ Exa Z h' t "java/lang/StringBuilder" ∧ Fld Z h' t "java/lang/AbstractStringBuilder" "value" "[B" (.ref va) ∧ Fld Z h' t "java/lang/AbstractStringBuilder" "coder" "B" (.int (0 : Int32)) ∧ Fld Z h' t "java/lang/AbstractStringBuilder" "count" "I" (.int (8 : Int32)) ∧ Ary Z h' va kv .byte [(.int p0), (.int p1), (.int p2), (.int p3), (.int p4), (.int p5), (.int q0), (.int q1), (.int (0 : Int32)), (.int (0 : Int32)), (.int (0 : Int32)), (.int (0 : Int32)), (.int (0 : Int32)), (.int (0 : Int32)), (.int (0 : Int32)), (.int (0 : Int32))]) := by
  refine Met.of (plainFor_of_name (by first | (simp [plainName, overriddenIn]; done) | decide +kernel)) ?_
  intro pP eE sS mM bB tT cC K
  refine Go.entry (ls := #[.val (.ref t), .val (.ref a), .unset]) (by first | (simp [argsToLocals, Value.category]; done) | rfl) ?_
  refine go_aloadN (q := 1) K daapp0_1_0 rfl rfl rfl ?_
  refine go_ifnonnullY (q := 9) K daapp0_1_1 (by decide) rfl ?_
  refine go_aloadN (q := 10) K daapp0_1_9 rfl rfl rfl ?_
  refine go_callV (q := 13) (W := 0) K (wd hw 91 rfl) (wd hw 92 rfl) (wd hw 94 rfl) (wd hw 93 rfl) (wd hw 5 rfl) (wd hw 95 rfl) (wd hw 94 rfl) rfl p7_ [] [] (strLen l Z a0 hw _ _ _ _ _ _ _ n0 p0_ p1_ hcs p7_ p8_ p9_ p10_ rfl) daapp0_1_10 (ps := []) (by decide +kernel) rfl rfl rfl (by decide) rfl (by decide) (by decide) (by decide) (by decide) rfl ?_
  rintro _ _ ⟨rfl, rfl⟩
  show Go pP l eE _ sS mM _ bB tT cC n0 _ h 0 0 (mkF mM 13 #[.val (.ref t), .val (.ref a), .unset] [(.int (2 : Int32))])
  refine go_istoreN (q := 14) K daapp0_1_13 #[.val (.ref t), .val (.ref a), .val (.int (2 : Int32))] rfl rfl ?_
  refine go_aloadN (q := 15) K daapp0_1_14 rfl rfl rfl ?_
  refine go_aloadN (q := 16) K daapp0_1_15 rfl rfl rfl ?_
  refine go_getF (q := 19) K (wd hw 101 rfl) Via.refl p6_ daapp0_1_16 rfl ?_
  refine go_iloadN (q := 20) K daapp0_1_19 rfl rfl ?_
  refine go_iadd (q := 21) K daapp0_1_20 rfl ?_
  refine go_eqI (y := (8 : Int32)) (by decide) ?_
  refine go_callP (q := 24) (W := 0) K (wd hw 103 rfl) (wd hw 105 rfl) (wd hw 106 rfl) rfl (wd hw 104 rfl) (wd hw 73 rfl) (wd hw 107 rfl) p3_ [(.int (8 : Int32))] [] (ensCap l Z a0 hw _ _ _ _ _ _ n0 p4_ p5_ p11_ rfl (by decide)) daapp0_1_21 (ps := [.int]) (by decide +kernel) rfl rfl rfl (by decide) rfl (by decide) (by decide) (by decide) (by decide) rfl ?_
  rintro _ _ ⟨rfl, rfl⟩
  show Go pP l eE _ sS mM _ bB tT cC n0 _ h 0 0 (mkF mM 24 #[.val (.ref t), .val (.ref a), .val (.int (2 : Int32))] [])
  refine go_aloadN (q := 25) K daapp0_1_24 rfl rfl rfl ?_
  refine go_aloadN (q := 26) K daapp0_1_25 rfl rfl rfl ?_
  refine go_getF (q := 29) K (wd hw 101 rfl) Via.refl p6_ daapp0_1_26 rfl ?_
  refine go_aloadN (q := 30) K daapp0_1_29 rfl rfl rfl ?_
  refine go_callP (q := 33) (W := 0) K (wd hw 108 rfl) (wd hw 110 rfl) (wd hw 106 rfl) rfl (wd hw 109 rfl) (wd hw 73 rfl) (wd hw 112 rfl) p3_ [(.int (6 : Int32)), (.ref a)] [] (put6_2 l Z a0 hw _ _ _ _ _ _ _ _ _ _ _ _ _ _ _ _ n0 p0_ p1_ (by assumption) p3_ p4_ p5_ p7_ p8_ p9_ p10_ p11_ p13_ (by assumption) (by assumption) (by assumption) (by assumption) (by assumption) (by assumption) (by assumption) (by assumption)) daapp0_1_30 (ps := [.int, (.object "java/lang/String")]) (by decide +kernel) rfl rfl rfl (by decide) rfl (by decide) (by decide) (by decide) (by decide) rfl ?_
  rintro _ h3 ⟨rfl, Kh3, q0h3⟩
  show Go pP l eE _ sS mM _ bB tT cC n0 _ h3 0 0 (mkF mM 33 #[.val (.ref t), .val (.ref a), .val (.int (2 : Int32))] [])
  refine go_aloadN (q := 34) K daapp0_1_33 rfl rfl rfl ?_
  refine go_dup (q := 35) K daapp0_1_34 rfl rfl ?_
  have f1 := (p6_.keep Kh3 (ninS p14_ nin0))
  refine go_getF (q := 38) K (wd hw 101 rfl) Via.refl f1 daapp0_1_35 rfl ?_
  refine go_iloadN (q := 39) K daapp0_1_38 rfl rfl ?_
  refine go_iadd (q := 40) K daapp0_1_39 rfl ?_
  refine go_eqI (y := (8 : Int32)) (by decide) ?_
  have f2 := (p3_.keep Kh3)
  refine go_putF (q := 43) K (wd hw 101 rfl) Via.refl f1 f2 (Or.inl (wd hw 102 rfl)) (wd hw 64 rfl) (ty := .int) (by decide +kernel) rfl rfl p12_ daapp0_1_40 rfl ?_
  intro h4 Wh4
  refine go_aloadN (q := 44) K daapp0_1_43 rfl rfl rfl ?_
  refine go_aret K daapp0_1_44 rfl rfl rfl rfl (by decide) (by decide) ?_
  have f3 := (((Keep.refl h [t, va]).trans Kh3 (allS (Or.inl (by simp)) all0)).wr Wh4 (Or.inl (by simp)))
  have f4 := (f2.wr Wh4)
  have f5 := ((p4_.keep Kh3 (ninS p14_ nin0)).other Wh4 (Or.inr (slot_ne (C := "java/lang/StringBuilder") (Or.inl (wd hw 78 rfl)) (Or.inl (wd hw 102 rfl)) (by decide) (t := (.array .byte)) (t' := .int) (by decide +kernel) (by decide +kernel))))
  have f6 := ((p5_.keep Kh3 (ninS p14_ nin0)).other Wh4 (Or.inr (slot_ne (C := "java/lang/StringBuilder") (Or.inl (wd hw 80 rfl)) (Or.inl (wd hw 102 rfl)) (by decide) (t := .byte) (t' := .int) (by decide +kernel) (by decide +kernel))))
  have f7 := (q0h3.other Wh4 (p14_).symm)
  exact ⟨rfl, f3, f4, f5, f6, (f1.same Wh4), f7⟩
set_option maxRecDepth 65536 in
set_option maxHeartbeats 40000000 in
theorem app6_2 (l : Launch) (Z : State) (a0 : Array Value) (hw : ∀ d ∈ tables_1, d.before a0 Z = true) (t : Addr) (va : Addr) (kv : ClassId) (a : Addr) (b : Addr) (kb : ClassId) (cs : Int32) (p0 : Int32) (p1 : Int32) (p2 : Int32) (p3 : Int32) (p4 : Int32) (p5 : Int32) (q0 : Int32) (q1 : Int32) (h : Heap) (n0 : Nat) (p0_ : Old Z n0 h) (p1_ : Sta Z Z.heap "java/lang/String" "COMPACT_STRINGS" "Z" (.int cs)) (hcs : ¬ cs = (0 : Int32)) (p3_ : Exa Z h t "java/lang/StringBuilder") (p4_ : Fld Z h t "java/lang/AbstractStringBuilder" "value" "[B" (.ref va)) (p5_ : Fld Z h t "java/lang/AbstractStringBuilder" "coder" "B" (.int (0 : Int32))) (p6_ : Fld Z h t "java/lang/AbstractStringBuilder" "count" "I" (.int (6 : Int32))) (p7_ : Exa Z h a "java/lang/String") (p8_ : Fld Z h a "java/lang/String" "value" "[B" (.ref b)) (p9_ : Fld Z h a "java/lang/String" "coder" "B" (.int (0 : Int32))) (p10_ : Ary Z h b kb .byte [(.int q0), (.int q1)]) (p11_ : Ary Z h va kv .byte [(.int p0), (.int p1), (.int p2), (.int p3), (.int p4), (.int p5), (.int (0 : Int32)), (.int (0 : Int32)), (.int (0 : Int32)), (.int (0 : Int32)), (.int (0 : Int32)), (.int (0 : Int32)), (.int (0 : Int32)), (.int (0 : Int32)), (.int (0 : Int32)), (.int (0 : Int32))]) (p12_ : n0 ≤ t) (p13_ : n0 ≤ va) (p14_ : t ≠ va) (p15_ : t ≠ a) (p16_ : t ≠ b) (hf_p0 : fits .byte (.int p0) = true) (hf_p1 : fits .byte (.int p1) = true) (hf_p2 : fits .byte (.int p2) = true) (hf_p3 : fits .byte (.int p3) = true) (hf_p4 : fits .byte (.int p4) = true) (hf_p5 : fits .byte (.int p5) = true) (hf_q0 : fits .byte (.int q0) = true) (hf_q1 : fits .byte (.int q1) = true) :
    Met l (⟨"java/lang/StringBuilder", "append", "(Ljava/lang/String;)Ljava/lang/StringBuilder;"⟩ : MethodName) jdk_67_method_7_code 2 (some (.object "java/lang/StringBuilder")) [] ({ frames := 4, cells := 0, slots := 0, locals := 96 } : Room) #[(.ref t), (.ref a)] Z h n0 (fun v h' => v = some (.ref t) ∧ Keep h h' [t, va] ∧ Exa Z h' t "java/lang/StringBuilder" ∧ Fld Z h' t "java/lang/AbstractStringBuilder" "value" "[B" (.ref va) ∧ Fld Z h' t "java/lang/AbstractStringBuilder" "coder" "B" (.int (0 : Int32)) ∧ Fld Z h' t "java/lang/AbstractStringBuilder" "count" "I" (.int (8 : Int32)) ∧ Ary Z h' va kv .byte [(.int p0), (.int p1), (.int p2), (.int p3), (.int p4), (.int p5), (.int q0), (.int q1), (.int (0 : Int32)), (.int (0 : Int32)), (.int (0 : Int32)), (.int (0 : Int32)), (.int (0 : Int32)), (.int (0 : Int32)), (.int (0 : Int32)), (.int (0 : Int32))]) := by
  refine Met.of (plainFor_of_name (by first | (simp [plainName, overriddenIn]; done) | decide +kernel)) ?_
  intro pP eE sS mM bB tT cC K
  refine Go.entry (ls := #[.val (.ref t), .val (.ref a)]) (by first | (simp [argsToLocals, Value.category]; done) | rfl) ?_
  refine go_aloadN (q := 1) K dapp0_1_0 rfl rfl rfl ?_
  refine go_aloadN (q := 2) K dapp0_1_1 rfl rfl rfl ?_
  refine go_callT (q := 5) (W := 0) K (wd hw 86 rfl) (wd hw 87 rfl) (wd hw 88 rfl) (wd hw 73 rfl) (wd hw 90 rfl) (wd hw 106 rfl) rfl (by decide) p3_ [(.ref a)] [] (aapp6_2 l Z a0 hw _ _ _ _ _ _ _ _ _ _ _ _ _ _ _ _ n0 p0_ p1_ (by assumption) p3_ p4_ p5_ p6_ p7_ p8_ p9_ p10_ p11_ p12_ p13_ p14_ p15_ p16_ (by assumption) (by assumption) (by assumption) (by assumption) (by assumption) (by assumption) (by assumption) (by assumption)) dapp0_1_2 (ps := [(.object "java/lang/String")]) (by decide +kernel) rfl rfl rfl (by decide) rfl (by decide) (by decide) (by decide) (by decide) rfl ?_
  rintro _ h1 ⟨rfl, Kh1, q0h1, q1h1, q2h1, q3h1, q4h1⟩
  show Go pP l eE _ sS mM _ bB tT cC n0 _ h1 0 0 (mkF mM 5 #[.val (.ref t), .val (.ref a)] [(.ref t)])
  refine go_pop (q := 6) K dapp0_1_5 rfl rfl ?_
  refine go_aloadN (q := 7) K dapp0_1_6 rfl rfl rfl ?_
  refine go_aret K dapp0_1_7 rfl rfl rfl rfl (by decide) (by decide) ?_
  have f1 := ((Keep.refl h [t, va]).trans Kh1 (allS (Or.inl (by simp)) (allS (Or.inl (by simp)) all0)))
  exact ⟨rfl, f1, q0h1, q1h1, q2h1, q3h1, q4h1⟩
set_option maxRecDepth 65536 in
set_option maxHeartbeats 40000000 in
theorem gb8_1 (l : Launch) (Z : State) (a0 : Array Value) (hw : ∀ d ∈ tables_1, d.before a0 Z = true) (va : Addr) (kv : ClassId) (a : Addr) (b : Addr) (kb : ClassId) (cs : Int32) (p0 : Int32) (p1 : Int32) (p2 : Int32) (p3 : Int32) (p4 : Int32) (p5 : Int32) (p6 : Int32) (p7 : Int32) (q0 : Int32) (h : Heap) (n0 : Nat) (p0_ : Old Z n0 h) (p1_ : Sta Z Z.heap "java/lang/String" "COMPACT_STRINGS" "Z" (.int cs)) (hcs : ¬ cs = (0 : Int32)) (p3_ : Exa Z h a "java/lang/String") (p4_ : Fld Z h a "java/lang/String" "value" "[B" (.ref b)) (p5_ : Fld Z h a "java/lang/String" "coder" "B" (.int (0 : Int32))) (p6_ : Ary Z h b kb .byte [(.int q0)]) (p7_ : Ary Z h va kv .byte [(.int p0), (.int p1), (.int p2), (.int p3), (.int p4), (.int p5), (.int p6), (.int p7), (.int (0 : Int32)), (.int (0 : Int32)), (.int (0 : Int32)), (.int (0 : Int32)), (.int (0 : Int32)), (.int (0 : Int32)), (.int (0 : Int32)), (.int (0 : Int32))]) (p8_ : n0 ≤ va) (hf_p0 : fits .byte (.int p0) = true) (hf_p1 : fits .byte (.int p1) = true) (hf_p2 : fits .byte (.int p2) = true) (hf_p3 : fits .byte (.int p3) = true) (hf_p4 : fits .byte (.int p4) = true) (hf_p5 : fits .byte (.int p5) = true) (hf_p6 : fits .byte (.int p6) = true) (hf_p7 : fits .byte (.int p7) = true) (hf_q0 : fits .byte (.int q0) = true) :
    Met l (⟨"java/lang/String", "getBytes", "([BIB)V"⟩ : MethodName) jdk_42_method_147_code 4 none [] ({ frames := 1, cells := 0, slots := 0, locals := 40 } : Room) #[(.ref a), (.ref va), (.int (8 : Int32)), (.int (0 : Int32))] Z h n0 (fun v h' => v = none ∧ Keep h h' [va] ∧ Ary Z h' va kv .byte [(.int p0), (.int p1), (.int p2), (.int p3), (.int p4), (.int p5), (.int p6), (.int p7), (.int q0), (.int (0 : Int32)), (.int (0 : Int32)), (.int (0 : Int32)), (.int (0 : Int32)), (.int (0 : Int32)), (.int (0 : Int32)), (.int (0 : Int32))]) := by
  refine Met.of (plainFor_of_name (by first | (simp [plainName, overriddenIn]; done) | decide +kernel)) ?_
  intro pP eE sS mM bB tT cC K
  refine Go.entry (ls := #[.val (.ref a), .val (.ref va), .val (.int (8 : Int32)), .val (.int (0 : Int32))]) (by first | (simp [argsToLocals, Value.category]; done) | rfl) ?_
  refine go_aloadN (q := 1) K dgb0_1_0 rfl rfl rfl ?_
  refine go_callV (q := 4) (W := 0) K (wd hw 96 rfl) (wd hw 97 rfl) (wd hw 99 rfl) (wd hw 98 rfl) (wd hw 5 rfl) (wd hw 100 rfl) (wd hw 94 rfl) rfl p3_ [] [] (strCoder l Z a0 hw _ _ _ n0 p0_ p1_ (by assumption) p5_) dgb0_1_1 (ps := []) (by decide +kernel) rfl rfl rfl (by decide) rfl (by decide) (by decide) (by decide) (by decide) rfl ?_
  rintro _ _ ⟨rfl, rfl⟩
  show Go pP l eE _ sS mM _ bB tT cC n0 _ h 0 0 (mkF mM 4 #[.val (.ref a), .val (.ref va), .val (.int (8 : Int32)), .val (.int (0 : Int32))] [(.int (0 : Int32))])
  refine go_iloadN (q := 5) K dgb0_1_4 rfl rfl ?_
  refine go_icmp (q := 28) (q' := 8) K dgb0_1_5 (by decide) rfl rfl (fun hn => cN_no hn (show (0 : Int32) = (0 : Int32) from (by decide))) (fun _ => ?_)
  refine go_aloadN (q := 9) K dgb0_1_8 rfl rfl rfl ?_
  refine go_getF (q := 12) K (wd hw 25 rfl) Via.refl p4_ dgb0_1_9 rfl ?_
  refine go_iconst (q := 13) K dgb0_1_12 (0 : Int32) rfl rfl ?_
  refine go_aloadN (q := 14) K dgb0_1_13 rfl rfl rfl ?_
  refine go_iloadN (q := 15) K dgb0_1_14 rfl rfl ?_
  refine go_iloadN (q := 16) K dgb0_1_15 rfl rfl ?_
  refine go_ishl (q := 17) K dgb0_1_16 rfl ?_
  refine go_eqI (y := (8 : Int32)) (by decide) ?_
  refine go_aloadN (q := 18) K dgb0_1_17 rfl rfl rfl ?_
  refine go_getF (q := 21) K (wd hw 25 rfl) Via.refl p4_ dgb0_1_18 rfl ?_
  refine go_arraylength (q := 22) (z := (1 : Int32)) K p6_ rfl dgb0_1_21 rfl ?_
  refine go_arraycopy (q := 25) (W := 0) (us := [(.int q0)]) (za := (1 : Int32)) (zb := (16 : Int32)) K (wd hw 124 rfl) (wd hw 127 rfl) (wd hw 125 rfl) (wd hw 126 rfl) p6_ p7_ (fitsS hf_q0 fits0) (fitsS hf_p0 (fitsS hf_p1 (fitsS hf_p2 (fitsS hf_p3 (fitsS hf_p4 (fitsS hf_p5 (fitsS hf_p6 (fitsS hf_p7 (fitsS (by decide) (fitsS (by decide) (fitsS (by decide) (fitsS (by decide) (fitsS (by decide) (fitsS (by decide) (fitsS (by decide) (fitsS (by decide) fits0)))))))))))))))) rfl (by decide) rfl (by decide) (by decide) (by decide) (by decide) (show 0 + 1 ≤ 1 from by decide) (show 8 + 1 ≤ 16 from by decide) rfl p8_ dgb0_1_22 rfl rfl (by decide) (by decide) rfl ?_
  intro h2 Kh2 Yh20
  have Yh2 : Ary Z h2 va kv .byte [(.int p0), (.int p1), (.int p2), (.int p3), (.int p4), (.int p5), (.int p6), (.int p7), (.int q0), (.int (0 : Int32)), (.int (0 : Int32)), (.int (0 : Int32)), (.int (0 : Int32)), (.int (0 : Int32)), (.int (0 : Int32)), (.int (0 : Int32))] := Yh20
  refine go_goto (q := 43) K dgb0_1_25 (by decide) rfl ?_
  refine go_return K dgb0_1_43 rfl (by decide) (by decide) ?_
  have f1 := ((Keep.refl h [va]).trans Kh2 (allS (Or.inl (by simp)) all0))
  exact ⟨rfl, f1, Yh2⟩
set_option maxRecDepth 65536 in
set_option maxHeartbeats 40000000 in
theorem put8_1 (l : Launch) (Z : State) (a0 : Array Value) (hw : ∀ d ∈ tables_1, d.before a0 Z = true) (t : Addr) (va : Addr) (kv : ClassId) (a : Addr) (b : Addr) (kb : ClassId) (cs : Int32) (p0 : Int32) (p1 : Int32) (p2 : Int32) (p3 : Int32) (p4 : Int32) (p5 : Int32) (p6 : Int32) (p7 : Int32) (q0 : Int32) (h : Heap) (n0 : Nat) (p0_ : Old Z n0 h) (p1_ : Sta Z Z.heap "java/lang/String" "COMPACT_STRINGS" "Z" (.int cs)) (hcs : ¬ cs = (0 : Int32)) (p3_ : Exa Z h t "java/lang/StringBuilder") (p4_ : Fld Z h t "java/lang/AbstractStringBuilder" "value" "[B" (.ref va)) (p5_ : Fld Z h t "java/lang/AbstractStringBuilder" "coder" "B" (.int (0 : Int32))) (p6_ : Exa Z h a "java/lang/String") (p7_ : Fld Z h a "java/lang/String" "value" "[B" (.ref b)) (p8_ : Fld Z h a "java/lang/String" "coder" "B" (.int (0 : Int32))) (p9_ : Ary Z h b kb .byte [(.int q0)]) (p10_ : Ary Z h va kv .byte [(.int p0), (.int p1), (.int p2), (.int p3), (.int p4), (.int p5), (.int p6), (.int p7), (.int (0 : Int32)), (.int (0 : Int32)), (.int (0 : Int32)), (.int (0 : Int32)), (.int (0 : Int32)), (.int (0 : Int32)), (.int (0 : Int32)), (.int (0 : Int32))]) (p11_ : n0 ≤ va) (hf_p0 : fits .byte (.int p0) = true) (hf_p1 : fits .byte (.int p1) = true) (hf_p2 : fits .byte (.int p2) = true) (hf_p3 : fits .byte (.int p3) = true) (hf_p4 : fits .byte (.int p4) = true) (hf_p5 : fits .byte (.int p5) = true) (hf_p6 : fits .byte (.int p6) = true) (hf_p7 : fits .byte (.int p7) = true) (hf_q0 : fits .byte (.int q0) = true) :
    Met l (⟨"java/lang/AbstractStringBuilder", "putStringAt", "(ILjava/lang/String;)V"⟩ : MethodName) jdk_68_method_73_code 3 none [] ({ frames := 2, cells := 0, slots := 0, locals := 60 } : Room) #[(.ref t), (.int (8 : Int32)), (.ref a)] Z h n0 (fun v h' => v = none ∧ Keep h h' [va] ∧ Ary Z h' va kv .byte [(.int p0), (.int p1), (.int p2), (.int p3), (.int p4), (.int p5), (.int p6), (.int p7), (.int q0), (.int (0 : Int32)), (.int (0 : Int32)), (.int (0 : Int32)), (.int (0 : Int32)), (.int (0 : Int32)), (.int (0 : Int32)), (.int (0 : Int32))]) := by
  refine Met.of (plainFor_of_name (by first | (simp [plainName, overriddenIn]; done) | decide +kernel)) ?_
  intro pP eE sS mM bB tT cC K
  refine Go.entry (ls := #[.val (.ref t), .val (.int (8 : Int32)), .val (.ref a)]) (by first | (simp [argsToLocals, Value.category]; done) | rfl) ?_
  refine go_aloadN (q := 1) K dput0_1_0 rfl rfl rfl ?_
  refine go_aloadN (q := 2) K dput0_1_1 rfl rfl rfl ?_
  refine go_callP (q := 5) (W := 0) K (wd hw 113 rfl) (wd hw 115 rfl) (wd hw 106 rfl) rfl (wd hw 114 rfl) (wd hw 73 rfl) (wd hw 117 rfl) p3_ [(.ref a)] [] (inflate l Z a0 hw _ _ _ _ n0 p0_ p1_ (by assumption) p5_ p6_ p8_) dput0_1_2 (ps := [(.object "java/lang/String")]) (by decide +kernel) rfl rfl rfl (by decide) rfl (by decide) (by decide) (by decide) (by decide) rfl ?_
  rintro _ _ ⟨rfl, rfl⟩
  show Go pP l eE _ sS mM _ bB tT cC n0 _ h 0 0 (mkF mM 5 #[.val (.ref t), .val (.int (8 : Int32)), .val (.ref a)] [])
  refine go_aloadN (q := 6) K dput0_1_5 rfl rfl rfl ?_
  refine go_aloadN (q := 7) K dput0_1_6 rfl rfl rfl ?_
  refine go_getF (q := 10) K (wd hw 77 rfl) Via.refl p4_ dput0_1_7 rfl ?_
  refine go_iloadN (q := 11) K dput0_1_10 rfl rfl ?_
  refine go_aloadN (q := 12) K dput0_1_11 rfl rfl rfl ?_
  refine go_getF (q := 15) K (wd hw 79 rfl) Via.refl p5_ dput0_1_12 rfl ?_
  refine go_callV (q := 18) (W := 0) K (wd hw 119 rfl) (wd hw 120 rfl) (wd hw 122 rfl) (wd hw 121 rfl) (wd hw 5 rfl) (wd hw 123 rfl) (wd hw 94 rfl) rfl p6_ [(.ref va), (.int (8 : Int32)), (.int (0 : Int32))] [] (gb8_1 l Z a0 hw _ _ _ _ _ _ _ _ _ _ _ _ _ _ _ _ n0 p0_ p1_ (by assumption) p6_ p7_ p8_ p9_ p10_ p11_ (by assumption) (by assumption) (by assumption) (by assumption) (by assumption) (by assumption) (by assumption) (by assumption) (by assumption)) dput0_1_15 (ps := [(.array .byte), .int, .byte]) (by decide +kernel) rfl rfl rfl (by decide) rfl (by decide) (by decide) (by decide) (by decide) rfl ?_
  rintro _ h2 ⟨rfl, Kh2, q0h2⟩
  show Go pP l eE _ sS mM _ bB tT cC n0 _ h2 0 0 (mkF mM 18 #[.val (.ref t), .val (.int (8 : Int32)), .val (.ref a)] [])
  refine go_return K dput0_1_18 rfl (by decide) (by decide) ?_
  have f1 := ((Keep.refl h [va]).trans Kh2 (allS (Or.inl (by simp)) all0))
  exact ⟨rfl, f1, q0h2⟩
set_option maxRecDepth 65536 in
set_option maxHeartbeats 40000000 in
theorem aapp8_1 (l : Launch) (Z : State) (a0 : Array Value) (hw : ∀ d ∈ tables_1, d.before a0 Z = true) (t : Addr) (va : Addr) (kv : ClassId) (a : Addr) (b : Addr) (kb : ClassId) (cs : Int32) (p0 : Int32) (p1 : Int32) (p2 : Int32) (p3 : Int32) (p4 : Int32) (p5 : Int32) (p6 : Int32) (p7 : Int32) (q0 : Int32) (h : Heap) (n0 : Nat) (p0_ : Old Z n0 h) (p1_ : Sta Z Z.heap "java/lang/String" "COMPACT_STRINGS" "Z" (.int cs)) (hcs : ¬ cs = (0 : Int32)) (p3_ : Exa Z h t "java/lang/StringBuilder") (p4_ : Fld Z h t "java/lang/AbstractStringBuilder" "value" "[B" (.ref va)) (p5_ : Fld Z h t "java/lang/AbstractStringBuilder" "coder" "B" (.int (0 : Int32))) (p6_ : Fld Z h t "java/lang/AbstractStringBuilder" "count" "I" (.int (8 : Int32))) (p7_ : Exa Z h a "java/lang/String") (p8_ : Fld Z h a "java/lang/String" "value" "[B" (.ref b)) (p9_ : Fld Z h a "java/lang/String" "coder" "B" (.int (0 : Int32))) (p10_ : Ary Z h b kb .byte [(.int q0)]) (p11_ : Ary Z h va kv .byte [(.int p0), (.int p1), (.int p2), (.int p3), (.int p4), (.int p5), (.int p6), (.int p7), (.int (0 : Int32)), (.int (0 : Int32)), (.int (0 : Int32)), (.int (0 : Int32)), (.int (0 : Int32)), (.int (0 : Int32)), (.int (0 : Int32)), (.int (0 : Int32))]) (p12_ : n0 ≤ t) (p13_ : n0 ≤ va) (p14_ : t ≠ va) (p15_ : t ≠ a) (p16_ : t ≠ b) (hf_p0 : fits .byte (.int p0) = true) (hf_p1 : fits .byte (.int p1) = true) (hf_p2 : fits .byte (.int p2) = true) (hf_p3 : fits .byte (.int p3) = true) (hf_p4 : fits .byte (.int p4) = true) (hf_p5 : fits .byte (.int p5) = true) (hf_p6 : fits .byte (.int p6) = true) (hf_p7 : fits .byte (.int p7) = true) (hf_q0 : fits .byte (.int q0) = true) :
    Met l (⟨"java/lang/AbstractStringBuilder", "append", "(Ljava/lang/String;)Ljava/lang/AbstractStringBuilder;"⟩ : MethodName) jdk_68_method_22_code 3 (some (.object "java/lang/AbstractStringBuilder")) [] ({ frames := 3, cells := 0, slots := 0, locals := 80 } : Room) #[(.ref t), (.ref a)] Z h n0 (fun v h' => v = some (.ref t) ∧ Keep h h' [t, va] ∧ Exa Z h' t "java/lang/StringBuilder" ∧ Fld Z h' t "java/lang/AbstractStringBuilder" "value" "[B" (.ref va) ∧ Fld Z h' t "java/lang/AbstractStringBuilder" "coder" "B" (.int (0 : Int32)) ∧ Fld Z h' t "java/lang/AbstractStringBuilder" "count" "I" (.int (9 : Int32)) ∧ Ary Z h' va kv .byte [(.int p0), (.int p1), (.int p2), (.int p3), (.int p4), (.int p5), (.int p6), (.int p7), (.int q0), (.int (0 : Int32)), (.int (0 : Int32)), (.int (0 : Int32)), (.int (0 : Int32)), (.int (0 : Int32)), (.int (0 : Int32)), (.int (0 : Int32))]) := by
  refine Met.of (plainFor_of_name (by first | (simp [plainName, overriddenIn]; done) | decide +kernel)) ?_
  intro pP eE sS mM bB tT cC K
  refine Go.entry (ls := #[.val (.ref t), .val (.ref a), .unset]) (by first | (simp [argsToLocals, Value.category]; done) | rfl) ?_
  refine go_aloadN (q := 1) K daapp0_1_0 rfl rfl rfl ?_
  refine go_ifnonnullY (q := 9) K daapp0_1_1 (by decide) rfl ?_
  refine go_aloadN (q := 10) K daapp0_1_9 rfl rfl rfl ?_
  refine go_callV (q := 13) (W := 0) K (wd hw 91 rfl) (wd hw 92 rfl) (wd hw 94 rfl) (wd hw 93 rfl) (wd hw 5 rfl) (wd hw 95 rfl) (wd hw 94 rfl) rfl p7_ [] [] (strLen l Z a0 hw _ _ _ _ _ _ _ n0 p0_ p1_ hcs p7_ p8_ p9_ p10_ rfl) daapp0_1_10 (ps := []) (by decide +kernel) rfl rfl rfl (by decide) rfl (by decide) (by decide) (by decide) (by decide) rfl ?_
  rintro _ _ ⟨rfl, rfl⟩
  show Go pP l eE _ sS mM _ bB tT cC n0 _ h 0 0 (mkF mM 13 #[.val (.ref t), .val (.ref a), .unset] [(.int (1 : Int32))])
  refine go_istoreN (q := 14) K daapp0_1_13 #[.val (.ref t), .val (.ref a), .val (.int (1 : Int32))] rfl rfl ?_
  refine go_aloadN (q := 15) K daapp0_1_14 rfl rfl rfl ?_
  refine go_aloadN (q := 16) K daapp0_1_15 rfl rfl rfl ?_
  refine go_getF (q := 19) K (wd hw 101 rfl) Via.refl p6_ daapp0_1_16 rfl ?_
  refine go_iloadN (q := 20) K daapp0_1_19 rfl rfl ?_
  refine go_iadd (q := 21) K daapp0_1_20 rfl ?_
  refine go_eqI (y := (9 : Int32)) (by decide) ?_
  refine go_callP (q := 24) (W := 0) K (wd hw 103 rfl) (wd hw 105 rfl) (wd hw 106 rfl) rfl (wd hw 104 rfl) (wd hw 73 rfl) (wd hw 107 rfl) p3_ [(.int (9 : Int32))] [] (ensCap l Z a0 hw _ _ _ _ _ _ n0 p4_ p5_ p11_ rfl (by decide)) daapp0_1_21 (ps := [.int]) (by decide +kernel) rfl rfl rfl (by decide) rfl (by decide) (by decide) (by decide) (by decide) rfl ?_
  rintro _ _ ⟨rfl, rfl⟩
  show Go pP l eE _ sS mM _ bB tT cC n0 _ h 0 0 (mkF mM 24 #[.val (.ref t), .val (.ref a), .val (.int (1 : Int32))] [])
  refine go_aloadN (q := 25) K daapp0_1_24 rfl rfl rfl ?_
  refine go_aloadN (q := 26) K daapp0_1_25 rfl rfl rfl ?_
  refine go_getF (q := 29) K (wd hw 101 rfl) Via.refl p6_ daapp0_1_26 rfl ?_
  refine go_aloadN (q := 30) K daapp0_1_29 rfl rfl rfl ?_
  refine go_callP (q := 33) (W := 0) K (wd hw 108 rfl) (wd hw 110 rfl) (wd hw 106 rfl) rfl (wd hw 109 rfl) (wd hw 73 rfl) (wd hw 112 rfl) p3_ [(.int (8 : Int32)), (.ref a)] [] (put8_1 l Z a0 hw _ _ _ _ _ _ _ _ _ _ _ _ _ _ _ _ _ n0 p0_ p1_ (by assumption) p3_ p4_ p5_ p7_ p8_ p9_ p10_ p11_ p13_ (by assumption) (by assumption) (by assumption) (by assumption) (by assumption) (by assumption) (by assumption) (by assumption) (by assumption)) daapp0_1_30 (ps := [.int, (.object "java/lang/String")]) (by decide +kernel) rfl rfl rfl (by decide) rfl (by decide) (by decide) (by decide) (by decide) rfl ?_
  rintro _ h3 ⟨rfl, Kh3, q0h3⟩
  show Go pP l eE _ sS mM _ bB tT cC n0 _ h3 0 0 (mkF mM 33 #[.val (.ref t), .val (.ref a), .val (.int (1 : Int32))] [])
  refine go_aloadN (q := 34) K daapp0_1_33 rfl rfl rfl ?_
  refine go_dup (q := 35) K daapp0_1_34 rfl rfl ?_
  have f1 := (p6_.keep Kh3 (ninS p14_ nin0))
  refine go_getF (q := 38) K (wd hw 101 rfl) Via.refl f1 daapp0_1_35 rfl ?_
  refine go_iloadN (q := 39) K daapp0_1_38 rfl rfl ?_
  refine go_iadd (q := 40) K daapp0_1_39 rfl ?_
  refine go_eqI (y := (9 : Int32)) (by decide) ?_
  have f2 := (p3_.keep Kh3)
  refine go_putF (q := 43) K (wd hw 101 rfl) Via.refl f1 f2 (Or.inl (wd hw 102 rfl)) (wd hw 64 rfl) (ty := .int) (by decide +kernel) rfl rfl p12_ daapp0_1_40 rfl ?_
  intro h4 Wh4
  refine go_aloadN (q := 44) K daapp0_1_43 rfl rfl rfl ?_
  refine go_aret K daapp0_1_44 rfl rfl rfl rfl (by decide) (by decide) ?_
  have f3 := (((Keep.refl h [t, va]).trans Kh3 (allS (Or.inl (by simp)) all0)).wr Wh4 (Or.inl (by simp)))
  have f4 := (f2.wr Wh4)
  have f5 := ((p4_.keep Kh3 (ninS p14_ nin0)).other Wh4 (Or.inr (slot_ne (C := "java/lang/StringBuilder") (Or.inl (wd hw 78 rfl)) (Or.inl (wd hw 102 rfl)) (by decide) (t := (.array .byte)) (t' := .int) (by decide +kernel) (by decide +kernel))))
  have f6 := ((p5_.keep Kh3 (ninS p14_ nin0)).other Wh4 (Or.inr (slot_ne (C := "java/lang/StringBuilder") (Or.inl (wd hw 80 rfl)) (Or.inl (wd hw 102 rfl)) (by decide) (t := .byte) (t' := .int) (by decide +kernel) (by decide +kernel))))
  have f7 := (q0h3.other Wh4 (p14_).symm)
  exact ⟨rfl, f3, f4, f5, f6, (f1.same Wh4), f7⟩
set_option maxRecDepth 65536 in
set_option maxHeartbeats 40000000 in
theorem app8_1 (l : Launch) (Z : State) (a0 : Array Value) (hw : ∀ d ∈ tables_1, d.before a0 Z = true) (t : Addr) (va : Addr) (kv : ClassId) (a : Addr) (b : Addr) (kb : ClassId) (cs : Int32) (p0 : Int32) (p1 : Int32) (p2 : Int32) (p3 : Int32) (p4 : Int32) (p5 : Int32) (p6 : Int32) (p7 : Int32) (q0 : Int32) (h : Heap) (n0 : Nat) (p0_ : Old Z n0 h) (p1_ : Sta Z Z.heap "java/lang/String" "COMPACT_STRINGS" "Z" (.int cs)) (hcs : ¬ cs = (0 : Int32)) (p3_ : Exa Z h t "java/lang/StringBuilder") (p4_ : Fld Z h t "java/lang/AbstractStringBuilder" "value" "[B" (.ref va)) (p5_ : Fld Z h t "java/lang/AbstractStringBuilder" "coder" "B" (.int (0 : Int32))) (p6_ : Fld Z h t "java/lang/AbstractStringBuilder" "count" "I" (.int (8 : Int32))) (p7_ : Exa Z h a "java/lang/String") (p8_ : Fld Z h a "java/lang/String" "value" "[B" (.ref b)) (p9_ : Fld Z h a "java/lang/String" "coder" "B" (.int (0 : Int32))) (p10_ : Ary Z h b kb .byte [(.int q0)]) (p11_ : Ary Z h va kv .byte [(.int p0), (.int p1), (.int p2), (.int p3), (.int p4), (.int p5), (.int p6), (.int p7), (.int (0 : Int32)), (.int (0 : Int32)), (.int (0 : Int32)), (.int (0 : Int32)), (.int (0 : Int32)), (.int (0 : Int32)), (.int (0 : Int32)), (.int (0 : Int32))]) (p12_ : n0 ≤ t) (p13_ : n0 ≤ va) (p14_ : t ≠ va) (p15_ : t ≠ a) (p16_ : t ≠ b) (hf_p0 : fits .byte (.int p0) = true) (hf_p1 : fits .byte (.int p1) = true) (hf_p2 : fits .byte (.int p2) = true) (hf_p3 : fits .byte (.int p3) = true) (hf_p4 : fits .byte (.int p4) = true) (hf_p5 : fits .byte (.int p5) = true) (hf_p6 : fits .byte (.int p6) = true) (hf_p7 : fits .byte (.int p7) = true) (hf_q0 : fits .byte (.int q0) = true) :
    Met l (⟨"java/lang/StringBuilder", "append", "(Ljava/lang/String;)Ljava/lang/StringBuilder;"⟩ : MethodName) jdk_67_method_7_code 2 (some (.object "java/lang/StringBuilder")) [] ({ frames := 4, cells := 0, slots := 0, locals := 96 } : Room) #[(.ref t), (.ref a)] Z h n0 (fun v h' => v = some (.ref t) ∧ Keep h h' [t, va] ∧ Exa Z h' t "java/lang/StringBuilder" ∧ Fld Z h' t "java/lang/AbstractStringBuilder" "value" "[B" (.ref va) ∧ Fld Z h' t "java/lang/AbstractStringBuilder" "coder" "B" (.int (0 : Int32)) ∧ Fld Z h' t "java/lang/AbstractStringBuilder" "count" "I" (.int (9 : Int32)) ∧ Ary Z h' va kv .byte [(.int p0), (.int p1), (.int p2), (.int p3), (.int p4), (.int p5), (.int p6), (.int p7), (.int q0), (.int (0 : Int32)), (.int (0 : Int32)), (.int (0 : Int32)), (.int (0 : Int32)), (.int (0 : Int32)), (.int (0 : Int32)), (.int (0 : Int32))]) := by
  refine Met.of (plainFor_of_name (by first | (simp [plainName, overriddenIn]; done) | decide +kernel)) ?_
  intro pP eE sS mM bB tT cC K
  refine Go.entry (ls := #[.val (.ref t), .val (.ref a)]) (by first | (simp [argsToLocals, Value.category]; done) | rfl) ?_
  refine go_aloadN (q := 1) K dapp0_1_0 rfl rfl rfl ?_
  refine go_aloadN (q := 2) K dapp0_1_1 rfl rfl rfl ?_
  refine go_callT (q := 5) (W := 0) K (wd hw 86 rfl) (wd hw 87 rfl) (wd hw 88 rfl) (wd hw 73 rfl) (wd hw 90 rfl) (wd hw 106 rfl) rfl (by decide) p3_ [(.ref a)] [] (aapp8_1 l Z a0 hw _ _ _ _ _ _ _ _ _ _ _ _ _ _ _ _ _ n0 p0_ p1_ (by assumption) p3_ p4_ p5_ p6_ p7_ p8_ p9_ p10_ p11_ p12_ p13_ p14_ p15_ p16_ (by assumption) (by assumption) (by assumption) (by assumption) (by assumption) (by assumption) (by assumption) (by assumption) (by assumption)) dapp0_1_2 (ps := [(.object "java/lang/String")]) (by decide +kernel) rfl rfl rfl (by decide) rfl (by decide) (by decide) (by decide) (by decide) rfl ?_
  rintro _ h1 ⟨rfl, Kh1, q0h1, q1h1, q2h1, q3h1, q4h1⟩
  show Go pP l eE _ sS mM _ bB tT cC n0 _ h1 0 0 (mkF mM 5 #[.val (.ref t), .val (.ref a)] [(.ref t)])
  refine go_pop (q := 6) K dapp0_1_5 rfl rfl ?_
  refine go_aloadN (q := 7) K dapp0_1_6 rfl rfl rfl ?_
  refine go_aret K dapp0_1_7 rfl rfl rfl rfl (by decide) (by decide) ?_
  have f1 := ((Keep.refl h [t, va]).trans Kh1 (allS (Or.inl (by simp)) (allS (Or.inl (by simp)) all0)))
  exact ⟨rfl, f1, q0h1, q1h1, q2h1, q3h1, q4h1⟩
theorem daapc4_10_0 : decode jdk_68_method_31_code 0 = .ok (.aload_n 0, 1) := by decide +kernel
theorem daapc4_10_1 : decode jdk_68_method_31_code 1 = .ok (.aload_n 0, 1) := by decide +kernel
theorem daapc4_10_2 : decode jdk_68_method_31_code 2 = .ok (.getfield 79, 3) := by decide +kernel
theorem daapc4_10_5 : decode jdk_68_method_31_code 5 = .ok (.iconst 1, 1) := by decide +kernel
theorem daapc4_10_6 : decode jdk_68_method_31_code 6 = .ok (.iadd, 1) := by decide +kernel
theorem daapc4_10_7 : decode jdk_68_method_31_code 7 = .ok (.invokevirtual 100, 3) := by decide +kernel
theorem daapc4_10_10 : decode jdk_68_method_31_code 10 = .ok (.aload_n 0, 1) := by decide +kernel
theorem daapc4_10_11 : decode jdk_68_method_31_code 11 = .ok (.invokevirtual 83, 3) := by decide +kernel
theorem daapc4_10_14 : decode jdk_68_method_31_code 14 = .ok (.ifCond .eq 31, 3) := by decide +kernel
theorem daapc4_10_17 : decode jdk_68_method_31_code 17 = .ok (.iload_n 1, 1) := by decide +kernel
theorem daapc4_10_18 : decode jdk_68_method_31_code 18 = .ok (.invokestatic 191, 3) := by decide +kernel
theorem daapc4_10_21 : decode jdk_68_method_31_code 21 = .ok (.ifCond .eq 24, 3) := by decide +kernel
theorem daapc4_10_24 : decode jdk_68_method_31_code 24 = .ok (.aload_n 0, 1) := by decide +kernel
theorem daapc4_10_25 : decode jdk_68_method_31_code 25 = .ok (.getfield 15, 3) := by decide +kernel
theorem daapc4_10_28 : decode jdk_68_method_31_code 28 = .ok (.aload_n 0, 1) := by decide +kernel
theorem daapc4_10_29 : decode jdk_68_method_31_code 29 = .ok (.dup, 1) := by decide +kernel
theorem daapc4_10_30 : decode jdk_68_method_31_code 30 = .ok (.getfield 79, 3) := by decide +kernel
theorem daapc4_10_33 : decode jdk_68_method_31_code 33 = .ok (.dup_x1, 1) := by decide +kernel
theorem daapc4_10_34 : decode jdk_68_method_31_code 34 = .ok (.iconst 1, 1) := by decide +kernel
theorem daapc4_10_35 : decode jdk_68_method_31_code 35 = .ok (.iadd, 1) := by decide +kernel
theorem daapc4_10_36 : decode jdk_68_method_31_code 36 = .ok (.putfield 79, 3) := by decide +kernel
theorem daapc4_10_39 : decode jdk_68_method_31_code 39 = .ok (.iload_n 1, 1) := by decide +kernel
theorem daapc4_10_40 : decode jdk_68_method_31_code 40 = .ok (.i2b, 1) := by decide +kernel
theorem daapc4_10_41 : decode jdk_68_method_31_code 41 = .ok (.bastore, 1) := by decide +kernel
theorem daapc4_10_42 : decode jdk_68_method_31_code 42 = .ok (.goto 33, 3) := by decide +kernel
theorem daapc4_10_45 : decode jdk_68_method_31_code 45 = .ok (.aload_n 0, 1) := by decide +kernel
theorem daapc4_10_46 : decode jdk_68_method_31_code 46 = .ok (.invokevirtual 83, 3) := by decide +kernel
theorem daapc4_10_49 : decode jdk_68_method_31_code 49 = .ok (.ifCond .eq 7, 3) := by decide +kernel
theorem daapc4_10_52 : decode jdk_68_method_31_code 52 = .ok (.aload_n 0, 1) := by decide +kernel
theorem daapc4_10_53 : decode jdk_68_method_31_code 53 = .ok (.invokevirtual 195, 3) := by decide +kernel
theorem daapc4_10_56 : decode jdk_68_method_31_code 56 = .ok (.aload_n 0, 1) := by decide +kernel
theorem daapc4_10_57 : decode jdk_68_method_31_code 57 = .ok (.getfield 15, 3) := by decide +kernel
theorem daapc4_10_60 : decode jdk_68_method_31_code 60 = .ok (.aload_n 0, 1) := by decide +kernel
theorem daapc4_10_61 : decode jdk_68_method_31_code 61 = .ok (.dup, 1) := by decide +kernel
theorem daapc4_10_62 : decode jdk_68_method_31_code 62 = .ok (.getfield 79, 3) := by decide +kernel
theorem daapc4_10_65 : decode jdk_68_method_31_code 65 = .ok (.dup_x1, 1) := by decide +kernel
theorem daapc4_10_66 : decode jdk_68_method_31_code 66 = .ok (.iconst 1, 1) := by decide +kernel
theorem daapc4_10_67 : decode jdk_68_method_31_code 67 = .ok (.iadd, 1) := by decide +kernel
theorem daapc4_10_68 : decode jdk_68_method_31_code 68 = .ok (.putfield 79, 3) := by decide +kernel
theorem daapc4_10_71 : decode jdk_68_method_31_code 71 = .ok (.iload_n 1, 1) := by decide +kernel
theorem daapc4_10_72 : decode jdk_68_method_31_code 72 = .ok (.invokestatic 197, 3) := by decide +kernel
theorem daapc4_10_75 : decode jdk_68_method_31_code 75 = .ok (.aload_n 0, 1) := by decide +kernel
theorem daapc4_10_76 : decode jdk_68_method_31_code 76 = .ok (.areturn, 1) := by decide +kernel
set_option maxRecDepth 65536 in
set_option maxHeartbeats 40000000 in
theorem aapc4_10 (l : Launch) (Z : State) (a0 : Array Value) (hw : ∀ d ∈ tables_1, d.before a0 Z = true) (t : Addr) (va : Addr) (kv : ClassId) (cs : Int32) (p0 : Int32) (p1 : Int32) (p2 : Int32) (p3 : Int32) (h : Heap) (n0 : Nat) (p0_ : Old Z n0 h) (p1_ : Sta Z Z.heap "java/lang/String" "COMPACT_STRINGS" "Z" (.int cs)) (hcs : ¬ cs = (0 : Int32)) (p3_ : Exa Z h t "java/lang/StringBuilder") (p4_ : Fld Z h t "java/lang/AbstractStringBuilder" "value" "[B" (.ref va)) (p5_ : Fld Z h t "java/lang/AbstractStringBuilder" "coder" "B" (.int (0 : Int32))) (p6_ : Fld Z h t "java/lang/AbstractStringBuilder" "count" "I" (.int (4 : Int32))) (p7_ : Ary Z h va kv .byte [(.int p0), (.int p1), (.int p2), (.int p3), (.int (0 : Int32)), (.int (0 : Int32)), (.int (0 : Int32)), (.int (0 : Int32)), (.int (0 : Int32)), (.int (0 : Int32)), (.int (0 : Int32)), (.int (0 : Int32)), (.int (0 : Int32)), (.int (0 : Int32)), (.int (0 : Int32)), (.int (0 : Int32))]) (p8_ : n0 ≤ t) (p9_ : n0 ≤ va) (p10_ : t ≠ va) :
    Met l (⟨"java/lang/AbstractStringBuilder", "append", "(C)Ljava/lang/AbstractStringBuilder;"⟩ : MethodName) jdk_68_method_31_code 2 (some (.object "java/lang/AbstractStringBuilder")) [] ({ frames := 1, cells := 0, slots := 0, locals := 20 } : Room) #[(.ref t), (.int (10 : Int32))] Z h n0 (fun v h' => v = some (.ref t) ∧ Keep h h' [t, va] ∧ Exa Z h' t "java/lang/StringBuilder" ∧ Fld Z h' t "java/lang/AbstractStringBuilder" "value" "[B" (.ref va) ∧ Fld Z h' t "java/lang/AbstractStringBuilder" "coder" "B" (.int (0 : Int32)) ∧ Fld Z h' t "java/lang/AbstractStringBuilder" "count" "I" (.int (5 : Int32)) ∧ Ary Z h' va kv .byte [(.int p0), (.int p1), (.int p2), (.int p3), (.int (nar .byte (10 : Int32))), (.int (0 : Int32)), (.int (0 : Int32)), (.int (0 : Int32)), (.int (0 : Int32)), (.int (0 : Int32)), (.int (0 : Int32)), (.int (0 : Int32)), (.int (0 : Int32)), (.int (0 : Int32)), (.int (0 : Int32)), (.int (0 : Int32))]) := by
  refine Met.of (plainFor_of_name (by first | (simp [plainName, overriddenIn]; done) | decide +kernel)) ?_
  intro pP eE sS mM bB tT cC K
  refine Go.entry (ls := #[.val (.ref t), .val (.int (10 : Int32))]) (by first | (simp [argsToLocals, Value.category]; done) | rfl) ?_
  refine go_aloadN (q := 1) K daapc4_10_0 rfl rfl rfl ?_
  refine go_aloadN (q := 2) K daapc4_10_1 rfl rfl rfl ?_
  refine go_getF (q := 5) K (wd hw 101 rfl) Via.refl p6_ daapc4_10_2 rfl ?_
  refine go_iconst (q := 6) K daapc4_10_5 (1 : Int32) rfl rfl ?_
  refine go_iadd (q := 7) K daapc4_10_6 rfl ?_
  refine go_eqI (y := (5 : Int32)) (by decide) ?_
  refine go_callP (q := 10) (W := 0) K (wd hw 103 rfl) (wd hw 105 rfl) (wd hw 106 rfl) rfl (wd hw 104 rfl) (wd hw 73 rfl) (wd hw 107 rfl) p3_ [(.int (5 : Int32))] [] (ensCap l Z a0 hw _ _ _ _ _ _ n0 p4_ p5_ p7_ rfl (by decide)) daapc4_10_7 (ps := [.int]) (by decide +kernel) rfl rfl rfl (by decide) rfl (by decide) (by decide) (by decide) (by decide) rfl ?_
  rintro _ _ ⟨rfl, rfl⟩
  show Go pP l eE _ sS mM _ bB tT cC n0 _ h 0 0 (mkF mM 10 #[.val (.ref t), .val (.int (10 : Int32))] [])
  refine go_aloadN (q := 11) K daapc4_10_10 rfl rfl rfl ?_
  refine go_callV (q := 14) (W := 0) K (wd hw 138 rfl) (wd hw 139 rfl) (wd hw 141 rfl) (wd hw 140 rfl) (wd hw 73 rfl) (wd hw 142 rfl) (wd hw 106 rfl) rfl p3_ [] [] (aLat l Z a0 hw _ _ _ n0 p0_ p1_ (by assumption) p5_) daapc4_10_11 (ps := []) (by decide +kernel) rfl rfl rfl (by decide) rfl (by decide) (by decide) (by decide) (by decide) rfl ?_
  rintro _ _ ⟨rfl, rfl⟩
  show Go pP l eE _ sS mM _ bB tT cC n0 _ h 0 0 (mkF mM 14 #[.val (.ref t), .val (.int (10 : Int32))] [(.int (1 : Int32))])
  refine go_if0 (q := 45) (q' := 17) K daapc4_10_14 (by decide) rfl rfl (fun hn => cN_no hn (show ¬ (1 : Int32) = (0 : Int32) from (by decide))) (fun _ => ?_)
  refine go_iloadN (q := 18) K daapc4_10_17 rfl rfl ?_
  refine go_callS (q := 21) (W := 0) K (wd hw 143 rfl) (wd hw 9 rfl) (wd hw 10 rfl) (wd hw 11 rfl) [(.int (10 : Int32))] [] (canEnc l Z a0 hw _ _ n0 (by decide)) daapc4_10_18 (ps := [.char]) (by decide +kernel) rfl rfl rfl (by decide) rfl (by decide) (by decide) (by decide) (by decide) rfl ?_
  rintro _ _ ⟨rfl, rfl⟩
  show Go pP l eE _ sS mM _ bB tT cC n0 _ h 0 0 (mkF mM 21 #[.val (.ref t), .val (.int (10 : Int32))] [(.int (1 : Int32))])
  refine go_if0 (q := 45) (q' := 24) K daapc4_10_21 (by decide) rfl rfl (fun hn => cN_no hn (show ¬ (1 : Int32) = (0 : Int32) from (by decide))) (fun _ => ?_)
  refine go_aloadN (q := 25) K daapc4_10_24 rfl rfl rfl ?_
  refine go_getF (q := 28) K (wd hw 77 rfl) Via.refl p4_ daapc4_10_25 rfl ?_
  refine go_aloadN (q := 29) K daapc4_10_28 rfl rfl rfl ?_
  refine go_dup (q := 30) K daapc4_10_29 rfl rfl ?_
  refine go_getF (q := 33) K (wd hw 101 rfl) Via.refl p6_ daapc4_10_30 rfl ?_
  refine go_dup_x1 (q := 34) K daapc4_10_33 rfl rfl rfl ?_
  refine go_iconst (q := 35) K daapc4_10_34 (1 : Int32) rfl rfl ?_
  refine go_iadd (q := 36) K daapc4_10_35 rfl ?_
  refine go_eqI (y := (5 : Int32)) (by decide) ?_
  refine go_putF (q := 39) K (wd hw 101 rfl) Via.refl p6_ p3_ (Or.inl (wd hw 102 rfl)) (wd hw 64 rfl) (ty := .int) (by decide +kernel) rfl rfl p8_ daapc4_10_36 rfl ?_
  intro h4 Wh4
  refine go_iloadN (q := 40) K daapc4_10_39 rfl rfl ?_
  refine go_i2b (q := 41) K daapc4_10_40 rfl ?_
  refine go_eqI (y := (10 : Int32)) (by decide) ?_
  have f1 := (p7_.other Wh4 (p10_).symm)
  refine go_bastore (q := 42) K f1 (by decide) (show 4 < 16 from by decide) p9_ daapc4_10_41 rfl ?_
  intro h5 Wh5 Yh5
  refine go_goto (q := 75) K daapc4_10_42 (by decide) rfl ?_
  refine go_aloadN (q := 76) K daapc4_10_75 rfl rfl rfl ?_
  refine go_aret K daapc4_10_76 rfl rfl rfl rfl (by decide) (by decide) ?_
  have f2 := (((Keep.refl h [t, va]).wr Wh4 (Or.inl (by simp))).wr Wh5 (Or.inl (by simp)))
  have f3 := ((p3_.wr Wh4).wr Wh5)
  have f4 := ((p4_.other Wh4 (Or.inr (slot_ne (C := "java/lang/StringBuilder") (Or.inl (wd hw 78 rfl)) (Or.inl (wd hw 102 rfl)) (by decide) (t := (.array .byte)) (t' := .int) (by decide +kernel) (by decide +kernel)))).other Wh5 (Or.inl p10_))
  have f5 := ((p5_.other Wh4 (Or.inr (slot_ne (C := "java/lang/StringBuilder") (Or.inl (wd hw 80 rfl)) (Or.inl (wd hw 102 rfl)) (by decide) (t := .byte) (t' := .int) (by decide +kernel) (by decide +kernel)))).other Wh5 (Or.inl p10_))
  have f6 := ((p6_.same Wh4).other Wh5 (Or.inl p10_))
  exact ⟨rfl, f2, f3, f4, f5, f6, Yh5⟩
theorem dapc4_10_0 : decode jdk_67_method_14_code 0 = .ok (.aload_n 0, 1) := by decide +kernel
theorem dapc4_10_1 : decode jdk_67_method_14_code 1 = .ok (.iload_n 1, 1) := by decide +kernel
theorem dapc4_10_2 : decode jdk_67_method_14_code 2 = .ok (.invokespecial 50, 3) := by decide +kernel
theorem dapc4_10_5 : decode jdk_67_method_14_code 5 = .ok (.pop, 1) := by decide +kernel
theorem dapc4_10_6 : decode jdk_67_method_14_code 6 = .ok (.aload_n 0, 1) := by decide +kernel
theorem dapc4_10_7 : decode jdk_67_method_14_code 7 = .ok (.areturn, 1) := by decide +kernel
set_option maxRecDepth 65536 in
set_option maxHeartbeats 40000000 in
theorem apc4_10 (l : Launch) (Z : State) (a0 : Array Value) (hw : ∀ d ∈ tables_1, d.before a0 Z = true) (t : Addr) (va : Addr) (kv : ClassId) (cs : Int32) (p0 : Int32) (p1 : Int32) (p2 : Int32) (p3 : Int32) (h : Heap) (n0 : Nat) (p0_ : Old Z n0 h) (p1_ : Sta Z Z.heap "java/lang/String" "COMPACT_STRINGS" "Z" (.int cs)) (hcs : ¬ cs = (0 : Int32)) (p3_ : Exa Z h t "java/lang/StringBuilder") (p4_ : Fld Z h t "java/lang/AbstractStringBuilder" "value" "[B" (.ref va)) (p5_ : Fld Z h t "java/lang/AbstractStringBuilder" "coder" "B" (.int (0 : Int32))) (p6_ : Fld Z h t "java/lang/AbstractStringBuilder" "count" "I" (.int (4 : Int32))) (p7_ : Ary Z h va kv .byte [(.int p0), (.int p1), (.int p2), (.int p3), (.int (0 : Int32)), (.int (0 : Int32)), (.int (0 : Int32)), (.int (0 : Int32)), (.int (0 : Int32)), (.int (0 : Int32)), (.int (0 : Int32)), (.int (0 : Int32)), (.int (0 : Int32)), (.int (0 : Int32)), (.int (0 : Int32)), (.int (0 : Int32))]) (p8_ : n0 ≤ t) (p9_ : n0 ≤ va) (p10_ : t ≠ va) :
    Met l (⟨"java/lang/StringBuilder", "append", "(C)Ljava/lang/StringBuilder;"⟩ : MethodName) jdk_67_method_14_code 2 (some (.object "java/lang/StringBuilder")) [] ({ frames := 2, cells := 0, slots := 0, locals := 36 } : Room) #[(.ref t), (.int (10 : Int32))] Z h n0 (fun v h' => v = some (.ref t) ∧ Keep h h' [t, va] ∧ Exa Z h' t "java/lang/StringBuilder" ∧ Fld Z h' t "java/lang/AbstractStringBuilder" "value" "[B" (.ref va) ∧ Fld Z h' t "java/lang/AbstractStringBuilder" "coder" "B" (.int (0 : Int32)) ∧ Fld Z h' t "java/lang/AbstractStringBuilder" "count" "I" (.int (5 : Int32)) ∧ Ary Z h' va kv .byte [(.int p0), (.int p1), (.int p2), (.int p3), (.int (nar .byte (10 : Int32))), (.int (0 : Int32)), (.int (0 : Int32)), (.int (0 : Int32)), (.int (0 : Int32)), (.int (0 : Int32)), (.int (0 : Int32)), (.int (0 : Int32)), (.int (0 : Int32)), (.int (0 : Int32)), (.int (0 : Int32)), (.int (0 : Int32))]) := by
  refine Met.of (plainFor_of_name (by first | (simp [plainName, overriddenIn]; done) | decide +kernel)) ?_
  intro pP eE sS mM bB tT cC K
  refine Go.entry (ls := #[.val (.ref t), .val (.int (10 : Int32))]) (by first | (simp [argsToLocals, Value.category]; done) | rfl) ?_
  refine go_aloadN (q := 1) K dapc4_10_0 rfl rfl rfl ?_
  refine go_iloadN (q := 2) K dapc4_10_1 rfl rfl ?_
  refine go_callT (q := 5) (W := 0) K (wd hw 134 rfl) (wd hw 135 rfl) (wd hw 88 rfl) (wd hw 73 rfl) (wd hw 137 rfl) (wd hw 106 rfl) rfl (by decide) p3_ [(.int (10 : Int32))] [] (aapc4_10 l Z a0 hw _ _ _ _ _ _ _ _ _ n0 p0_ p1_ (by assumption) p3_ p4_ p5_ p6_ p7_ p8_ p9_ p10_) dapc4_10_2 (ps := [.char]) (by decide +kernel) rfl rfl rfl (by decide) rfl (by decide) (by decide) (by decide) (by decide) rfl ?_
  rintro _ h1 ⟨rfl, Kh1, q0h1, q1h1, q2h1, q3h1, q4h1⟩
  show Go pP l eE _ sS mM _ bB tT cC n0 _ h1 0 0 (mkF mM 5 #[.val (.ref t), .val (.int (10 : Int32))] [(.ref t)])
  refine go_pop (q := 6) K dapc4_10_5 rfl rfl ?_
  refine go_aloadN (q := 7) K dapc4_10_6 rfl rfl rfl ?_
  refine go_aret K dapc4_10_7 rfl rfl rfl rfl (by decide) (by decide) ?_
  have f1 := ((Keep.refl h [t, va]).trans Kh1 (allS (Or.inl (by simp)) (allS (Or.inl (by simp)) all0)))
  exact ⟨rfl, f1, q0h1, q1h1, q2h1, q3h1, q4h1⟩
set_option maxRecDepth 65536 in
set_option maxHeartbeats 40000000 in
theorem aapc9_10 (l : Launch) (Z : State) (a0 : Array Value) (hw : ∀ d ∈ tables_1, d.before a0 Z = true) (t : Addr) (va : Addr) (kv : ClassId) (cs : Int32) (p0 : Int32) (p1 : Int32) (p2 : Int32) (p3 : Int32) (p4 : Int32) (p5 : Int32) (p6 : Int32) (p7 : Int32) (p8 : Int32) (h : Heap) (n0 : Nat) (p0_ : Old Z n0 h) (p1_ : Sta Z Z.heap "java/lang/String" "COMPACT_STRINGS" "Z" (.int cs)) (hcs : ¬ cs = (0 : Int32)) (p3_ : Exa Z h t "java/lang/StringBuilder") (p4_ : Fld Z h t "java/lang/AbstractStringBuilder" "value" "[B" (.ref va)) (p5_ : Fld Z h t "java/lang/AbstractStringBuilder" "coder" "B" (.int (0 : Int32))) (p6_ : Fld Z h t "java/lang/AbstractStringBuilder" "count" "I" (.int (9 : Int32))) (p7_ : Ary Z h va kv .byte [(.int p0), (.int p1), (.int p2), (.int p3), (.int p4), (.int p5), (.int p6), (.int p7), (.int p8), (.int (0 : Int32)), (.int (0 : Int32)), (.int (0 : Int32)), (.int (0 : Int32)), (.int (0 : Int32)), (.int (0 : Int32)), (.int (0 : Int32))]) (p8_ : n0 ≤ t) (p9_ : n0 ≤ va) (p10_ : t ≠ va) :
    Met l (⟨"java/lang/AbstractStringBuilder", "append", "(C)Ljava/lang/AbstractStringBuilder;"⟩ : MethodName) jdk_68_method_31_code 2 (some (.object "java/lang/AbstractStringBuilder")) [] ({ frames := 1, cells := 0, slots := 0, locals := 20 } : Room) #[(.ref t), (.int (10 : Int32))] Z h n0 (fun v h' => v = some (.ref t) ∧ Keep h h' [t, va] ∧ Exa Z h' t "java/lang/StringBuilder" ∧ Fld Z h' t "java/lang/AbstractStringBuilder" "value" "[B" (.ref va) ∧ Fld Z h' t "java/lang/AbstractStringBuilder" "coder" "B" (.int (0 : Int32)) ∧ Fld Z h' t "java/lang/AbstractStringBuilder" "count" "I" (.int (10 : Int32)) ∧ Ary Z h' va kv .byte [(.int p0), (.int p1), (.int p2), (.int p3), (.int p4), (.int p5), (.int p6), (.int p7), (.int p8), (.int (nar .byte (10 : Int32))), (.int (0 : Int32)), (.int (0 : Int32)), (.int (0 : Int32)), (.int (0 : Int32)), (.int (0 : Int32)), (.int (0 : Int32))]) := by
  refine Met.of (plainFor_of_name (by first | (simp [plainName, overriddenIn]; done) | decide +kernel)) ?_
  intro pP eE sS mM bB tT cC K
  refine Go.entry (ls := #[.val (.ref t), .val (.int (10 : Int32))]) (by first | (simp [argsToLocals, Value.category]; done) | rfl) ?_
  refine go_aloadN (q := 1) K daapc4_10_0 rfl rfl rfl ?_
  refine go_aloadN (q := 2) K daapc4_10_1 rfl rfl rfl ?_
  refine go_getF (q := 5) K (wd hw 101 rfl) Via.refl p6_ daapc4_10_2 rfl ?_
  refine go_iconst (q := 6) K daapc4_10_5 (1 : Int32) rfl rfl ?_
  refine go_iadd (q := 7) K daapc4_10_6 rfl ?_
  refine go_eqI (y := (10 : Int32)) (by decide) ?_
  refine go_callP (q := 10) (W := 0) K (wd hw 103 rfl) (wd hw 105 rfl) (wd hw 106 rfl) rfl (wd hw 104 rfl) (wd hw 73 rfl) (wd hw 107 rfl) p3_ [(.int (10 : Int32))] [] (ensCap l Z a0 hw _ _ _ _ _ _ n0 p4_ p5_ p7_ rfl (by decide)) daapc4_10_7 (ps := [.int]) (by decide +kernel) rfl rfl rfl (by decide) rfl (by decide) (by decide) (by decide) (by decide) rfl ?_
  rintro _ _ ⟨rfl, rfl⟩
  show Go pP l eE _ sS mM _ bB tT cC n0 _ h 0 0 (mkF mM 10 #[.val (.ref t), .val (.int (10 : Int32))] [])
  refine go_aloadN (q := 11) K daapc4_10_10 rfl rfl rfl ?_
  refine go_callV (q := 14) (W := 0) K (wd hw 138 rfl) (wd hw 139 rfl) (wd hw 141 rfl) (wd hw 140 rfl) (wd hw 73 rfl) (wd hw 142 rfl) (wd hw 106 rfl) rfl p3_ [] [] (aLat l Z a0 hw _ _ _ n0 p0_ p1_ (by assumption) p5_) daapc4_10_11 (ps := []) (by decide +kernel) rfl rfl rfl (by decide) rfl (by decide) (by decide) (by decide) (by decide) rfl ?_
  rintro _ _ ⟨rfl, rfl⟩
  show Go pP l eE _ sS mM _ bB tT cC n0 _ h 0 0 (mkF mM 14 #[.val (.ref t), .val (.int (10 : Int32))] [(.int (1 : Int32))])
  refine go_if0 (q := 45) (q' := 17) K daapc4_10_14 (by decide) rfl rfl (fun hn => cN_no hn (show ¬ (1 : Int32) = (0 : Int32) from (by decide))) (fun _ => ?_)
  refine go_iloadN (q := 18) K daapc4_10_17 rfl rfl ?_
  refine go_callS (q := 21) (W := 0) K (wd hw 143 rfl) (wd hw 9 rfl) (wd hw 10 rfl) (wd hw 11 rfl) [(.int (10 : Int32))] [] (canEnc l Z a0 hw _ _ n0 (by decide)) daapc4_10_18 (ps := [.char]) (by decide +kernel) rfl rfl rfl (by decide) rfl (by decide) (by decide) (by decide) (by decide) rfl ?_
  rintro _ _ ⟨rfl, rfl⟩
  show Go pP l eE _ sS mM _ bB tT cC n0 _ h 0 0 (mkF mM 21 #[.val (.ref t), .val (.int (10 : Int32))] [(.int (1 : Int32))])
  refine go_if0 (q := 45) (q' := 24) K daapc4_10_21 (by decide) rfl rfl (fun hn => cN_no hn (show ¬ (1 : Int32) = (0 : Int32) from (by decide))) (fun _ => ?_)
  refine go_aloadN (q := 25) K daapc4_10_24 rfl rfl rfl ?_
  refine go_getF (q := 28) K (wd hw 77 rfl) Via.refl p4_ daapc4_10_25 rfl ?_
  refine go_aloadN (q := 29) K daapc4_10_28 rfl rfl rfl ?_
  refine go_dup (q := 30) K daapc4_10_29 rfl rfl ?_
  refine go_getF (q := 33) K (wd hw 101 rfl) Via.refl p6_ daapc4_10_30 rfl ?_
  refine go_dup_x1 (q := 34) K daapc4_10_33 rfl rfl rfl ?_
  refine go_iconst (q := 35) K daapc4_10_34 (1 : Int32) rfl rfl ?_
  refine go_iadd (q := 36) K daapc4_10_35 rfl ?_
  refine go_eqI (y := (10 : Int32)) (by decide) ?_
  refine go_putF (q := 39) K (wd hw 101 rfl) Via.refl p6_ p3_ (Or.inl (wd hw 102 rfl)) (wd hw 64 rfl) (ty := .int) (by decide +kernel) rfl rfl p8_ daapc4_10_36 rfl ?_
  intro h4 Wh4
  refine go_iloadN (q := 40) K daapc4_10_39 rfl rfl ?_
  refine go_i2b (q := 41) K daapc4_10_40 rfl ?_
  refine go_eqI (y := (10 : Int32)) (by decide) ?_
  have f1 := (p7_.other Wh4 (p10_).symm)
  refine go_bastore (q := 42) K f1 (by decide) (show 9 < 16 from by decide) p9_ daapc4_10_41 rfl ?_
  intro h5 Wh5 Yh5
  refine go_goto (q := 75) K daapc4_10_42 (by decide) rfl ?_
  refine go_aloadN (q := 76) K daapc4_10_75 rfl rfl rfl ?_
  refine go_aret K daapc4_10_76 rfl rfl rfl rfl (by decide) (by decide) ?_
  have f2 := (((Keep.refl h [t, va]).wr Wh4 (Or.inl (by simp))).wr Wh5 (Or.inl (by simp)))
  have f3 := ((p3_.wr Wh4).wr Wh5)
  have f4 := ((p4_.other Wh4 (Or.inr (slot_ne (C := "java/lang/StringBuilder") (Or.inl (wd hw 78 rfl)) (Or.inl (wd hw 102 rfl)) (by decide) (t := (.array .byte)) (t' := .int) (by decide +kernel) (by decide +kernel)))).other Wh5 (Or.inl p10_))
  have f5 := ((p5_.other Wh4 (Or.inr (slot_ne (C := "java/lang/StringBuilder") (Or.inl (wd hw 80 rfl)) (Or.inl (wd hw 102 rfl)) (by decide) (t := .byte) (t' := .int) (by decide +kernel) (by decide +kernel)))).other Wh5 (Or.inl p10_))
  have f6 := ((p6_.same Wh4).other Wh5 (Or.inl p10_))
  exact ⟨rfl, f2, f3, f4, f5, f6, Yh5⟩
set_option maxRecDepth 65536 in
set_option maxHeartbeats 40000000 in
theorem apc9_10 (l : Launch) (Z : State) (a0 : Array Value) (hw : ∀ d ∈ tables_1, d.before a0 Z = true) (t : Addr) (va : Addr) (kv : ClassId) (cs : Int32) (p0 : Int32) (p1 : Int32) (p2 : Int32) (p3 : Int32) (p4 : Int32) (p5 : Int32) (p6 : Int32) (p7 : Int32) (p8 : Int32) (h : Heap) (n0 : Nat) (p0_ : Old Z n0 h) (p1_ : Sta Z Z.heap "java/lang/String" "COMPACT_STRINGS" "Z" (.int cs)) (hcs : ¬ cs = (0 : Int32)) (p3_ : Exa Z h t "java/lang/StringBuilder") (p4_ : Fld Z h t "java/lang/AbstractStringBuilder" "value" "[B" (.ref va)) (p5_ : Fld Z h t "java/lang/AbstractStringBuilder" "coder" "B" (.int (0 : Int32))) (p6_ : Fld Z h t "java/lang/AbstractStringBuilder" "count" "I" (.int (9 : Int32))) (p7_ : Ary Z h va kv .byte [(.int p0), (.int p1), (.int p2), (.int p3), (.int p4), (.int p5), (.int p6), (.int p7), (.int p8), (.int (0 : Int32)), (.int (0 : Int32)), (.int (0 : Int32)), (.int (0 : Int32)), (.int (0 : Int32)), (.int (0 : Int32)), (.int (0 : Int32))]) (p8_ : n0 ≤ t) (p9_ : n0 ≤ va) (p10_ : t ≠ va) :
    Met l (⟨"java/lang/StringBuilder", "append", "(C)Ljava/lang/StringBuilder;"⟩ : MethodName) jdk_67_method_14_code 2 (some (.object "java/lang/StringBuilder")) [] ({ frames := 2, cells := 0, slots := 0, locals := 36 } : Room) #[(.ref t), (.int (10 : Int32))] Z h n0 (fun v h' => v = some (.ref t) ∧ Keep h h' [t, va] ∧ Exa Z h' t "java/lang/StringBuilder" ∧ Fld Z h' t "java/lang/AbstractStringBuilder" "value" "[B" (.ref va) ∧ Fld Z h' t "java/lang/AbstractStringBuilder" "coder" "B" (.int (0 : Int32)) ∧ Fld Z h' t "java/lang/AbstractStringBuilder" "count" "I" (.int (10 : Int32)) ∧ Ary Z h' va kv .byte [(.int p0), (.int p1), (.int p2), (.int p3), (.int p4), (.int p5), (.int p6), (.int p7), (.int p8), (.int (nar .byte (10 : Int32))), (.int (0 : Int32)), (.int (0 : Int32)), (.int (0 : Int32)), (.int (0 : Int32)), (.int (0 : Int32)), (.int (0 : Int32))]) := by
  refine Met.of (plainFor_of_name (by first | (simp [plainName, overriddenIn]; done) | decide +kernel)) ?_
  intro pP eE sS mM bB tT cC K
  refine Go.entry (ls := #[.val (.ref t), .val (.int (10 : Int32))]) (by first | (simp [argsToLocals, Value.category]; done) | rfl) ?_
  refine go_aloadN (q := 1) K dapc4_10_0 rfl rfl rfl ?_
  refine go_iloadN (q := 2) K dapc4_10_1 rfl rfl ?_
  refine go_callT (q := 5) (W := 0) K (wd hw 134 rfl) (wd hw 135 rfl) (wd hw 88 rfl) (wd hw 73 rfl) (wd hw 137 rfl) (wd hw 106 rfl) rfl (by decide) p3_ [(.int (10 : Int32))] [] (aapc9_10 l Z a0 hw _ _ _ _ _ _ _ _ _ _ _ _ _ _ n0 p0_ p1_ (by assumption) p3_ p4_ p5_ p6_ p7_ p8_ p9_ p10_) dapc4_10_2 (ps := [.char]) (by decide +kernel) rfl rfl rfl (by decide) rfl (by decide) (by decide) (by decide) (by decide) rfl ?_
  rintro _ h1 ⟨rfl, Kh1, q0h1, q1h1, q2h1, q3h1, q4h1⟩
  show Go pP l eE _ sS mM _ bB tT cC n0 _ h1 0 0 (mkF mM 5 #[.val (.ref t), .val (.int (10 : Int32))] [(.ref t)])
  refine go_pop (q := 6) K dapc4_10_5 rfl rfl ?_
  refine go_aloadN (q := 7) K dapc4_10_6 rfl rfl rfl ?_
  refine go_aret K dapc4_10_7 rfl rfl rfl rfl (by decide) (by decide) ?_
  have f1 := ((Keep.refl h [t, va]).trans Kh1 (allS (Or.inl (by simp)) (allS (Or.inl (by simp)) all0)))
  exact ⟨rfl, f1, q0h1, q1h1, q2h1, q3h1, q4h1⟩
theorem dckLen_0 : decode jdk_65_method_131_code 0 = .ok (.iload_n 1, 1) := by decide +kernel
theorem dckLen_1 : decode jdk_65_method_131_code 1 = .ok (.iload_n 0, 1) := by decide +kernel
theorem dckLen_2 : decode jdk_65_method_131_code 2 = .ok (.if_icmp .ge 35, 3) := by decide +kernel
theorem dckLen_5 : decode jdk_65_method_131_code 5 = .ok (.new 43, 3) := by decide +kernel
theorem dckLen_8 : decode jdk_65_method_131_code 8 = .ok (.dup, 1) := by decide +kernel
theorem dckLen_9 : decode jdk_65_method_131_code 9 = .ok (.new 45, 3) := by decide +kernel
theorem dckLen_12 : decode jdk_65_method_131_code 12 = .ok (.dup, 1) := by decide +kernel
theorem dckLen_13 : decode jdk_65_method_131_code 13 = .ok (.invokespecial 47, 3) := by decide +kernel
theorem dckLen_16 : decode jdk_65_method_131_code 16 = .ok (.iload_n 0, 1) := by decide +kernel
theorem dckLen_17 : decode jdk_65_method_131_code 17 = .ok (.invokevirtual 54, 3) := by decide +kernel
theorem dckLen_20 : decode jdk_65_method_131_code 20 = .ok (.ldc_w 337, 3) := by decide +kernel
theorem dckLen_23 : decode jdk_65_method_131_code 23 = .ok (.invokevirtual 50, 3) := by decide +kernel
theorem dckLen_26 : decode jdk_65_method_131_code 26 = .ok (.iload_n 1, 1) := by decide +kernel
theorem dckLen_27 : decode jdk_65_method_131_code 27 = .ok (.invokevirtual 54, 3) := by decide +kernel
theorem dckLen_30 : decode jdk_65_method_131_code 30 = .ok (.invokevirtual 61, 3) := by decide +kernel
theorem dckLen_33 : decode jdk_65_method_131_code 33 = .ok (.invokespecial 65, 3) := by decide +kernel
theorem dckLen_36 : decode jdk_65_method_131_code 36 = .ok (.athrow, 1) := by decide +kernel
theorem dckLen_37 : decode jdk_65_method_131_code 37 = .ok (.return_, 1) := by decide +kernel
set_option maxRecDepth 65536 in
set_option maxHeartbeats 40000000 in
theorem ckLen (l : Launch) (Z : State) (a0 : Array Value) (hw : ∀ d ∈ tables_1, d.before a0 Z = true) (x : Int32) (y : Int32) (h : Heap) (n0 : Nat) (hxy : ¬ y < x) :
    Met l (⟨"java/util/Arrays", "checkLength", "(II)V"⟩ : MethodName) jdk_65_method_131_code 2 none [] ({ frames := 0, cells := 0, slots := 0, locals := 0 } : Room) #[(.int x), (.int y)] Z h n0 (fun v h' => v = none ∧ h = h') := by
  refine Met.of (plainFor_of_name (by first | (simp [plainName, overriddenIn]; done) | decide +kernel)) ?_
  intro pP eE sS mM bB tT cC K
  refine Go.entry (ls := #[.val (.int x), .val (.int y)]) (by first | (simp [argsToLocals, Value.category]; done) | rfl) ?_
  refine go_iloadN (q := 1) K dckLen_0 rfl rfl ?_
  refine go_iloadN (q := 2) K dckLen_1 rfl rfl ?_
  refine go_icmp (q := 37) (q' := 5) K dckLen_2 (by decide) rfl rfl (fun _ => ?_) (fun hn => cN_no2 hn (show ¬ y < x from hxy))
  refine go_return K dckLen_37 rfl (by decide) (by decide) ?_
  exact ⟨rfl, rfl⟩
theorem dgVal_0 : decode jdk_68_method_64_code 0 = .ok (.aload_n 0, 1) := by decide +kernel
theorem dgVal_1 : decode jdk_68_method_64_code 1 = .ok (.getfield 15, 3) := by decide +kernel
theorem dgVal_4 : decode jdk_68_method_64_code 4 = .ok (.areturn, 1) := by decide +kernel
set_option maxRecDepth 65536 in
set_option maxHeartbeats 40000000 in
theorem gVal (l : Launch) (Z : State) (a0 : Array Value) (hw : ∀ d ∈ tables_1, d.before a0 Z = true) (t : Addr) (va : Addr) (h : Heap) (n0 : Nat) (p0_ : Fld Z h t "java/lang/AbstractStringBuilder" "value" "[B" (.ref va)) :
    Met l (⟨"java/lang/AbstractStringBuilder", "getValue", "()[B"⟩ : MethodName) jdk_68_method_64_code 1 (some (.array .byte)) [] ({ frames := 0, cells := 0, slots := 0, locals := 0 } : Room) #[(.ref t)] Z h n0 (fun v h' => v = some (.ref va) ∧ h = h') := by
  refine Met.of (plainFor_of_name (by first | (simp [plainName, overriddenIn]; done) | decide +kernel)) ?_
  intro pP eE sS mM bB tT cC K
  refine Go.entry (ls := #[.val (.ref t)]) (by first | (simp [argsToLocals, Value.category]; done) | rfl) ?_
  refine go_aloadN (q := 1) K dgVal_0 rfl rfl rfl ?_
  refine go_getF (q := 4) K (wd hw 77 rfl) Via.refl p0_ dgVal_1 rfl ?_
  refine go_aret K dgVal_4 rfl rfl rfl rfl (by decide) (by decide) ?_
  exact ⟨rfl, rfl⟩
theorem daLen_0 : decode jdk_68_method_6_code 0 = .ok (.aload_n 0, 1) := by decide +kernel
theorem daLen_1 : decode jdk_68_method_6_code 1 = .ok (.getfield 79, 3) := by decide +kernel
theorem daLen_4 : decode jdk_68_method_6_code 4 = .ok (.ireturn, 1) := by decide +kernel
set_option maxRecDepth 65536 in
set_option maxHeartbeats 40000000 in
theorem aLen (l : Launch) (Z : State) (a0 : Array Value) (hw : ∀ d ∈ tables_1, d.before a0 Z = true) (t : Addr) (n : Int32) (h : Heap) (n0 : Nat) (p0_ : Fld Z h t "java/lang/AbstractStringBuilder" "count" "I" (.int n)) :
    Met l (⟨"java/lang/AbstractStringBuilder", "length", "()I"⟩ : MethodName) jdk_68_method_6_code 1 (some .int) [] ({ frames := 0, cells := 0, slots := 0, locals := 0 } : Room) #[(.ref t)] Z h n0 (fun v h' => v = some (.int n) ∧ h = h') := by
  refine Met.of (plainFor_of_name (by first | (simp [plainName, overriddenIn]; done) | decide +kernel)) ?_
  intro pP eE sS mM bB tT cC K
  refine Go.entry (ls := #[.val (.ref t)]) (by first | (simp [argsToLocals, Value.category]; done) | rfl) ?_
  refine go_aloadN (q := 1) K daLen_0 rfl rfl rfl ?_
  refine go_getF (q := 4) K (wd hw 101 rfl) Via.refl p0_ daLen_1 rfl ?_
  refine go_iret K daLen_4 rfl (Or.inl rfl) rfl (by decide) (by decide) ?_
  exact ⟨rfl, rfl⟩
theorem dsbLen_0 : decode jdk_67_method_93_code 0 = .ok (.aload_n 0, 1) := by decide +kernel
theorem dsbLen_1 : decode jdk_67_method_93_code 1 = .ok (.invokespecial 343, 3) := by decide +kernel
theorem dsbLen_4 : decode jdk_67_method_93_code 4 = .ok (.ireturn, 1) := by decide +kernel
set_option maxRecDepth 65536 in
set_option maxHeartbeats 40000000 in
theorem sbLen (l : Launch) (Z : State) (a0 : Array Value) (hw : ∀ d ∈ tables_1, d.before a0 Z = true) (t : Addr) (n : Int32) (h : Heap) (n0 : Nat) (p0_ : Exa Z h t "java/lang/StringBuilder") (p1_ : Fld Z h t "java/lang/AbstractStringBuilder" "count" "I" (.int n)) :
    Met l (⟨"java/lang/StringBuilder", "length", "()I"⟩ : MethodName) jdk_67_method_93_code 1 (some .int) [] ({ frames := 1, cells := 0, slots := 0, locals := 14 } : Room) #[(.ref t)] Z h n0 (fun v h' => v = some (.int n) ∧ h = h') := by
  refine Met.of (plainFor_of_name (by first | (simp [plainName, overriddenIn]; done) | decide +kernel)) ?_
  intro pP eE sS mM bB tT cC K
  refine Go.entry (ls := #[.val (.ref t)]) (by first | (simp [argsToLocals, Value.category]; done) | rfl) ?_
  refine go_aloadN (q := 1) K dsbLen_0 rfl rfl rfl ?_
  refine go_callT (q := 4) (W := 0) K (wd hw 167 rfl) (wd hw 163 rfl) (wd hw 88 rfl) (wd hw 73 rfl) (wd hw 168 rfl) (wd hw 106 rfl) rfl (by decide) p0_ [] [] (aLen l Z a0 hw _ _ _ n0 p1_) dsbLen_1 (ps := []) (by decide +kernel) rfl rfl rfl (by decide) rfl (by decide) (by decide) (by decide) (by decide) rfl ?_
  rintro _ _ ⟨rfl, rfl⟩
  show Go pP l eE _ sS mM _ bB tT cC n0 _ h 0 0 (mkF mM 4 #[.val (.ref t)] [(.int n)])
  refine go_iret K dsbLen_4 rfl (Or.inl rfl) rfl (by decide) (by decide) ?_
  exact ⟨rfl, rfl⟩
theorem dcorB0_0 : decode jdk_65_method_133_code 0 = .ok (.iload_n 1, 1) := by decide +kernel
theorem dcorB0_1 : decode jdk_65_method_133_code 1 = .ok (.iload_n 2, 1) := by decide +kernel
theorem dcorB0_2 : decode jdk_65_method_133_code 2 = .ok (.invokestatic 343, 3) := by decide +kernel
theorem dcorB0_5 : decode jdk_65_method_133_code 5 = .ok (.iload_n 2, 1) := by decide +kernel
theorem dcorB0_6 : decode jdk_65_method_133_code 6 = .ok (.iload_n 1, 1) := by decide +kernel
theorem dcorB0_7 : decode jdk_65_method_133_code 7 = .ok (.isub, 1) := by decide +kernel
theorem dcorB0_8 : decode jdk_65_method_133_code 8 = .ok (.istore_n 3, 1) := by decide +kernel
theorem dcorB0_9 : decode jdk_65_method_133_code 9 = .ok (.iload_n 3, 1) := by decide +kernel
theorem dcorB0_10 : decode jdk_65_method_133_code 10 = .ok (.newarray .byte, 2) := by decide +kernel
theorem dcorB0_12 : decode jdk_65_method_133_code 12 = .ok (.astore 4, 2) := by decide +kernel
theorem dcorB0_14 : decode jdk_65_method_133_code 14 = .ok (.aload_n 0, 1) := by decide +kernel
theorem dcorB0_15 : decode jdk_65_method_133_code 15 = .ok (.iload_n 1, 1) := by decide +kernel
theorem dcorB0_16 : decode jdk_65_method_133_code 16 = .ok (.aload 4, 2) := by decide +kernel
theorem dcorB0_18 : decode jdk_65_method_133_code 18 = .ok (.iconst 0, 1) := by decide +kernel
theorem dcorB0_19 : decode jdk_65_method_133_code 19 = .ok (.aload_n 0, 1) := by decide +kernel
theorem dcorB0_20 : decode jdk_65_method_133_code 20 = .ok (.arraylength, 1) := by decide +kernel
theorem dcorB0_21 : decode jdk_65_method_133_code 21 = .ok (.iload_n 1, 1) := by decide +kernel
theorem dcorB0_22 : decode jdk_65_method_133_code 22 = .ok (.isub, 1) := by decide +kernel
theorem dcorB0_23 : decode jdk_65_method_133_code 23 = .ok (.iload_n 3, 1) := by decide +kernel
theorem dcorB0_24 : decode jdk_65_method_133_code 24 = .ok (.invokestatic 304, 3) := by decide +kernel
theorem dcorB0_27 : decode jdk_65_method_133_code 27 = .ok (.invokestatic 150, 3) := by decide +kernel
theorem dcorB0_30 : decode jdk_65_method_133_code 30 = .ok (.aload 4, 2) := by decide +kernel
theorem dcorB0_32 : decode jdk_65_method_133_code 32 = .ok (.areturn, 1) := by decide +kernel
set_option maxRecDepth 65536 in
set_option maxHeartbeats 40000000 in
theorem corB0 (l : Launch) (Z : State) (a0 : Array Value) (hw : ∀ d ∈ tables_1, d.before a0 Z = true) (va : Addr) (kv : ClassId) (h : Heap) (n0 : Nat) (p0_ : Old Z n0 h) (p1_ : Ary Z h va kv .byte [(.int (0 : Int32)), (.int (0 : Int32)), (.int (0 : Int32)), (.int (0 : Int32)), (.int (0 : Int32)), (.int (0 : Int32)), (.int (0 : Int32)), (.int (0 : Int32)), (.int (0 : Int32)), (.int (0 : Int32)), (.int (0 : Int32)), (.int (0 : Int32)), (.int (0 : Int32)), (.int (0 : Int32)), (.int (0 : Int32)), (.int (0 : Int32))]) :
    Met l (⟨"java/util/Arrays", "copyOfRangeByte", "([BII)[B"⟩ : MethodName) jdk_65_method_133_code 5 (some (.array .byte)) [] ({ frames := 1, cells := 1, slots := 0, locals := 40 } : Room) #[(.ref va), (.int (0 : Int32)), (.int (0 : Int32))] Z h n0 (fun v h' => ∃ (b : Addr) (kb : ClassId), v = some (.ref b) ∧ Keep h h' [] ∧ h.size ≤ b ∧ Ary Z h' b kb .byte []) := by
  refine Met.of (plainFor_of_name (by first | (simp [plainName, overriddenIn]; done) | decide +kernel)) ?_
  intro pP eE sS mM bB tT cC K
  refine Go.entry (ls := #[.val (.ref va), .val (.int (0 : Int32)), .val (.int (0 : Int32)), .unset, .unset]) (by first | (simp [argsToLocals, Value.category]; done) | rfl) ?_
  refine go_iloadN (q := 1) K dcorB0_0 rfl rfl ?_
  refine go_iloadN (q := 2) K dcorB0_1 rfl rfl ?_
  refine go_callS (q := 5) (W := 0) K (wd hw 177 rfl) (wd hw 178 rfl) (wd hw 172 rfl) (wd hw 179 rfl) [(.int (0 : Int32)), (.int (0 : Int32))] [] (ckLen l Z a0 hw _ _ _ n0 (by decide)) dcorB0_2 (ps := [.int, .int]) (by decide +kernel) rfl rfl rfl (by decide) rfl (by decide) (by decide) (by decide) (by decide) rfl ?_
  rintro _ _ ⟨rfl, rfl⟩
  show Go pP l eE _ sS mM _ bB tT cC n0 _ h 0 0 (mkF mM 5 #[.val (.ref va), .val (.int (0 : Int32)), .val (.int (0 : Int32)), .unset, .unset] [])
  refine go_iloadN (q := 6) K dcorB0_5 rfl rfl ?_
  refine go_iloadN (q := 7) K dcorB0_6 rfl rfl ?_
  refine go_isub (q := 8) K dcorB0_7 rfl ?_
  refine go_eqI (y := (0 : Int32)) (by decide) ?_
  refine go_istoreN (q := 9) K dcorB0_8 #[.val (.ref va), .val (.int (0 : Int32)), .val (.int (0 : Int32)), .val (.int (0 : Int32)), .unset] rfl rfl ?_
  refine go_iloadN (q := 10) K dcorB0_9 rfl rfl ?_
  refine go_newarray (q := 12) (num := 0) (cap := 0) K (wd hw 17 rfl) dcorB0_10 (by decide) rfl (by decide) (by decide) (by decide) (by decide) rfl ?_
  intro h2 ah2 kh2 gah2 Eh2 Yh2
  refine go_astore (q := 14) K dcorB0_12 #[.val (.ref va), .val (.int (0 : Int32)), .val (.int (0 : Int32)), .val (.int (0 : Int32)), .val (.ref ah2)] rfl rfl rfl ?_
  refine go_aloadN (q := 15) K dcorB0_14 rfl rfl rfl ?_
  refine go_iloadN (q := 16) K dcorB0_15 rfl rfl ?_
  refine go_aload (q := 18) K dcorB0_16 rfl rfl rfl ?_
  refine go_iconst (q := 19) K dcorB0_18 (0 : Int32) rfl rfl ?_
  refine go_aloadN (q := 20) K dcorB0_19 rfl rfl rfl ?_
  have f1 := (p1_.ext Eh2)
  refine go_arraylength (q := 21) (z := (16 : Int32)) K f1 rfl dcorB0_20 rfl ?_
  refine go_iloadN (q := 22) K dcorB0_21 rfl rfl ?_
  refine go_isub (q := 23) K dcorB0_22 rfl ?_
  refine go_eqI (y := (16 : Int32)) (by decide) ?_
  refine go_iloadN (q := 24) K dcorB0_23 rfl rfl ?_
  refine go_callS (q := 27) (W := 4) K (wd hw 180 rfl) (wd hw 181 rfl) (wd hw 182 rfl) (wd hw 183 rfl) [(.int (16 : Int32)), (.int (0 : Int32))] [(.int (0 : Int32)), (.ref ah2), (.int (0 : Int32)), (.ref va)] (min_met l Z a0 hw (16 : Int32) (0 : Int32) _ n0) dcorB0_24 (ps := [.int, .int]) (by decide +kernel) rfl rfl rfl (by decide) rfl (by decide) (by decide) (by decide) (by decide) rfl ?_
  rintro _ _ ⟨rfl, rfl⟩
  show Go pP l eE _ sS mM _ bB tT cC n0 _ h2 1 0 (mkF mM 27 #[.val (.ref va), .val (.int (0 : Int32)), .val (.int (0 : Int32)), .val (.int (0 : Int32)), .val (.ref ah2)] [(.int (if (0 : Int32) < (16 : Int32) then (0 : Int32) else (16 : Int32))), (.int (0 : Int32)), (.ref ah2), (.int (0 : Int32)), (.ref va)])
  refine go_eqI (y := (0 : Int32)) (by decide) ?_
  refine go_arraycopy (q := 30) (W := 0) (us := []) (za := (16 : Int32)) (zb := (0 : Int32)) K (wd hw 184 rfl) (wd hw 127 rfl) (wd hw 125 rfl) (wd hw 126 rfl) f1 Yh2 (fitsS (by decide) (fitsS (by decide) (fitsS (by decide) (fitsS (by decide) (fitsS (by decide) (fitsS (by decide) (fitsS (by decide) (fitsS (by decide) (fitsS (by decide) (fitsS (by decide) (fitsS (by decide) (fitsS (by decide) (fitsS (by decide) (fitsS (by decide) (fitsS (by decide) (fitsS (by decide) fits0)))))))))))))))) fits0 rfl (by decide) rfl (by decide) (by decide) (by decide) (by decide) (show 0 + 0 ≤ 16 from by decide) (show 0 + 0 ≤ 0 from by decide) rfl (Nat.le_trans (own_ge p0_) (Nat.le_of_eq gah2.symm)) dcorB0_27 rfl rfl (by decide) (by decide) rfl ?_
  intro h3 Kh3 Yh30
  have Yh3 : Ary Z h3 ah2 kh2 .byte [] := Yh30
  refine go_aload (q := 32) K dcorB0_30 rfl rfl rfl ?_
  refine go_aret K dcorB0_32 rfl rfl rfl rfl (by decide) (by decide) ?_
  have f2 := (((Keep.refl h []).ext Eh2).trans Kh3 (allS (Or.inr (Nat.le_trans ((Keep.refl h [])).1 (Nat.le_of_eq gah2.symm))) all0))
  exact ⟨ah2, kh2, rfl, f2, (Nat.le_trans ((Keep.refl h [])).1 (Nat.le_of_eq gah2.symm)), Yh3⟩
theorem dcor0_0 : decode jdk_65_method_132_code 0 = .ok (.iload_n 1, 1) := by decide +kernel
theorem dcor0_1 : decode jdk_65_method_132_code 1 = .ok (.ifCond .ne 9, 3) := by decide +kernel
theorem dcor0_4 : decode jdk_65_method_132_code 4 = .ok (.iload_n 2, 1) := by decide +kernel
theorem dcor0_5 : decode jdk_65_method_132_code 5 = .ok (.aload_n 0, 1) := by decide +kernel
theorem dcor0_6 : decode jdk_65_method_132_code 6 = .ok (.arraylength, 1) := by decide +kernel
theorem dcor0_7 : decode jdk_65_method_132_code 7 = .ok (.if_icmp .eq 10, 3) := by decide +kernel
theorem dcor0_10 : decode jdk_65_method_132_code 10 = .ok (.aload_n 0, 1) := by decide +kernel
theorem dcor0_11 : decode jdk_65_method_132_code 11 = .ok (.iload_n 1, 1) := by decide +kernel
theorem dcor0_12 : decode jdk_65_method_132_code 12 = .ok (.iload_n 2, 1) := by decide +kernel
theorem dcor0_13 : decode jdk_65_method_132_code 13 = .ok (.invokestatic 339, 3) := by decide +kernel
theorem dcor0_16 : decode jdk_65_method_132_code 16 = .ok (.areturn, 1) := by decide +kernel
theorem dcor0_17 : decode jdk_65_method_132_code 17 = .ok (.aload_n 0, 1) := by decide +kernel
theorem dcor0_18 : decode jdk_65_method_132_code 18 = .ok (.invokevirtual 310, 3) := by decide +kernel
theorem dcor0_21 : decode jdk_65_method_132_code 21 = .ok (.checkcast 311, 3) := by decide +kernel
theorem dcor0_24 : decode jdk_65_method_132_code 24 = .ok (.areturn, 1) := by decide +kernel
set_option maxRecDepth 65536 in
set_option maxHeartbeats 40000000 in
theorem cor0 (l : Launch) (Z : State) (a0 : Array Value) (hw : ∀ d ∈ tables_1, d.before a0 Z = true) (va : Addr) (kv : ClassId) (h : Heap) (n0 : Nat) (p0_ : Old Z n0 h) (p1_ : Ary Z h va kv .byte [(.int (0 : Int32)), (.int (0 : Int32)), (.int (0 : Int32)), (.int (0 : Int32)), (.int (0 : Int32)), (.int (0 : Int32)), (.int (0 : Int32)), (.int (0 : Int32)), (.int (0 : Int32)), (.int (0 : Int32)), (.int (0 : Int32)), (.int (0 : Int32)), (.int (0 : Int32)), (.int (0 : Int32)), (.int (0 : Int32)), (.int (0 : Int32))]) :
    Met l (⟨"java/util/Arrays", "copyOfRange", "([BII)[B"⟩ : MethodName) jdk_65_method_132_code 3 (some (.array .byte)) [] ({ frames := 2, cells := 1, slots := 0, locals := 60 } : Room) #[(.ref va), (.int (0 : Int32)), (.int (0 : Int32))] Z h n0 (fun v h' => ∃ (b : Addr) (kb : ClassId), v = some (.ref b) ∧ Keep h h' [] ∧ h.size ≤ b ∧ Ary Z h' b kb .byte []) := by
  refine Met.of (plainFor_of_name (by first | (simp [plainName, overriddenIn]; done) | decide +kernel)) ?_
  intro pP eE sS mM bB tT cC K
  refine Go.entry (ls := #[.val (.ref va), .val (.int (0 : Int32)), .val (.int (0 : Int32))]) (by first | (simp [argsToLocals, Value.category]; done) | rfl) ?_
  refine go_iloadN (q := 1) K dcor0_0 rfl rfl ?_
  refine go_if0 (q := 10) (q' := 4) K dcor0_1 (by decide) rfl rfl (fun hn => cN_no hn (show (0 : Int32) = (0 : Int32) from (by decide))) (fun _ => ?_)
  refine go_iloadN (q := 5) K dcor0_4 rfl rfl ?_
  refine go_aloadN (q := 6) K dcor0_5 rfl rfl rfl ?_
  refine go_arraylength (q := 7) (z := (16 : Int32)) K p1_ rfl dcor0_6 rfl ?_
  refine go_icmp (q := 17) (q' := 10) K dcor0_7 (by decide) rfl rfl (fun hn => cN_no hn (show ¬ (0 : Int32) = (16 : Int32) from (by decide))) (fun _ => ?_)
  refine go_aloadN (q := 11) K dcor0_10 rfl rfl rfl ?_
  refine go_iloadN (q := 12) K dcor0_11 rfl rfl ?_
  refine go_iloadN (q := 13) K dcor0_12 rfl rfl ?_
  refine go_callS (q := 16) (W := 0) K (wd hw 174 rfl) (wd hw 175 rfl) (wd hw 172 rfl) (wd hw 176 rfl) [(.ref va), (.int (0 : Int32)), (.int (0 : Int32))] [] (corB0 l Z a0 hw _ _ _ n0 p0_ p1_) dcor0_13 (ps := [(.array .byte), .int, .int]) (by decide +kernel) rfl rfl rfl (by decide) rfl (by decide) (by decide) (by decide) (by decide) rfl ?_
  rintro _ h1 ⟨bh1, kbh1, rfl, Kh1, gbh1, q0h1⟩
  show Go pP l eE _ sS mM _ bB tT cC n0 _ h1 1 0 (mkF mM 16 #[.val (.ref va), .val (.int (0 : Int32)), .val (.int (0 : Int32))] [(.ref bh1)])
  refine go_aret K dcor0_16 rfl rfl rfl rfl (by decide) (by decide) ?_
  have f1 := ((Keep.refl h []).trans Kh1 all0)
  exact ⟨bh1, kbh1, rfl, f1, (Nat.le_trans ((Keep.refl h [])).1 gbh1), q0h1⟩
theorem dsV0_0 : decode jdk_42_method_150_code 0 = .ok (.aload_n 0, 1) := by decide +kernel
theorem dsV0_1 : decode jdk_42_method_150_code 1 = .ok (.invokespecial 1, 3) := by decide +kernel
theorem dsV0_4 : decode jdk_42_method_150_code 4 = .ok (.aload_n 1, 1) := by decide +kernel
theorem dsV0_5 : decode jdk_42_method_150_code 5 = .ok (.invokevirtual 552, 3) := by decide +kernel
theorem dsV0_8 : decode jdk_42_method_150_code 8 = .ok (.astore_n 3, 1) := by decide +kernel
theorem dsV0_9 : decode jdk_42_method_150_code 9 = .ok (.aload_n 1, 1) := by decide +kernel
theorem dsV0_10 : decode jdk_42_method_150_code 10 = .ok (.invokevirtual 549, 3) := by decide +kernel
theorem dsV0_13 : decode jdk_42_method_150_code 13 = .ok (.istore 4, 2) := by decide +kernel
theorem dsV0_15 : decode jdk_42_method_150_code 15 = .ok (.aload_n 1, 1) := by decide +kernel
theorem dsV0_16 : decode jdk_42_method_150_code 16 = .ok (.invokevirtual 1047, 3) := by decide +kernel
theorem dsV0_19 : decode jdk_42_method_150_code 19 = .ok (.ifCond .eq 22, 3) := by decide +kernel
theorem dsV0_22 : decode jdk_42_method_150_code 22 = .ok (.aload_n 0, 1) := by decide +kernel
theorem dsV0_23 : decode jdk_42_method_150_code 23 = .ok (.iconst 0, 1) := by decide +kernel
theorem dsV0_24 : decode jdk_42_method_150_code 24 = .ok (.putfield 15, 3) := by decide +kernel
theorem dsV0_27 : decode jdk_42_method_150_code 27 = .ok (.aload_n 0, 1) := by decide +kernel
theorem dsV0_28 : decode jdk_42_method_150_code 28 = .ok (.aload_n 3, 1) := by decide +kernel
theorem dsV0_29 : decode jdk_42_method_150_code 29 = .ok (.iconst 0, 1) := by decide +kernel
theorem dsV0_30 : decode jdk_42_method_150_code 30 = .ok (.iload 4, 2) := by decide +kernel
theorem dsV0_32 : decode jdk_42_method_150_code 32 = .ok (.invokestatic 54, 3) := by decide +kernel
theorem dsV0_35 : decode jdk_42_method_150_code 35 = .ok (.putfield 9, 3) := by decide +kernel
theorem dsV0_38 : decode jdk_42_method_150_code 38 = .ok (.goto 59, 3) := by decide +kernel
theorem dsV0_41 : decode jdk_42_method_150_code 41 = .ok (.getstatic 38, 3) := by decide +kernel
theorem dsV0_44 : decode jdk_42_method_150_code 44 = .ok (.ifCond .eq 35, 3) := by decide +kernel
theorem dsV0_47 : decode jdk_42_method_150_code 47 = .ok (.aload_n 1, 1) := by decide +kernel
theorem dsV0_48 : decode jdk_42_method_150_code 48 = .ok (.getfield 1048, 3) := by decide +kernel
theorem dsV0_51 : decode jdk_42_method_150_code 51 = .ok (.ifCond .eq 28, 3) := by decide +kernel
theorem dsV0_54 : decode jdk_42_method_150_code 54 = .ok (.aload_n 0, 1) := by decide +kernel
theorem dsV0_55 : decode jdk_42_method_150_code 55 = .ok (.aload_n 3, 1) := by decide +kernel
theorem dsV0_56 : decode jdk_42_method_150_code 56 = .ok (.iconst 0, 1) := by decide +kernel
theorem dsV0_57 : decode jdk_42_method_150_code 57 = .ok (.iload 4, 2) := by decide +kernel
theorem dsV0_59 : decode jdk_42_method_150_code 59 = .ok (.invokestatic 1051, 3) := by decide +kernel
theorem dsV0_62 : decode jdk_42_method_150_code 62 = .ok (.putfield 9, 3) := by decide +kernel
theorem dsV0_65 : decode jdk_42_method_150_code 65 = .ok (.aload_n 0, 1) := by decide +kernel
theorem dsV0_66 : decode jdk_42_method_150_code 66 = .ok (.aload_n 0, 1) := by decide +kernel
theorem dsV0_67 : decode jdk_42_method_150_code 67 = .ok (.getfield 9, 3) := by decide +kernel
theorem dsV0_70 : decode jdk_42_method_150_code 70 = .ok (.iload 4, 2) := by decide +kernel
theorem dsV0_72 : decode jdk_42_method_150_code 72 = .ok (.invokestatic 47, 3) := by decide +kernel
theorem dsV0_75 : decode jdk_42_method_150_code 75 = .ok (.putfield 15, 3) := by decide +kernel
theorem dsV0_78 : decode jdk_42_method_150_code 78 = .ok (.return_, 1) := by decide +kernel
theorem dsV0_79 : decode jdk_42_method_150_code 79 = .ok (.aload_n 0, 1) := by decide +kernel
theorem dsV0_80 : decode jdk_42_method_150_code 80 = .ok (.iconst 1, 1) := by decide +kernel
theorem dsV0_81 : decode jdk_42_method_150_code 81 = .ok (.putfield 15, 3) := by decide +kernel
theorem dsV0_84 : decode jdk_42_method_150_code 84 = .ok (.aload_n 0, 1) := by decide +kernel
theorem dsV0_85 : decode jdk_42_method_150_code 85 = .ok (.aload_n 3, 1) := by decide +kernel
theorem dsV0_86 : decode jdk_42_method_150_code 86 = .ok (.iconst 0, 1) := by decide +kernel
theorem dsV0_87 : decode jdk_42_method_150_code 87 = .ok (.iload 4, 2) := by decide +kernel
theorem dsV0_89 : decode jdk_42_method_150_code 89 = .ok (.iconst 1, 1) := by decide +kernel
theorem dsV0_90 : decode jdk_42_method_150_code 90 = .ok (.ishl, 1) := by decide +kernel
theorem dsV0_91 : decode jdk_42_method_150_code 91 = .ok (.invokestatic 54, 3) := by decide +kernel
theorem dsV0_94 : decode jdk_42_method_150_code 94 = .ok (.putfield 9, 3) := by decide +kernel
theorem dsV0_97 : decode jdk_42_method_150_code 97 = .ok (.return_, 1) := by decide +kernel
set_option maxRecDepth 65536 in
set_option maxHeartbeats 40000000 in
theorem sV0 (l : Launch) (Z : State) (a0 : Array Value) (hw : ∀ d ∈ tables_1, d.before a0 Z = true) (a : Addr) (t : Addr) (va : Addr) (kv : ClassId) (cs : Int32) (h : Heap) (n0 : Nat) (p0_ : Old Z n0 h) (p1_ : Sta Z Z.heap "java/lang/String" "COMPACT_STRINGS" "Z" (.int cs)) (hcs : ¬ cs = (0 : Int32)) (p3_ : Exa Z h a "java/lang/String") (p4_ : Fld Z h a "java/lang/String" "value" "[B" .null) (p5_ : Fld Z h a "java/lang/String" "coder" "B" (.int (0 : Int32))) (p6_ : n0 ≤ a) (p7_ : Exa Z h t "java/lang/StringBuilder") (p8_ : Fld Z h t "java/lang/AbstractStringBuilder" "value" "[B" (.ref va)) (p9_ : Fld Z h t "java/lang/AbstractStringBuilder" "coder" "B" (.int (0 : Int32))) (p10_ : Fld Z h t "java/lang/AbstractStringBuilder" "count" "I" (.int (0 : Int32))) (p11_ : Ary Z h va kv .byte [(.int (0 : Int32)), (.int (0 : Int32)), (.int (0 : Int32)), (.int (0 : Int32)), (.int (0 : Int32)), (.int (0 : Int32)), (.int (0 : Int32)), (.int (0 : Int32)), (.int (0 : Int32)), (.int (0 : Int32)), (.int (0 : Int32)), (.int (0 : Int32)), (.int (0 : Int32)), (.int (0 : Int32)), (.int (0 : Int32)), (.int (0 : Int32))]) (p12_ : a ≠ t) (p13_ : a ≠ va) :
    Met l (⟨"java/lang/String", "<init>", "(Ljava/lang/AbstractStringBuilder;Ljava/lang/Void;)V"⟩ : MethodName) jdk_42_method_150_code 5 none [] ({ frames := 3, cells := 1, slots := 0, locals := 80 } : Room) #[(.ref a), (.ref t), .null] Z h n0 (fun v h' => ∃ (b : Addr) (kb : ClassId), v = none ∧ Keep h h' [a] ∧ h.size ≤ b ∧ Exa Z h' a "java/lang/String" ∧ Fld Z h' a "java/lang/String" "value" "[B" (.ref b) ∧ Fld Z h' a "java/lang/String" "coder" "B" (.int (0 : Int32)) ∧ Ary Z h' b kb .byte [] ∧ a ≠ b) := by
  refine Met.of (plainFor_of_name (by first | (simp [plainName, overriddenIn]; done) | decide +kernel)) ?_
  intro pP eE sS mM bB tT cC K
  refine Go.entry (ls := #[.val (.ref a), .val (.ref t), .val .null, .unset, .unset]) (by first | (simp [argsToLocals, Value.category]; done) | rfl) ?_
  refine go_aloadN (q := 1) K dsV0_0 rfl rfl rfl ?_
  refine go_initO (q := 4) (W := 0) K (wd hw 22 rfl) (wd hw 23 rfl) (wd hw 24 rfl) dsV0_1 rfl rfl (by decide) (by decide) rfl ?_
  refine go_aloadN (q := 5) K dsV0_4 rfl rfl rfl ?_
  refine go_callV (q := 8) (W := 0) K (wd hw 156 rfl) (wd hw 157 rfl) (wd hw 159 rfl) (wd hw 158 rfl) (wd hw 73 rfl) (wd hw 160 rfl) (wd hw 106 rfl) rfl p7_ [] [] (gVal l Z a0 hw _ _ _ n0 p8_) dsV0_5 (ps := []) (by decide +kernel) rfl rfl rfl (by decide) rfl (by decide) (by decide) (by decide) (by decide) rfl ?_
  rintro _ _ ⟨rfl, rfl⟩
  show Go pP l eE _ sS mM _ bB tT cC n0 _ h 0 0 (mkF mM 8 #[.val (.ref a), .val (.ref t), .val .null, .unset, .unset] [(.ref va)])
  refine go_astoreN (q := 9) K dsV0_8 #[.val (.ref a), .val (.ref t), .val .null, .val (.ref va), .unset] rfl rfl rfl ?_
  refine go_aloadN (q := 10) K dsV0_9 rfl rfl rfl ?_
  refine go_callV (q := 13) (W := 0) K (wd hw 161 rfl) (wd hw 162 rfl) (wd hw 164 rfl) (wd hw 165 rfl) (wd hw 65 rfl) (wd hw 166 rfl) (wd hw 106 rfl) rfl p7_ [] [] (sbLen l Z a0 hw _ _ _ n0 p7_ p10_) dsV0_10 (ps := []) (by decide +kernel) rfl rfl rfl (by decide) rfl (by decide) (by decide) (by decide) (by decide) rfl ?_
  rintro _ _ ⟨rfl, rfl⟩
  show Go pP l eE _ sS mM _ bB tT cC n0 _ h 0 0 (mkF mM 13 #[.val (.ref a), .val (.ref t), .val .null, .val (.ref va), .unset] [(.int (0 : Int32))])
  refine go_istore (q := 15) K dsV0_13 #[.val (.ref a), .val (.ref t), .val .null, .val (.ref va), .val (.int (0 : Int32))] rfl rfl ?_
  refine go_aloadN (q := 16) K dsV0_15 rfl rfl rfl ?_
  refine go_callV (q := 19) (W := 0) K (wd hw 169 rfl) (wd hw 139 rfl) (wd hw 141 rfl) (wd hw 140 rfl) (wd hw 73 rfl) (wd hw 142 rfl) (wd hw 106 rfl) rfl p7_ [] [] (aLat l Z a0 hw _ _ _ n0 p0_ p1_ (by assumption) p9_) dsV0_16 (ps := []) (by decide +kernel) rfl rfl rfl (by decide) rfl (by decide) (by decide) (by decide) (by decide) rfl ?_
  rintro _ _ ⟨rfl, rfl⟩
  show Go pP l eE _ sS mM _ bB tT cC n0 _ h 0 0 (mkF mM 19 #[.val (.ref a), .val (.ref t), .val .null, .val (.ref va), .val (.int (0 : Int32))] [(.int (1 : Int32))])
  refine go_if0 (q := 41) (q' := 22) K dsV0_19 (by decide) rfl rfl (fun hn => cN_no hn (show ¬ (1 : Int32) = (0 : Int32) from (by decide))) (fun _ => ?_)
  refine go_aloadN (q := 23) K dsV0_22 rfl rfl rfl ?_
  refine go_iconst (q := 24) K dsV0_23 (0 : Int32) rfl rfl ?_
  refine go_putF (q := 27) K (wd hw 27 rfl) Via.refl p5_ p3_ (Or.inr ⟨(wd hw 28 rfl), rfl, rfl⟩) (wd hw 13 rfl) (ty := .byte) (by decide +kernel) rfl rfl p6_ dsV0_24 rfl ?_
  intro h4 Wh4
  refine go_aloadN (q := 28) K dsV0_27 rfl rfl rfl ?_
  refine go_aloadN (q := 29) K dsV0_28 rfl rfl rfl ?_
  refine go_iconst (q := 30) K dsV0_29 (0 : Int32) rfl rfl ?_
  refine go_iload (q := 32) K dsV0_30 rfl rfl ?_
  have f1 := (p0_.wr Wh4 p6_)
  have f2 := (p11_.other Wh4 (p13_).symm)
  have f3 := (p3_.wr Wh4)
  have f4 := (p7_.wr Wh4)
  have f5 := ((Keep.refl h [a]).wr Wh4 (Or.inl (by simp)))
  refine go_callS (q := 35) (W := 1) K (wd hw 170 rfl) (wd hw 171 rfl) (wd hw 172 rfl) (wd hw 173 rfl) [(.ref va), (.int (0 : Int32)), (.int (0 : Int32))] [(.ref a)] (cor0 l Z a0 hw _ _ _ n0 f1 f2) dsV0_32 (ps := [(.array .byte), .int, .int]) (by decide +kernel) rfl rfl rfl (by decide) rfl (by decide) (by decide) (by decide) (by decide) rfl ?_
  rintro _ h5 ⟨bh5, kbh5, rfl, Kh5, gbh5, q0h5⟩
  show Go pP l eE _ sS mM _ bB tT cC n0 _ h5 1 0 (mkF mM 35 #[.val (.ref a), .val (.ref t), .val .null, .val (.ref va), .val (.int (0 : Int32))] [(.ref bh5), (.ref a)])
  have f6 := ((p4_.other Wh4 (Or.inr (slot_ne (C := "java/lang/String") (Or.inr (wd hw 26 rfl)) (Or.inr (wd hw 28 rfl)) (by decide) (t := (.array .byte)) (t' := .byte) (by decide +kernel) (by decide +kernel)))).keep Kh5 nin0)
  have f7 := (f3.keep Kh5)
  refine go_putF (q := 38) K (wd hw 25 rfl) Via.refl f6 f7 (Or.inr ⟨(wd hw 26 rfl), rfl, rfl⟩) (wd hw 13 rfl) (ty := (.array .byte)) (by decide +kernel) rfl rfl p6_ dsV0_35 rfl ?_
  intro h6 Wh6
  refine go_goto (q := 97) K dsV0_38 (by decide) rfl ?_
  refine go_return K dsV0_97 rfl (by decide) (by decide) ?_
  have f8 := ((f5.trans Kh5 all0).wr Wh6 (Or.inl (by simp)))
  have f9 := (f7.wr Wh6)
  have f10 := (((p5_.same Wh4).keep Kh5 nin0).other Wh6 (Or.inr (slot_ne (C := "java/lang/String") (Or.inr (wd hw 28 rfl)) (Or.inr (wd hw 26 rfl)) (by decide) (t := .byte) (t' := (.array .byte)) (by decide +kernel) (by decide +kernel))))
  have f11 := (q0h5.other Wh6 ((own_nel (f3).lt gbh5)).symm)
  exact ⟨bh5, kbh5, rfl, f8, (Nat.le_trans (f5).1 gbh5), f9, (f6.same Wh6), f10, f11, (own_nel (f3).lt gbh5)⟩
theorem dsS0_0 : decode jdk_42_method_53_code 0 = .ok (.aload_n 0, 1) := by decide +kernel
theorem dsS0_1 : decode jdk_42_method_53_code 1 = .ok (.aload_n 1, 1) := by decide +kernel
theorem dsS0_2 : decode jdk_42_method_53_code 2 = .ok (.aconst_null, 1) := by decide +kernel
theorem dsS0_3 : decode jdk_42_method_53_code 3 = .ok (.invokespecial 489, 3) := by decide +kernel
theorem dsS0_6 : decode jdk_42_method_53_code 6 = .ok (.return_, 1) := by decide +kernel
set_option maxRecDepth 65536 in
set_option maxHeartbeats 40000000 in
theorem sS0 (l : Launch) (Z : State) (a0 : Array Value) (hw : ∀ d ∈ tables_1, d.before a0 Z = true) (a : Addr) (t : Addr) (va : Addr) (kv : ClassId) (cs : Int32) (h : Heap) (n0 : Nat) (p0_ : Old Z n0 h) (p1_ : Sta Z Z.heap "java/lang/String" "COMPACT_STRINGS" "Z" (.int cs)) (hcs : ¬ cs = (0 : Int32)) (p3_ : Exa Z h a "java/lang/String") (p4_ : Fld Z h a "java/lang/String" "value" "[B" .null) (p5_ : Fld Z h a "java/lang/String" "coder" "B" (.int (0 : Int32))) (p6_ : n0 ≤ a) (p7_ : Exa Z h t "java/lang/StringBuilder") (p8_ : Fld Z h t "java/lang/AbstractStringBuilder" "value" "[B" (.ref va)) (p9_ : Fld Z h t "java/lang/AbstractStringBuilder" "coder" "B" (.int (0 : Int32))) (p10_ : Fld Z h t "java/lang/AbstractStringBuilder" "count" "I" (.int (0 : Int32))) (p11_ : Ary Z h va kv .byte [(.int (0 : Int32)), (.int (0 : Int32)), (.int (0 : Int32)), (.int (0 : Int32)), (.int (0 : Int32)), (.int (0 : Int32)), (.int (0 : Int32)), (.int (0 : Int32)), (.int (0 : Int32)), (.int (0 : Int32)), (.int (0 : Int32)), (.int (0 : Int32)), (.int (0 : Int32)), (.int (0 : Int32)), (.int (0 : Int32)), (.int (0 : Int32))]) (p12_ : a ≠ t) (p13_ : a ≠ va) :
    Met l (⟨"java/lang/String", "<init>", "(Ljava/lang/StringBuilder;)V"⟩ : MethodName) jdk_42_method_53_code 2 none [] ({ frames := 4, cells := 1, slots := 0, locals := 100 } : Room) #[(.ref a), (.ref t)] Z h n0 (fun v h' => ∃ (b : Addr) (kb : ClassId), v = none ∧ Keep h h' [a] ∧ h.size ≤ b ∧ Exa Z h' a "java/lang/String" ∧ Fld Z h' a "java/lang/String" "value" "[B" (.ref b) ∧ Fld Z h' a "java/lang/String" "coder" "B" (.int (0 : Int32)) ∧ Ary Z h' b kb .byte [] ∧ a ≠ b) := by
  refine Met.of (plainFor_of_name (by first | (simp [plainName, overriddenIn]; done) | decide +kernel)) ?_
  intro pP eE sS mM bB tT cC K
  refine Go.entry (ls := #[.val (.ref a), .val (.ref t)]) (by first | (simp [argsToLocals, Value.category]; done) | rfl) ?_
  refine go_aloadN (q := 1) K dsS0_0 rfl rfl rfl ?_
  refine go_aloadN (q := 2) K dsS0_1 rfl rfl rfl ?_
  refine go_aconst_null (q := 3) K dsS0_2 rfl ?_
  refine go_callI (q := 6) (W := 0) K (wd hw 153 rfl) (wd hw 154 rfl) (wd hw 5 rfl) (wd hw 155 rfl) rfl [(.ref t), .null] [] (sV0 l Z a0 hw _ _ _ _ _ _ n0 p0_ p1_ (by assumption) p3_ p4_ p5_ p6_ p7_ p8_ p9_ p10_ p11_ p12_ p13_) dsS0_3 (ps := [(.object "java/lang/AbstractStringBuilder"), (.object "java/lang/Void")]) (by decide +kernel) rfl rfl rfl (by decide) rfl (by decide) (by decide) (by decide) (by decide) rfl ?_
  rintro _ h1 ⟨bh1, kbh1, rfl, Kh1, gbh1, q0h1, q1h1, q2h1, q3h1, q4h1⟩
  show Go pP l eE _ sS mM _ bB tT cC n0 _ h1 1 0 (mkF mM 6 #[.val (.ref a), .val (.ref t)] [])
  refine go_return K dsS0_6 rfl (by decide) (by decide) ?_
  have f1 := ((Keep.refl h [a]).trans Kh1 (allS (Or.inl (by simp)) all0))
  exact ⟨bh1, kbh1, rfl, f1, (Nat.le_trans ((Keep.refl h [a])).1 gbh1), q0h1, q1h1, q2h1, q3h1, q4h1⟩
theorem dts0_0 : decode jdk_67_method_42_code 0 = .ok (.new 18, 3) := by decide +kernel
theorem dts0_3 : decode jdk_67_method_42_code 3 = .ok (.dup, 1) := by decide +kernel
theorem dts0_4 : decode jdk_67_method_42_code 4 = .ok (.aload_n 0, 1) := by decide +kernel
theorem dts0_5 : decode jdk_67_method_42_code 5 = .ok (.invokespecial 137, 3) := by decide +kernel
theorem dts0_8 : decode jdk_67_method_42_code 8 = .ok (.areturn, 1) := by decide +kernel
set_option maxRecDepth 65536 in
set_option maxHeartbeats 40000000 in
theorem ts0 (l : Launch) (Z : State) (a0 : Array Value) (hw : ∀ d ∈ tables_1, d.before a0 Z = true) (t : Addr) (va : Addr) (kv : ClassId) (cs : Int32) (h : Heap) (n0 : Nat) (p0_ : Old Z n0 h) (p1_ : Sta Z Z.heap "java/lang/String" "COMPACT_STRINGS" "Z" (.int cs)) (hcs : ¬ cs = (0 : Int32)) (p3_ : Exa Z h t "java/lang/StringBuilder") (p4_ : Fld Z h t "java/lang/AbstractStringBuilder" "value" "[B" (.ref va)) (p5_ : Fld Z h t "java/lang/AbstractStringBuilder" "coder" "B" (.int (0 : Int32))) (p6_ : Fld Z h t "java/lang/AbstractStringBuilder" "count" "I" (.int (0 : Int32))) (p7_ : Ary Z h va kv .byte [(.int (0 : Int32)), (.int (0 : Int32)), (.int (0 : Int32)), (.int (0 : Int32)), (.int (0 : Int32)), (.int (0 : Int32)), (.int (0 : Int32)), (.int (0 : Int32)), (.int (0 : Int32)), (.int (0 : Int32)), (.int (0 : Int32)), (.int (0 : Int32)), (.int (0 : Int32)), (.int (0 : Int32)), (.int (0 : Int32)), (.int (0 : Int32))]) :
    Met l (⟨"java/lang/StringBuilder", "toString", "()Ljava/lang/String;"⟩ : MethodName) jdk_67_method_42_code 1 (some (.object "java/lang/String")) [] ({ frames := 5, cells := 2, slots := 4, locals := 120 } : Room) #[(.ref t)] Z h n0 (fun v h' => ∃ (a : Addr) (b : Addr) (kb : ClassId), v = some (.ref a) ∧ Keep h h' [] ∧ h.size ≤ a ∧ h.size ≤ b ∧ Exa Z h' a "java/lang/String" ∧ Fld Z h' a "java/lang/String" "value" "[B" (.ref b) ∧ Fld Z h' a "java/lang/String" "coder" "B" (.int (0 : Int32)) ∧ Ary Z h' b kb .byte [] ∧ a ≠ b) := by
  refine Met.of (plainFor_of_name (by first | (simp [plainName, overriddenIn]; done) | decide +kernel)) ?_
  intro pP eE sS mM bB tT cC K
  refine Go.entry (ls := #[.val (.ref t)]) (by first | (simp [argsToLocals, Value.category]; done) | rfl) ?_
  refine go_new (q := 3) (sz := 4) K (wd hw 149 rfl) (wd hw 13 rfl) (wd hw 5 rfl) dts0_0 (by decide) (by decide) rfl ?_
  intro h1 ah1 gah1 Eh1 Xah1 Dah1
  refine go_dup (q := 4) K dts0_3 rfl rfl ?_
  refine go_aloadN (q := 5) K dts0_4 rfl rfl rfl ?_
  have f1 := (p0_.ext Eh1)
  have f2 := (p3_.ext Eh1)
  have f3 := (p4_.ext Eh1)
  have f4 := (p5_.ext Eh1)
  have f5 := (p6_.ext Eh1)
  have f6 := (p7_.ext Eh1)
  have f7 := ((Keep.refl h []).ext Eh1)
  refine go_callI (q := 8) (W := 1) K (wd hw 150 rfl) (wd hw 151 rfl) (wd hw 5 rfl) (wd hw 152 rfl) rfl [(.ref t)] [(.ref ah1)] (sS0 l Z a0 hw _ _ _ _ _ _ n0 f1 p1_ (by assumption) Xah1 (Dah1 (Or.inr (wd hw 26 rfl)) (ty := (.array .byte)) (by decide +kernel)) (Dah1 (Or.inr (wd hw 28 rfl)) (ty := .byte) (by decide +kernel)) (Nat.le_trans (own_ge p0_) (Nat.le_of_eq gah1.symm)) f2 f3 f4 f5 f6 ((own_nel (p3_).lt (Nat.le_of_eq gah1.symm))).symm ((own_nel (p7_).lt (Nat.le_of_eq gah1.symm))).symm) dts0_5 (ps := [(.object "java/lang/StringBuilder")]) (by decide +kernel) rfl rfl rfl (by decide) rfl (by decide) (by decide) (by decide) (by decide) rfl ?_
  rintro _ h2 ⟨bh2, kbh2, rfl, Kh2, gbh2, q0h2, q1h2, q2h2, q3h2, q4h2⟩
  show Go pP l eE _ sS mM _ bB tT cC n0 _ h2 2 4 (mkF mM 8 #[.val (.ref t)] [(.ref ah1)])
  refine go_aret K dts0_8 rfl rfl rfl rfl (by decide) (by decide) ?_
  have f8 := (f7.trans Kh2 (allS (Or.inr (Nat.le_trans ((Keep.refl h [])).1 (Nat.le_of_eq gah1.symm))) all0))
  exact ⟨ah1, bh2, kbh2, rfl, f8, (Nat.le_trans ((Keep.refl h [])).1 (Nat.le_of_eq gah1.symm)), (Nat.le_trans (f7).1 gbh2), q0h2, q1h2, q2h2, q3h2, q4h2⟩
set_option maxRecDepth 65536 in
set_option maxHeartbeats 40000000 in
theorem corB5 (l : Launch) (Z : State) (a0 : Array Value) (hw : ∀ d ∈ tables_1, d.before a0 Z = true) (va : Addr) (kv : ClassId) (p0 : Int32) (p1 : Int32) (p2 : Int32) (p3 : Int32) (p4 : Int32) (h : Heap) (n0 : Nat) (p0_ : Old Z n0 h) (p1_ : Ary Z h va kv .byte [(.int p0), (.int p1), (.int p2), (.int p3), (.int p4), (.int (0 : Int32)), (.int (0 : Int32)), (.int (0 : Int32)), (.int (0 : Int32)), (.int (0 : Int32)), (.int (0 : Int32)), (.int (0 : Int32)), (.int (0 : Int32)), (.int (0 : Int32)), (.int (0 : Int32)), (.int (0 : Int32))]) (hf_p0 : fits .byte (.int p0) = true) (hf_p1 : fits .byte (.int p1) = true) (hf_p2 : fits .byte (.int p2) = true) (hf_p3 : fits .byte (.int p3) = true) (hf_p4 : fits .byte (.int p4) = true) :
    Met l (⟨"java/util/Arrays", "copyOfRangeByte", "([BII)[B"⟩ : MethodName) jdk_65_method_133_code 5 (some (.array .byte)) [] ({ frames := 1, cells := 1, slots := 5, locals := 40 } : Room) #[(.ref va), (.int (0 : Int32)), (.int (5 : Int32))] Z h n0 (fun v h' => ∃ (b : Addr) (kb : ClassId), v = some (.ref b) ∧ Keep h h' [] ∧ h.size ≤ b ∧ Ary Z h' b kb .byte [(.int p0), (.int p1), (.int p2), (.int p3), (.int p4)]) := by
  refine Met.of (plainFor_of_name (by first | (simp [plainName, overriddenIn]; done) | decide +kernel)) ?_
  intro pP eE sS mM bB tT cC K
  refine Go.entry (ls := #[.val (.ref va), .val (.int (0 : Int32)), .val (.int (5 : Int32)), .unset, .unset]) (by first | (simp [argsToLocals, Value.category]; done) | rfl) ?_
  refine go_iloadN (q := 1) K dcorB0_0 rfl rfl ?_
  refine go_iloadN (q := 2) K dcorB0_1 rfl rfl ?_
  refine go_callS (q := 5) (W := 0) K (wd hw 177 rfl) (wd hw 178 rfl) (wd hw 172 rfl) (wd hw 179 rfl) [(.int (0 : Int32)), (.int (5 : Int32))] [] (ckLen l Z a0 hw _ _ _ n0 (by decide)) dcorB0_2 (ps := [.int, .int]) (by decide +kernel) rfl rfl rfl (by decide) rfl (by decide) (by decide) (by decide) (by decide) rfl ?_
  rintro _ _ ⟨rfl, rfl⟩
  show Go pP l eE _ sS mM _ bB tT cC n0 _ h 0 0 (mkF mM 5 #[.val (.ref va), .val (.int (0 : Int32)), .val (.int (5 : Int32)), .unset, .unset] [])
  refine go_iloadN (q := 6) K dcorB0_5 rfl rfl ?_
  refine go_iloadN (q := 7) K dcorB0_6 rfl rfl ?_
  refine go_isub (q := 8) K dcorB0_7 rfl ?_
  refine go_eqI (y := (5 : Int32)) (by decide) ?_
  refine go_istoreN (q := 9) K dcorB0_8 #[.val (.ref va), .val (.int (0 : Int32)), .val (.int (5 : Int32)), .val (.int (5 : Int32)), .unset] rfl rfl ?_
  refine go_iloadN (q := 10) K dcorB0_9 rfl rfl ?_
  refine go_newarray (q := 12) (num := 5) (cap := 5) K (wd hw 17 rfl) dcorB0_10 (by decide) rfl (by decide) (by decide) (by decide) (by decide) rfl ?_
  intro h2 ah2 kh2 gah2 Eh2 Yh2
  refine go_astore (q := 14) K dcorB0_12 #[.val (.ref va), .val (.int (0 : Int32)), .val (.int (5 : Int32)), .val (.int (5 : Int32)), .val (.ref ah2)] rfl rfl rfl ?_
  refine go_aloadN (q := 15) K dcorB0_14 rfl rfl rfl ?_
  refine go_iloadN (q := 16) K dcorB0_15 rfl rfl ?_
  refine go_aload (q := 18) K dcorB0_16 rfl rfl rfl ?_
  refine go_iconst (q := 19) K dcorB0_18 (0 : Int32) rfl rfl ?_
  refine go_aloadN (q := 20) K dcorB0_19 rfl rfl rfl ?_
  have f1 := (p1_.ext Eh2)
  refine go_arraylength (q := 21) (z := (16 : Int32)) K f1 rfl dcorB0_20 rfl ?_
  refine go_iloadN (q := 22) K dcorB0_21 rfl rfl ?_
  refine go_isub (q := 23) K dcorB0_22 rfl ?_
  refine go_eqI (y := (16 : Int32)) (by decide) ?_
  refine go_iloadN (q := 24) K dcorB0_23 rfl rfl ?_
  refine go_callS (q := 27) (W := 4) K (wd hw 180 rfl) (wd hw 181 rfl) (wd hw 182 rfl) (wd hw 183 rfl) [(.int (16 : Int32)), (.int (5 : Int32))] [(.int (0 : Int32)), (.ref ah2), (.int (0 : Int32)), (.ref va)] (min_met l Z a0 hw (16 : Int32) (5 : Int32) _ n0) dcorB0_24 (ps := [.int, .int]) (by decide +kernel) rfl rfl rfl (by decide) rfl (by decide) (by decide) (by decide) (by decide) rfl ?_
  rintro _ _ ⟨rfl, rfl⟩
  show Go pP l eE _ sS mM _ bB tT cC n0 _ h2 1 5 (mkF mM 27 #[.val (.ref va), .val (.int (0 : Int32)), .val (.int (5 : Int32)), .val (.int (5 : Int32)), .val (.ref ah2)] [(.int (if (5 : Int32) < (16 : Int32) then (5 : Int32) else (16 : Int32))), (.int (0 : Int32)), (.ref ah2), (.int (0 : Int32)), (.ref va)])
  refine go_eqI (y := (5 : Int32)) (by decide) ?_
  refine go_arraycopy (q := 30) (W := 0) (us := [(.int p0), (.int p1), (.int p2), (.int p3), (.int p4)]) (za := (16 : Int32)) (zb := (5 : Int32)) K (wd hw 184 rfl) (wd hw 127 rfl) (wd hw 125 rfl) (wd hw 126 rfl) f1 Yh2 (fitsS hf_p0 (fitsS hf_p1 (fitsS hf_p2 (fitsS hf_p3 (fitsS hf_p4 (fitsS (by decide) (fitsS (by decide) (fitsS (by decide) (fitsS (by decide) (fitsS (by decide) (fitsS (by decide) (fitsS (by decide) (fitsS (by decide) (fitsS (by decide) (fitsS (by decide) (fitsS (by decide) fits0)))))))))))))))) (fitsS (by decide) (fitsS (by decide) (fitsS (by decide) (fitsS (by decide) (fitsS (by decide) fits0))))) rfl (by decide) rfl (by decide) (by decide) (by decide) (by decide) (show 0 + 5 ≤ 16 from by decide) (show 0 + 5 ≤ 5 from by decide) rfl (Nat.le_trans (own_ge p0_) (Nat.le_of_eq gah2.symm)) dcorB0_27 rfl rfl (by decide) (by decide) rfl ?_
  intro h3 Kh3 Yh30
  have Yh3 : Ary Z h3 ah2 kh2 .byte [(.int p0), (.int p1), (.int p2), (.int p3), (.int p4)] := Yh30
  refine go_aload (q := 32) K dcorB0_30 rfl rfl rfl ?_
  refine go_aret K dcorB0_32 rfl rfl rfl rfl (by decide) (by decide) ?_
  have f2 := (((Keep.refl h []).ext Eh2).trans Kh3 (allS (Or.inr (Nat.le_trans ((Keep.refl h [])).1 (Nat.le_of_eq gah2.symm))) all0))
  exact ⟨ah2, kh2, rfl, f2, (Nat.le_trans ((Keep.refl h [])).1 (Nat.le_of_eq gah2.symm)), Yh3⟩
set_option maxRecDepth 65536 in
set_option maxHeartbeats 40000000 in
theorem cor5 (l : Launch) (Z : State) (a0 : Array Value) (hw : ∀ d ∈ tables_1, d.before a0 Z = true) (va : Addr) (kv : ClassId) (p0 : Int32) (p1 : Int32) (p2 : Int32) (p3 : Int32) (p4 : Int32) (h : Heap) (n0 : Nat) (p0_ : Old Z n0 h) (p1_ : Ary Z h va kv .byte [(.int p0), (.int p1), (.int p2), (.int p3), (.int p4), (.int (0 : Int32)), (.int (0 : Int32)), (.int (0 : Int32)), (.int (0 : Int32)), (.int (0 : Int32)), (.int (0 : Int32)), (.int (0 : Int32)), (.int (0 : Int32)), (.int (0 : Int32)), (.int (0 : Int32)), (.int (0 : Int32))]) (hf_p0 : fits .byte (.int p0) = true) (hf_p1 : fits .byte (.int p1) = true) (hf_p2 : fits .byte (.int p2) = true) (hf_p3 : fits .byte (.int p3) = true) (hf_p4 : fits .byte (.int p4) = true) :
    Met l (⟨"java/util/Arrays", "copyOfRange", "([BII)[B"⟩ : MethodName) jdk_65_method_132_code 3 (some (.array .byte)) [] ({ frames := 2, cells := 1, slots := 5, locals := 60 } : Room) #[(.ref va), (.int (0 : Int32)), (.int (5 : Int32))] Z h n0 (fun v h' => ∃ (b : Addr) (kb : ClassId), v = some (.ref b) ∧ Keep h h' [] ∧ h.size ≤ b ∧ Ary Z h' b kb .byte [(.int p0), (.int p1), (.int p2), (.int p3), (.int p4)]) := by
  refine Met.of (plainFor_of_name (by first | (simp [plainName, overriddenIn]; done) | decide +kernel)) ?_
  intro pP eE sS mM bB tT cC K
  refine Go.entry (ls := #[.val (.ref va), .val (.int (0 : Int32)), .val (.int (5 : Int32))]) (by first | (simp [argsToLocals, Value.category]; done) | rfl) ?_
  refine go_iloadN (q := 1) K dcor0_0 rfl rfl ?_
  refine go_if0 (q := 10) (q' := 4) K dcor0_1 (by decide) rfl rfl (fun hn => cN_no hn (show (0 : Int32) = (0 : Int32) from (by decide))) (fun _ => ?_)
  refine go_iloadN (q := 5) K dcor0_4 rfl rfl ?_
  refine go_aloadN (q := 6) K dcor0_5 rfl rfl rfl ?_
  refine go_arraylength (q := 7) (z := (16 : Int32)) K p1_ rfl dcor0_6 rfl ?_
  refine go_icmp (q := 17) (q' := 10) K dcor0_7 (by decide) rfl rfl (fun hn => cN_no hn (show ¬ (5 : Int32) = (16 : Int32) from (by decide))) (fun _ => ?_)
  refine go_aloadN (q := 11) K dcor0_10 rfl rfl rfl ?_
  refine go_iloadN (q := 12) K dcor0_11 rfl rfl ?_
  refine go_iloadN (q := 13) K dcor0_12 rfl rfl ?_
  refine go_callS (q := 16) (W := 0) K (wd hw 174 rfl) (wd hw 175 rfl) (wd hw 172 rfl) (wd hw 176 rfl) [(.ref va), (.int (0 : Int32)), (.int (5 : Int32))] [] (corB5 l Z a0 hw _ _ _ _ _ _ _ _ n0 p0_ p1_ (by assumption) (by assumption) (by assumption) (by assumption) (by assumption)) dcor0_13 (ps := [(.array .byte), .int, .int]) (by decide +kernel) rfl rfl rfl (by decide) rfl (by decide) (by decide) (by decide) (by decide) rfl ?_
  rintro _ h1 ⟨bh1, kbh1, rfl, Kh1, gbh1, q0h1⟩
  show Go pP l eE _ sS mM _ bB tT cC n0 _ h1 1 5 (mkF mM 16 #[.val (.ref va), .val (.int (0 : Int32)), .val (.int (5 : Int32))] [(.ref bh1)])
  refine go_aret K dcor0_16 rfl rfl rfl rfl (by decide) (by decide) ?_
  have f1 := ((Keep.refl h []).trans Kh1 all0)
  exact ⟨bh1, kbh1, rfl, f1, (Nat.le_trans ((Keep.refl h [])).1 gbh1), q0h1⟩
set_option maxRecDepth 65536 in
set_option maxHeartbeats 40000000 in
theorem sV5 (l : Launch) (Z : State) (a0 : Array Value) (hw : ∀ d ∈ tables_1, d.before a0 Z = true) (a : Addr) (t : Addr) (va : Addr) (kv : ClassId) (p0 : Int32) (p1 : Int32) (p2 : Int32) (p3 : Int32) (p4 : Int32) (cs : Int32) (h : Heap) (n0 : Nat) (p0_ : Old Z n0 h) (p1_ : Sta Z Z.heap "java/lang/String" "COMPACT_STRINGS" "Z" (.int cs)) (hcs : ¬ cs = (0 : Int32)) (p3_ : Exa Z h a "java/lang/String") (p4_ : Fld Z h a "java/lang/String" "value" "[B" .null) (p5_ : Fld Z h a "java/lang/String" "coder" "B" (.int (0 : Int32))) (p6_ : n0 ≤ a) (p7_ : Exa Z h t "java/lang/StringBuilder") (p8_ : Fld Z h t "java/lang/AbstractStringBuilder" "value" "[B" (.ref va)) (p9_ : Fld Z h t "java/lang/AbstractStringBuilder" "coder" "B" (.int (0 : Int32))) (p10_ : Fld Z h t "java/lang/AbstractStringBuilder" "count" "I" (.int (5 : Int32))) (p11_ : Ary Z h va kv .byte [(.int p0), (.int p1), (.int p2), (.int p3), (.int p4), (.int (0 : Int32)), (.int (0 : Int32)), (.int (0 : Int32)), (.int (0 : Int32)), (.int (0 : Int32)), (.int (0 : Int32)), (.int (0 : Int32)), (.int (0 : Int32)), (.int (0 : Int32)), (.int (0 : Int32)), (.int (0 : Int32))]) (p12_ : a ≠ t) (p13_ : a ≠ va) (hf_p0 : fits .byte (.int p0) = true) (hf_p1 : fits .byte (.int p1) = true) (hf_p2 : fits .byte (.int p2) = true) (hf_p3 : fits .byte (.int p3) = true) (hf_p4 : fits .byte (.int p4) = true) :
    Met l (⟨"java/lang/String", "<init>", "(Ljava/lang/AbstractStringBuilder;Ljava/lang/Void;)V"⟩ : MethodName) jdk_42_method_150_code 5 none [] ({ frames := 3, cells := 1, slots := 5, locals := 80 } : Room) #[(.ref a), (.ref t), .null] Z h n0 (fun v h' => ∃ (b : Addr) (kb : ClassId), v = none ∧ Keep h h' [a] ∧ h.size ≤ b ∧ Exa Z h' a "java/lang/String" ∧ Fld Z h' a "java/lang/String" "value" "[B" (.ref b) ∧ Fld Z h' a "java/lang/String" "coder" "B" (.int (0 : Int32)) ∧ Ary Z h' b kb .byte [(.int p0), (.int p1), (.int p2), (.int p3), (.int p4)] ∧ a ≠ b) := by
  refine Met.of (plainFor_of_name (by first | (simp [plainName, overriddenIn]; done) | decide +kernel)) ?_
  intro pP eE sS mM bB tT cC K
  refine Go.entry (ls := #[.val (.ref a), .val (.ref t), .val .null, .unset, .unset]) (by first | (simp [argsToLocals, Value.category]; done) | rfl) ?_
  refine go_aloadN (q := 1) K dsV0_0 rfl rfl rfl ?_
  refine go_initO (q := 4) (W := 0) K (wd hw 22 rfl) (wd hw 23 rfl) (wd hw 24 rfl) dsV0_1 rfl rfl (by decide) (by decide) rfl ?_
  refine go_aloadN (q := 5) K dsV0_4 rfl rfl rfl ?_
  refine go_callV (q := 8) (W := 0) K (wd hw 156 rfl) (wd hw 157 rfl) (wd hw 159 rfl) (wd hw 158 rfl) (wd hw 73 rfl) (wd hw 160 rfl) (wd hw 106 rfl) rfl p7_ [] [] (gVal l Z a0 hw _ _ _ n0 p8_) dsV0_5 (ps := []) (by decide +kernel) rfl rfl rfl (by decide) rfl (by decide) (by decide) (by decide) (by decide) rfl ?_
  rintro _ _ ⟨rfl, rfl⟩
  show Go pP l eE _ sS mM _ bB tT cC n0 _ h 0 0 (mkF mM 8 #[.val (.ref a), .val (.ref t), .val .null, .unset, .unset] [(.ref va)])
  refine go_astoreN (q := 9) K dsV0_8 #[.val (.ref a), .val (.ref t), .val .null, .val (.ref va), .unset] rfl rfl rfl ?_
  refine go_aloadN (q := 10) K dsV0_9 rfl rfl rfl ?_
  refine go_callV (q := 13) (W := 0) K (wd hw 161 rfl) (wd hw 162 rfl) (wd hw 164 rfl) (wd hw 165 rfl) (wd hw 65 rfl) (wd hw 166 rfl) (wd hw 106 rfl) rfl p7_ [] [] (sbLen l Z a0 hw _ _ _ n0 p7_ p10_) dsV0_10 (ps := []) (by decide +kernel) rfl rfl rfl (by decide) rfl (by decide) (by decide) (by decide) (by decide) rfl ?_
  rintro _ _ ⟨rfl, rfl⟩
  show Go pP l eE _ sS mM _ bB tT cC n0 _ h 0 0 (mkF mM 13 #[.val (.ref a), .val (.ref t), .val .null, .val (.ref va), .unset] [(.int (5 : Int32))])
  refine go_istore (q := 15) K dsV0_13 #[.val (.ref a), .val (.ref t), .val .null, .val (.ref va), .val (.int (5 : Int32))] rfl rfl ?_
  refine go_aloadN (q := 16) K dsV0_15 rfl rfl rfl ?_
  refine go_callV (q := 19) (W := 0) K (wd hw 169 rfl) (wd hw 139 rfl) (wd hw 141 rfl) (wd hw 140 rfl) (wd hw 73 rfl) (wd hw 142 rfl) (wd hw 106 rfl) rfl p7_ [] [] (aLat l Z a0 hw _ _ _ n0 p0_ p1_ (by assumption) p9_) dsV0_16 (ps := []) (by decide +kernel) rfl rfl rfl (by decide) rfl (by decide) (by decide) (by decide) (by decide) rfl ?_
  rintro _ _ ⟨rfl, rfl⟩
  show Go pP l eE _ sS mM _ bB tT cC n0 _ h 0 0 (mkF mM 19 #[.val (.ref a), .val (.ref t), .val .null, .val (.ref va), .val (.int (5 : Int32))] [(.int (1 : Int32))])
  refine go_if0 (q := 41) (q' := 22) K dsV0_19 (by decide) rfl rfl (fun hn => cN_no hn (show ¬ (1 : Int32) = (0 : Int32) from (by decide))) (fun _ => ?_)
  refine go_aloadN (q := 23) K dsV0_22 rfl rfl rfl ?_
  refine go_iconst (q := 24) K dsV0_23 (0 : Int32) rfl rfl ?_
  refine go_putF (q := 27) K (wd hw 27 rfl) Via.refl p5_ p3_ (Or.inr ⟨(wd hw 28 rfl), rfl, rfl⟩) (wd hw 13 rfl) (ty := .byte) (by decide +kernel) rfl rfl p6_ dsV0_24 rfl ?_
  intro h4 Wh4
  refine go_aloadN (q := 28) K dsV0_27 rfl rfl rfl ?_
  refine go_aloadN (q := 29) K dsV0_28 rfl rfl rfl ?_
  refine go_iconst (q := 30) K dsV0_29 (0 : Int32) rfl rfl ?_
  refine go_iload (q := 32) K dsV0_30 rfl rfl ?_
  have f1 := (p0_.wr Wh4 p6_)
  have f2 := (p11_.other Wh4 (p13_).symm)
  have f3 := (p3_.wr Wh4)
  have f4 := (p7_.wr Wh4)
  have f5 := ((Keep.refl h [a]).wr Wh4 (Or.inl (by simp)))
  refine go_callS (q := 35) (W := 1) K (wd hw 170 rfl) (wd hw 171 rfl) (wd hw 172 rfl) (wd hw 173 rfl) [(.ref va), (.int (0 : Int32)), (.int (5 : Int32))] [(.ref a)] (cor5 l Z a0 hw _ _ _ _ _ _ _ _ n0 f1 f2 (by assumption) (by assumption) (by assumption) (by assumption) (by assumption)) dsV0_32 (ps := [(.array .byte), .int, .int]) (by decide +kernel) rfl rfl rfl (by decide) rfl (by decide) (by decide) (by decide) (by decide) rfl ?_
  rintro _ h5 ⟨bh5, kbh5, rfl, Kh5, gbh5, q0h5⟩
  show Go pP l eE _ sS mM _ bB tT cC n0 _ h5 1 5 (mkF mM 35 #[.val (.ref a), .val (.ref t), .val .null, .val (.ref va), .val (.int (5 : Int32))] [(.ref bh5), (.ref a)])
  have f6 := ((p4_.other Wh4 (Or.inr (slot_ne (C := "java/lang/String") (Or.inr (wd hw 26 rfl)) (Or.inr (wd hw 28 rfl)) (by decide) (t := (.array .byte)) (t' := .byte) (by decide +kernel) (by decide +kernel)))).keep Kh5 nin0)
  have f7 := (f3.keep Kh5)
  refine go_putF (q := 38) K (wd hw 25 rfl) Via.refl f6 f7 (Or.inr ⟨(wd hw 26 rfl), rfl, rfl⟩) (wd hw 13 rfl) (ty := (.array .byte)) (by decide +kernel) rfl rfl p6_ dsV0_35 rfl ?_
  intro h6 Wh6
  refine go_goto (q := 97) K dsV0_38 (by decide) rfl ?_
  refine go_return K dsV0_97 rfl (by decide) (by decide) ?_
  have f8 := ((f5.trans Kh5 all0).wr Wh6 (Or.inl (by simp)))
  have f9 := (f7.wr Wh6)
  have f10 := (((p5_.same Wh4).keep Kh5 nin0).other Wh6 (Or.inr (slot_ne (C := "java/lang/String") (Or.inr (wd hw 28 rfl)) (Or.inr (wd hw 26 rfl)) (by decide) (t := .byte) (t' := (.array .byte)) (by decide +kernel) (by decide +kernel))))
  have f11 := (q0h5.other Wh6 ((own_nel (f3).lt gbh5)).symm)
  exact ⟨bh5, kbh5, rfl, f8, (Nat.le_trans (f5).1 gbh5), f9, (f6.same Wh6), f10, f11, (own_nel (f3).lt gbh5)⟩
set_option maxRecDepth 65536 in
set_option maxHeartbeats 40000000 in
theorem sS5 (l : Launch) (Z : State) (a0 : Array Value) (hw : ∀ d ∈ tables_1, d.before a0 Z = true) (a : Addr) (t : Addr) (va : Addr) (kv : ClassId) (p0 : Int32) (p1 : Int32) (p2 : Int32) (p3 : Int32) (p4 : Int32) (cs : Int32) (h : Heap) (n0 : Nat) (p0_ : Old Z n0 h) (p1_ : Sta Z Z.heap "java/lang/String" "COMPACT_STRINGS" "Z" (.int cs)) (hcs : ¬ cs = (0 : Int32)) (p3_ : Exa Z h a "java/lang/String") (p4_ : Fld Z h a "java/lang/String" "value" "[B" .null) (p5_ : Fld Z h a "java/lang/String" "coder" "B" (.int (0 : Int32))) (p6_ : n0 ≤ a) (p7_ : Exa Z h t "java/lang/StringBuilder") (p8_ : Fld Z h t "java/lang/AbstractStringBuilder" "value" "[B" (.ref va)) (p9_ : Fld Z h t "java/lang/AbstractStringBuilder" "coder" "B" (.int (0 : Int32))) (p10_ : Fld Z h t "java/lang/AbstractStringBuilder" "count" "I" (.int (5 : Int32))) (p11_ : Ary Z h va kv .byte [(.int p0), (.int p1), (.int p2), (.int p3), (.int p4), (.int (0 : Int32)), (.int (0 : Int32)), (.int (0 : Int32)), (.int (0 : Int32)), (.int (0 : Int32)), (.int (0 : Int32)), (.int (0 : Int32)), (.int (0 : Int32)), (.int (0 : Int32)), (.int (0 : Int32)), (.int (0 : Int32))]) (p12_ : a ≠ t) (p13_ : a ≠ va) (hf_p0 : fits .byte (.int p0) = true) (hf_p1 : fits .byte (.int p1) = true) (hf_p2 : fits .byte (.int p2) = true) (hf_p3 : fits .byte (.int p3) = true) (hf_p4 : fits .byte (.int p4) = true) :
    Met l (⟨"java/lang/String", "<init>", "(Ljava/lang/StringBuilder;)V"⟩ : MethodName) jdk_42_method_53_code 2 none [] ({ frames := 4, cells := 1, slots := 5, locals := 100 } : Room) #[(.ref a), (.ref t)] Z h n0 (fun v h' => ∃ (b : Addr) (kb : ClassId), v = none ∧ Keep h h' [a] ∧ h.size ≤ b ∧ Exa Z h' a "java/lang/String" ∧ Fld Z h' a "java/lang/String" "value" "[B" (.ref b) ∧ Fld Z h' a "java/lang/String" "coder" "B" (.int (0 : Int32)) ∧ Ary Z h' b kb .byte [(.int p0), (.int p1), (.int p2), (.int p3), (.int p4)] ∧ a ≠ b) := by
  refine Met.of (plainFor_of_name (by first | (simp [plainName, overriddenIn]; done) | decide +kernel)) ?_
  intro pP eE sS mM bB tT cC K
  refine Go.entry (ls := #[.val (.ref a), .val (.ref t)]) (by first | (simp [argsToLocals, Value.category]; done) | rfl) ?_
  refine go_aloadN (q := 1) K dsS0_0 rfl rfl rfl ?_
  refine go_aloadN (q := 2) K dsS0_1 rfl rfl rfl ?_
  refine go_aconst_null (q := 3) K dsS0_2 rfl ?_
  refine go_callI (q := 6) (W := 0) K (wd hw 153 rfl) (wd hw 154 rfl) (wd hw 5 rfl) (wd hw 155 rfl) rfl [(.ref t), .null] [] (sV5 l Z a0 hw _ _ _ _ _ _ _ _ _ _ _ n0 p0_ p1_ (by assumption) p3_ p4_ p5_ p6_ p7_ p8_ p9_ p10_ p11_ p12_ p13_ (by assumption) (by assumption) (by assumption) (by assumption) (by assumption)) dsS0_3 (ps := [(.object "java/lang/AbstractStringBuilder"), (.object "java/lang/Void")]) (by decide +kernel) rfl rfl rfl (by decide) rfl (by decide) (by decide) (by decide) (by decide) rfl ?_
  rintro _ h1 ⟨bh1, kbh1, rfl, Kh1, gbh1, q0h1, q1h1, q2h1, q3h1, q4h1⟩
  show Go pP l eE _ sS mM _ bB tT cC n0 _ h1 1 5 (mkF mM 6 #[.val (.ref a), .val (.ref t)] [])
  refine go_return K dsS0_6 rfl (by decide) (by decide) ?_
  have f1 := ((Keep.refl h [a]).trans Kh1 (allS (Or.inl (by simp)) all0))
  exact ⟨bh1, kbh1, rfl, f1, (Nat.le_trans ((Keep.refl h [a])).1 gbh1), q0h1, q1h1, q2h1, q3h1, q4h1⟩
set_option maxRecDepth 65536 in
set_option maxHeartbeats 40000000 in
theorem ts5 (l : Launch) (Z : State) (a0 : Array Value) (hw : ∀ d ∈ tables_1, d.before a0 Z = true) (t : Addr) (va : Addr) (kv : ClassId) (p0 : Int32) (p1 : Int32) (p2 : Int32) (p3 : Int32) (p4 : Int32) (cs : Int32) (h : Heap) (n0 : Nat) (p0_ : Old Z n0 h) (p1_ : Sta Z Z.heap "java/lang/String" "COMPACT_STRINGS" "Z" (.int cs)) (hcs : ¬ cs = (0 : Int32)) (p3_ : Exa Z h t "java/lang/StringBuilder") (p4_ : Fld Z h t "java/lang/AbstractStringBuilder" "value" "[B" (.ref va)) (p5_ : Fld Z h t "java/lang/AbstractStringBuilder" "coder" "B" (.int (0 : Int32))) (p6_ : Fld Z h t "java/lang/AbstractStringBuilder" "count" "I" (.int (5 : Int32))) (p7_ : Ary Z h va kv .byte [(.int p0), (.int p1), (.int p2), (.int p3), (.int p4), (.int (0 : Int32)), (.int (0 : Int32)), (.int (0 : Int32)), (.int (0 : Int32)), (.int (0 : Int32)), (.int (0 : Int32)), (.int (0 : Int32)), (.int (0 : Int32)), (.int (0 : Int32)), (.int (0 : Int32)), (.int (0 : Int32))]) (hf_p0 : fits .byte (.int p0) = true) (hf_p1 : fits .byte (.int p1) = true) (hf_p2 : fits .byte (.int p2) = true) (hf_p3 : fits .byte (.int p3) = true) (hf_p4 : fits .byte (.int p4) = true) :
    Met l (⟨"java/lang/StringBuilder", "toString", "()Ljava/lang/String;"⟩ : MethodName) jdk_67_method_42_code 1 (some (.object "java/lang/String")) [] ({ frames := 5, cells := 2, slots := 9, locals := 120 } : Room) #[(.ref t)] Z h n0 (fun v h' => ∃ (a : Addr) (b : Addr) (kb : ClassId), v = some (.ref a) ∧ Keep h h' [] ∧ h.size ≤ a ∧ h.size ≤ b ∧ Exa Z h' a "java/lang/String" ∧ Fld Z h' a "java/lang/String" "value" "[B" (.ref b) ∧ Fld Z h' a "java/lang/String" "coder" "B" (.int (0 : Int32)) ∧ Ary Z h' b kb .byte [(.int p0), (.int p1), (.int p2), (.int p3), (.int p4)] ∧ a ≠ b) := by
  refine Met.of (plainFor_of_name (by first | (simp [plainName, overriddenIn]; done) | decide +kernel)) ?_
  intro pP eE sS mM bB tT cC K
  refine Go.entry (ls := #[.val (.ref t)]) (by first | (simp [argsToLocals, Value.category]; done) | rfl) ?_
  refine go_new (q := 3) (sz := 4) K (wd hw 149 rfl) (wd hw 13 rfl) (wd hw 5 rfl) dts0_0 (by decide) (by decide) rfl ?_
  intro h1 ah1 gah1 Eh1 Xah1 Dah1
  refine go_dup (q := 4) K dts0_3 rfl rfl ?_
  refine go_aloadN (q := 5) K dts0_4 rfl rfl rfl ?_
  have f1 := (p0_.ext Eh1)
  have f2 := (p3_.ext Eh1)
  have f3 := (p4_.ext Eh1)
  have f4 := (p5_.ext Eh1)
  have f5 := (p6_.ext Eh1)
  have f6 := (p7_.ext Eh1)
  have f7 := ((Keep.refl h []).ext Eh1)
  refine go_callI (q := 8) (W := 1) K (wd hw 150 rfl) (wd hw 151 rfl) (wd hw 5 rfl) (wd hw 152 rfl) rfl [(.ref t)] [(.ref ah1)] (sS5 l Z a0 hw _ _ _ _ _ _ _ _ _ _ _ n0 f1 p1_ (by assumption) Xah1 (Dah1 (Or.inr (wd hw 26 rfl)) (ty := (.array .byte)) (by decide +kernel)) (Dah1 (Or.inr (wd hw 28 rfl)) (ty := .byte) (by decide +kernel)) (Nat.le_trans (own_ge p0_) (Nat.le_of_eq gah1.symm)) f2 f3 f4 f5 f6 ((own_nel (p3_).lt (Nat.le_of_eq gah1.symm))).symm ((own_nel (p7_).lt (Nat.le_of_eq gah1.symm))).symm (by assumption) (by assumption) (by assumption) (by assumption) (by assumption)) dts0_5 (ps := [(.object "java/lang/StringBuilder")]) (by decide +kernel) rfl rfl rfl (by decide) rfl (by decide) (by decide) (by decide) (by decide) rfl ?_
  rintro _ h2 ⟨bh2, kbh2, rfl, Kh2, gbh2, q0h2, q1h2, q2h2, q3h2, q4h2⟩
  show Go pP l eE _ sS mM _ bB tT cC n0 _ h2 2 9 (mkF mM 8 #[.val (.ref t)] [(.ref ah1)])
  refine go_aret K dts0_8 rfl rfl rfl rfl (by decide) (by decide) ?_
  have f8 := (f7.trans Kh2 (allS (Or.inr (Nat.le_trans ((Keep.refl h [])).1 (Nat.le_of_eq gah1.symm))) all0))
  exact ⟨ah1, bh2, kbh2, rfl, f8, (Nat.le_trans ((Keep.refl h [])).1 (Nat.le_of_eq gah1.symm)), (Nat.le_trans (f7).1 gbh2), q0h2, q1h2, q2h2, q3h2, q4h2⟩
set_option maxRecDepth 65536 in
set_option maxHeartbeats 40000000 in
theorem corB10 (l : Launch) (Z : State) (a0 : Array Value) (hw : ∀ d ∈ tables_1, d.before a0 Z = true) (va : Addr) (kv : ClassId) (p0 : Int32) (p1 : Int32) (p2 : Int32) (p3 : Int32) (p4 : Int32) (p5 : Int32) (p6 : Int32) (p7 : Int32) (p8 : Int32) (p9 : Int32) (h : Heap) (n0 : Nat) (p0_ : Old Z n0 h) (p1_ : Ary Z h va kv .byte [(.int p0), (.int p1), (.int p2), (.int p3), (.int p4), (.int p5), (.int p6), (.int p7), (.int p8), (.int p9), (.int (0 : Int32)), (.int (0 : Int32)), (.int (0 : Int32)), (.int (0 : Int32)), (.int (0 : Int32)), (.int (0 : Int32))]) (hf_p0 : fits .byte (.int p0) = true) (hf_p1 : fits .byte (.int p1) = true) (hf_p2 : fits .byte (.int p2) = true) (hf_p3 : fits .byte (.int p3) = true) (hf_p4 : fits .byte (.int p4) = true) (hf_p5 : fits .byte (.int p5) = true) (hf_p6 : fits .byte (.int p6) = true) (hf_p7 : fits .byte (.int p7) = true) (hf_p8 : fits .byte (.int p8) = true) (hf_p9 : fits .byte (.int p9) = true) :
    Met l (⟨"java/util/Arrays", "copyOfRangeByte", "([BII)[B"⟩ : MethodName) jdk_65_method_133_code 5 (some (.array .byte)) [] ({ frames := 1, cells := 1, slots := 10, locals := 40 } : Room) #[(.ref va), (.int (0 : Int32)), (.int (10 : Int32))] Z h n0 (fun v h' => ∃ (b : Addr) (kb : ClassId), v = some (.ref b) ∧ Keep h h' [] ∧ h.size ≤ b ∧ Ary Z h' b kb .byte [(.int p0), (.int p1), (.int p2), (.int p3), (.int p4), (.int p5), (.int p6), (.int p7), (.int p8), (.int p9)]) := by
  refine Met.of (plainFor_of_name (by first | (simp [plainName, overriddenIn]; done) | decide +kernel)) ?_
  intro pP eE sS mM bB tT cC K
  refine Go.entry (ls := #[.val (.ref va), .val (.int (0 : Int32)), .val (.int (10 : Int32)), .unset, .unset]) (by first | (simp [argsToLocals, Value.category]; done) | rfl) ?_
  refine go_iloadN (q := 1) K dcorB0_0 rfl rfl ?_
  refine go_iloadN (q := 2) K dcorB0_1 rfl rfl ?_
  refine go_callS (q := 5) (W := 0) K (wd hw 177 rfl) (wd hw 178 rfl) (wd hw 172 rfl) (wd hw 179 rfl) [(.int (0 : Int32)), (.int (10 : Int32))] [] (ckLen l Z a0 hw _ _ _ n0 (by decide)) dcorB0_2 (ps := [.int, .int]) (by decide +kernel) rfl rfl rfl (by decide) rfl (by decide) (by decide) (by decide) (by decide) rfl ?_
  rintro _ _ ⟨rfl, rfl⟩
  show Go pP l eE _ sS mM _ bB tT cC n0 _ h 0 0 (mkF mM 5 #[.val (.ref va), .val (.int (0 : Int32)), .val (.int (10 : Int32)), .unset, .unset] [])
  refine go_iloadN (q := 6) K dcorB0_5 rfl rfl ?_
  refine go_iloadN (q := 7) K dcorB0_6 rfl rfl ?_
  refine go_isub (q := 8) K dcorB0_7 rfl ?_
  refine go_eqI (y := (10 : Int32)) (by decide) ?_
  refine go_istoreN (q := 9) K dcorB0_8 #[.val (.ref va), .val (.int (0 : Int32)), .val (.int (10 : Int32)), .val (.int (10 : Int32)), .unset] rfl rfl ?_
  refine go_iloadN (q := 10) K dcorB0_9 rfl rfl ?_
  refine go_newarray (q := 12) (num := 10) (cap := 10) K (wd hw 17 rfl) dcorB0_10 (by decide) rfl (by decide) (by decide) (by decide) (by decide) rfl ?_
  intro h2 ah2 kh2 gah2 Eh2 Yh2
  refine go_astore (q := 14) K dcorB0_12 #[.val (.ref va), .val (.int (0 : Int32)), .val (.int (10 : Int32)), .val (.int (10 : Int32)), .val (.ref ah2)] rfl rfl rfl ?_
  refine go_aloadN (q := 15) K dcorB0_14 rfl rfl rfl ?_
  refine go_iloadN (q := 16) K dcorB0_15 rfl rfl ?_
  refine go_aload (q := 18) K dcorB0_16 rfl rfl rfl ?_
  refine go_iconst (q := 19) K dcorB0_18 (0 : Int32) rfl rfl ?_
  refine go_aloadN (q := 20) K dcorB0_19 rfl rfl rfl ?_
  have f1 := (p1_.ext Eh2)
  refine go_arraylength (q := 21) (z := (16 : Int32)) K f1 rfl dcorB0_20 rfl ?_
  refine go_iloadN (q := 22) K dcorB0_21 rfl rfl ?_
  refine go_isub (q := 23) K dcorB0_22 rfl ?_
  refine go_eqI (y := (16 : Int32)) (by decide) ?_
  refine go_iloadN (q := 24) K dcorB0_23 rfl rfl ?_
  refine go_callS (q := 27) (W := 4) K (wd hw 180 rfl) (wd hw 181 rfl) (wd hw 182 rfl) (wd hw 183 rfl) [(.int (16 : Int32)), (.int (10 : Int32))] [(.int (0 : Int32)), (.ref ah2), (.int (0 : Int32)), (.ref va)] (min_met l Z a0 hw (16 : Int32) (10 : Int32) _ n0) dcorB0_24 (ps := [.int, .int]) (by decide +kernel) rfl rfl rfl (by decide) rfl (by decide) (by decide) (by decide) (by decide) rfl ?_
  rintro _ _ ⟨rfl, rfl⟩
  show Go pP l eE _ sS mM _ bB tT cC n0 _ h2 1 10 (mkF mM 27 #[.val (.ref va), .val (.int (0 : Int32)), .val (.int (10 : Int32)), .val (.int (10 : Int32)), .val (.ref ah2)] [(.int (if (10 : Int32) < (16 : Int32) then (10 : Int32) else (16 : Int32))), (.int (0 : Int32)), (.ref ah2), (.int (0 : Int32)), (.ref va)])
  refine go_eqI (y := (10 : Int32)) (by decide) ?_
  refine go_arraycopy (q := 30) (W := 0) (us := [(.int p0), (.int p1), (.int p2), (.int p3), (.int p4), (.int p5), (.int p6), (.int p7), (.int p8), (.int p9)]) (za := (16 : Int32)) (zb := (10 : Int32)) K (wd hw 184 rfl) (wd hw 127 rfl) (wd hw 125 rfl) (wd hw 126 rfl) f1 Yh2 (fitsS hf_p0 (fitsS hf_p1 (fitsS hf_p2 (fitsS hf_p3 (fitsS hf_p4 (fitsS hf_p5 (fitsS hf_p6 (fitsS hf_p7 (fitsS hf_p8 (fitsS hf_p9 (fitsS (by decide) (fitsS (by decide) (fitsS (by decide) (fitsS (by decide) (fitsS (by decide) (fitsS (by decide) fits0)))))))))))))))) (fitsS (by decide) (fitsS (by decide) (fitsS (by decide) (fitsS (by decide) (fitsS (by decide) (fitsS (by decide) (fitsS (by decide) (fitsS (by decide) (fitsS (by decide) (fitsS (by decide) fits0)))))))))) rfl (by decide) rfl (by decide) (by decide) (by decide) (by decide) (show 0 + 10 ≤ 16 from by decide) (show 0 + 10 ≤ 10 from by decide) rfl (Nat.le_trans (own_ge p0_) (Nat.le_of_eq gah2.symm)) dcorB0_27 rfl rfl (by decide) (by decide) rfl ?_
  intro h3 Kh3 Yh30
  have Yh3 : Ary Z h3 ah2 kh2 .byte [(.int p0), (.int p1), (.int p2), (.int p3), (.int p4), (.int p5), (.int p6), (.int p7), (.int p8), (.int p9)] := Yh30
  refine go_aload (q := 32) K dcorB0_30 rfl rfl rfl ?_
  refine go_aret K dcorB0_32 rfl rfl rfl rfl (by decide) (by decide) ?_
  have f2 := (((Keep.refl h []).ext Eh2).trans Kh3 (allS (Or.inr (Nat.le_trans ((Keep.refl h [])).1 (Nat.le_of_eq gah2.symm))) all0))
  exact ⟨ah2, kh2, rfl, f2, (Nat.le_trans ((Keep.refl h [])).1 (Nat.le_of_eq gah2.symm)), Yh3⟩
set_option maxRecDepth 65536 in
set_option maxHeartbeats 40000000 in
theorem cor10 (l : Launch) (Z : State) (a0 : Array Value) (hw : ∀ d ∈ tables_1, d.before a0 Z = true) (va : Addr) (kv : ClassId) (p0 : Int32) (p1 : Int32) (p2 : Int32) (p3 : Int32) (p4 : Int32) (p5 : Int32) (p6 : Int32) (p7 : Int32) (p8 : Int32) (p9 : Int32) (h : Heap) (n0 : Nat) (p0_ : Old Z n0 h) (p1_ : Ary Z h va kv .byte [(.int p0), (.int p1), (.int p2), (.int p3), (.int p4), (.int p5), (.int p6), (.int p7), (.int p8), (.int p9), (.int (0 : Int32)), (.int (0 : Int32)), (.int (0 : Int32)), (.int (0 : Int32)), (.int (0 : Int32)), (.int (0 : Int32))]) (hf_p0 : fits .byte (.int p0) = true) (hf_p1 : fits .byte (.int p1) = true) (hf_p2 : fits .byte (.int p2) = true) (hf_p3 : fits .byte (.int p3) = true) (hf_p4 : fits .byte (.int p4) = true) (hf_p5 : fits .byte (.int p5) = true) (hf_p6 : fits .byte (.int p6) = true) (hf_p7 : fits .byte (.int p7) = true) (hf_p8 : fits .byte (.int p8) = true) (hf_p9 : fits .byte (.int p9) = true) :
    Met l (⟨"java/util/Arrays", "copyOfRange", "([BII)[B"⟩ : MethodName) jdk_65_method_132_code 3 (some (.array .byte)) [] ({ frames := 2, cells := 1, slots := 10, locals := 60 } : Room) #[(.ref va), (.int (0 : Int32)), (.int (10 : Int32))] Z h n0 (fun v h' => ∃ (b : Addr) (kb : ClassId), v = some (.ref b) ∧ Keep h h' [] ∧ h.size ≤ b ∧ Ary Z h' b kb .byte [(.int p0), (.int p1), (.int p2), (.int p3), (.int p4), (.int p5), (.int p6), (.int p7), (.int p8), (.int p9)]) := by
  refine Met.of (plainFor_of_name (by first | (simp [plainName, overriddenIn]; done) | decide +kernel)) ?_
  intro pP eE sS mM bB tT cC K
  refine Go.entry (ls := #[.val (.ref va), .val (.int (0 : Int32)), .val (.int (10 : Int32))]) (by first | (simp [argsToLocals, Value.category]; done) | rfl) ?_
  refine go_iloadN (q := 1) K dcor0_0 rfl rfl ?_
  refine go_if0 (q := 10) (q' := 4) K dcor0_1 (by decide) rfl rfl (fun hn => cN_no hn (show (0 : Int32) = (0 : Int32) from (by decide))) (fun _ => ?_)
  refine go_iloadN (q := 5) K dcor0_4 rfl rfl ?_
  refine go_aloadN (q := 6) K dcor0_5 rfl rfl rfl ?_
  refine go_arraylength (q := 7) (z := (16 : Int32)) K p1_ rfl dcor0_6 rfl ?_
  refine go_icmp (q := 17) (q' := 10) K dcor0_7 (by decide) rfl rfl (fun hn => cN_no hn (show ¬ (10 : Int32) = (16 : Int32) from (by decide))) (fun _ => ?_)
  refine go_aloadN (q := 11) K dcor0_10 rfl rfl rfl ?_
  refine go_iloadN (q := 12) K dcor0_11 rfl rfl ?_
  refine go_iloadN (q := 13) K dcor0_12 rfl rfl ?_
  refine go_callS (q := 16) (W := 0) K (wd hw 174 rfl) (wd hw 175 rfl) (wd hw 172 rfl) (wd hw 176 rfl) [(.ref va), (.int (0 : Int32)), (.int (10 : Int32))] [] (corB10 l Z a0 hw _ _ _ _ _ _ _ _ _ _ _ _ _ n0 p0_ p1_ (by assumption) (by assumption) (by assumption) (by assumption) (by assumption) (by assumption) (by assumption) (by assumption) (by assumption) (by assumption)) dcor0_13 (ps := [(.array .byte), .int, .int]) (by decide +kernel) rfl rfl rfl (by decide) rfl (by decide) (by decide) (by decide) (by decide) rfl ?_
  rintro _ h1 ⟨bh1, kbh1, rfl, Kh1, gbh1, q0h1⟩
  show Go pP l eE _ sS mM _ bB tT cC n0 _ h1 1 10 (mkF mM 16 #[.val (.ref va), .val (.int (0 : Int32)), .val (.int (10 : Int32))] [(.ref bh1)])
  refine go_aret K dcor0_16 rfl rfl rfl rfl (by decide) (by decide) ?_
  have f1 := ((Keep.refl h []).trans Kh1 all0)
  exact ⟨bh1, kbh1, rfl, f1, (Nat.le_trans ((Keep.refl h [])).1 gbh1), q0h1⟩
set_option maxRecDepth 65536 in
set_option maxHeartbeats 40000000 in
theorem sV10 (l : Launch) (Z : State) (a0 : Array Value) (hw : ∀ d ∈ tables_1, d.before a0 Z = true) (a : Addr) (t : Addr) (va : Addr) (kv : ClassId) (p0 : Int32) (p1 : Int32) (p2 : Int32) (p3 : Int32) (p4 : Int32) (p5 : Int32) (p6 : Int32) (p7 : Int32) (p8 : Int32) (p9 : Int32) (cs : Int32) (h : Heap) (n0 : Nat) (p0_ : Old Z n0 h) (p1_ : Sta Z Z.heap "java/lang/String" "COMPACT_STRINGS" "Z" (.int cs)) (hcs : ¬ cs = (0 : Int32)) (p3_ : Exa Z h a "java/lang/String") (p4_ : Fld Z h a "java/lang/String" "value" "[B" .null) (p5_ : Fld Z h a "java/lang/String" "coder" "B" (.int (0 : Int32))) (p6_ : n0 ≤ a) (p7_ : Exa Z h t "java/lang/StringBuilder") (p8_ : Fld Z h t "java/lang/AbstractStringBuilder" "value" "[B" (.ref va)) (p9_ : Fld Z h t "java/lang/AbstractStringBuilder" "coder" "B" (.int (0 : Int32))) (p10_ : Fld Z h t "java/lang/AbstractStringBuilder" "count" "I" (.int (10 : Int32))) (p11_ : Ary Z h va kv .byte [(.int p0), (.int p1), (.int p2), (.int p3), (.int p4), (.int p5), (.int p6), (.int p7), (.int p8), (.int p9), (.int (0 : Int32)), (.int (0 : Int32)), (.int (0 : Int32)), (.int (0 : Int32)), (.int (0 : Int32)), (.int (0 : Int32))]) (p12_ : a ≠ t) (p13_ : a ≠ va) (hf_p0 : fits .byte (.int p0) = true) (hf_p1 : fits .byte (.int p1) = true) (hf_p2 : fits .byte (.int p2) = true) (hf_p3 : fits .byte (.int p3) = true) (hf_p4 : fits .byte (.int p4) = true) (hf_p5 : fits .byte (.int p5) = true) (hf_p6 : fits .byte (.int p6) = true) (hf_p7 : fits .byte (.int p7) = true) (hf_p8 : fits .byte (.int p8) = true) (hf_p9 : fits .byte (.int p9) = true) :
    Met l (⟨"java/lang/String", "<init>", "(Ljava/lang/AbstractStringBuilder;Ljava/lang/Void;)V"⟩ : MethodName) jdk_42_method_150_code 5 none [] ({ frames := 3, cells := 1, slots := 10, locals := 80 } : Room) #[(.ref a), (.ref t), .null] Z h n0 (fun v h' => ∃ (b : Addr) (kb : ClassId), v = none ∧ Keep h h' [a] ∧ h.size ≤ b ∧ Exa Z h' a "java/lang/String" ∧ Fld Z h' a "java/lang/String" "value" "[B" (.ref b) ∧ Fld Z h' a "java/lang/String" "coder" "B" (.int (0 : Int32)) ∧ Ary Z h' b kb .byte [(.int p0), (.int p1), (.int p2), (.int p3), (.int p4), (.int p5), (.int p6), (.int p7), (.int p8), (.int p9)] ∧ a ≠ b) := by
  refine Met.of (plainFor_of_name (by first | (simp [plainName, overriddenIn]; done) | decide +kernel)) ?_
  intro pP eE sS mM bB tT cC K
  refine Go.entry (ls := #[.val (.ref a), .val (.ref t), .val .null, .unset, .unset]) (by first | (simp [argsToLocals, Value.category]; done) | rfl) ?_
  refine go_aloadN (q := 1) K dsV0_0 rfl rfl rfl ?_
  refine go_initO (q := 4) (W := 0) K (wd hw 22 rfl) (wd hw 23 rfl) (wd hw 24 rfl) dsV0_1 rfl rfl (by decide) (by decide) rfl ?_
  refine go_aloadN (q := 5) K dsV0_4 rfl rfl rfl ?_
  refine go_callV (q := 8) (W := 0) K (wd hw 156 rfl) (wd hw 157 rfl) (wd hw 159 rfl) (wd hw 158 rfl) (wd hw 73 rfl) (wd hw 160 rfl) (wd hw 106 rfl) rfl p7_ [] [] (gVal l Z a0 hw _ _ _ n0 p8_) dsV0_5 (ps := []) (by decide +kernel) rfl rfl rfl (by decide) rfl (by decide) (by decide) (by decide) (by decide) rfl ?_
  rintro _ _ ⟨rfl, rfl⟩
  show Go pP l eE _ sS mM _ bB tT cC n0 _ h 0 0 (mkF mM 8 #[.val (.ref a), .val (.ref t), .val .null, .unset, .unset] [(.ref va)])
  refine go_astoreN (q := 9) K dsV0_8 #[.val (.ref a), .val (.ref t), .val .null, .val (.ref va), .unset] rfl rfl rfl ?_
  refine go_aloadN (q := 10) K dsV0_9 rfl rfl rfl ?_
  refine go_callV (q := 13) (W := 0) K (wd hw 161 rfl) (wd hw 162 rfl) (wd hw 164 rfl) (wd hw 165 rfl) (wd hw 65 rfl) (wd hw 166 rfl) (wd hw 106 rfl) rfl p7_ [] [] (sbLen l Z a0 hw _ _ _ n0 p7_ p10_) dsV0_10 (ps := []) (by decide +kernel) rfl rfl rfl (by decide) rfl (by decide) (by decide) (by decide) (by decide) rfl ?_
  rintro _ _ ⟨rfl, rfl⟩
  show Go pP l eE _ sS mM _ bB tT cC n0 _ h 0 0 (mkF mM 13 #[.val (.ref a), .val (.ref t), .val .null, .val (.ref va), .unset] [(.int (10 : Int32))])
  refine go_istore (q := 15) K dsV0_13 #[.val (.ref a), .val (.ref t), .val .null, .val (.ref va), .val (.int (10 : Int32))] rfl rfl ?_
  refine go_aloadN (q := 16) K dsV0_15 rfl rfl rfl ?_
  refine go_callV (q := 19) (W := 0) K (wd hw 169 rfl) (wd hw 139 rfl) (wd hw 141 rfl) (wd hw 140 rfl) (wd hw 73 rfl) (wd hw 142 rfl) (wd hw 106 rfl) rfl p7_ [] [] (aLat l Z a0 hw _ _ _ n0 p0_ p1_ (by assumption) p9_) dsV0_16 (ps := []) (by decide +kernel) rfl rfl rfl (by decide) rfl (by decide) (by decide) (by decide) (by decide) rfl ?_
  rintro _ _ ⟨rfl, rfl⟩
  show Go pP l eE _ sS mM _ bB tT cC n0 _ h 0 0 (mkF mM 19 #[.val (.ref a), .val (.ref t), .val .null, .val (.ref va), .val (.int (10 : Int32))] [(.int (1 : Int32))])
  refine go_if0 (q := 41) (q' := 22) K dsV0_19 (by decide) rfl rfl (fun hn => cN_no hn (show ¬ (1 : Int32) = (0 : Int32) from (by decide))) (fun _ => ?_)
  refine go_aloadN (q := 23) K dsV0_22 rfl rfl rfl ?_
  refine go_iconst (q := 24) K dsV0_23 (0 : Int32) rfl rfl ?_
  refine go_putF (q := 27) K (wd hw 27 rfl) Via.refl p5_ p3_ (Or.inr ⟨(wd hw 28 rfl), rfl, rfl⟩) (wd hw 13 rfl) (ty := .byte) (by decide +kernel) rfl rfl p6_ dsV0_24 rfl ?_
  intro h4 Wh4
  refine go_aloadN (q := 28) K dsV0_27 rfl rfl rfl ?_
  refine go_aloadN (q := 29) K dsV0_28 rfl rfl rfl ?_
  refine go_iconst (q := 30) K dsV0_29 (0 : Int32) rfl rfl ?_
  refine go_iload (q := 32) K dsV0_30 rfl rfl ?_
  have f1 := (p0_.wr Wh4 p6_)
  have f2 := (p11_.other Wh4 (p13_).symm)
  have f3 := (p3_.wr Wh4)
  have f4 := (p7_.wr Wh4)
  have f5 := ((Keep.refl h [a]).wr Wh4 (Or.inl (by simp)))
  refine go_callS (q := 35) (W := 1) K (wd hw 170 rfl) (wd hw 171 rfl) (wd hw 172 rfl) (wd hw 173 rfl) [(.ref va), (.int (0 : Int32)), (.int (10 : Int32))] [(.ref a)] (cor10 l Z a0 hw _ _ _ _ _ _ _ _ _ _ _ _ _ n0 f1 f2 (by assumption) (by assumption) (by assumption) (by assumption) (by assumption) (by assumption) (by assumption) (by assumption) (by assumption) (by assumption)) dsV0_32 (ps := [(.array .byte), .int, .int]) (by decide +kernel) rfl rfl rfl (by decide) rfl (by decide) (by decide) (by decide) (by decide) rfl ?_
  rintro _ h5 ⟨bh5, kbh5, rfl, Kh5, gbh5, q0h5⟩
  show Go pP l eE _ sS mM _ bB tT cC n0 _ h5 1 10 (mkF mM 35 #[.val (.ref a), .val (.ref t), .val .null, .val (.ref va), .val (.int (10 : Int32))] [(.ref bh5), (.ref a)])
  have f6 := ((p4_.other Wh4 (Or.inr (slot_ne (C := "java/lang/String") (Or.inr (wd hw 26 rfl)) (Or.inr (wd hw 28 rfl)) (by decide) (t := (.array .byte)) (t' := .byte) (by decide +kernel) (by decide +kernel)))).keep Kh5 nin0)
  have f7 := (f3.keep Kh5)
  refine go_putF (q := 38) K (wd hw 25 rfl) Via.refl f6 f7 (Or.inr ⟨(wd hw 26 rfl), rfl, rfl⟩) (wd hw 13 rfl) (ty := (.array .byte)) (by decide +kernel) rfl rfl p6_ dsV0_35 rfl ?_
  intro h6 Wh6
  refine go_goto (q := 97) K dsV0_38 (by decide) rfl ?_
  refine go_return K dsV0_97 rfl (by decide) (by decide) ?_
  have f8 := ((f5.trans Kh5 all0).wr Wh6 (Or.inl (by simp)))
  have f9 := (f7.wr Wh6)
  have f10 := (((p5_.same Wh4).keep Kh5 nin0).other Wh6 (Or.inr (slot_ne (C := "java/lang/String") (Or.inr (wd hw 28 rfl)) (Or.inr (wd hw 26 rfl)) (by decide) (t := .byte) (t' := (.array .byte)) (by decide +kernel) (by decide +kernel))))
  have f11 := (q0h5.other Wh6 ((own_nel (f3).lt gbh5)).symm)
  exact ⟨bh5, kbh5, rfl, f8, (Nat.le_trans (f5).1 gbh5), f9, (f6.same Wh6), f10, f11, (own_nel (f3).lt gbh5)⟩
set_option maxRecDepth 65536 in
set_option maxHeartbeats 40000000 in
theorem sS10 (l : Launch) (Z : State) (a0 : Array Value) (hw : ∀ d ∈ tables_1, d.before a0 Z = true) (a : Addr) (t : Addr) (va : Addr) (kv : ClassId) (p0 : Int32) (p1 : Int32) (p2 : Int32) (p3 : Int32) (p4 : Int32) (p5 : Int32) (p6 : Int32) (p7 : Int32) (p8 : Int32) (p9 : Int32) (cs : Int32) (h : Heap) (n0 : Nat) (p0_ : Old Z n0 h) (p1_ : Sta Z Z.heap "java/lang/String" "COMPACT_STRINGS" "Z" (.int cs)) (hcs : ¬ cs = (0 : Int32)) (p3_ : Exa Z h a "java/lang/String") (p4_ : Fld Z h a "java/lang/String" "value" "[B" .null) (p5_ : Fld Z h a "java/lang/String" "coder" "B" (.int (0 : Int32))) (p6_ : n0 ≤ a) (p7_ : Exa Z h t "java/lang/StringBuilder") (p8_ : Fld Z h t "java/lang/AbstractStringBuilder" "value" "[B" (.ref va)) (p9_ : Fld Z h t "java/lang/AbstractStringBuilder" "coder" "B" (.int (0 : Int32))) (p10_ : Fld Z h t "java/lang/AbstractStringBuilder" "count" "I" (.int (10 : Int32))) (p11_ : Ary Z h va kv .byte [(.int p0), (.int p1), (.int p2), (.int p3), (.int p4), (.int p5), (.int p6), (.int p7), (.int p8), (.int p9), (.int (0 : Int32)), (.int (0 : Int32)), (.int (0 : Int32)), (.int (0 : Int32)), (.int (0 : Int32)), (.int (0 : Int32))]) (p12_ : a ≠ t) (p13_ : a ≠ va) (hf_p0 : fits .byte (.int p0) = true) (hf_p1 : fits .byte (.int p1) = true) (hf_p2 : fits .byte (.int p2) = true) (hf_p3 : fits .byte (.int p3) = true) (hf_p4 : fits .byte (.int p4) = true) (hf_p5 : fits .byte (.int p5) = true) (hf_p6 : fits .byte (.int p6) = true) (hf_p7 : fits .byte (.int p7) = true) (hf_p8 : fits .byte (.int p8) = true) (hf_p9 : fits .byte (.int p9) = true) :
    Met l (⟨"java/lang/String", "<init>", "(Ljava/lang/StringBuilder;)V"⟩ : MethodName) jdk_42_method_53_code 2 none [] ({ frames := 4, cells := 1, slots := 10, locals := 100 } : Room) #[(.ref a), (.ref t)] Z h n0 (fun v h' => ∃ (b : Addr) (kb : ClassId), v = none ∧ Keep h h' [a] ∧ h.size ≤ b ∧ Exa Z h' a "java/lang/String" ∧ Fld Z h' a "java/lang/String" "value" "[B" (.ref b) ∧ Fld Z h' a "java/lang/String" "coder" "B" (.int (0 : Int32)) ∧ Ary Z h' b kb .byte [(.int p0), (.int p1), (.int p2), (.int p3), (.int p4), (.int p5), (.int p6), (.int p7), (.int p8), (.int p9)] ∧ a ≠ b) := by
  refine Met.of (plainFor_of_name (by first | (simp [plainName, overriddenIn]; done) | decide +kernel)) ?_
  intro pP eE sS mM bB tT cC K
  refine Go.entry (ls := #[.val (.ref a), .val (.ref t)]) (by first | (simp [argsToLocals, Value.category]; done) | rfl) ?_
  refine go_aloadN (q := 1) K dsS0_0 rfl rfl rfl ?_
  refine go_aloadN (q := 2) K dsS0_1 rfl rfl rfl ?_
  refine go_aconst_null (q := 3) K dsS0_2 rfl ?_
  refine go_callI (q := 6) (W := 0) K (wd hw 153 rfl) (wd hw 154 rfl) (wd hw 5 rfl) (wd hw 155 rfl) rfl [(.ref t), .null] [] (sV10 l Z a0 hw _ _ _ _ _ _ _ _ _ _ _ _ _ _ _ _ n0 p0_ p1_ (by assumption) p3_ p4_ p5_ p6_ p7_ p8_ p9_ p10_ p11_ p12_ p13_ (by assumption) (by assumption) (by assumption) (by assumption) (by assumption) (by assumption) (by assumption) (by assumption) (by assumption) (by assumption)) dsS0_3 (ps := [(.object "java/lang/AbstractStringBuilder"), (.object "java/lang/Void")]) (by decide +kernel) rfl rfl rfl (by decide) rfl (by decide) (by decide) (by decide) (by decide) rfl ?_
  rintro _ h1 ⟨bh1, kbh1, rfl, Kh1, gbh1, q0h1, q1h1, q2h1, q3h1, q4h1⟩
  show Go pP l eE _ sS mM _ bB tT cC n0 _ h1 1 10 (mkF mM 6 #[.val (.ref a), .val (.ref t)] [])
  refine go_return K dsS0_6 rfl (by decide) (by decide) ?_
  have f1 := ((Keep.refl h [a]).trans Kh1 (allS (Or.inl (by simp)) all0))
  exact ⟨bh1, kbh1, rfl, f1, (Nat.le_trans ((Keep.refl h [a])).1 gbh1), q0h1, q1h1, q2h1, q3h1, q4h1⟩
set_option maxRecDepth 65536 in
set_option maxHeartbeats 40000000 in
theorem ts10 (l : Launch) (Z : State) (a0 : Array Value) (hw : ∀ d ∈ tables_1, d.before a0 Z = true) (t : Addr) (va : Addr) (kv : ClassId) (p0 : Int32) (p1 : Int32) (p2 : Int32) (p3 : Int32) (p4 : Int32) (p5 : Int32) (p6 : Int32) (p7 : Int32) (p8 : Int32) (p9 : Int32) (cs : Int32) (h : Heap) (n0 : Nat) (p0_ : Old Z n0 h) (p1_ : Sta Z Z.heap "java/lang/String" "COMPACT_STRINGS" "Z" (.int cs)) (hcs : ¬ cs = (0 : Int32)) (p3_ : Exa Z h t "java/lang/StringBuilder") (p4_ : Fld Z h t "java/lang/AbstractStringBuilder" "value" "[B" (.ref va)) (p5_ : Fld Z h t "java/lang/AbstractStringBuilder" "coder" "B" (.int (0 : Int32))) (p6_ : Fld Z h t "java/lang/AbstractStringBuilder" "count" "I" (.int (10 : Int32))) (p7_ : Ary Z h va kv .byte [(.int p0), (.int p1), (.int p2), (.int p3), (.int p4), (.int p5), (.int p6), (.int p7), (.int p8), (.int p9), (.int (0 : Int32)), (.int (0 : Int32)), (.int (0 : Int32)), (.int (0 : Int32)), (.int (0 : Int32)), (.int (0 : Int32))]) (hf_p0 : fits .byte (.int p0) = true) (hf_p1 : fits .byte (.int p1) = true) (hf_p2 : fits .byte (.int p2) = true) (hf_p3 : fits .byte (.int p3) = true) (hf_p4 : fits .byte (.int p4) = true) (hf_p5 : fits .byte (.int p5) = true) (hf_p6 : fits .byte (.int p6) = true) (hf_p7 : fits .byte (.int p7) = true) (hf_p8 : fits .byte (.int p8) = true) (hf_p9 : fits .byte (.int p9) = true) :
    Met l (⟨"java/lang/StringBuilder", "toString", "()Ljava/lang/String;"⟩ : MethodName) jdk_67_method_42_code 1 (some (.object "java/lang/String")) [] ({ frames := 5, cells := 2, slots := 14, locals := 120 } : Room) #[(.ref t)] Z h n0 (fun v h' => ∃ (a : Addr) (b : Addr) (kb : ClassId), v = some (.ref a) ∧ Keep h h' [] ∧ h.size ≤ a ∧ h.size ≤ b ∧ Exa Z h' a "java/lang/String" ∧ Fld Z h' a "java/lang/String" "value" "[B" (.ref b) ∧ Fld Z h' a "java/lang/String" "coder" "B" (.int (0 : Int32)) ∧ Ary Z h' b kb .byte [(.int p0), (.int p1), (.int p2), (.int p3), (.int p4), (.int p5), (.int p6), (.int p7), (.int p8), (.int p9)] ∧ a ≠ b) := by
  refine Met.of (plainFor_of_name (by first | (simp [plainName, overriddenIn]; done) | decide +kernel)) ?_
  intro pP eE sS mM bB tT cC K
  refine Go.entry (ls := #[.val (.ref t)]) (by first | (simp [argsToLocals, Value.category]; done) | rfl) ?_
  refine go_new (q := 3) (sz := 4) K (wd hw 149 rfl) (wd hw 13 rfl) (wd hw 5 rfl) dts0_0 (by decide) (by decide) rfl ?_
  intro h1 ah1 gah1 Eh1 Xah1 Dah1
  refine go_dup (q := 4) K dts0_3 rfl rfl ?_
  refine go_aloadN (q := 5) K dts0_4 rfl rfl rfl ?_
  have f1 := (p0_.ext Eh1)
  have f2 := (p3_.ext Eh1)
  have f3 := (p4_.ext Eh1)
  have f4 := (p5_.ext Eh1)
  have f5 := (p6_.ext Eh1)
  have f6 := (p7_.ext Eh1)
  have f7 := ((Keep.refl h []).ext Eh1)
  refine go_callI (q := 8) (W := 1) K (wd hw 150 rfl) (wd hw 151 rfl) (wd hw 5 rfl) (wd hw 152 rfl) rfl [(.ref t)] [(.ref ah1)] (sS10 l Z a0 hw _ _ _ _ _ _ _ _ _ _ _ _ _ _ _ _ n0 f1 p1_ (by assumption) Xah1 (Dah1 (Or.inr (wd hw 26 rfl)) (ty := (.array .byte)) (by decide +kernel)) (Dah1 (Or.inr (wd hw 28 rfl)) (ty := .byte) (by decide +kernel)) (Nat.le_trans (own_ge p0_) (Nat.le_of_eq gah1.symm)) f2 f3 f4 f5 f6 ((own_nel (p3_).lt (Nat.le_of_eq gah1.symm))).symm ((own_nel (p7_).lt (Nat.le_of_eq gah1.symm))).symm (by assumption) (by assumption) (by assumption) (by assumption) (by assumption) (by assumption) (by assumption) (by assumption) (by assumption) (by assumption)) dts0_5 (ps := [(.object "java/lang/StringBuilder")]) (by decide +kernel) rfl rfl rfl (by decide) rfl (by decide) (by decide) (by decide) (by decide) rfl ?_
  rintro _ h2 ⟨bh2, kbh2, rfl, Kh2, gbh2, q0h2, q1h2, q2h2, q3h2, q4h2⟩
  show Go pP l eE _ sS mM _ bB tT cC n0 _ h2 2 14 (mkF mM 8 #[.val (.ref t)] [(.ref ah1)])
  refine go_aret K dts0_8 rfl rfl rfl rfl (by decide) (by decide) ?_
  have f8 := (f7.trans Kh2 (allS (Or.inr (Nat.le_trans ((Keep.refl h [])).1 (Nat.le_of_eq gah1.symm))) all0))
  exact ⟨ah1, bh2, kbh2, rfl, f8, (Nat.le_trans ((Keep.refl h [])).1 (Nat.le_of_eq gah1.symm)), (Nat.le_trans (f7).1 gbh2), q0h2, q1h2, q2h2, q3h2, q4h2⟩
theorem drnn_0 : decode jdk_31_method_11_code 0 = .ok (.aload_n 0, 1) := by decide +kernel
theorem drnn_1 : decode jdk_31_method_11_code 1 = .ok (.ifnonnull 12, 3) := by decide +kernel
theorem drnn_4 : decode jdk_31_method_11_code 4 = .ok (.new 84, 3) := by decide +kernel
theorem drnn_7 : decode jdk_31_method_11_code 7 = .ok (.dup, 1) := by decide +kernel
theorem drnn_8 : decode jdk_31_method_11_code 8 = .ok (.aload_n 1, 1) := by decide +kernel
theorem drnn_9 : decode jdk_31_method_11_code 9 = .ok (.invokespecial 87, 3) := by decide +kernel
theorem drnn_12 : decode jdk_31_method_11_code 12 = .ok (.athrow, 1) := by decide +kernel
theorem drnn_13 : decode jdk_31_method_11_code 13 = .ok (.aload_n 0, 1) := by decide +kernel
theorem drnn_14 : decode jdk_31_method_11_code 14 = .ok (.areturn, 1) := by decide +kernel
set_option maxRecDepth 65536 in
set_option maxHeartbeats 40000000 in
theorem rnn (l : Launch) (Z : State) (a0 : Array Value) (hw : ∀ d ∈ tables_1, d.before a0 Z = true) (o : Addr) (ms : Addr) (h : Heap) (n0 : Nat)  :
    Met l (⟨"java/util/Objects", "requireNonNull", "(Ljava/lang/Object;Ljava/lang/String;)Ljava/lang/Object;"⟩ : MethodName) jdk_31_method_11_code 2 (some (.object "java/lang/Object")) [] ({ frames := 0, cells := 0, slots := 0, locals := 0 } : Room) #[(.ref o), (.ref ms)] Z h n0 (fun v h' => v = some (.ref o) ∧ h = h') := by
  refine Met.of (plainFor_of_name (by first | (simp [plainName, overriddenIn]; done) | decide +kernel)) ?_
  intro pP eE sS mM bB tT cC K
  refine Go.entry (ls := #[.val (.ref o), .val (.ref ms)]) (by first | (simp [argsToLocals, Value.category]; done) | rfl) ?_
  refine go_aloadN (q := 1) K drnn_0 rfl rfl rfl ?_
  refine go_ifnonnullY (q := 13) K drnn_1 (by decide) rfl ?_
  refine go_aloadN (q := 14) K drnn_13 rfl rfl rfl ?_
  refine go_aret K drnn_14 rfl rfl rfl rfl (by decide) (by decide) ?_
  exact ⟨rfl, rfl⟩
theorem dhdInit_0 : decode prog_4_method_1_code 0 = .ok (.aload_n 0, 1) := by decide +kernel
theorem dhdInit_1 : decode prog_4_method_1_code 1 = .ok (.invokespecial 1, 3) := by decide +kernel
theorem dhdInit_4 : decode prog_4_method_1_code 4 = .ok (.aload_n 0, 1) := by decide +kernel
theorem dhdInit_5 : decode prog_4_method_1_code 5 = .ok (.aload_n 1, 1) := by decide +kernel
theorem dhdInit_6 : decode prog_4_method_1_code 6 = .ok (.putfield 7, 3) := by decide +kernel
theorem dhdInit_9 : decode prog_4_method_1_code 9 = .ok (.return_, 1) := by decide +kernel
set_option maxRecDepth 65536 in
set_option maxHeartbeats 40000000 in
theorem hdInit (l : Launch) (Z : State) (a0 : Array Value) (hw : ∀ d ∈ tables_1, d.before a0 Z = true) (t : Addr) (ar : Addr) (h : Heap) (n0 : Nat) (p0_ : Exa Z h t "com/example/lanka/lanka/Headers") (p1_ : Fld Z h t "com/example/lanka/lanka/Headers" "namesAndValues" "[Ljava/lang/String;" .null) (p2_ : n0 ≤ t) :
    Met l (⟨"com/example/lanka/lanka/Headers", "<init>", "([Ljava/lang/String;)V"⟩ : MethodName) prog_4_method_1_code 2 none [] ({ frames := 1, cells := 0, slots := 0, locals := 12 } : Room) #[(.ref t), (.ref ar)] Z h n0 (fun v h' => v = none ∧ Keep h h' [t] ∧ Exa Z h' t "com/example/lanka/lanka/Headers" ∧ Fld Z h' t "com/example/lanka/lanka/Headers" "namesAndValues" "[Ljava/lang/String;" (.ref ar)) := by
  refine Met.of (plainFor_of_name (by first | (simp [plainName, overriddenIn]; done) | decide +kernel)) ?_
  intro pP eE sS mM bB tT cC K
  refine Go.entry (ls := #[.val (.ref t), .val (.ref ar)]) (by first | (simp [argsToLocals, Value.category]; done) | rfl) ?_
  refine go_aloadN (q := 1) K dhdInit_0 rfl rfl rfl ?_
  refine go_initO (q := 4) (W := 0) K (wd hw 54 rfl) (wd hw 23 rfl) (wd hw 24 rfl) dhdInit_1 rfl rfl (by decide) (by decide) rfl ?_
  refine go_aloadN (q := 5) K dhdInit_4 rfl rfl rfl ?_
  refine go_aloadN (q := 6) K dhdInit_5 rfl rfl rfl ?_
  refine go_putF (q := 9) K (wd hw 55 rfl) Via.refl p1_ p0_ (Or.inr ⟨(wd hw 56 rfl), rfl, rfl⟩) (wd hw 50 rfl) (ty := (.array (.object "java/lang/String"))) (by decide +kernel) rfl rfl p2_ dhdInit_6 rfl ?_
  intro h1 Wh1
  refine go_return K dhdInit_9 rfl (by decide) (by decide) ?_
  have f1 := ((Keep.refl h [t]).wr Wh1 (Or.inl (by simp)))
  have f2 := (p0_.wr Wh1)
  exact ⟨rfl, f1, f2, (p1_.same Wh1)⟩
theorem dhof_0 : decode prog_4_method_2_code 0 = .ok (.aload_n 0, 1) := by decide +kernel
theorem dhof_1 : decode prog_4_method_2_code 1 = .ok (.arraylength, 1) := by decide +kernel
theorem dhof_2 : decode prog_4_method_2_code 2 = .ok (.iconst 2, 1) := by decide +kernel
theorem dhof_3 : decode prog_4_method_2_code 3 = .ok (.irem, 1) := by decide +kernel
theorem dhof_4 : decode prog_4_method_2_code 4 = .ok (.ifCond .eq 13, 3) := by decide +kernel
theorem dhof_7 : decode prog_4_method_2_code 7 = .ok (.new 13, 3) := by decide +kernel
theorem dhof_10 : decode prog_4_method_2_code 10 = .ok (.dup, 1) := by decide +kernel
theorem dhof_11 : decode prog_4_method_2_code 11 = .ok (.ldc 15, 2) := by decide +kernel
theorem dhof_13 : decode prog_4_method_2_code 13 = .ok (.invokespecial 17, 3) := by decide +kernel
theorem dhof_16 : decode prog_4_method_2_code 16 = .ok (.athrow, 1) := by decide +kernel
theorem dhof_17 : decode prog_4_method_2_code 17 = .ok (.aload_n 0, 1) := by decide +kernel
theorem dhof_18 : decode prog_4_method_2_code 18 = .ok (.invokevirtual 20, 3) := by decide +kernel
theorem dhof_21 : decode prog_4_method_2_code 21 = .ok (.checkcast 21, 3) := by decide +kernel
theorem dhof_24 : decode prog_4_method_2_code 24 = .ok (.astore_n 1, 1) := by decide +kernel
theorem dhof_25 : decode prog_4_method_2_code 25 = .ok (.aload_n 1, 1) := by decide +kernel
theorem dhof_26 : decode prog_4_method_2_code 26 = .ok (.astore_n 2, 1) := by decide +kernel
theorem dhof_27 : decode prog_4_method_2_code 27 = .ok (.aload_n 2, 1) := by decide +kernel
theorem dhof_28 : decode prog_4_method_2_code 28 = .ok (.arraylength, 1) := by decide +kernel
theorem dhof_29 : decode prog_4_method_2_code 29 = .ok (.istore_n 3, 1) := by decide +kernel
theorem dhof_30 : decode prog_4_method_2_code 30 = .ok (.iconst 0, 1) := by decide +kernel
theorem dhof_31 : decode prog_4_method_2_code 31 = .ok (.istore 4, 2) := by decide +kernel
theorem dhof_33 : decode prog_4_method_2_code 33 = .ok (.iload 4, 2) := by decide +kernel
theorem dhof_35 : decode prog_4_method_2_code 35 = .ok (.iload_n 3, 1) := by decide +kernel
theorem dhof_36 : decode prog_4_method_2_code 36 = .ok (.if_icmp .ge 23, 3) := by decide +kernel
theorem dhof_39 : decode prog_4_method_2_code 39 = .ok (.aload_n 2, 1) := by decide +kernel
theorem dhof_40 : decode prog_4_method_2_code 40 = .ok (.iload 4, 2) := by decide +kernel
theorem dhof_42 : decode prog_4_method_2_code 42 = .ok (.aaload, 1) := by decide +kernel
theorem dhof_43 : decode prog_4_method_2_code 43 = .ok (.astore 5, 2) := by decide +kernel
theorem dhof_45 : decode prog_4_method_2_code 45 = .ok (.aload 5, 2) := by decide +kernel
theorem dhof_47 : decode prog_4_method_2_code 47 = .ok (.ldc 25, 2) := by decide +kernel
theorem dhof_49 : decode prog_4_method_2_code 49 = .ok (.invokestatic 27, 3) := by decide +kernel
theorem dhof_52 : decode prog_4_method_2_code 52 = .ok (.pop, 1) := by decide +kernel
theorem dhof_53 : decode prog_4_method_2_code 53 = .ok (.iinc 4 1, 3) := by decide +kernel
theorem dhof_56 : decode prog_4_method_2_code 56 = .ok (.goto (-23), 3) := by decide +kernel
theorem dhof_59 : decode prog_4_method_2_code 59 = .ok (.new 8, 3) := by decide +kernel
theorem dhof_62 : decode prog_4_method_2_code 62 = .ok (.dup, 1) := by decide +kernel
theorem dhof_63 : decode prog_4_method_2_code 63 = .ok (.aload_n 1, 1) := by decide +kernel
theorem dhof_64 : decode prog_4_method_2_code 64 = .ok (.invokespecial 33, 3) := by decide +kernel
theorem dhof_67 : decode prog_4_method_2_code 67 = .ok (.areturn, 1) := by decide +kernel
set_option maxRecDepth 65536 in
set_option maxHeartbeats 40000000 in
theorem hof0 (l : Launch) (Z : State) (a0 : Array Value) (hw : ∀ d ∈ tables_1, d.before a0 Z = true) (ar : Addr) (kl : ClassId) (h : Heap) (n0 : Nat) (p0_ : Old Z n0 h) (p1_ : Ary Z h ar kl (.object "java/lang/String") []) (p2_ : Exa Z h ar "[Ljava/lang/String;") :
    MetW l (⟨"com/example/lanka/lanka/Headers", "of", "([Ljava/lang/String;)Lcom/example/lanka/lanka/Headers;"⟩ : MethodName) prog_4_method_2_code 6 (some (.object "com/example/lanka/lanka/Headers")) [] ({ frames := 2, cells := 2, slots := 1, locals := 60 } : Room) #[(.ref ar)] Z consts_1 h n0 [] (fun v h' => ∃ (hd : Addr) (ar2 : Addr), v = some (.ref hd) ∧ Keep h h' [] ∧ h.size ≤ hd ∧ h.size ≤ ar2 ∧ Exa Z h' hd "com/example/lanka/lanka/Headers" ∧ Fld Z h' hd "com/example/lanka/lanka/Headers" "namesAndValues" "[Ljava/lang/String;" (.ref ar2) ∧ Ary Z h' ar2 kl (.object "java/lang/String") []) := by
  refine MetW.of (plainFor_of_name (by first | (simp [plainName, overriddenIn]; done) | decide +kernel)) ?_
  intro pP eE sS mM bB tT cC Kc0 X0 SF
  have K := Kc0
  refine Go.entry (ls := #[.val (.ref ar), .unset, .unset, .unset, .unset, .unset]) (by first | (simp [argsToLocals, Value.category]; done) | rfl) ?_
  refine go_aloadN (q := 1) K dhof_0 rfl rfl rfl ?_
  refine go_arraylength (q := 2) (z := (0 : Int32)) K p1_ rfl dhof_1 rfl ?_
  refine go_iconst (q := 3) K dhof_2 (2 : Int32) rfl rfl ?_
  refine go_irem (q := 4) K dhof_3 (by decide) rfl ?_
  refine go_if0 (q := 17) (q' := 7) K dhof_4 (by decide) rfl rfl (fun _ => ?_) (fun hn => cN_no2 hn (show ((0 : Int32) % (2 : Int32)) = (0 : Int32) from (by decide)))
  refine go_aloadN (q := 18) K dhof_17 rfl rfl rfl ?_
  refine go_clone (q := 21) (W := 0) (cap := 0) (ad := "[Ljava/lang/String;") K (wd hw 33 rfl) (wd hw 34 rfl) (wd hw 38 rfl) (wd hw 36 rfl) (wd hw 37 rfl) (wd hw 39 rfl) p1_ p2_ fits0 dhof_18 rfl rfl (by decide) (by decide) (show 0 ≤ 0 from by decide) (by decide) (by decide) rfl ?_
  intro h1 ah1 gah1 Eh1 Yh1 Xah1
  have Xh1 := X0.ext Eh1
  refine go_checkcast (q := 24) K (wd hw 40 rfl) (Ins.self Xah1) dhof_21 rfl ?_
  refine go_astoreN (q := 25) K dhof_24 #[.val (.ref ar), .val (.ref ah1), .unset, .unset, .unset, .unset] rfl rfl rfl ?_
  refine go_aloadN (q := 26) K dhof_25 rfl rfl rfl ?_
  refine go_astoreN (q := 27) K dhof_26 #[.val (.ref ar), .val (.ref ah1), .val (.ref ah1), .unset, .unset, .unset] rfl rfl rfl ?_
  refine go_aloadN (q := 28) K dhof_27 rfl rfl rfl ?_
  refine go_arraylength (q := 29) (z := (0 : Int32)) K Yh1 rfl dhof_28 rfl ?_
  refine go_istoreN (q := 30) K dhof_29 #[.val (.ref ar), .val (.ref ah1), .val (.ref ah1), .val (.int (0 : Int32)), .unset, .unset] rfl rfl ?_
  refine go_iconst (q := 31) K dhof_30 (0 : Int32) rfl rfl ?_
  refine go_istore (q := 33) K dhof_31 #[.val (.ref ar), .val (.ref ah1), .val (.ref ah1), .val (.int (0 : Int32)), .val (.int (0 : Int32)), .unset] rfl rfl ?_
  refine go_iload (q := 35) K dhof_33 rfl rfl ?_
  refine go_iloadN (q := 36) K dhof_35 rfl rfl ?_
  refine go_icmp (q := 59) (q' := 39) K dhof_36 (by decide) rfl rfl (fun _ => ?_) (fun hn => cN_no2 hn (show ¬ (0 : Int32) < (0 : Int32) from (by decide)))
  have f1 := ((Keep.refl h []).ext Eh1)
  have f2 := (p0_.ext Eh1)
  have f3 := (p1_.ext Eh1)
  refine go_new (q := 62) (sz := 1) K (wd hw 49 rfl) (wd hw 50 rfl) (wd hw 31 rfl) dhof_59 (by decide) (by decide) rfl ?_
  intro h2 ah2 gah2 Eh2 Xah2 Dah2
  have Xh2 := Xh1.ext Eh2
  refine go_dup (q := 63) K dhof_62 rfl rfl ?_
  refine go_aloadN (q := 64) K dhof_63 rfl rfl rfl ?_
  refine go_callI (q := 67) (W := 1) K (wd hw 51 rfl) (wd hw 52 rfl) (wd hw 31 rfl) (wd hw 53 rfl) rfl [(.ref ah1)] [(.ref ah2)] (hdInit l Z a0 hw _ _ _ n0 Xah2 (Dah2 (Or.inr (wd hw 56 rfl)) (ty := (.array (.object "java/lang/String"))) (by decide +kernel)) (Nat.le_trans (own_ge f2) (Nat.le_of_eq gah2.symm))) dhof_64 (ps := [(.array (.object "java/lang/String"))]) (by decide +kernel) rfl rfl rfl (by decide) rfl (by decide) (by decide) (by decide) (by decide) rfl ?_
  rintro _ h3 ⟨rfl, Kh3, q0h3, q1h3⟩
  show Go pP l eE _ _ mM _ bB tT cC n0 _ h3 2 1 (mkF mM 67 #[.val (.ref ar), .val (.ref ah1), .val (.ref ah1), .val (.int (0 : Int32)), .val (.int (0 : Int32)), .unset] [(.ref ah2)])
  have hsh3 : ∀ x ∈ [ah2], Safe Z consts_1 _ _ x := (allS (Kc0.safe Xah2 (by decide) (by decide)) all0)
  have Xh3 := Xh2.keep Kh3 hsh3
  refine gw_aret K Xh3 (ewn hw) dhof_67 rfl rfl rfl rfl (by decide) (by decide) ?_
  have f4 := ((f1.ext Eh2).trans Kh3 (allS (Or.inr (Nat.le_trans (f1).1 (Nat.le_of_eq gah2.symm))) all0))
  have f5 := ((Yh1.ext Eh2).keep Kh3 (ninS (own_nel (Yh1).lt (Nat.le_of_eq gah2.symm)) nin0))
  exact ⟨ah2, ah1, rfl, f4, (Nat.le_trans (f1).1 (Nat.le_of_eq gah2.symm)), (Nat.le_trans ((Keep.refl h [])).1 (Nat.le_of_eq gah1.symm)), q0h3, q1h3, f5⟩
set_option maxRecDepth 65536 in
set_option maxHeartbeats 40000000 in
theorem hof2 (l : Launch) (Z : State) (a0 : Array Value) (hw : ∀ d ∈ tables_1, d.before a0 Z = true) (ar : Addr) (kl : ClassId) (s0 : Addr) (s1 : Addr) (h : Heap) (n0 : Nat) (p0_ : Old Z n0 h) (p1_ : Ary Z h ar kl (.object "java/lang/String") [(.ref s0), (.ref s1)]) (p2_ : Exa Z h ar "[Ljava/lang/String;") :
    MetW l (⟨"com/example/lanka/lanka/Headers", "of", "([Ljava/lang/String;)Lcom/example/lanka/lanka/Headers;"⟩ : MethodName) prog_4_method_2_code 6 (some (.object "com/example/lanka/lanka/Headers")) [] ({ frames := 2, cells := 6, slots := 163, locals := 60 } : Room) #[(.ref ar)] Z consts_1 h n0 [] (fun v h' => ∃ (hd : Addr) (ar2 : Addr), v = some (.ref hd) ∧ Keep h h' [] ∧ h.size ≤ hd ∧ h.size ≤ ar2 ∧ Exa Z h' hd "com/example/lanka/lanka/Headers" ∧ Fld Z h' hd "com/example/lanka/lanka/Headers" "namesAndValues" "[Ljava/lang/String;" (.ref ar2) ∧ Ary Z h' ar2 kl (.object "java/lang/String") [(.ref s0), (.ref s1)]) := by
  refine MetW.of (plainFor_of_name (by first | (simp [plainName, overriddenIn]; done) | decide +kernel)) ?_
  intro pP eE sS mM bB tT cC Kc0 X0 SF
  have K := Kc0
  refine Go.entry (ls := #[.val (.ref ar), .unset, .unset, .unset, .unset, .unset]) (by first | (simp [argsToLocals, Value.category]; done) | rfl) ?_
  refine go_aloadN (q := 1) K dhof_0 rfl rfl rfl ?_
  refine go_arraylength (q := 2) (z := (2 : Int32)) K p1_ rfl dhof_1 rfl ?_
  refine go_iconst (q := 3) K dhof_2 (2 : Int32) rfl rfl ?_
  refine go_irem (q := 4) K dhof_3 (by decide) rfl ?_
  refine go_if0 (q := 17) (q' := 7) K dhof_4 (by decide) rfl rfl (fun _ => ?_) (fun hn => cN_no2 hn (show ((2 : Int32) % (2 : Int32)) = (0 : Int32) from (by decide)))
  refine go_aloadN (q := 18) K dhof_17 rfl rfl rfl ?_
  refine go_clone (q := 21) (W := 0) (cap := 2) (ad := "[Ljava/lang/String;") K (wd hw 33 rfl) (wd hw 34 rfl) (wd hw 38 rfl) (wd hw 36 rfl) (wd hw 37 rfl) (wd hw 39 rfl) p1_ p2_ (fitsS rfl (fitsS rfl fits0)) dhof_18 rfl rfl (by decide) (by decide) (show 2 ≤ 2 from by decide) (by decide) (by decide) rfl ?_
  intro h1 ah1 gah1 Eh1 Yh1 Xah1
  have Xh1 := X0.ext Eh1
  refine go_checkcast (q := 24) K (wd hw 40 rfl) (Ins.self Xah1) dhof_21 rfl ?_
  refine go_astoreN (q := 25) K dhof_24 #[.val (.ref ar), .val (.ref ah1), .unset, .unset, .unset, .unset] rfl rfl rfl ?_
  refine go_aloadN (q := 26) K dhof_25 rfl rfl rfl ?_
  refine go_astoreN (q := 27) K dhof_26 #[.val (.ref ar), .val (.ref ah1), .val (.ref ah1), .unset, .unset, .unset] rfl rfl rfl ?_
  refine go_aloadN (q := 28) K dhof_27 rfl rfl rfl ?_
  refine go_arraylength (q := 29) (z := (2 : Int32)) K Yh1 rfl dhof_28 rfl ?_
  refine go_istoreN (q := 30) K dhof_29 #[.val (.ref ar), .val (.ref ah1), .val (.ref ah1), .val (.int (2 : Int32)), .unset, .unset] rfl rfl ?_
  refine go_iconst (q := 31) K dhof_30 (0 : Int32) rfl rfl ?_
  refine go_istore (q := 33) K dhof_31 #[.val (.ref ar), .val (.ref ah1), .val (.ref ah1), .val (.int (2 : Int32)), .val (.int (0 : Int32)), .unset] rfl rfl ?_
  refine go_iload (q := 35) K dhof_33 rfl rfl ?_
  refine go_iloadN (q := 36) K dhof_35 rfl rfl ?_
  refine go_icmp (q := 59) (q' := 39) K dhof_36 (by decide) rfl rfl (fun hn => cN_no hn (show (0 : Int32) < (2 : Int32) from (by decide))) (fun _ => ?_)
  refine go_aloadN (q := 40) K dhof_39 rfl rfl rfl ?_
  refine go_iload (q := 42) K dhof_40 rfl rfl ?_
  refine go_aaload (q := 43) K Yh1 rfl rfl (by decide) rfl dhof_42 rfl ?_
  refine go_astore (q := 45) K dhof_43 #[.val (.ref ar), .val (.ref ah1), .val (.ref ah1), .val (.int (2 : Int32)), .val (.int (0 : Int32)), .val (.ref s0)] rfl rfl rfl ?_
  refine go_aload (q := 47) K dhof_45 rfl rfl rfl ?_
  have f1 := ((Keep.refl h []).ext Eh1)
  have f2 := (p0_.ext Eh1)
  refine go_ldcS (q := 49) (num := 76) (text := "field name or value") K Xh1 (ewn hw) (wSn hw) (wd hw 42 rfl) (by decide) [(.int (102 : Int32)), (.int (105 : Int32)), (.int (101 : Int32)), (.int (108 : Int32)), (.int (100 : Int32)), (.int (32 : Int32)), (.int (110 : Int32)), (.int (97 : Int32)), (.int (109 : Int32)), (.int (101 : Int32)), (.int (32 : Int32)), (.int (111 : Int32)), (.int (114 : Int32)), (.int (32 : Int32)), (.int (118 : Int32)), (.int (97 : Int32)), (.int (108 : Int32)), (.int (117 : Int32)), (.int (101 : Int32))] (19 : Int32) ⟨by decide, by decide⟩ (by decide) (by decide) (by decide) (by decide) (by decide) (by decide) dhof_47 rfl ?_
  intro vmh2 h2 lah2 lbh2 lkh2 Eh2 Kch2 Xh2 sfh2 nbh2 leh2 lch2 lvh2 lyh2
  have K := Kch2
  have f3 := ((p2_.ext Eh1).ext Eh2)
  have f4 := (Xah1.ext Eh2)
  refine go_callS (q := 52) (W := 0) K (wd hw 45 rfl) (wd hw 46 rfl) (wd hw 47 rfl) (wd hw 48 rfl) [(.ref s0), (.ref lah2)] [] (rnn l Z a0 hw _ _ _ n0 ) dhof_49 (ps := [(.object "java/lang/Object"), (.object "java/lang/String")]) (by decide +kernel) rfl rfl rfl (by decide) rfl (by decide) (by decide) (by decide) (by decide) rfl ?_
  rintro _ _ ⟨rfl, rfl⟩
  show Go pP l eE _ _ mM _ bB tT cC n0 _ h2 3 82 (mkF mM 52 #[.val (.ref ar), .val (.ref ah1), .val (.ref ah1), .val (.int (2 : Int32)), .val (.int (0 : Int32)), .val (.ref s0)] [(.ref s0)])
  refine go_pop (q := 53) K dhof_52 rfl rfl ?_
  refine go_iinc (q := 56) K dhof_53 (1 : Int32) #[.val (.ref ar), .val (.ref ah1), .val (.ref ah1), .val (.int (2 : Int32)), .val (.int (1 : Int32)), .val (.ref s0)] rfl rfl rfl rfl ?_
  refine go_goto (q := 33) K dhof_56 (by decide) rfl ?_
  refine go_iload (q := 35) K dhof_33 rfl rfl ?_
  refine go_iloadN (q := 36) K dhof_35 rfl rfl ?_
  refine go_icmp (q := 59) (q' := 39) K dhof_36 (by decide) rfl rfl (fun hn => cN_no hn (show (1 : Int32) < (2 : Int32) from (by decide))) (fun _ => ?_)
  refine go_aloadN (q := 40) K dhof_39 rfl rfl rfl ?_
  refine go_iload (q := 42) K dhof_40 rfl rfl ?_
  have f5 := (Yh1.ext Eh2)
  refine go_aaload (q := 43) K f5 rfl rfl (by decide) rfl dhof_42 rfl ?_
  refine go_astore (q := 45) K dhof_43 #[.val (.ref ar), .val (.ref ah1), .val (.ref ah1), .val (.int (2 : Int32)), .val (.int (1 : Int32)), .val (.ref s1)] rfl rfl rfl ?_
  refine go_aload (q := 47) K dhof_45 rfl rfl rfl ?_
  have f6 := (f1.ext Eh2)
  have f7 := (f2.ext Eh2)
  refine go_ldcS (q := 49) (num := 76) (text := "field name or value") K Xh2 (ewn hw) (wSn hw) (wd hw 42 rfl) (by decide) [(.int (102 : Int32)), (.int (105 : Int32)), (.int (101 : Int32)), (.int (108 : Int32)), (.int (100 : Int32)), (.int (32 : Int32)), (.int (110 : Int32)), (.int (97 : Int32)), (.int (109 : Int32)), (.int (101 : Int32)), (.int (32 : Int32)), (.int (111 : Int32)), (.int (114 : Int32)), (.int (32 : Int32)), (.int (118 : Int32)), (.int (97 : Int32)), (.int (108 : Int32)), (.int (117 : Int32)), (.int (101 : Int32))] (19 : Int32) ⟨by decide, by decide⟩ (by decide) (by decide) (by decide) (by decide) (by decide) (by decide) dhof_47 rfl ?_
  intro vmh4 h4 lah4 lbh4 lkh4 Eh4 Kch4 Xh4 sfh4 nbh4 leh4 lch4 lvh4 lyh4
  have K := Kch4
  have f8 := (f3.ext Eh4)
  have f9 := (f4.ext Eh4)
  refine go_callS (q := 52) (W := 0) K (wd hw 45 rfl) (wd hw 46 rfl) (wd hw 47 rfl) (wd hw 48 rfl) [(.ref s1), (.ref lah4)] [] (rnn l Z a0 hw _ _ _ n0 ) dhof_49 (ps := [(.object "java/lang/Object"), (.object "java/lang/String")]) (by decide +kernel) rfl rfl rfl (by decide) rfl (by decide) (by decide) (by decide) (by decide) rfl ?_
  rintro _ _ ⟨rfl, rfl⟩
  show Go pP l eE _ _ mM _ bB tT cC n0 _ h4 5 162 (mkF mM 52 #[.val (.ref ar), .val (.ref ah1), .val (.ref ah1), .val (.int (2 : Int32)), .val (.int (1 : Int32)), .val (.ref s1)] [(.ref s1)])
  refine go_pop (q := 53) K dhof_52 rfl rfl ?_
  refine go_iinc (q := 56) K dhof_53 (1 : Int32) #[.val (.ref ar), .val (.ref ah1), .val (.ref ah1), .val (.int (2 : Int32)), .val (.int (2 : Int32)), .val (.ref s1)] rfl rfl rfl rfl ?_
  refine go_goto (q := 33) K dhof_56 (by decide) rfl ?_
  refine go_iload (q := 35) K dhof_33 rfl rfl ?_
  refine go_iloadN (q := 36) K dhof_35 rfl rfl ?_
  refine go_icmp (q := 59) (q' := 39) K dhof_36 (by decide) rfl rfl (fun _ => ?_) (fun hn => cN_no2 hn (show ¬ (2 : Int32) < (2 : Int32) from (by decide)))
  have f10 := (f6.ext Eh4)
  have f11 := (f7.ext Eh4)
  have f12 := (((p1_.ext Eh1).ext Eh2).ext Eh4)
  have f13 := (f5.ext Eh4)
  have f14 := (leh2.ext Eh4)
  have f15 := (lyh2.ext Eh4)
  refine go_new (q := 62) (sz := 1) K (wd hw 49 rfl) (wd hw 50 rfl) (wd hw 31 rfl) dhof_59 (by decide) (by decide) rfl ?_
  intro h6 ah6 gah6 Eh6 Xah6 Dah6
  have Xh6 := Xh4.ext Eh6
  refine go_dup (q := 63) K dhof_62 rfl rfl ?_
  refine go_aloadN (q := 64) K dhof_63 rfl rfl rfl ?_
  refine go_callI (q := 67) (W := 1) K (wd hw 51 rfl) (wd hw 52 rfl) (wd hw 31 rfl) (wd hw 53 rfl) rfl [(.ref ah1)] [(.ref ah6)] (hdInit l Z a0 hw _ _ _ n0 Xah6 (Dah6 (Or.inr (wd hw 56 rfl)) (ty := (.array (.object "java/lang/String"))) (by decide +kernel)) (Nat.le_trans (own_ge f11) (Nat.le_of_eq gah6.symm))) dhof_64 (ps := [(.array (.object "java/lang/String"))]) (by decide +kernel) rfl rfl rfl (by decide) rfl (by decide) (by decide) (by decide) (by decide) rfl ?_
  rintro _ h7 ⟨rfl, Kh7, q0h7, q1h7⟩
  show Go pP l eE _ _ mM _ bB tT cC n0 _ h7 6 163 (mkF mM 67 #[.val (.ref ar), .val (.ref ah1), .val (.ref ah1), .val (.int (2 : Int32)), .val (.int (2 : Int32)), .val (.ref s1)] [(.ref ah6)])
  have hsh7 : ∀ x ∈ [ah6], Safe Z consts_1 _ _ x := (allS (Kch4.safe Xah6 (by decide) (by decide)) all0)
  have Xh7 := Xh6.keep Kh7 hsh7
  refine gw_aret K Xh7 (ewn hw) dhof_67 rfl rfl rfl rfl (by decide) (by decide) ?_
  have f16 := ((f10.ext Eh6).trans Kh7 (allS (Or.inr (Nat.le_trans (f10).1 (Nat.le_of_eq gah6.symm))) all0))
  have f17 := ((f13.ext Eh6).keep Kh7 (ninS (own_nel (f13).lt (Nat.le_of_eq gah6.symm)) nin0))
  exact ⟨ah6, ah1, rfl, f16, (Nat.le_trans (f10).1 (Nat.le_of_eq gah6.symm)), (Nat.le_trans ((Keep.refl h [])).1 (Nat.le_of_eq gah1.symm)), q0h7, q1h7, f17⟩
set_option maxRecDepth 65536 in
set_option maxHeartbeats 40000000 in
theorem hof4 (l : Launch) (Z : State) (a0 : Array Value) (hw : ∀ d ∈ tables_1, d.before a0 Z = true) (ar : Addr) (kl : ClassId) (s0 : Addr) (s1 : Addr) (s2 : Addr) (s3 : Addr) (h : Heap) (n0 : Nat) (p0_ : Old Z n0 h) (p1_ : Ary Z h ar kl (.object "java/lang/String") [(.ref s0), (.ref s1), (.ref s2), (.ref s3)]) (p2_ : Exa Z h ar "[Ljava/lang/String;") :
    MetW l (⟨"com/example/lanka/lanka/Headers", "of", "([Ljava/lang/String;)Lcom/example/lanka/lanka/Headers;"⟩ : MethodName) prog_4_method_2_code 6 (some (.object "com/example/lanka/lanka/Headers")) [] ({ frames := 2, cells := 10, slots := 325, locals := 60 } : Room) #[(.ref ar)] Z consts_1 h n0 [] (fun v h' => ∃ (hd : Addr) (ar2 : Addr), v = some (.ref hd) ∧ Keep h h' [] ∧ h.size ≤ hd ∧ h.size ≤ ar2 ∧ Exa Z h' hd "com/example/lanka/lanka/Headers" ∧ Fld Z h' hd "com/example/lanka/lanka/Headers" "namesAndValues" "[Ljava/lang/String;" (.ref ar2) ∧ Ary Z h' ar2 kl (.object "java/lang/String") [(.ref s0), (.ref s1), (.ref s2), (.ref s3)]) := by
  refine MetW.of (plainFor_of_name (by first | (simp [plainName, overriddenIn]; done) | decide +kernel)) ?_
  intro pP eE sS mM bB tT cC Kc0 X0 SF
  have K := Kc0
  refine Go.entry (ls := #[.val (.ref ar), .unset, .unset, .unset, .unset, .unset]) (by first | (simp [argsToLocals, Value.category]; done) | rfl) ?_
  refine go_aloadN (q := 1) K dhof_0 rfl rfl rfl ?_
  refine go_arraylength (q := 2) (z := (4 : Int32)) K p1_ rfl dhof_1 rfl ?_
  refine go_iconst (q := 3) K dhof_2 (2 : Int32) rfl rfl ?_
  refine go_irem (q := 4) K dhof_3 (by decide) rfl ?_
  refine go_if0 (q := 17) (q' := 7) K dhof_4 (by decide) rfl rfl (fun _ => ?_) (fun hn => cN_no2 hn (show ((4 : Int32) % (2 : Int32)) = (0 : Int32) from (by decide)))
  refine go_aloadN (q := 18) K dhof_17 rfl rfl rfl ?_
  refine go_clone (q := 21) (W := 0) (cap := 4) (ad := "[Ljava/lang/String;") K (wd hw 33 rfl) (wd hw 34 rfl) (wd hw 38 rfl) (wd hw 36 rfl) (wd hw 37 rfl) (wd hw 39 rfl) p1_ p2_ (fitsS rfl (fitsS rfl (fitsS rfl (fitsS rfl fits0)))) dhof_18 rfl rfl (by decide) (by decide) (show 4 ≤ 4 from by decide) (by decide) (by decide) rfl ?_
  intro h1 ah1 gah1 Eh1 Yh1 Xah1
  have Xh1 := X0.ext Eh1
  refine go_checkcast (q := 24) K (wd hw 40 rfl) (Ins.self Xah1) dhof_21 rfl ?_
  refine go_astoreN (q := 25) K dhof_24 #[.val (.ref ar), .val (.ref ah1), .unset, .unset, .unset, .unset] rfl rfl rfl ?_
  refine go_aloadN (q := 26) K dhof_25 rfl rfl rfl ?_
  refine go_astoreN (q := 27) K dhof_26 #[.val (.ref ar), .val (.ref ah1), .val (.ref ah1), .unset, .unset, .unset] rfl rfl rfl ?_
  refine go_aloadN (q := 28) K dhof_27 rfl rfl rfl ?_
  refine go_arraylength (q := 29) (z := (4 : Int32)) K Yh1 rfl dhof_28 rfl ?_
  refine go_istoreN (q := 30) K dhof_29 #[.val (.ref ar), .val (.ref ah1), .val (.ref ah1), .val (.int (4 : Int32)), .unset, .unset] rfl rfl ?_
  refine go_iconst (q := 31) K dhof_30 (0 : Int32) rfl rfl ?_
  refine go_istore (q := 33) K dhof_31 #[.val (.ref ar), .val (.ref ah1), .val (.ref ah1), .val (.int (4 : Int32)), .val (.int (0 : Int32)), .unset] rfl rfl ?_
  refine go_iload (q := 35) K dhof_33 rfl rfl ?_
  refine go_iloadN (q := 36) K dhof_35 rfl rfl ?_
  refine go_icmp (q := 59) (q' := 39) K dhof_36 (by decide) rfl rfl (fun hn => cN_no hn (show (0 : Int32) < (4 : Int32) from (by decide))) (fun _ => ?_)
  refine go_aloadN (q := 40) K dhof_39 rfl rfl rfl ?_
  refine go_iload (q := 42) K dhof_40 rfl rfl ?_
  refine go_aaload (q := 43) K Yh1 rfl rfl (by decide) rfl dhof_42 rfl ?_
  refine go_astore (q := 45) K dhof_43 #[.val (.ref ar), .val (.ref ah1), .val (.ref ah1), .val (.int (4 : Int32)), .val (.int (0 : Int32)), .val (.ref s0)] rfl rfl rfl ?_
  refine go_aload (q := 47) K dhof_45 rfl rfl rfl ?_
  have f1 := ((Keep.refl h []).ext Eh1)
  have f2 := (p0_.ext Eh1)
  refine go_ldcS (q := 49) (num := 76) (text := "field name or value") K Xh1 (ewn hw) (wSn hw) (wd hw 42 rfl) (by decide) [(.int (102 : Int32)), (.int (105 : Int32)), (.int (101 : Int32)), (.int (108 : Int32)), (.int (100 : Int32)), (.int (32 : Int32)), (.int (110 : Int32)), (.int (97 : Int32)), (.int (109 : Int32)), (.int (101 : Int32)), (.int (32 : Int32)), (.int (111 : Int32)), (.int (114 : Int32)), (.int (32 : Int32)), (.int (118 : Int32)), (.int (97 : Int32)), (.int (108 : Int32)), (.int (117 : Int32)), (.int (101 : Int32))] (19 : Int32) ⟨by decide, by decide⟩ (by decide) (by decide) (by decide) (by decide) (by decide) (by decide) dhof_47 rfl ?_
  intro vmh2 h2 lah2 lbh2 lkh2 Eh2 Kch2 Xh2 sfh2 nbh2 leh2 lch2 lvh2 lyh2
  have K := Kch2
  have f3 := ((p2_.ext Eh1).ext Eh2)
  have f4 := (Xah1.ext Eh2)
  refine go_callS (q := 52) (W := 0) K (wd hw 45 rfl) (wd hw 46 rfl) (wd hw 47 rfl) (wd hw 48 rfl) [(.ref s0), (.ref lah2)] [] (rnn l Z a0 hw _ _ _ n0 ) dhof_49 (ps := [(.object "java/lang/Object"), (.object "java/lang/String")]) (by decide +kernel) rfl rfl rfl (by decide) rfl (by decide) (by decide) (by decide) (by decide) rfl ?_
  rintro _ _ ⟨rfl, rfl⟩
  show Go pP l eE _ _ mM _ bB tT cC n0 _ h2 3 84 (mkF mM 52 #[.val (.ref ar), .val (.ref ah1), .val (.ref ah1), .val (.int (4 : Int32)), .val (.int (0 : Int32)), .val (.ref s0)] [(.ref s0)])
  refine go_pop (q := 53) K dhof_52 rfl rfl ?_
  refine go_iinc (q := 56) K dhof_53 (1 : Int32) #[.val (.ref ar), .val (.ref ah1), .val (.ref ah1), .val (.int (4 : Int32)), .val (.int (1 : Int32)), .val (.ref s0)] rfl rfl rfl rfl ?_
  refine go_goto (q := 33) K dhof_56 (by decide) rfl ?_
  refine go_iload (q := 35) K dhof_33 rfl rfl ?_
  refine go_iloadN (q := 36) K dhof_35 rfl rfl ?_
  refine go_icmp (q := 59) (q' := 39) K dhof_36 (by decide) rfl rfl (fun hn => cN_no hn (show (1 : Int32) < (4 : Int32) from (by decide))) (fun _ => ?_)
  refine go_aloadN (q := 40) K dhof_39 rfl rfl rfl ?_
  refine go_iload (q := 42) K dhof_40 rfl rfl ?_
  have f5 := (Yh1.ext Eh2)
  refine go_aaload (q := 43) K f5 rfl rfl (by decide) rfl dhof_42 rfl ?_
  refine go_astore (q := 45) K dhof_43 #[.val (.ref ar), .val (.ref ah1), .val (.ref ah1), .val (.int (4 : Int32)), .val (.int (1 : Int32)), .val (.ref s1)] rfl rfl rfl ?_
  refine go_aload (q := 47) K dhof_45 rfl rfl rfl ?_
  have f6 := (f1.ext Eh2)
  have f7 := (f2.ext Eh2)
  refine go_ldcS (q := 49) (num := 76) (text := "field name or value") K Xh2 (ewn hw) (wSn hw) (wd hw 42 rfl) (by decide) [(.int (102 : Int32)), (.int (105 : Int32)), (.int (101 : Int32)), (.int (108 : Int32)), (.int (100 : Int32)), (.int (32 : Int32)), (.int (110 : Int32)), (.int (97 : Int32)), (.int (109 : Int32)), (.int (101 : Int32)), (.int (32 : Int32)), (.int (111 : Int32)), (.int (114 : Int32)), (.int (32 : Int32)), (.int (118 : Int32)), (.int (97 : Int32)), (.int (108 : Int32)), (.int (117 : Int32)), (.int (101 : Int32))] (19 : Int32) ⟨by decide, by decide⟩ (by decide) (by decide) (by decide) (by decide) (by decide) (by decide) dhof_47 rfl ?_
  intro vmh4 h4 lah4 lbh4 lkh4 Eh4 Kch4 Xh4 sfh4 nbh4 leh4 lch4 lvh4 lyh4
  have K := Kch4
  have f8 := (f3.ext Eh4)
  have f9 := (f4.ext Eh4)
  refine go_callS (q := 52) (W := 0) K (wd hw 45 rfl) (wd hw 46 rfl) (wd hw 47 rfl) (wd hw 48 rfl) [(.ref s1), (.ref lah4)] [] (rnn l Z a0 hw _ _ _ n0 ) dhof_49 (ps := [(.object "java/lang/Object"), (.object "java/lang/String")]) (by decide +kernel) rfl rfl rfl (by decide) rfl (by decide) (by decide) (by decide) (by decide) rfl ?_
  rintro _ _ ⟨rfl, rfl⟩
  show Go pP l eE _ _ mM _ bB tT cC n0 _ h4 5 164 (mkF mM 52 #[.val (.ref ar), .val (.ref ah1), .val (.ref ah1), .val (.int (4 : Int32)), .val (.int (1 : Int32)), .val (.ref s1)] [(.ref s1)])
  refine go_pop (q := 53) K dhof_52 rfl rfl ?_
  refine go_iinc (q := 56) K dhof_53 (1 : Int32) #[.val (.ref ar), .val (.ref ah1), .val (.ref ah1), .val (.int (4 : Int32)), .val (.int (2 : Int32)), .val (.ref s1)] rfl rfl rfl rfl ?_
  refine go_goto (q := 33) K dhof_56 (by decide) rfl ?_
  refine go_iload (q := 35) K dhof_33 rfl rfl ?_
  refine go_iloadN (q := 36) K dhof_35 rfl rfl ?_
  refine go_icmp (q := 59) (q' := 39) K dhof_36 (by decide) rfl rfl (fun hn => cN_no hn (show (2 : Int32) < (4 : Int32) from (by decide))) (fun _ => ?_)
  refine go_aloadN (q := 40) K dhof_39 rfl rfl rfl ?_
  refine go_iload (q := 42) K dhof_40 rfl rfl ?_
  have f10 := (f5.ext Eh4)
  refine go_aaload (q := 43) K f10 rfl rfl (by decide) rfl dhof_42 rfl ?_
  refine go_astore (q := 45) K dhof_43 #[.val (.ref ar), .val (.ref ah1), .val (.ref ah1), .val (.int (4 : Int32)), .val (.int (2 : Int32)), .val (.ref s2)] rfl rfl rfl ?_
  refine go_aload (q := 47) K dhof_45 rfl rfl rfl ?_
  have f11 := (f6.ext Eh4)
  have f12 := (f7.ext Eh4)
  refine go_ldcS (q := 49) (num := 76) (text := "field name or value") K Xh4 (ewn hw) (wSn hw) (wd hw 42 rfl) (by decide) [(.int (102 : Int32)), (.int (105 : Int32)), (.int (101 : Int32)), (.int (108 : Int32)), (.int (100 : Int32)), (.int (32 : Int32)), (.int (110 : Int32)), (.int (97 : Int32)), (.int (109 : Int32)), (.int (101 : Int32)), (.int (32 : Int32)), (.int (111 : Int32)), (.int (114 : Int32)), (.int (32 : Int32)), (.int (118 : Int32)), (.int (97 : Int32)), (.int (108 : Int32)), (.int (117 : Int32)), (.int (101 : Int32))] (19 : Int32) ⟨by decide, by decide⟩ (by decide) (by decide) (by decide) (by decide) (by decide) (by decide) dhof_47 rfl ?_
  intro vmh6 h6 lah6 lbh6 lkh6 Eh6 Kch6 Xh6 sfh6 nbh6 leh6 lch6 lvh6 lyh6
  have K := Kch6
  have f13 := (f8.ext Eh6)
  have f14 := (f9.ext Eh6)
  refine go_callS (q := 52) (W := 0) K (wd hw 45 rfl) (wd hw 46 rfl) (wd hw 47 rfl) (wd hw 48 rfl) [(.ref s2), (.ref lah6)] [] (rnn l Z a0 hw _ _ _ n0 ) dhof_49 (ps := [(.object "java/lang/Object"), (.object "java/lang/String")]) (by decide +kernel) rfl rfl rfl (by decide) rfl (by decide) (by decide) (by decide) (by decide) rfl ?_
  rintro _ _ ⟨rfl, rfl⟩
  show Go pP l eE _ _ mM _ bB tT cC n0 _ h6 7 244 (mkF mM 52 #[.val (.ref ar), .val (.ref ah1), .val (.ref ah1), .val (.int (4 : Int32)), .val (.int (2 : Int32)), .val (.ref s2)] [(.ref s2)])
  refine go_pop (q := 53) K dhof_52 rfl rfl ?_
  refine go_iinc (q := 56) K dhof_53 (1 : Int32) #[.val (.ref ar), .val (.ref ah1), .val (.ref ah1), .val (.int (4 : Int32)), .val (.int (3 : Int32)), .val (.ref s2)] rfl rfl rfl rfl ?_
  refine go_goto (q := 33) K dhof_56 (by decide) rfl ?_
  refine go_iload (q := 35) K dhof_33 rfl rfl ?_
  refine go_iloadN (q := 36) K dhof_35 rfl rfl ?_
  refine go_icmp (q := 59) (q' := 39) K dhof_36 (by decide) rfl rfl (fun hn => cN_no hn (show (3 : Int32) < (4 : Int32) from (by decide))) (fun _ => ?_)
  refine go_aloadN (q := 40) K dhof_39 rfl rfl rfl ?_
  refine go_iload (q := 42) K dhof_40 rfl rfl ?_
  have f15 := (f10.ext Eh6)
  refine go_aaload (q := 43) K f15 rfl rfl (by decide) rfl dhof_42 rfl ?_
  refine go_astore (q := 45) K dhof_43 #[.val (.ref ar), .val (.ref ah1), .val (.ref ah1), .val (.int (4 : Int32)), .val (.int (3 : Int32)), .val (.ref s3)] rfl rfl rfl ?_
  refine go_aload (q := 47) K dhof_45 rfl rfl rfl ?_
  have f16 := (f11.ext Eh6)
  have f17 := (f12.ext Eh6)
  refine go_ldcS (q := 49) (num := 76) (text := "field name or value") K Xh6 (ewn hw) (wSn hw) (wd hw 42 rfl) (by decide) [(.int (102 : Int32)), (.int (105 : Int32)), (.int (101 : Int32)), (.int (108 : Int32)), (.int (100 : Int32)), (.int (32 : Int32)), (.int (110 : Int32)), (.int (97 : Int32)), (.int (109 : Int32)), (.int (101 : Int32)), (.int (32 : Int32)), (.int (111 : Int32)), (.int (114 : Int32)), (.int (32 : Int32)), (.int (118 : Int32)), (.int (97 : Int32)), (.int (108 : Int32)), (.int (117 : Int32)), (.int (101 : Int32))] (19 : Int32) ⟨by decide, by decide⟩ (by decide) (by decide) (by decide) (by decide) (by decide) (by decide) dhof_47 rfl ?_
  intro vmh8 h8 lah8 lbh8 lkh8 Eh8 Kch8 Xh8 sfh8 nbh8 leh8 lch8 lvh8 lyh8
  have K := Kch8
  have f18 := (f13.ext Eh8)
  have f19 := (f14.ext Eh8)
  refine go_callS (q := 52) (W := 0) K (wd hw 45 rfl) (wd hw 46 rfl) (wd hw 47 rfl) (wd hw 48 rfl) [(.ref s3), (.ref lah8)] [] (rnn l Z a0 hw _ _ _ n0 ) dhof_49 (ps := [(.object "java/lang/Object"), (.object "java/lang/String")]) (by decide +kernel) rfl rfl rfl (by decide) rfl (by decide) (by decide) (by decide) (by decide) rfl ?_
  rintro _ _ ⟨rfl, rfl⟩
  show Go pP l eE _ _ mM _ bB tT cC n0 _ h8 9 324 (mkF mM 52 #[.val (.ref ar), .val (.ref ah1), .val (.ref ah1), .val (.int (4 : Int32)), .val (.int (3 : Int32)), .val (.ref s3)] [(.ref s3)])
  refine go_pop (q := 53) K dhof_52 rfl rfl ?_
  refine go_iinc (q := 56) K dhof_53 (1 : Int32) #[.val (.ref ar), .val (.ref ah1), .val (.ref ah1), .val (.int (4 : Int32)), .val (.int (4 : Int32)), .val (.ref s3)] rfl rfl rfl rfl ?_
  refine go_goto (q := 33) K dhof_56 (by decide) rfl ?_
  refine go_iload (q := 35) K dhof_33 rfl rfl ?_
  refine go_iloadN (q := 36) K dhof_35 rfl rfl ?_
  refine go_icmp (q := 59) (q' := 39) K dhof_36 (by decide) rfl rfl (fun _ => ?_) (fun hn => cN_no2 hn (show ¬ (4 : Int32) < (4 : Int32) from (by decide)))
  have f20 := (f16.ext Eh8)
  have f21 := (f17.ext Eh8)
  have f22 := (((((p1_.ext Eh1).ext Eh2).ext Eh4).ext Eh6).ext Eh8)
  have f23 := (f15.ext Eh8)
  have f24 := (((leh2.ext Eh4).ext Eh6).ext Eh8)
  have f25 := (((lyh2.ext Eh4).ext Eh6).ext Eh8)
  have f26 := ((leh4.ext Eh6).ext Eh8)
  have f27 := ((lyh4.ext Eh6).ext Eh8)
  have f28 := (leh6.ext Eh8)
  have f29 := (lyh6.ext Eh8)
  refine go_new (q := 62) (sz := 1) K (wd hw 49 rfl) (wd hw 50 rfl) (wd hw 31 rfl) dhof_59 (by decide) (by decide) rfl ?_
  intro h10 ah10 gah10 Eh10 Xah10 Dah10
  have Xh10 := Xh8.ext Eh10
  refine go_dup (q := 63) K dhof_62 rfl rfl ?_
  refine go_aloadN (q := 64) K dhof_63 rfl rfl rfl ?_
  refine go_callI (q := 67) (W := 1) K (wd hw 51 rfl) (wd hw 52 rfl) (wd hw 31 rfl) (wd hw 53 rfl) rfl [(.ref ah1)] [(.ref ah10)] (hdInit l Z a0 hw _ _ _ n0 Xah10 (Dah10 (Or.inr (wd hw 56 rfl)) (ty := (.array (.object "java/lang/String"))) (by decide +kernel)) (Nat.le_trans (own_ge f21) (Nat.le_of_eq gah10.symm))) dhof_64 (ps := [(.array (.object "java/lang/String"))]) (by decide +kernel) rfl rfl rfl (by decide) rfl (by decide) (by decide) (by decide) (by decide) rfl ?_
  rintro _ h11 ⟨rfl, Kh11, q0h11, q1h11⟩
  show Go pP l eE _ _ mM _ bB tT cC n0 _ h11 10 325 (mkF mM 67 #[.val (.ref ar), .val (.ref ah1), .val (.ref ah1), .val (.int (4 : Int32)), .val (.int (4 : Int32)), .val (.ref s3)] [(.ref ah10)])
  have hsh11 : ∀ x ∈ [ah10], Safe Z consts_1 _ _ x := (allS (Kch8.safe Xah10 (by decide) (by decide)) all0)
  have Xh11 := Xh10.keep Kh11 hsh11
  refine gw_aret K Xh11 (ewn hw) dhof_67 rfl rfl rfl rfl (by decide) (by decide) ?_
  have f30 := ((f20.ext Eh10).trans Kh11 (allS (Or.inr (Nat.le_trans (f20).1 (Nat.le_of_eq gah10.symm))) all0))
  have f31 := ((f23.ext Eh10).keep Kh11 (ninS (own_nel (f23).lt (Nat.le_of_eq gah10.symm)) nin0))
  exact ⟨ah10, ah1, rfl, f30, (Nat.le_trans (f20).1 (Nat.le_of_eq gah10.symm)), (Nat.le_trans ((Keep.refl h [])).1 (Nat.le_of_eq gah1.symm)), q0h11, q1h11, f31⟩
theorem dhts_0 : decode prog_4_method_5_code 0 = .ok (.new 67, 3) := by decide +kernel
theorem dhts_3 : decode prog_4_method_5_code 3 = .ok (.dup, 1) := by decide +kernel
theorem dhts_4 : decode prog_4_method_5_code 4 = .ok (.invokespecial 69, 3) := by decide +kernel
theorem dhts_7 : decode prog_4_method_5_code 7 = .ok (.astore_n 1, 1) := by decide +kernel
theorem dhts_8 : decode prog_4_method_5_code 8 = .ok (.iconst 0, 1) := by decide +kernel
theorem dhts_9 : decode prog_4_method_5_code 9 = .ok (.istore_n 2, 1) := by decide +kernel
theorem dhts_10 : decode prog_4_method_5_code 10 = .ok (.iload_n 2, 1) := by decide +kernel
theorem dhts_11 : decode prog_4_method_5_code 11 = .ok (.aload_n 0, 1) := by decide +kernel
theorem dhts_12 : decode prog_4_method_5_code 12 = .ok (.getfield 7, 3) := by decide +kernel
theorem dhts_15 : decode prog_4_method_5_code 15 = .ok (.arraylength, 1) := by decide +kernel
theorem dhts_16 : decode prog_4_method_5_code 16 = .ok (.if_icmp .ge 41, 3) := by decide +kernel
theorem dhts_19 : decode prog_4_method_5_code 19 = .ok (.aload_n 1, 1) := by decide +kernel
theorem dhts_20 : decode prog_4_method_5_code 20 = .ok (.aload_n 0, 1) := by decide +kernel
theorem dhts_21 : decode prog_4_method_5_code 21 = .ok (.getfield 7, 3) := by decide +kernel
theorem dhts_24 : decode prog_4_method_5_code 24 = .ok (.iload_n 2, 1) := by decide +kernel
theorem dhts_25 : decode prog_4_method_5_code 25 = .ok (.aaload, 1) := by decide +kernel
theorem dhts_26 : decode prog_4_method_5_code 26 = .ok (.invokevirtual 70, 3) := by decide +kernel
theorem dhts_29 : decode prog_4_method_5_code 29 = .ok (.ldc 74, 2) := by decide +kernel
theorem dhts_31 : decode prog_4_method_5_code 31 = .ok (.invokevirtual 70, 3) := by decide +kernel
theorem dhts_34 : decode prog_4_method_5_code 34 = .ok (.aload_n 0, 1) := by decide +kernel
theorem dhts_35 : decode prog_4_method_5_code 35 = .ok (.getfield 7, 3) := by decide +kernel
theorem dhts_38 : decode prog_4_method_5_code 38 = .ok (.iload_n 2, 1) := by decide +kernel
theorem dhts_39 : decode prog_4_method_5_code 39 = .ok (.iconst 1, 1) := by decide +kernel
theorem dhts_40 : decode prog_4_method_5_code 40 = .ok (.iadd, 1) := by decide +kernel
theorem dhts_41 : decode prog_4_method_5_code 41 = .ok (.aaload, 1) := by decide +kernel
theorem dhts_42 : decode prog_4_method_5_code 42 = .ok (.invokevirtual 70, 3) := by decide +kernel
theorem dhts_45 : decode prog_4_method_5_code 45 = .ok (.bipush 10, 2) := by decide +kernel
theorem dhts_47 : decode prog_4_method_5_code 47 = .ok (.invokevirtual 76, 3) := by decide +kernel
theorem dhts_50 : decode prog_4_method_5_code 50 = .ok (.pop, 1) := by decide +kernel
theorem dhts_51 : decode prog_4_method_5_code 51 = .ok (.iinc 2 2, 3) := by decide +kernel
theorem dhts_54 : decode prog_4_method_5_code 54 = .ok (.goto (-44), 3) := by decide +kernel
theorem dhts_57 : decode prog_4_method_5_code 57 = .ok (.aload_n 1, 1) := by decide +kernel
theorem dhts_58 : decode prog_4_method_5_code 58 = .ok (.invokevirtual 79, 3) := by decide +kernel
theorem dhts_61 : decode prog_4_method_5_code 61 = .ok (.areturn, 1) := by decide +kernel
set_option maxRecDepth 65536 in
set_option maxHeartbeats 40000000 in
theorem hts0 (l : Launch) (Z : State) (a0 : Array Value) (hw : ∀ d ∈ tables_1, d.before a0 Z = true) (t : Addr) (ar : Addr) (kl : ClassId) (cs : Int32) (h : Heap) (n0 : Nat) (p0_ : Old Z n0 h) (p1_ : Sta Z Z.heap "java/lang/String" "COMPACT_STRINGS" "Z" (.int cs)) (hcs : ¬ cs = (0 : Int32)) (p3_ : Exa Z h t "com/example/lanka/lanka/Headers") (p4_ : Fld Z h t "com/example/lanka/lanka/Headers" "namesAndValues" "[Ljava/lang/String;" (.ref ar)) (p5_ : Ary Z h ar kl (.object "java/lang/String") []) :
    MetW l (⟨"com/example/lanka/lanka/Headers", "toString", "()Ljava/lang/String;"⟩ : MethodName) prog_4_method_5_code 3 (some (.object "java/lang/String")) [] ({ frames := 6, cells := 4, slots := 24, locals := 150 } : Room) #[(.ref t)] Z consts_1 h n0 [] (fun v h' => ∃ (rs : Addr) (rb : Addr) (rk : ClassId), v = some (.ref rs) ∧ Keep h h' [] ∧ h.size ≤ rs ∧ h.size ≤ rb ∧ Exa Z h' rs "java/lang/String" ∧ Fld Z h' rs "java/lang/String" "value" "[B" (.ref rb) ∧ Fld Z h' rs "java/lang/String" "coder" "B" (.int (0 : Int32)) ∧ Ary Z h' rb rk .byte []) := by
  refine MetW.of (plainFor_of_name (by first | (simp [plainName, overriddenIn]; done) | decide +kernel)) ?_
  intro pP eE sS mM bB tT cC Kc0 X0 SF
  have K := Kc0
  refine Go.entry (ls := #[.val (.ref t), .unset, .unset]) (by first | (simp [argsToLocals, Value.category]; done) | rfl) ?_
  refine go_new (q := 3) (sz := 4) K (wd hw 63 rfl) (wd hw 64 rfl) (wd hw 65 rfl) dhts_0 (by decide) (by decide) rfl ?_
  intro h1 ah1 gah1 Eh1 Xah1 Dah1
  have Xh1 := X0.ext Eh1
  refine go_dup (q := 4) K dhts_3 rfl rfl ?_
  have f1 := (p0_.ext Eh1)
  have f2 := (p3_.ext Eh1)
  have f3 := (p5_.ext Eh1)
  have f4 := ((Keep.refl h []).ext Eh1)
  refine go_callI (q := 7) (W := 1) K (wd hw 66 rfl) (wd hw 67 rfl) (wd hw 65 rfl) (wd hw 68 rfl) rfl [] [(.ref ah1)] (sbInit l Z a0 hw _ _ _ n0 f1 p1_ hcs Xah1 (Dah1 (Or.inl (wd hw 78 rfl)) (ty := (.array .byte)) (by decide +kernel)) (Dah1 (Or.inl (wd hw 80 rfl)) (ty := .byte) (by decide +kernel)) (Dah1 (Or.inl (wd hw 102 rfl)) (ty := .int) (by decide +kernel)) (Nat.le_trans (own_ge p0_) (Nat.le_of_eq gah1.symm))) dhts_4 (ps := []) (by decide +kernel) rfl rfl rfl (by decide) rfl (by decide) (by decide) (by decide) (by decide) rfl ?_
  rintro _ h2 ⟨vah2, kvh2, rfl, Kh2, gvah2, q0h2, q1h2, q2h2, q3h2, q4h2, q5h2⟩
  show Go pP l eE _ _ mM _ bB tT cC n0 _ h2 2 20 (mkF mM 7 #[.val (.ref t), .unset, .unset] [(.ref ah1)])
  have hsh2 : ∀ x ∈ [ah1], Safe Z consts_1 _ _ x := (allS (Kc0.safe Xah1 (by decide) (by decide)) all0)
  have Xh2 := Xh1.keep Kh2 hsh2
  have Svah2h2 := Safe.keep (EL := consts_1) Kh2 hsh2 Xh1.2.1 (Safe.new gvah2)
  refine go_astoreN (q := 8) K dhts_7 #[.val (.ref t), .val (.ref ah1), .unset] rfl rfl rfl ?_
  refine go_iconst (q := 9) K dhts_8 (0 : Int32) rfl rfl ?_
  refine go_istoreN (q := 10) K dhts_9 #[.val (.ref t), .val (.ref ah1), .val (.int (0 : Int32))] rfl rfl ?_
  refine go_iloadN (q := 11) K dhts_10 rfl rfl ?_
  refine go_aloadN (q := 12) K dhts_11 rfl rfl rfl ?_
  have f5 := ((p4_.ext Eh1).keep Kh2 (ninS (own_nel (p3_).lt (Nat.le_of_eq gah1.symm)) nin0))
  refine go_getF (q := 15) K (wd hw 55 rfl) Via.refl f5 dhts_12 rfl ?_
  have f6 := (f3.keep Kh2 (ninS (own_nel (p5_).lt (Nat.le_of_eq gah1.symm)) nin0))
  refine go_arraylength (q := 16) (z := (0 : Int32)) K f6 rfl dhts_15 rfl ?_
  refine go_icmp (q := 57) (q' := 19) K dhts_16 (by decide) rfl rfl (fun _ => ?_) (fun hn => cN_no2 hn (show ¬ (0 : Int32) < (0 : Int32) from (by decide)))
  refine go_aloadN (q := 58) K dhts_57 rfl rfl rfl ?_
  have f7 := (f1.keep Kh2 (allS (Nat.le_trans (own_ge p0_) (Nat.le_of_eq gah1.symm)) all0))
  have f8 := (f2.keep Kh2)
  have f9 := (f4.trans Kh2 (allS (Or.inr (Nat.le_trans ((Keep.refl h [])).1 (Nat.le_of_eq gah1.symm))) all0))
  refine go_callV (q := 61) (W := 0) K (wd hw 144 rfl) (wd hw 145 rfl) (wd hw 147 rfl) (wd hw 146 rfl) (wd hw 65 rfl) (wd hw 148 rfl) (wd hw 84 rfl) rfl q0h2 [] [] (ts0 l Z a0 hw _ _ _ _ _ n0 f7 p1_ hcs q0h2 q1h2 q2h2 q3h2 q4h2) dhts_58 (ps := []) (by decide +kernel) rfl rfl rfl (by decide) rfl (by decide) (by decide) (by decide) (by decide) rfl ?_
  rintro _ h3 ⟨ah3, bh3, kbh3, rfl, Kh3, gah3, gbh3, q0h3, q1h3, q2h3, q3h3, q4h3⟩
  show Go pP l eE _ _ mM _ bB tT cC n0 _ h3 4 24 (mkF mM 61 #[.val (.ref t), .val (.ref ah1), .val (.int (0 : Int32))] [(.ref ah3)])
  have Xh3 := Xh2.keep Kh3 all0
  have Svah2h3 := Safe.keep Kh3 all0 Xh2.2.1 Svah2h2
  refine gw_aret K Xh3 (ewn hw) dhts_61 rfl rfl rfl rfl (by decide) (by decide) ?_
  have f10 := (f9.trans Kh3 all0)
  exact ⟨ah3, bh3, kbh3, rfl, f10, (Nat.le_trans (f9).1 gah3), (Nat.le_trans (f9).1 gbh3), q0h3, q1h3, q2h3, q3h3⟩
set_option maxRecDepth 65536 in
set_option maxHeartbeats 40000000 in
theorem hts1 (l : Launch) (Z : State) (a0 : Array Value) (hw : ∀ d ∈ tables_1, d.before a0 Z = true) (t : Addr) (ar : Addr) (kl : ClassId) (cs : Int32) (s0 : Addr) (b0 : Addr) (k0 : ClassId) (x0 : Int32) (s1 : Addr) (b1 : Addr) (k1 : ClassId) (x1 : Int32) (h : Heap) (n0 : Nat) (p0_ : Old Z n0 h) (p1_ : Sta Z Z.heap "java/lang/String" "COMPACT_STRINGS" "Z" (.int cs)) (hcs : ¬ cs = (0 : Int32)) (p3_ : Exa Z h t "com/example/lanka/lanka/Headers") (p4_ : Fld Z h t "com/example/lanka/lanka/Headers" "namesAndValues" "[Ljava/lang/String;" (.ref ar)) (p5_ : Ary Z h ar kl (.object "java/lang/String") [(.ref s0), (.ref s1)]) (p6_ : Exa Z h s0 "java/lang/String") (p7_ : Fld Z h s0 "java/lang/String" "value" "[B" (.ref b0)) (p8_ : Fld Z h s0 "java/lang/String" "coder" "B" (.int (0 : Int32))) (p9_ : Ary Z h b0 k0 .byte [(.int x0)]) (p10_ : Exa Z h s1 "java/lang/String") (p11_ : Fld Z h s1 "java/lang/String" "value" "[B" (.ref b1)) (p12_ : Fld Z h s1 "java/lang/String" "coder" "B" (.int (0 : Int32))) (p13_ : Ary Z h b1 k1 .byte [(.int x1)]) (hf_x0 : fits .byte (.int x0) = true) (hf_x1 : fits .byte (.int x1) = true) :
    MetW l (⟨"com/example/lanka/lanka/Headers", "toString", "()Ljava/lang/String;"⟩ : MethodName) prog_4_method_5_code 3 (some (.object "java/lang/String")) [] ({ frames := 6, cells := 6, slots := 41, locals := 150 } : Room) #[(.ref t)] Z consts_1 h n0 [] (fun v h' => ∃ (rs : Addr) (rb : Addr) (rk : ClassId), v = some (.ref rs) ∧ Keep h h' [] ∧ h.size ≤ rs ∧ h.size ≤ rb ∧ Exa Z h' rs "java/lang/String" ∧ Fld Z h' rs "java/lang/String" "value" "[B" (.ref rb) ∧ Fld Z h' rs "java/lang/String" "coder" "B" (.int (0 : Int32)) ∧ Ary Z h' rb rk .byte [(.int x0), (.int (58 : Int32)), (.int (32 : Int32)), (.int x1), (.int (nar .byte (10 : Int32)))]) := by
  refine MetW.of (plainFor_of_name (by first | (simp [plainName, overriddenIn]; done) | decide +kernel)) ?_
  intro pP eE sS mM bB tT cC Kc0 X0 SF
  have K := Kc0
  refine Go.entry (ls := #[.val (.ref t), .unset, .unset]) (by first | (simp [argsToLocals, Value.category]; done) | rfl) ?_
  refine go_new (q := 3) (sz := 4) K (wd hw 63 rfl) (wd hw 64 rfl) (wd hw 65 rfl) dhts_0 (by decide) (by decide) rfl ?_
  intro h1 ah1 gah1 Eh1 Xah1 Dah1
  have Xh1 := X0.ext Eh1
  refine go_dup (q := 4) K dhts_3 rfl rfl ?_
  have f1 := (p0_.ext Eh1)
  have f2 := (p3_.ext Eh1)
  have f3 := (p5_.ext Eh1)
  have f4 := (p6_.ext Eh1)
  have f5 := (p9_.ext Eh1)
  have f6 := (p10_.ext Eh1)
  have f7 := (p13_.ext Eh1)
  have f8 := ((Keep.refl h []).ext Eh1)
  refine go_callI (q := 7) (W := 1) K (wd hw 66 rfl) (wd hw 67 rfl) (wd hw 65 rfl) (wd hw 68 rfl) rfl [] [(.ref ah1)] (sbInit l Z a0 hw _ _ _ n0 f1 p1_ hcs Xah1 (Dah1 (Or.inl (wd hw 78 rfl)) (ty := (.array .byte)) (by decide +kernel)) (Dah1 (Or.inl (wd hw 80 rfl)) (ty := .byte) (by decide +kernel)) (Dah1 (Or.inl (wd hw 102 rfl)) (ty := .int) (by decide +kernel)) (Nat.le_trans (own_ge p0_) (Nat.le_of_eq gah1.symm))) dhts_4 (ps := []) (by decide +kernel) rfl rfl rfl (by decide) rfl (by decide) (by decide) (by decide) (by decide) rfl ?_
  rintro _ h2 ⟨vah2, kvh2, rfl, Kh2, gvah2, q0h2, q1h2, q2h2, q3h2, q4h2, q5h2⟩
  show Go pP l eE _ _ mM _ bB tT cC n0 _ h2 2 20 (mkF mM 7 #[.val (.ref t), .unset, .unset] [(.ref ah1)])
  have hsh2 : ∀ x ∈ [ah1], Safe Z consts_1 _ _ x := (allS (Kc0.safe Xah1 (by decide) (by decide)) all0)
  have Xh2 := Xh1.keep Kh2 hsh2
  have Svah2h2 := Safe.keep (EL := consts_1) Kh2 hsh2 Xh1.2.1 (Safe.new gvah2)
  refine go_astoreN (q := 8) K dhts_7 #[.val (.ref t), .val (.ref ah1), .unset] rfl rfl rfl ?_
  refine go_iconst (q := 9) K dhts_8 (0 : Int32) rfl rfl ?_
  refine go_istoreN (q := 10) K dhts_9 #[.val (.ref t), .val (.ref ah1), .val (.int (0 : Int32))] rfl rfl ?_
  refine go_iloadN (q := 11) K dhts_10 rfl rfl ?_
  refine go_aloadN (q := 12) K dhts_11 rfl rfl rfl ?_
  have f9 := ((p4_.ext Eh1).keep Kh2 (ninS (own_nel (p3_).lt (Nat.le_of_eq gah1.symm)) nin0))
  refine go_getF (q := 15) K (wd hw 55 rfl) Via.refl f9 dhts_12 rfl ?_
  have f10 := (f3.keep Kh2 (ninS (own_nel (p5_).lt (Nat.le_of_eq gah1.symm)) nin0))
  refine go_arraylength (q := 16) (z := (2 : Int32)) K f10 rfl dhts_15 rfl ?_
  refine go_icmp (q := 57) (q' := 19) K dhts_16 (by decide) rfl rfl (fun hn => cN_no hn (show (0 : Int32) < (2 : Int32) from (by decide))) (fun _ => ?_)
  refine go_aloadN (q := 20) K dhts_19 rfl rfl rfl ?_
  refine go_aloadN (q := 21) K dhts_20 rfl rfl rfl ?_
  refine go_getF (q := 24) K (wd hw 55 rfl) Via.refl f9 dhts_21 rfl ?_
  refine go_iloadN (q := 25) K dhts_24 rfl rfl ?_
  refine go_aaload (q := 26) K f10 rfl rfl (by decide) rfl dhts_25 rfl ?_
  have f11 := (f1.keep Kh2 (allS (Nat.le_trans (own_ge p0_) (Nat.le_of_eq gah1.symm)) all0))
  have f12 := (f4.keep Kh2)
  have f13 := ((p7_.ext Eh1).keep Kh2 (ninS (own_nel (p6_).lt (Nat.le_of_eq gah1.symm)) nin0))
  have f14 := ((p8_.ext Eh1).keep Kh2 (ninS (own_nel (p6_).lt (Nat.le_of_eq gah1.symm)) nin0))
  have f15 := (f5.keep Kh2 (ninS (own_nel (p9_).lt (Nat.le_of_eq gah1.symm)) nin0))
  refine go_callV (q := 29) (W := 0) K (wd hw 81 rfl) (wd hw 82 rfl) (wd hw 84 rfl) (wd hw 83 rfl) (wd hw 65 rfl) (wd hw 85 rfl) (wd hw 84 rfl) rfl q0h2 [(.ref s0)] [] (app0_1 l Z a0 hw _ _ _ _ _ _ _ _ _ n0 f11 p1_ hcs q0h2 q1h2 q2h2 q3h2 f12 f13 f14 f15 q4h2 (Nat.le_trans (own_ge p0_) (Nat.le_of_eq gah1.symm)) (Nat.le_trans (own_ge f1) gvah2) q5h2 ((own_nel (p6_).lt (Nat.le_of_eq gah1.symm))).symm ((own_nel (p9_).lt (Nat.le_of_eq gah1.symm))).symm hf_x0) dhts_26 (ps := [(.object "java/lang/String")]) (by decide +kernel) rfl rfl rfl (by decide) rfl (by decide) (by decide) (by decide) (by decide) rfl ?_
  rintro _ h3 ⟨rfl, Kh3, q0h3, q1h3, q2h3, q3h3, q4h3⟩
  show Go pP l eE _ _ mM _ bB tT cC n0 _ h3 2 20 (mkF mM 29 #[.val (.ref t), .val (.ref ah1), .val (.int (0 : Int32))] [(.ref ah1)])
  have hsh3 : ∀ x ∈ [ah1, vah2], Safe Z consts_1 _ _ x := (allS (Kc0.safe q0h2 (by decide) (by decide)) (allS Svah2h2 all0))
  have Xh3 := Xh2.keep Kh3 hsh3
  have Svah2h3 := Safe.keep Kh3 hsh3 Xh2.2.1 Svah2h2
  have f16 := ((f8.trans Kh2 (allS (Or.inr (Nat.le_trans ((Keep.refl h [])).1 (Nat.le_of_eq gah1.symm))) all0)).trans Kh3 (allS (Or.inr (Nat.le_trans ((Keep.refl h [])).1 (Nat.le_of_eq gah1.symm))) (allS (Or.inr (Nat.le_trans (f8).1 gvah2)) all0)))
  have f17 := (f11.keep Kh3 (allS (Nat.le_trans (own_ge p0_) (Nat.le_of_eq gah1.symm)) (allS (Nat.le_trans (own_ge f1) gvah2) all0)))
  refine go_ldcS (q := 31) (num := 8) (text := ": ") K Xh3 (ewn hw) (wSn hw) (wd hw 128 rfl) (by decide) [(.int (58 : Int32)), (.int (32 : Int32))] (2 : Int32) ⟨by decide, by decide⟩ (by decide) (by decide) (by decide) (by decide) (by decide) (by decide) dhts_29 rfl ?_
  intro vmh4 h4 lah4 lbh4 lkh4 Eh4 Kch4 Xh4 sfh4 nbh4 leh4 lch4 lvh4 lyh4
  have K := Kch4
  have Svah2h4 := sfh4 _ (q4h3).lt Svah2h3
  have f18 := (((f2.keep Kh2).keep Kh3).ext Eh4)
  have f19 := ((f10.keep Kh3 (ninS (own_nel (p5_).lt (Nat.le_of_eq gah1.symm)) (ninS (own_nel (f3).lt gvah2) nin0))).ext Eh4)
  have f20 := (q0h3.ext Eh4)
  have f21 := (f17.ext Eh4)
  have f22 := (q1h3.ext Eh4)
  have f23 := (q2h3.ext Eh4)
  have f24 := (q3h3.ext Eh4)
  have f25 := (q4h3.ext Eh4)
  refine go_callV (q := 34) (W := 0) K (wd hw 81 rfl) (wd hw 82 rfl) (wd hw 84 rfl) (wd hw 83 rfl) (wd hw 65 rfl) (wd hw 85 rfl) (wd hw 84 rfl) rfl f20 [(.ref lah4)] [] (app1_2 l Z a0 hw _ _ _ _ _ _ _ _ _ _ _ n0 f21 p1_ hcs f20 f22 f23 f24 leh4 lvh4 lch4 lyh4 f25 (Nat.le_trans (own_ge p0_) (Nat.le_of_eq gah1.symm)) (Nat.le_trans (own_ge f1) gvah2) q5h2 (nbh4 _ (Kch4.safe f20 (by decide) (by decide))).1 (nbh4 _ (Kch4.safe f20 (by decide) (by decide))).2 hf_x0 (by decide) (by decide)) dhts_31 (ps := [(.object "java/lang/String")]) (by decide +kernel) rfl rfl rfl (by decide) rfl (by decide) (by decide) (by decide) (by decide) rfl ?_
  rintro _ h5 ⟨rfl, Kh5, q0h5, q1h5, q2h5, q3h5, q4h5⟩
  show Go pP l eE _ _ mM _ bB tT cC n0 _ h5 4 32 (mkF mM 34 #[.val (.ref t), .val (.ref ah1), .val (.int (0 : Int32))] [(.ref ah1)])
  have hsh5 : ∀ x ∈ [ah1, vah2], Safe Z consts_1 _ _ x := (allS (Kch4.safe f20 (by decide) (by decide)) (allS Svah2h4 all0))
  have Xh5 := Xh4.keep Kh5 hsh5
  have Svah2h5 := Safe.keep Kh5 hsh5 Xh4.2.1 Svah2h4
  refine go_aloadN (q := 35) K dhts_34 rfl rfl rfl ?_
  have f26 := (((f9.keep Kh3 (ninS (own_nel (p3_).lt (Nat.le_of_eq gah1.symm)) (ninS (own_nel (f2).lt gvah2) nin0))).ext Eh4).keep Kh5 (ninS (own_nel (p3_).lt (Nat.le_of_eq gah1.symm)) (ninS (own_nel (f2).lt gvah2) nin0)))
  refine go_getF (q := 38) K (wd hw 55 rfl) Via.refl f26 dhts_35 rfl ?_
  refine go_iloadN (q := 39) K dhts_38 rfl rfl ?_
  refine go_iconst (q := 40) K dhts_39 (1 : Int32) rfl rfl ?_
  refine go_iadd (q := 41) K dhts_40 rfl ?_
  refine go_eqI (y := (1 : Int32)) (by decide) ?_
  have f27 := (f19.keep Kh5 (ninS (own_nel (p5_).lt (Nat.le_of_eq gah1.symm)) (ninS (own_nel (f3).lt gvah2) nin0)))
  refine go_aaload (q := 42) K f27 rfl rfl (by decide) rfl dhts_41 rfl ?_
  have f28 := (f21.keep Kh5 (allS (Nat.le_trans (own_ge p0_) (Nat.le_of_eq gah1.symm)) (allS (Nat.le_trans (own_ge f1) gvah2) all0)))
  have f29 := ((((f6.keep Kh2).keep Kh3).ext Eh4).keep Kh5)
  have f30 := (((((p11_.ext Eh1).keep Kh2 (ninS (own_nel (p10_).lt (Nat.le_of_eq gah1.symm)) nin0)).keep Kh3 (ninS (own_nel (p10_).lt (Nat.le_of_eq gah1.symm)) (ninS (own_nel (f6).lt gvah2) nin0))).ext Eh4).keep Kh5 (ninS (own_nel (p10_).lt (Nat.le_of_eq gah1.symm)) (ninS (own_nel (f6).lt gvah2) nin0)))
  have f31 := (((((p12_.ext Eh1).keep Kh2 (ninS (own_nel (p10_).lt (Nat.le_of_eq gah1.symm)) nin0)).keep Kh3 (ninS (own_nel (p10_).lt (Nat.le_of_eq gah1.symm)) (ninS (own_nel (f6).lt gvah2) nin0))).ext Eh4).keep Kh5 (ninS (own_nel (p10_).lt (Nat.le_of_eq gah1.symm)) (ninS (own_nel (f6).lt gvah2) nin0)))
  have f32 := ((((f7.keep Kh2 (ninS (own_nel (p13_).lt (Nat.le_of_eq gah1.symm)) nin0)).keep Kh3 (ninS (own_nel (p13_).lt (Nat.le_of_eq gah1.symm)) (ninS (own_nel (f7).lt gvah2) nin0))).ext Eh4).keep Kh5 (ninS (own_nel (p13_).lt (Nat.le_of_eq gah1.symm)) (ninS (own_nel (f7).lt gvah2) nin0)))
  refine go_callV (q := 45) (W := 0) K (wd hw 81 rfl) (wd hw 82 rfl) (wd hw 84 rfl) (wd hw 83 rfl) (wd hw 65 rfl) (wd hw 85 rfl) (wd hw 84 rfl) rfl q0h5 [(.ref s1)] [] (app3_1 l Z a0 hw _ _ _ _ _ _ _ _ _ _ _ _ n0 f28 p1_ hcs q0h5 q1h5 q2h5 q3h5 f29 f30 f31 f32 q4h5 (Nat.le_trans (own_ge p0_) (Nat.le_of_eq gah1.symm)) (Nat.le_trans (own_ge f1) gvah2) q5h2 ((own_nel (p10_).lt (Nat.le_of_eq gah1.symm))).symm ((own_nel (p13_).lt (Nat.le_of_eq gah1.symm))).symm hf_x0 (by decide) (by decide) hf_x1) dhts_42 (ps := [(.object "java/lang/String")]) (by decide +kernel) rfl rfl rfl (by decide) rfl (by decide) (by decide) (by decide) (by decide) rfl ?_
  rintro _ h6 ⟨rfl, Kh6, q0h6, q1h6, q2h6, q3h6, q4h6⟩
  show Go pP l eE _ _ mM _ bB tT cC n0 _ h6 4 32 (mkF mM 45 #[.val (.ref t), .val (.ref ah1), .val (.int (0 : Int32))] [(.ref ah1)])
  have hsh6 : ∀ x ∈ [ah1, vah2], Safe Z consts_1 _ _ x := (allS (Kch4.safe q0h5 (by decide) (by decide)) (allS Svah2h5 all0))
  have Xh6 := Xh5.keep Kh6 hsh6
  have Svah2h6 := Safe.keep Kh6 hsh6 Xh5.2.1 Svah2h5
  refine go_bipush (q := 47) K dhts_45 (10 : Int32) rfl rfl ?_
  have f33 := (f28.keep Kh6 (allS (Nat.le_trans (own_ge p0_) (Nat.le_of_eq gah1.symm)) (allS (Nat.le_trans (own_ge f1) gvah2) all0)))
  refine go_callV (q := 50) (W := 0) K (wd hw 129 rfl) (wd hw 130 rfl) (wd hw 132 rfl) (wd hw 131 rfl) (wd hw 65 rfl) (wd hw 133 rfl) (wd hw 84 rfl) rfl q0h6 [(.int (10 : Int32))] [] (apc4_10 l Z a0 hw _ _ _ _ _ _ _ _ _ n0 f33 p1_ hcs q0h6 q1h6 q2h6 q3h6 q4h6 (Nat.le_trans (own_ge p0_) (Nat.le_of_eq gah1.symm)) (Nat.le_trans (own_ge f1) gvah2) q5h2) dhts_47 (ps := [.char]) (by decide +kernel) rfl rfl rfl (by decide) rfl (by decide) (by decide) (by decide) (by decide) rfl ?_
  rintro _ h7 ⟨rfl, Kh7, q0h7, q1h7, q2h7, q3h7, q4h7⟩
  show Go pP l eE _ _ mM _ bB tT cC n0 _ h7 4 32 (mkF mM 50 #[.val (.ref t), .val (.ref ah1), .val (.int (0 : Int32))] [(.ref ah1)])
  have hsh7 : ∀ x ∈ [ah1, vah2], Safe Z consts_1 _ _ x := (allS (Kch4.safe q0h6 (by decide) (by decide)) (allS Svah2h6 all0))
  have Xh7 := Xh6.keep Kh7 hsh7
  have Svah2h7 := Safe.keep Kh7 hsh7 Xh6.2.1 Svah2h6
  refine go_pop (q := 51) K dhts_50 rfl rfl ?_
  refine go_iinc (q := 54) K dhts_51 (2 : Int32) #[.val (.ref t), .val (.ref ah1), .val (.int (2 : Int32))] rfl rfl rfl rfl ?_
  refine go_goto (q := 10) K dhts_54 (by decide) rfl ?_
  refine go_iloadN (q := 11) K dhts_10 rfl rfl ?_
  refine go_aloadN (q := 12) K dhts_11 rfl rfl rfl ?_
  have f34 := ((f26.keep Kh6 (ninS (own_nel (p3_).lt (Nat.le_of_eq gah1.symm)) (ninS (own_nel (f2).lt gvah2) nin0))).keep Kh7 (ninS (own_nel (p3_).lt (Nat.le_of_eq gah1.symm)) (ninS (own_nel (f2).lt gvah2) nin0)))
  refine go_getF (q := 15) K (wd hw 55 rfl) Via.refl f34 dhts_12 rfl ?_
  have f35 := ((f27.keep Kh6 (ninS (own_nel (p5_).lt (Nat.le_of_eq gah1.symm)) (ninS (own_nel (f3).lt gvah2) nin0))).keep Kh7 (ninS (own_nel (p5_).lt (Nat.le_of_eq gah1.symm)) (ninS (own_nel (f3).lt gvah2) nin0)))
  refine go_arraylength (q := 16) (z := (2 : Int32)) K f35 rfl dhts_15 rfl ?_
  refine go_icmp (q := 57) (q' := 19) K dhts_16 (by decide) rfl rfl (fun _ => ?_) (fun hn => cN_no2 hn (show ¬ (2 : Int32) < (2 : Int32) from (by decide)))
  refine go_aloadN (q := 58) K dhts_57 rfl rfl rfl ?_
  have f36 := (f33.keep Kh7 (allS (Nat.le_trans (own_ge p0_) (Nat.le_of_eq gah1.symm)) (allS (Nat.le_trans (own_ge f1) gvah2) all0)))
  have f37 := (((f18.keep Kh5).keep Kh6).keep Kh7)
  have f38 := (((((f12.keep Kh3).ext Eh4).keep Kh5).keep Kh6).keep Kh7)
  have f39 := (((((f15.keep Kh3 (ninS (own_nel (p9_).lt (Nat.le_of_eq gah1.symm)) (ninS (own_nel (f5).lt gvah2) nin0))).ext Eh4).keep Kh5 (ninS (own_nel (p9_).lt (Nat.le_of_eq gah1.symm)) (ninS (own_nel (f5).lt gvah2) nin0))).keep Kh6 (ninS (own_nel (p9_).lt (Nat.le_of_eq gah1.symm)) (ninS (own_nel (f5).lt gvah2) nin0))).keep Kh7 (ninS (own_nel (p9_).lt (Nat.le_of_eq gah1.symm)) (ninS (own_nel (f5).lt gvah2) nin0)))
  have f40 := ((f29.keep Kh6).keep Kh7)
  have f41 := ((f32.keep Kh6 (ninS (own_nel (p13_).lt (Nat.le_of_eq gah1.symm)) (ninS (own_nel (f7).lt gvah2) nin0))).keep Kh7 (ninS (own_nel (p13_).lt (Nat.le_of_eq gah1.symm)) (ninS (own_nel (f7).lt gvah2) nin0)))
  have f42 := (((leh4.keep Kh5).keep Kh6).keep Kh7)
  have f43 := (((lyh4.keep Kh5 (ninS ((nbh4 _ (Kch4.safe f20 (by decide) (by decide))).2).symm (ninS ((nbh4 _ Svah2h4).2).symm nin0))).keep Kh6 (ninS ((nbh4 _ (Kch4.safe f20 (by decide) (by decide))).2).symm (ninS ((nbh4 _ Svah2h4).2).symm nin0))).keep Kh7 (ninS ((nbh4 _ (Kch4.safe f20 (by decide) (by decide))).2).symm (ninS ((nbh4 _ Svah2h4).2).symm nin0)))
  have f44 := ((((f16.ext Eh4).trans Kh5 (allS (Or.inr (Nat.le_trans ((Keep.refl h [])).1 (Nat.le_of_eq gah1.symm))) (allS (Or.inr (Nat.le_trans (f8).1 gvah2)) all0))).trans Kh6 (allS (Or.inr (Nat.le_trans ((Keep.refl h [])).1 (Nat.le_of_eq gah1.symm))) (allS (Or.inr (Nat.le_trans (f8).1 gvah2)) all0))).trans Kh7 (allS (Or.inr (Nat.le_trans ((Keep.refl h [])).1 (Nat.le_of_eq gah1.symm))) (allS (Or.inr (Nat.le_trans (f8).1 gvah2)) all0)))
  refine go_callV (q := 61) (W := 0) K (wd hw 144 rfl) (wd hw 145 rfl) (wd hw 147 rfl) (wd hw 146 rfl) (wd hw 65 rfl) (wd hw 148 rfl) (wd hw 84 rfl) rfl q0h7 [] [] (ts5 l Z a0 hw _ _ _ _ _ _ _ _ _ _ n0 f36 p1_ hcs q0h7 q1h7 q2h7 q3h7 q4h7 hf_x0 (by decide) (by decide) hf_x1 (fits_nar _)) dhts_58 (ps := []) (by decide +kernel) rfl rfl rfl (by decide) rfl (by decide) (by decide) (by decide) (by decide) rfl ?_
  rintro _ h8 ⟨ah8, bh8, kbh8, rfl, Kh8, gah8, gbh8, q0h8, q1h8, q2h8, q3h8, q4h8⟩
  show Go pP l eE _ _ mM _ bB tT cC n0 _ h8 6 41 (mkF mM 61 #[.val (.ref t), .val (.ref ah1), .val (.int (2 : Int32))] [(.ref ah8)])
  have Xh8 := Xh7.keep Kh8 all0
  have Svah2h8 := Safe.keep Kh8 all0 Xh7.2.1 Svah2h7
  refine gw_aret K Xh8 (ewn hw) dhts_61 rfl rfl rfl rfl (by decide) (by decide) ?_
  have f45 := (f44.trans Kh8 all0)
  exact ⟨ah8, bh8, kbh8, rfl, f45, (Nat.le_trans (f44).1 gah8), (Nat.le_trans (f44).1 gbh8), q0h8, q1h8, q2h8, q3h8⟩
set_option maxRecDepth 65536 in
set_option maxHeartbeats 40000000 in
theorem hts2 (l : Launch) (Z : State) (a0 : Array Value) (hw : ∀ d ∈ tables_1, d.before a0 Z = true) (t : Addr) (ar : Addr) (kl : ClassId) (cs : Int32) (s0 : Addr) (b0 : Addr) (k0 : ClassId) (x0 : Int32) (s1 : Addr) (b1 : Addr) (k1 : ClassId) (x1 : Int32) (s2 : Addr) (b2 : Addr) (k2 : ClassId) (x2 : Int32) (s3 : Addr) (b3 : Addr) (k3 : ClassId) (x3 : Int32) (h : Heap) (n0 : Nat) (p0_ : Old Z n0 h) (p1_ : Sta Z Z.heap "java/lang/String" "COMPACT_STRINGS" "Z" (.int cs)) (hcs : ¬ cs = (0 : Int32)) (p3_ : Exa Z h t "com/example/lanka/lanka/Headers") (p4_ : Fld Z h t "com/example/lanka/lanka/Headers" "namesAndValues" "[Ljava/lang/String;" (.ref ar)) (p5_ : Ary Z h ar kl (.object "java/lang/String") [(.ref s0), (.ref s1), (.ref s2), (.ref s3)]) (p6_ : Exa Z h s0 "java/lang/String") (p7_ : Fld Z h s0 "java/lang/String" "value" "[B" (.ref b0)) (p8_ : Fld Z h s0 "java/lang/String" "coder" "B" (.int (0 : Int32))) (p9_ : Ary Z h b0 k0 .byte [(.int x0)]) (p10_ : Exa Z h s1 "java/lang/String") (p11_ : Fld Z h s1 "java/lang/String" "value" "[B" (.ref b1)) (p12_ : Fld Z h s1 "java/lang/String" "coder" "B" (.int (0 : Int32))) (p13_ : Ary Z h b1 k1 .byte [(.int x1)]) (p14_ : Exa Z h s2 "java/lang/String") (p15_ : Fld Z h s2 "java/lang/String" "value" "[B" (.ref b2)) (p16_ : Fld Z h s2 "java/lang/String" "coder" "B" (.int (0 : Int32))) (p17_ : Ary Z h b2 k2 .byte [(.int x2)]) (p18_ : Exa Z h s3 "java/lang/String") (p19_ : Fld Z h s3 "java/lang/String" "value" "[B" (.ref b3)) (p20_ : Fld Z h s3 "java/lang/String" "coder" "B" (.int (0 : Int32))) (p21_ : Ary Z h b3 k3 .byte [(.int x3)]) (hf_x0 : fits .byte (.int x0) = true) (hf_x1 : fits .byte (.int x1) = true) (hf_x2 : fits .byte (.int x2) = true) (hf_x3 : fits .byte (.int x3) = true) :
    MetW l (⟨"com/example/lanka/lanka/Headers", "toString", "()Ljava/lang/String;"⟩ : MethodName) prog_4_method_5_code 3 (some (.object "java/lang/String")) [] ({ frames := 6, cells := 8, slots := 58, locals := 150 } : Room) #[(.ref t)] Z consts_1 h n0 [] (fun v h' => ∃ (rs : Addr) (rb : Addr) (rk : ClassId), v = some (.ref rs) ∧ Keep h h' [] ∧ h.size ≤ rs ∧ h.size ≤ rb ∧ Exa Z h' rs "java/lang/String" ∧ Fld Z h' rs "java/lang/String" "value" "[B" (.ref rb) ∧ Fld Z h' rs "java/lang/String" "coder" "B" (.int (0 : Int32)) ∧ Ary Z h' rb rk .byte [(.int x0), (.int (58 : Int32)), (.int (32 : Int32)), (.int x1), (.int (nar .byte (10 : Int32))), (.int x2), (.int (58 : Int32)), (.int (32 : Int32)), (.int x3), (.int (nar .byte (10 : Int32)))]) := by
  refine MetW.of (plainFor_of_name (by first | (simp [plainName, overriddenIn]; done) | decide +kernel)) ?_
  intro pP eE sS mM bB tT cC Kc0 X0 SF
  have K := Kc0
  refine Go.entry (ls := #[.val (.ref t), .unset, .unset]) (by first | (simp [argsToLocals, Value.category]; done) | rfl) ?_
  refine go_new (q := 3) (sz := 4) K (wd hw 63 rfl) (wd hw 64 rfl) (wd hw 65 rfl) dhts_0 (by decide) (by decide) rfl ?_
  intro h1 ah1 gah1 Eh1 Xah1 Dah1
  have Xh1 := X0.ext Eh1
  refine go_dup (q := 4) K dhts_3 rfl rfl ?_
  have f1 := (p0_.ext Eh1)
  have f2 := (p3_.ext Eh1)
  have f3 := (p5_.ext Eh1)
  have f4 := (p6_.ext Eh1)
  have f5 := (p9_.ext Eh1)
  have f6 := (p10_.ext Eh1)
  have f7 := (p13_.ext Eh1)
  have f8 := (p14_.ext Eh1)
  have f9 := (p17_.ext Eh1)
  have f10 := (p18_.ext Eh1)
  have f11 := (p21_.ext Eh1)
  have f12 := ((Keep.refl h []).ext Eh1)
  refine go_callI (q := 7) (W := 1) K (wd hw 66 rfl) (wd hw 67 rfl) (wd hw 65 rfl) (wd hw 68 rfl) rfl [] [(.ref ah1)] (sbInit l Z a0 hw _ _ _ n0 f1 p1_ hcs Xah1 (Dah1 (Or.inl (wd hw 78 rfl)) (ty := (.array .byte)) (by decide +kernel)) (Dah1 (Or.inl (wd hw 80 rfl)) (ty := .byte) (by decide +kernel)) (Dah1 (Or.inl (wd hw 102 rfl)) (ty := .int) (by decide +kernel)) (Nat.le_trans (own_ge p0_) (Nat.le_of_eq gah1.symm))) dhts_4 (ps := []) (by decide +kernel) rfl rfl rfl (by decide) rfl (by decide) (by decide) (by decide) (by decide) rfl ?_
  rintro _ h2 ⟨vah2, kvh2, rfl, Kh2, gvah2, q0h2, q1h2, q2h2, q3h2, q4h2, q5h2⟩
  show Go pP l eE _ _ mM _ bB tT cC n0 _ h2 2 20 (mkF mM 7 #[.val (.ref t), .unset, .unset] [(.ref ah1)])
  have hsh2 : ∀ x ∈ [ah1], Safe Z consts_1 _ _ x := (allS (Kc0.safe Xah1 (by decide) (by decide)) all0)
  have Xh2 := Xh1.keep Kh2 hsh2
  have Svah2h2 := Safe.keep (EL := consts_1) Kh2 hsh2 Xh1.2.1 (Safe.new gvah2)
  refine go_astoreN (q := 8) K dhts_7 #[.val (.ref t), .val (.ref ah1), .unset] rfl rfl rfl ?_
  refine go_iconst (q := 9) K dhts_8 (0 : Int32) rfl rfl ?_
  refine go_istoreN (q := 10) K dhts_9 #[.val (.ref t), .val (.ref ah1), .val (.int (0 : Int32))] rfl rfl ?_
  refine go_iloadN (q := 11) K dhts_10 rfl rfl ?_
  refine go_aloadN (q := 12) K dhts_11 rfl rfl rfl ?_
  have f13 := ((p4_.ext Eh1).keep Kh2 (ninS (own_nel (p3_).lt (Nat.le_of_eq gah1.symm)) nin0))
  refine go_getF (q := 15) K (wd hw 55 rfl) Via.refl f13 dhts_12 rfl ?_
  have f14 := (f3.keep Kh2 (ninS (own_nel (p5_).lt (Nat.le_of_eq gah1.symm)) nin0))
  refine go_arraylength (q := 16) (z := (4 : Int32)) K f14 rfl dhts_15 rfl ?_
  refine go_icmp (q := 57) (q' := 19) K dhts_16 (by decide) rfl rfl (fun hn => cN_no hn (show (0 : Int32) < (4 : Int32) from (by decide))) (fun _ => ?_)
  refine go_aloadN (q := 20) K dhts_19 rfl rfl rfl ?_
  refine go_aloadN (q := 21) K dhts_20 rfl rfl rfl ?_
  refine go_getF (q := 24) K (wd hw 55 rfl) Via.refl f13 dhts_21 rfl ?_
  refine go_iloadN (q := 25) K dhts_24 rfl rfl ?_
  refine go_aaload (q := 26) K f14 rfl rfl (by decide) rfl dhts_25 rfl ?_
  have f15 := (f1.keep Kh2 (allS (Nat.le_trans (own_ge p0_) (Nat.le_of_eq gah1.symm)) all0))
  have f16 := (f4.keep Kh2)
  have f17 := ((p7_.ext Eh1).keep Kh2 (ninS (own_nel (p6_).lt (Nat.le_of_eq gah1.symm)) nin0))
  have f18 := ((p8_.ext Eh1).keep Kh2 (ninS (own_nel (p6_).lt (Nat.le_of_eq gah1.symm)) nin0))
  have f19 := (f5.keep Kh2 (ninS (own_nel (p9_).lt (Nat.le_of_eq gah1.symm)) nin0))
  refine go_callV (q := 29) (W := 0) K (wd hw 81 rfl) (wd hw 82 rfl) (wd hw 84 rfl) (wd hw 83 rfl) (wd hw 65 rfl) (wd hw 85 rfl) (wd hw 84 rfl) rfl q0h2 [(.ref s0)] [] (app0_1 l Z a0 hw _ _ _ _ _ _ _ _ _ n0 f15 p1_ hcs q0h2 q1h2 q2h2 q3h2 f16 f17 f18 f19 q4h2 (Nat.le_trans (own_ge p0_) (Nat.le_of_eq gah1.symm)) (Nat.le_trans (own_ge f1) gvah2) q5h2 ((own_nel (p6_).lt (Nat.le_of_eq gah1.symm))).symm ((own_nel (p9_).lt (Nat.le_of_eq gah1.symm))).symm hf_x0) dhts_26 (ps := [(.object "java/lang/String")]) (by decide +kernel) rfl rfl rfl (by decide) rfl (by decide) (by decide) (by decide) (by decide) rfl ?_
  rintro _ h3 ⟨rfl, Kh3, q0h3, q1h3, q2h3, q3h3, q4h3⟩
  show Go pP l eE _ _ mM _ bB tT cC n0 _ h3 2 20 (mkF mM 29 #[.val (.ref t), .val (.ref ah1), .val (.int (0 : Int32))] [(.ref ah1)])
  have hsh3 : ∀ x ∈ [ah1, vah2], Safe Z consts_1 _ _ x := (allS (Kc0.safe q0h2 (by decide) (by decide)) (allS Svah2h2 all0))
  have Xh3 := Xh2.keep Kh3 hsh3
  have Svah2h3 := Safe.keep Kh3 hsh3 Xh2.2.1 Svah2h2
  have f20 := ((f12.trans Kh2 (allS (Or.inr (Nat.le_trans ((Keep.refl h [])).1 (Nat.le_of_eq gah1.symm))) all0)).trans Kh3 (allS (Or.inr (Nat.le_trans ((Keep.refl h [])).1 (Nat.le_of_eq gah1.symm))) (allS (Or.inr (Nat.le_trans (f12).1 gvah2)) all0)))
  have f21 := (f15.keep Kh3 (allS (Nat.le_trans (own_ge p0_) (Nat.le_of_eq gah1.symm)) (allS (Nat.le_trans (own_ge f1) gvah2) all0)))
  refine go_ldcS (q := 31) (num := 8) (text := ": ") K Xh3 (ewn hw) (wSn hw) (wd hw 128 rfl) (by decide) [(.int (58 : Int32)), (.int (32 : Int32))] (2 : Int32) ⟨by decide, by decide⟩ (by decide) (by decide) (by decide) (by decide) (by decide) (by decide) dhts_29 rfl ?_
  intro vmh4 h4 lah4 lbh4 lkh4 Eh4 Kch4 Xh4 sfh4 nbh4 leh4 lch4 lvh4 lyh4
  have K := Kch4
  have Svah2h4 := sfh4 _ (q4h3).lt Svah2h3
  have f22 := (((f2.keep Kh2).keep Kh3).ext Eh4)
  have f23 := ((f14.keep Kh3 (ninS (own_nel (p5_).lt (Nat.le_of_eq gah1.symm)) (ninS (own_nel (f3).lt gvah2) nin0))).ext Eh4)
  have f24 := (q0h3.ext Eh4)
  have f25 := (f21.ext Eh4)
  have f26 := (q1h3.ext Eh4)
  have f27 := (q2h3.ext Eh4)
  have f28 := (q3h3.ext Eh4)
  have f29 := (q4h3.ext Eh4)
  refine go_callV (q := 34) (W := 0) K (wd hw 81 rfl) (wd hw 82 rfl) (wd hw 84 rfl) (wd hw 83 rfl) (wd hw 65 rfl) (wd hw 85 rfl) (wd hw 84 rfl) rfl f24 [(.ref lah4)] [] (app1_2 l Z a0 hw _ _ _ _ _ _ _ _ _ _ _ n0 f25 p1_ hcs f24 f26 f27 f28 leh4 lvh4 lch4 lyh4 f29 (Nat.le_trans (own_ge p0_) (Nat.le_of_eq gah1.symm)) (Nat.le_trans (own_ge f1) gvah2) q5h2 (nbh4 _ (Kch4.safe f24 (by decide) (by decide))).1 (nbh4 _ (Kch4.safe f24 (by decide) (by decide))).2 hf_x0 (by decide) (by decide)) dhts_31 (ps := [(.object "java/lang/String")]) (by decide +kernel) rfl rfl rfl (by decide) rfl (by decide) (by decide) (by decide) (by decide) rfl ?_
  rintro _ h5 ⟨rfl, Kh5, q0h5, q1h5, q2h5, q3h5, q4h5⟩
  show Go pP l eE _ _ mM _ bB tT cC n0 _ h5 4 32 (mkF mM 34 #[.val (.ref t), .val (.ref ah1), .val (.int (0 : Int32))] [(.ref ah1)])
  have hsh5 : ∀ x ∈ [ah1, vah2], Safe Z consts_1 _ _ x := (allS (Kch4.safe f24 (by decide) (by decide)) (allS Svah2h4 all0))
  have Xh5 := Xh4.keep Kh5 hsh5
  have Svah2h5 := Safe.keep Kh5 hsh5 Xh4.2.1 Svah2h4
  refine go_aloadN (q := 35) K dhts_34 rfl rfl rfl ?_
  have f30 := (((f13.keep Kh3 (ninS (own_nel (p3_).lt (Nat.le_of_eq gah1.symm)) (ninS (own_nel (f2).lt gvah2) nin0))).ext Eh4).keep Kh5 (ninS (own_nel (p3_).lt (Nat.le_of_eq gah1.symm)) (ninS (own_nel (f2).lt gvah2) nin0)))
  refine go_getF (q := 38) K (wd hw 55 rfl) Via.refl f30 dhts_35 rfl ?_
  refine go_iloadN (q := 39) K dhts_38 rfl rfl ?_
  refine go_iconst (q := 40) K dhts_39 (1 : Int32) rfl rfl ?_
  refine go_iadd (q := 41) K dhts_40 rfl ?_
  refine go_eqI (y := (1 : Int32)) (by decide) ?_
  have f31 := (f23.keep Kh5 (ninS (own_nel (p5_).lt (Nat.le_of_eq gah1.symm)) (ninS (own_nel (f3).lt gvah2) nin0)))
  refine go_aaload (q := 42) K f31 rfl rfl (by decide) rfl dhts_41 rfl ?_
  have f32 := (f25.keep Kh5 (allS (Nat.le_trans (own_ge p0_) (Nat.le_of_eq gah1.symm)) (allS (Nat.le_trans (own_ge f1) gvah2) all0)))
  have f33 := ((((f6.keep Kh2).keep Kh3).ext Eh4).keep Kh5)
  have f34 := (((((p11_.ext Eh1).keep Kh2 (ninS (own_nel (p10_).lt (Nat.le_of_eq gah1.symm)) nin0)).keep Kh3 (ninS (own_nel (p10_).lt (Nat.le_of_eq gah1.symm)) (ninS (own_nel (f6).lt gvah2) nin0))).ext Eh4).keep Kh5 (ninS (own_nel (p10_).lt (Nat.le_of_eq gah1.symm)) (ninS (own_nel (f6).lt gvah2) nin0)))
  have f35 := (((((p12_.ext Eh1).keep Kh2 (ninS (own_nel (p10_).lt (Nat.le_of_eq gah1.symm)) nin0)).keep Kh3 (ninS (own_nel (p10_).lt (Nat.le_of_eq gah1.symm)) (ninS (own_nel (f6).lt gvah2) nin0))).ext Eh4).keep Kh5 (ninS (own_nel (p10_).lt (Nat.le_of_eq gah1.symm)) (ninS (own_nel (f6).lt gvah2) nin0)))
  have f36 := ((((f7.keep Kh2 (ninS (own_nel (p13_).lt (Nat.le_of_eq gah1.symm)) nin0)).keep Kh3 (ninS (own_nel (p13_).lt (Nat.le_of_eq gah1.symm)) (ninS (own_nel (f7).lt gvah2) nin0))).ext Eh4).keep Kh5 (ninS (own_nel (p13_).lt (Nat.le_of_eq gah1.symm)) (ninS (own_nel (f7).lt gvah2) nin0)))
  refine go_callV (q := 45) (W := 0) K (wd hw 81 rfl) (wd hw 82 rfl) (wd hw 84 rfl) (wd hw 83 rfl) (wd hw 65 rfl) (wd hw 85 rfl) (wd hw 84 rfl) rfl q0h5 [(.ref s1)] [] (app3_1 l Z a0 hw _ _ _ _ _ _ _ _ _ _ _ _ n0 f32 p1_ hcs q0h5 q1h5 q2h5 q3h5 f33 f34 f35 f36 q4h5 (Nat.le_trans (own_ge p0_) (Nat.le_of_eq gah1.symm)) (Nat.le_trans (own_ge f1) gvah2) q5h2 ((own_nel (p10_).lt (Nat.le_of_eq gah1.symm))).symm ((own_nel (p13_).lt (Nat.le_of_eq gah1.symm))).symm hf_x0 (by decide) (by decide) hf_x1) dhts_42 (ps := [(.object "java/lang/String")]) (by decide +kernel) rfl rfl rfl (by decide) rfl (by decide) (by decide) (by decide) (by decide) rfl ?_
  rintro _ h6 ⟨rfl, Kh6, q0h6, q1h6, q2h6, q3h6, q4h6⟩
  show Go pP l eE _ _ mM _ bB tT cC n0 _ h6 4 32 (mkF mM 45 #[.val (.ref t), .val (.ref ah1), .val (.int (0 : Int32))] [(.ref ah1)])
  have hsh6 : ∀ x ∈ [ah1, vah2], Safe Z consts_1 _ _ x := (allS (Kch4.safe q0h5 (by decide) (by decide)) (allS Svah2h5 all0))
  have Xh6 := Xh5.keep Kh6 hsh6
  have Svah2h6 := Safe.keep Kh6 hsh6 Xh5.2.1 Svah2h5
  refine go_bipush (q := 47) K dhts_45 (10 : Int32) rfl rfl ?_
  have f37 := (f32.keep Kh6 (allS (Nat.le_trans (own_ge p0_) (Nat.le_of_eq gah1.symm)) (allS (Nat.le_trans (own_ge f1) gvah2) all0)))
  refine go_callV (q := 50) (W := 0) K (wd hw 129 rfl) (wd hw 130 rfl) (wd hw 132 rfl) (wd hw 131 rfl) (wd hw 65 rfl) (wd hw 133 rfl) (wd hw 84 rfl) rfl q0h6 [(.int (10 : Int32))] [] (apc4_10 l Z a0 hw _ _ _ _ _ _ _ _ _ n0 f37 p1_ hcs q0h6 q1h6 q2h6 q3h6 q4h6 (Nat.le_trans (own_ge p0_) (Nat.le_of_eq gah1.symm)) (Nat.le_trans (own_ge f1) gvah2) q5h2) dhts_47 (ps := [.char]) (by decide +kernel) rfl rfl rfl (by decide) rfl (by decide) (by decide) (by decide) (by decide) rfl ?_
  rintro _ h7 ⟨rfl, Kh7, q0h7, q1h7, q2h7, q3h7, q4h7⟩
  show Go pP l eE _ _ mM _ bB tT cC n0 _ h7 4 32 (mkF mM 50 #[.val (.ref t), .val (.ref ah1), .val (.int (0 : Int32))] [(.ref ah1)])
  have hsh7 : ∀ x ∈ [ah1, vah2], Safe Z consts_1 _ _ x := (allS (Kch4.safe q0h6 (by decide) (by decide)) (allS Svah2h6 all0))
  have Xh7 := Xh6.keep Kh7 hsh7
  have Svah2h7 := Safe.keep Kh7 hsh7 Xh6.2.1 Svah2h6
  refine go_pop (q := 51) K dhts_50 rfl rfl ?_
  refine go_iinc (q := 54) K dhts_51 (2 : Int32) #[.val (.ref t), .val (.ref ah1), .val (.int (2 : Int32))] rfl rfl rfl rfl ?_
  refine go_goto (q := 10) K dhts_54 (by decide) rfl ?_
  refine go_iloadN (q := 11) K dhts_10 rfl rfl ?_
  refine go_aloadN (q := 12) K dhts_11 rfl rfl rfl ?_
  have f38 := ((f30.keep Kh6 (ninS (own_nel (p3_).lt (Nat.le_of_eq gah1.symm)) (ninS (own_nel (f2).lt gvah2) nin0))).keep Kh7 (ninS (own_nel (p3_).lt (Nat.le_of_eq gah1.symm)) (ninS (own_nel (f2).lt gvah2) nin0)))
  refine go_getF (q := 15) K (wd hw 55 rfl) Via.refl f38 dhts_12 rfl ?_
  have f39 := ((f31.keep Kh6 (ninS (own_nel (p5_).lt (Nat.le_of_eq gah1.symm)) (ninS (own_nel (f3).lt gvah2) nin0))).keep Kh7 (ninS (own_nel (p5_).lt (Nat.le_of_eq gah1.symm)) (ninS (own_nel (f3).lt gvah2) nin0)))
  refine go_arraylength (q := 16) (z := (4 : Int32)) K f39 rfl dhts_15 rfl ?_
  refine go_icmp (q := 57) (q' := 19) K dhts_16 (by decide) rfl rfl (fun hn => cN_no hn (show (2 : Int32) < (4 : Int32) from (by decide))) (fun _ => ?_)
  refine go_aloadN (q := 20) K dhts_19 rfl rfl rfl ?_
  refine go_aloadN (q := 21) K dhts_20 rfl rfl rfl ?_
  refine go_getF (q := 24) K (wd hw 55 rfl) Via.refl f38 dhts_21 rfl ?_
  refine go_iloadN (q := 25) K dhts_24 rfl rfl ?_
  refine go_aaload (q := 26) K f39 rfl rfl (by decide) rfl dhts_25 rfl ?_
  have f40 := (f37.keep Kh7 (allS (Nat.le_trans (own_ge p0_) (Nat.le_of_eq gah1.symm)) (allS (Nat.le_trans (own_ge f1) gvah2) all0)))
  have f41 := ((((((f8.keep Kh2).keep Kh3).ext Eh4).keep Kh5).keep Kh6).keep Kh7)
  have f42 := (((((((p15_.ext Eh1).keep Kh2 (ninS (own_nel (p14_).lt (Nat.le_of_eq gah1.symm)) nin0)).keep Kh3 (ninS (own_nel (p14_).lt (Nat.le_of_eq gah1.symm)) (ninS (own_nel (f8).lt gvah2) nin0))).ext Eh4).keep Kh5 (ninS (own_nel (p14_).lt (Nat.le_of_eq gah1.symm)) (ninS (own_nel (f8).lt gvah2) nin0))).keep Kh6 (ninS (own_nel (p14_).lt (Nat.le_of_eq gah1.symm)) (ninS (own_nel (f8).lt gvah2) nin0))).keep Kh7 (ninS (own_nel (p14_).lt (Nat.le_of_eq gah1.symm)) (ninS (own_nel (f8).lt gvah2) nin0)))
  have f43 := (((((((p16_.ext Eh1).keep Kh2 (ninS (own_nel (p14_).lt (Nat.le_of_eq gah1.symm)) nin0)).keep Kh3 (ninS (own_nel (p14_).lt (Nat.le_of_eq gah1.symm)) (ninS (own_nel (f8).lt gvah2) nin0))).ext Eh4).keep Kh5 (ninS (own_nel (p14_).lt (Nat.le_of_eq gah1.symm)) (ninS (own_nel (f8).lt gvah2) nin0))).keep Kh6 (ninS (own_nel (p14_).lt (Nat.le_of_eq gah1.symm)) (ninS (own_nel (f8).lt gvah2) nin0))).keep Kh7 (ninS (own_nel (p14_).lt (Nat.le_of_eq gah1.symm)) (ninS (own_nel (f8).lt gvah2) nin0)))
  have f44 := ((((((f9.keep Kh2 (ninS (own_nel (p17_).lt (Nat.le_of_eq gah1.symm)) nin0)).keep Kh3 (ninS (own_nel (p17_).lt (Nat.le_of_eq gah1.symm)) (ninS (own_nel (f9).lt gvah2) nin0))).ext Eh4).keep Kh5 (ninS (own_nel (p17_).lt (Nat.le_of_eq gah1.symm)) (ninS (own_nel (f9).lt gvah2) nin0))).keep Kh6 (ninS (own_nel (p17_).lt (Nat.le_of_eq gah1.symm)) (ninS (own_nel (f9).lt gvah2) nin0))).keep Kh7 (ninS (own_nel (p17_).lt (Nat.le_of_eq gah1.symm)) (ninS (own_nel (f9).lt gvah2) nin0)))
  refine go_callV (q := 29) (W := 0) K (wd hw 81 rfl) (wd hw 82 rfl) (wd hw 84 rfl) (wd hw 83 rfl) (wd hw 65 rfl) (wd hw 85 rfl) (wd hw 84 rfl) rfl q0h7 [(.ref s2)] [] (app5_1 l Z a0 hw _ _ _ _ _ _ _ _ _ _ _ _ _ _ n0 f40 p1_ hcs q0h7 q1h7 q2h7 q3h7 f41 f42 f43 f44 q4h7 (Nat.le_trans (own_ge p0_) (Nat.le_of_eq gah1.symm)) (Nat.le_trans (own_ge f1) gvah2) q5h2 ((own_nel (p14_).lt (Nat.le_of_eq gah1.symm))).symm ((own_nel (p17_).lt (Nat.le_of_eq gah1.symm))).symm hf_x0 (by decide) (by decide) hf_x1 (fits_nar _) hf_x2) dhts_26 (ps := [(.object "java/lang/String")]) (by decide +kernel) rfl rfl rfl (by decide) rfl (by decide) (by decide) (by decide) (by decide) rfl ?_
  rintro _ h8 ⟨rfl, Kh8, q0h8, q1h8, q2h8, q3h8, q4h8⟩
  show Go pP l eE _ _ mM _ bB tT cC n0 _ h8 4 32 (mkF mM 29 #[.val (.ref t), .val (.ref ah1), .val (.int (2 : Int32))] [(.ref ah1)])
  have hsh8 : ∀ x ∈ [ah1, vah2], Safe Z consts_1 _ _ x := (allS (Kch4.safe q0h7 (by decide) (by decide)) (allS Svah2h7 all0))
  have Xh8 := Xh7.keep Kh8 hsh8
  have Svah2h8 := Safe.keep Kh8 hsh8 Xh7.2.1 Svah2h7
  have f45 := (((((f20.ext Eh4).trans Kh5 (allS (Or.inr (Nat.le_trans ((Keep.refl h [])).1 (Nat.le_of_eq gah1.symm))) (allS (Or.inr (Nat.le_trans (f12).1 gvah2)) all0))).trans Kh6 (allS (Or.inr (Nat.le_trans ((Keep.refl h [])).1 (Nat.le_of_eq gah1.symm))) (allS (Or.inr (Nat.le_trans (f12).1 gvah2)) all0))).trans Kh7 (allS (Or.inr (Nat.le_trans ((Keep.refl h [])).1 (Nat.le_of_eq gah1.symm))) (allS (Or.inr (Nat.le_trans (f12).1 gvah2)) all0))).trans Kh8 (allS (Or.inr (Nat.le_trans ((Keep.refl h [])).1 (Nat.le_of_eq gah1.symm))) (allS (Or.inr (Nat.le_trans (f12).1 gvah2)) all0)))
  have f46 := (f40.keep Kh8 (allS (Nat.le_trans (own_ge p0_) (Nat.le_of_eq gah1.symm)) (allS (Nat.le_trans (own_ge f1) gvah2) all0)))
  refine go_ldcS (q := 31) (num := 8) (text := ": ") K Xh8 (ewn hw) (wSn hw) (wd hw 128 rfl) (by decide) [(.int (58 : Int32)), (.int (32 : Int32))] (2 : Int32) ⟨by decide, by decide⟩ (by decide) (by decide) (by decide) (by decide) (by decide) (by decide) dhts_29 rfl ?_
  intro vmh9 h9 lah9 lbh9 lkh9 Eh9 Kch9 Xh9 sfh9 nbh9 leh9 lch9 lvh9 lyh9
  have K := Kch9
  have Svah2h9 := sfh9 _ (q4h8).lt Svah2h8
  have f47 := (((((f22.keep Kh5).keep Kh6).keep Kh7).keep Kh8).ext Eh9)
  have f48 := ((f39.keep Kh8 (ninS (own_nel (p5_).lt (Nat.le_of_eq gah1.symm)) (ninS (own_nel (f3).lt gvah2) nin0))).ext Eh9)
  have f49 := (q0h8.ext Eh9)
  have f50 := (f46.ext Eh9)
  have f51 := (q1h8.ext Eh9)
  have f52 := (q2h8.ext Eh9)
  have f53 := (q3h8.ext Eh9)
  have f54 := (q4h8.ext Eh9)
  refine go_callV (q := 34) (W := 0) K (wd hw 81 rfl) (wd hw 82 rfl) (wd hw 84 rfl) (wd hw 83 rfl) (wd hw 65 rfl) (wd hw 85 rfl) (wd hw 84 rfl) rfl f49 [(.ref lah9)] [] (app6_2 l Z a0 hw _ _ _ _ _ _ _ _ _ _ _ _ _ _ _ _ n0 f50 p1_ hcs f49 f51 f52 f53 leh9 lvh9 lch9 lyh9 f54 (Nat.le_trans (own_ge p0_) (Nat.le_of_eq gah1.symm)) (Nat.le_trans (own_ge f1) gvah2) q5h2 (nbh9 _ (Kch9.safe f49 (by decide) (by decide))).1 (nbh9 _ (Kch9.safe f49 (by decide) (by decide))).2 hf_x0 (by decide) (by decide) hf_x1 (fits_nar _) hf_x2 (by decide) (by decide)) dhts_31 (ps := [(.object "java/lang/String")]) (by decide +kernel) rfl rfl rfl (by decide) rfl (by decide) (by decide) (by decide) (by decide) rfl ?_
  rintro _ h10 ⟨rfl, Kh10, q0h10, q1h10, q2h10, q3h10, q4h10⟩
  show Go pP l eE _ _ mM _ bB tT cC n0 _ h10 6 44 (mkF mM 34 #[.val (.ref t), .val (.ref ah1), .val (.int (2 : Int32))] [(.ref ah1)])
  have hsh10 : ∀ x ∈ [ah1, vah2], Safe Z consts_1 _ _ x := (allS (Kch9.safe f49 (by decide) (by decide)) (allS Svah2h9 all0))
  have Xh10 := Xh9.keep Kh10 hsh10
  have Svah2h10 := Safe.keep Kh10 hsh10 Xh9.2.1 Svah2h9
  refine go_aloadN (q := 35) K dhts_34 rfl rfl rfl ?_
  have f55 := (((f38.keep Kh8 (ninS (own_nel (p3_).lt (Nat.le_of_eq gah1.symm)) (ninS (own_nel (f2).lt gvah2) nin0))).ext Eh9).keep Kh10 (ninS (own_nel (p3_).lt (Nat.le_of_eq gah1.symm)) (ninS (own_nel (f2).lt gvah2) nin0)))
  refine go_getF (q := 38) K (wd hw 55 rfl) Via.refl f55 dhts_35 rfl ?_
  refine go_iloadN (q := 39) K dhts_38 rfl rfl ?_
  refine go_iconst (q := 40) K dhts_39 (1 : Int32) rfl rfl ?_
  refine go_iadd (q := 41) K dhts_40 rfl ?_
  refine go_eqI (y := (3 : Int32)) (by decide) ?_
  have f56 := (f48.keep Kh10 (ninS (own_nel (p5_).lt (Nat.le_of_eq gah1.symm)) (ninS (own_nel (f3).lt gvah2) nin0)))
  refine go_aaload (q := 42) K f56 rfl rfl (by decide) rfl dhts_41 rfl ?_
  have f57 := (f50.keep Kh10 (allS (Nat.le_trans (own_ge p0_) (Nat.le_of_eq gah1.symm)) (allS (Nat.le_trans (own_ge f1) gvah2) all0)))
  have f58 := (((((((((f10.keep Kh2).keep Kh3).ext Eh4).keep Kh5).keep Kh6).keep Kh7).keep Kh8).ext Eh9).keep Kh10)
  have f59 := ((((((((((p19_.ext Eh1).keep Kh2 (ninS (own_nel (p18_).lt (Nat.le_of_eq gah1.symm)) nin0)).keep Kh3 (ninS (own_nel (p18_).lt (Nat.le_of_eq gah1.symm)) (ninS (own_nel (f10).lt gvah2) nin0))).ext Eh4).keep Kh5 (ninS (own_nel (p18_).lt (Nat.le_of_eq gah1.symm)) (ninS (own_nel (f10).lt gvah2) nin0))).keep Kh6 (ninS (own_nel (p18_).lt (Nat.le_of_eq gah1.symm)) (ninS (own_nel (f10).lt gvah2) nin0))).keep Kh7 (ninS (own_nel (p18_).lt (Nat.le_of_eq gah1.symm)) (ninS (own_nel (f10).lt gvah2) nin0))).keep Kh8 (ninS (own_nel (p18_).lt (Nat.le_of_eq gah1.symm)) (ninS (own_nel (f10).lt gvah2) nin0))).ext Eh9).keep Kh10 (ninS (own_nel (p18_).lt (Nat.le_of_eq gah1.symm)) (ninS (own_nel (f10).lt gvah2) nin0)))
  have f60 := ((((((((((p20_.ext Eh1).keep Kh2 (ninS (own_nel (p18_).lt (Nat.le_of_eq gah1.symm)) nin0)).keep Kh3 (ninS (own_nel (p18_).lt (Nat.le_of_eq gah1.symm)) (ninS (own_nel (f10).lt gvah2) nin0))).ext Eh4).keep Kh5 (ninS (own_nel (p18_).lt (Nat.le_of_eq gah1.symm)) (ninS (own_nel (f10).lt gvah2) nin0))).keep Kh6 (ninS (own_nel (p18_).lt (Nat.le_of_eq gah1.symm)) (ninS (own_nel (f10).lt gvah2) nin0))).keep Kh7 (ninS (own_nel (p18_).lt (Nat.le_of_eq gah1.symm)) (ninS (own_nel (f10).lt gvah2) nin0))).keep Kh8 (ninS (own_nel (p18_).lt (Nat.le_of_eq gah1.symm)) (ninS (own_nel (f10).lt gvah2) nin0))).ext Eh9).keep Kh10 (ninS (own_nel (p18_).lt (Nat.le_of_eq gah1.symm)) (ninS (own_nel (f10).lt gvah2) nin0)))
  have f61 := (((((((((f11.keep Kh2 (ninS (own_nel (p21_).lt (Nat.le_of_eq gah1.symm)) nin0)).keep Kh3 (ninS (own_nel (p21_).lt (Nat.le_of_eq gah1.symm)) (ninS (own_nel (f11).lt gvah2) nin0))).ext Eh4).keep Kh5 (ninS (own_nel (p21_).lt (Nat.le_of_eq gah1.symm)) (ninS (own_nel (f11).lt gvah2) nin0))).keep Kh6 (ninS (own_nel (p21_).lt (Nat.le_of_eq gah1.symm)) (ninS (own_nel (f11).lt gvah2) nin0))).keep Kh7 (ninS (own_nel (p21_).lt (Nat.le_of_eq gah1.symm)) (ninS (own_nel (f11).lt gvah2) nin0))).keep Kh8 (ninS (own_nel (p21_).lt (Nat.le_of_eq gah1.symm)) (ninS (own_nel (f11).lt gvah2) nin0))).ext Eh9).keep Kh10 (ninS (own_nel (p21_).lt (Nat.le_of_eq gah1.symm)) (ninS (own_nel (f11).lt gvah2) nin0)))
  refine go_callV (q := 45) (W := 0) K (wd hw 81 rfl) (wd hw 82 rfl) (wd hw 84 rfl) (wd hw 83 rfl) (wd hw 65 rfl) (wd hw 85 rfl) (wd hw 84 rfl) rfl q0h10 [(.ref s3)] [] (app8_1 l Z a0 hw _ _ _ _ _ _ _ _ _ _ _ _ _ _ _ _ _ n0 f57 p1_ hcs q0h10 q1h10 q2h10 q3h10 f58 f59 f60 f61 q4h10 (Nat.le_trans (own_ge p0_) (Nat.le_of_eq gah1.symm)) (Nat.le_trans (own_ge f1) gvah2) q5h2 ((own_nel (p18_).lt (Nat.le_of_eq gah1.symm))).symm ((own_nel (p21_).lt (Nat.le_of_eq gah1.symm))).symm hf_x0 (by decide) (by decide) hf_x1 (fits_nar _) hf_x2 (by decide) (by decide) hf_x3) dhts_42 (ps := [(.object "java/lang/String")]) (by decide +kernel) rfl rfl rfl (by decide) rfl (by decide) (by decide) (by decide) (by decide) rfl ?_
  rintro _ h11 ⟨rfl, Kh11, q0h11, q1h11, q2h11, q3h11, q4h11⟩
  show Go pP l eE _ _ mM _ bB tT cC n0 _ h11 6 44 (mkF mM 45 #[.val (.ref t), .val (.ref ah1), .val (.int (2 : Int32))] [(.ref ah1)])
  have hsh11 : ∀ x ∈ [ah1, vah2], Safe Z consts_1 _ _ x := (allS (Kch9.safe q0h10 (by decide) (by decide)) (allS Svah2h10 all0))
  have Xh11 := Xh10.keep Kh11 hsh11
  have Svah2h11 := Safe.keep Kh11 hsh11 Xh10.2.1 Svah2h10
  refine go_bipush (q := 47) K dhts_45 (10 : Int32) rfl rfl ?_
  have f62 := (f57.keep Kh11 (allS (Nat.le_trans (own_ge p0_) (Nat.le_of_eq gah1.symm)) (allS (Nat.le_trans (own_ge f1) gvah2) all0)))
  refine go_callV (q := 50) (W := 0) K (wd hw 129 rfl) (wd hw 130 rfl) (wd hw 132 rfl) (wd hw 131 rfl) (wd hw 65 rfl) (wd hw 133 rfl) (wd hw 84 rfl) rfl q0h11 [(.int (10 : Int32))] [] (apc9_10 l Z a0 hw _ _ _ _ _ _ _ _ _ _ _ _ _ _ n0 f62 p1_ hcs q0h11 q1h11 q2h11 q3h11 q4h11 (Nat.le_trans (own_ge p0_) (Nat.le_of_eq gah1.symm)) (Nat.le_trans (own_ge f1) gvah2) q5h2) dhts_47 (ps := [.char]) (by decide +kernel) rfl rfl rfl (by decide) rfl (by decide) (by decide) (by decide) (by decide) rfl ?_
  rintro _ h12 ⟨rfl, Kh12, q0h12, q1h12, q2h12, q3h12, q4h12⟩
  show Go pP l eE _ _ mM _ bB tT cC n0 _ h12 6 44 (mkF mM 50 #[.val (.ref t), .val (.ref ah1), .val (.int (2 : Int32))] [(.ref ah1)])
  have hsh12 : ∀ x ∈ [ah1, vah2], Safe Z consts_1 _ _ x := (allS (Kch9.safe q0h11 (by decide) (by decide)) (allS Svah2h11 all0))
  have Xh12 := Xh11.keep Kh12 hsh12
  have Svah2h12 := Safe.keep Kh12 hsh12 Xh11.2.1 Svah2h11
  refine go_pop (q := 51) K dhts_50 rfl rfl ?_
  refine go_iinc (q := 54) K dhts_51 (2 : Int32) #[.val (.ref t), .val (.ref ah1), .val (.int (4 : Int32))] rfl rfl rfl rfl ?_
  refine go_goto (q := 10) K dhts_54 (by decide) rfl ?_
  refine go_iloadN (q := 11) K dhts_10 rfl rfl ?_
  refine go_aloadN (q := 12) K dhts_11 rfl rfl rfl ?_
  have f63 := ((f55.keep Kh11 (ninS (own_nel (p3_).lt (Nat.le_of_eq gah1.symm)) (ninS (own_nel (f2).lt gvah2) nin0))).keep Kh12 (ninS (own_nel (p3_).lt (Nat.le_of_eq gah1.symm)) (ninS (own_nel (f2).lt gvah2) nin0)))
  refine go_getF (q := 15) K (wd hw 55 rfl) Via.refl f63 dhts_12 rfl ?_
  have f64 := ((f56.keep Kh11 (ninS (own_nel (p5_).lt (Nat.le_of_eq gah1.symm)) (ninS (own_nel (f3).lt gvah2) nin0))).keep Kh12 (ninS (own_nel (p5_).lt (Nat.le_of_eq gah1.symm)) (ninS (own_nel (f3).lt gvah2) nin0)))
  refine go_arraylength (q := 16) (z := (4 : Int32)) K f64 rfl dhts_15 rfl ?_
  refine go_icmp (q := 57) (q' := 19) K dhts_16 (by decide) rfl rfl (fun _ => ?_) (fun hn => cN_no2 hn (show ¬ (4 : Int32) < (4 : Int32) from (by decide)))
  refine go_aloadN (q := 58) K dhts_57 rfl rfl rfl ?_
  have f65 := (f62.keep Kh12 (allS (Nat.le_trans (own_ge p0_) (Nat.le_of_eq gah1.symm)) (allS (Nat.le_trans (own_ge f1) gvah2) all0)))
  have f66 := (((f47.keep Kh10).keep Kh11).keep Kh12)
  have f67 := ((((((((((f16.keep Kh3).ext Eh4).keep Kh5).keep Kh6).keep Kh7).keep Kh8).ext Eh9).keep Kh10).keep Kh11).keep Kh12)
  have f68 := ((((((((((f19.keep Kh3 (ninS (own_nel (p9_).lt (Nat.le_of_eq gah1.symm)) (ninS (own_nel (f5).lt gvah2) nin0))).ext Eh4).keep Kh5 (ninS (own_nel (p9_).lt (Nat.le_of_eq gah1.symm)) (ninS (own_nel (f5).lt gvah2) nin0))).keep Kh6 (ninS (own_nel (p9_).lt (Nat.le_of_eq gah1.symm)) (ninS (own_nel (f5).lt gvah2) nin0))).keep Kh7 (ninS (own_nel (p9_).lt (Nat.le_of_eq gah1.symm)) (ninS (own_nel (f5).lt gvah2) nin0))).keep Kh8 (ninS (own_nel (p9_).lt (Nat.le_of_eq gah1.symm)) (ninS (own_nel (f5).lt gvah2) nin0))).ext Eh9).keep Kh10 (ninS (own_nel (p9_).lt (Nat.le_of_eq gah1.symm)) (ninS (own_nel (f5).lt gvah2) nin0))).keep Kh11 (ninS (own_nel (p9_).lt (Nat.le_of_eq gah1.symm)) (ninS (own_nel (f5).lt gvah2) nin0))).keep Kh12 (ninS (own_nel (p9_).lt (Nat.le_of_eq gah1.symm)) (ninS (own_nel (f5).lt gvah2) nin0)))
  have f69 := (((((((f33.keep Kh6).keep Kh7).keep Kh8).ext Eh9).keep Kh10).keep Kh11).keep Kh12)
  have f70 := (((((((f36.keep Kh6 (ninS (own_nel (p13_).lt (Nat.le_of_eq gah1.symm)) (ninS (own_nel (f7).lt gvah2) nin0))).keep Kh7 (ninS (own_nel (p13_).lt (Nat.le_of_eq gah1.symm)) (ninS (own_nel (f7).lt gvah2) nin0))).keep Kh8 (ninS (own_nel (p13_).lt (Nat.le_of_eq gah1.symm)) (ninS (own_nel (f7).lt gvah2) nin0))).ext Eh9).keep Kh10 (ninS (own_nel (p13_).lt (Nat.le_of_eq gah1.symm)) (ninS (own_nel (f7).lt gvah2) nin0))).keep Kh11 (ninS (own_nel (p13_).lt (Nat.le_of_eq gah1.symm)) (ninS (own_nel (f7).lt gvah2) nin0))).keep Kh12 (ninS (own_nel (p13_).lt (Nat.le_of_eq gah1.symm)) (ninS (own_nel (f7).lt gvah2) nin0)))
  have f71 := (((((f41.keep Kh8).ext Eh9).keep Kh10).keep Kh11).keep Kh12)
  have f72 := (((((f44.keep Kh8 (ninS (own_nel (p17_).lt (Nat.le_of_eq gah1.symm)) (ninS (own_nel (f9).lt gvah2) nin0))).ext Eh9).keep Kh10 (ninS (own_nel (p17_).lt (Nat.le_of_eq gah1.symm)) (ninS (own_nel (f9).lt gvah2) nin0))).keep Kh11 (ninS (own_nel (p17_).lt (Nat.le_of_eq gah1.symm)) (ninS (own_nel (f9).lt gvah2) nin0))).keep Kh12 (ninS (own_nel (p17_).lt (Nat.le_of_eq gah1.symm)) (ninS (own_nel (f9).lt gvah2) nin0)))
  have f73 := ((f58.keep Kh11).keep Kh12)
  have f74 := ((f61.keep Kh11 (ninS (own_nel (p21_).lt (Nat.le_of_eq gah1.symm)) (ninS (own_nel (f11).lt gvah2) nin0))).keep Kh12 (ninS (own_nel (p21_).lt (Nat.le_of_eq gah1.symm)) (ninS (own_nel (f11).lt gvah2) nin0)))
  have f75 := ((((((((leh4.keep Kh5).keep Kh6).keep Kh7).keep Kh8).ext Eh9).keep Kh10).keep Kh11).keep Kh12)
  have f76 := ((((((((lyh4.keep Kh5 (ninS ((nbh4 _ (Kch4.safe f24 (by decide) (by decide))).2).symm (ninS ((nbh4 _ Svah2h4).2).symm nin0))).keep Kh6 (ninS ((nbh4 _ (Kch4.safe f24 (by decide) (by decide))).2).symm (ninS ((nbh4 _ Svah2h4).2).symm nin0))).keep Kh7 (ninS ((nbh4 _ (Kch4.safe f24 (by decide) (by decide))).2).symm (ninS ((nbh4 _ Svah2h4).2).symm nin0))).keep Kh8 (ninS ((nbh4 _ (Kch4.safe f24 (by decide) (by decide))).2).symm (ninS ((nbh4 _ Svah2h4).2).symm nin0))).ext Eh9).keep Kh10 (ninS ((nbh4 _ (Kch4.safe f24 (by decide) (by decide))).2).symm (ninS ((nbh4 _ Svah2h4).2).symm nin0))).keep Kh11 (ninS ((nbh4 _ (Kch4.safe f24 (by decide) (by decide))).2).symm (ninS ((nbh4 _ Svah2h4).2).symm nin0))).keep Kh12 (ninS ((nbh4 _ (Kch4.safe f24 (by decide) (by decide))).2).symm (ninS ((nbh4 _ Svah2h4).2).symm nin0)))
  have f77 := (((leh9.keep Kh10).keep Kh11).keep Kh12)
  have f78 := (((lyh9.keep Kh10 (ninS ((nbh9 _ (Kch9.safe f49 (by decide) (by decide))).2).symm (ninS ((nbh9 _ Svah2h9).2).symm nin0))).keep Kh11 (ninS ((nbh9 _ (Kch9.safe f49 (by decide) (by decide))).2).symm (ninS ((nbh9 _ Svah2h9).2).symm nin0))).keep Kh12 (ninS ((nbh9 _ (Kch9.safe f49 (by decide) (by decide))).2).symm (ninS ((nbh9 _ Svah2h9).2).symm nin0)))
  have f79 := ((((f45.ext Eh9).trans Kh10 (allS (Or.inr (Nat.le_trans ((Keep.refl h [])).1 (Nat.le_of_eq gah1.symm))) (allS (Or.inr (Nat.le_trans (f12).1 gvah2)) all0))).trans Kh11 (allS (Or.inr (Nat.le_trans ((Keep.refl h [])).1 (Nat.le_of_eq gah1.symm))) (allS (Or.inr (Nat.le_trans (f12).1 gvah2)) all0))).trans Kh12 (allS (Or.inr (Nat.le_trans ((Keep.refl h [])).1 (Nat.le_of_eq gah1.symm))) (allS (Or.inr (Nat.le_trans (f12).1 gvah2)) all0)))
  refine go_callV (q := 61) (W := 0) K (wd hw 144 rfl) (wd hw 145 rfl) (wd hw 147 rfl) (wd hw 146 rfl) (wd hw 65 rfl) (wd hw 148 rfl) (wd hw 84 rfl) rfl q0h12 [] [] (ts10 l Z a0 hw _ _ _ _ _ _ _ _ _ _ _ _ _ _ _ n0 f65 p1_ hcs q0h12 q1h12 q2h12 q3h12 q4h12 hf_x0 (by decide) (by decide) hf_x1 (fits_nar _) hf_x2 (by decide) (by decide) hf_x3 (fits_nar _)) dhts_58 (ps := []) (by decide +kernel) rfl rfl rfl (by decide) rfl (by decide) (by decide) (by decide) (by decide) rfl ?_
  rintro _ h13 ⟨ah13, bh13, kbh13, rfl, Kh13, gah13, gbh13, q0h13, q1h13, q2h13, q3h13, q4h13⟩
  show Go pP l eE _ _ mM _ bB tT cC n0 _ h13 8 58 (mkF mM 61 #[.val (.ref t), .val (.ref ah1), .val (.int (4 : Int32))] [(.ref ah13)])
  have Xh13 := Xh12.keep Kh13 all0
  have Svah2h13 := Safe.keep Kh13 all0 Xh12.2.1 Svah2h12
  refine gw_aret K Xh13 (ewn hw) dhts_61 rfl rfl rfl rfl (by decide) (by decide) ?_
  have f80 := (f79.trans Kh13 all0)
  exact ⟨ah13, bh13, kbh13, rfl, f80, (Nat.le_trans (f79).1 gah13), (Nat.le_trans (f79).1 gbh13), q0h13, q1h13, q2h13, q3h13⟩
theorem dline_0 : decode method_2_code 0 = .ok (.aload_n 0, 1) := by decide +kernel
theorem dline_1 : decode method_2_code 1 = .ok (.iload_n 1, 1) := by decide +kernel
theorem dline_2 : decode method_2_code 2 = .ok (.invokevirtual 7, 3) := by decide +kernel
theorem dline_5 : decode method_2_code 5 = .ok (.iload_n 2, 1) := by decide +kernel
theorem dline_6 : decode method_2_code 6 = .ok (.if_icmp .ne 54, 3) := by decide +kernel
theorem dline_9 : decode method_2_code 9 = .ok (.aload_n 0, 1) := by decide +kernel
theorem dline_10 : decode method_2_code 10 = .ok (.iload_n 1, 1) := by decide +kernel
theorem dline_11 : decode method_2_code 11 = .ok (.iconst 1, 1) := by decide +kernel
theorem dline_12 : decode method_2_code 12 = .ok (.iadd, 1) := by decide +kernel
theorem dline_13 : decode method_2_code 13 = .ok (.invokevirtual 7, 3) := by decide +kernel
theorem dline_16 : decode method_2_code 16 = .ok (.bipush 58, 2) := by decide +kernel
theorem dline_18 : decode method_2_code 18 = .ok (.if_icmp .ne 42, 3) := by decide +kernel
theorem dline_21 : decode method_2_code 21 = .ok (.aload_n 0, 1) := by decide +kernel
theorem dline_22 : decode method_2_code 22 = .ok (.iload_n 1, 1) := by decide +kernel
theorem dline_23 : decode method_2_code 23 = .ok (.iconst 2, 1) := by decide +kernel
theorem dline_24 : decode method_2_code 24 = .ok (.iadd, 1) := by decide +kernel
theorem dline_25 : decode method_2_code 25 = .ok (.invokevirtual 7, 3) := by decide +kernel
theorem dline_28 : decode method_2_code 28 = .ok (.bipush 32, 2) := by decide +kernel
theorem dline_30 : decode method_2_code 30 = .ok (.if_icmp .ne 30, 3) := by decide +kernel
theorem dline_33 : decode method_2_code 33 = .ok (.aload_n 0, 1) := by decide +kernel
theorem dline_34 : decode method_2_code 34 = .ok (.iload_n 1, 1) := by decide +kernel
theorem dline_35 : decode method_2_code 35 = .ok (.iconst 3, 1) := by decide +kernel
theorem dline_36 : decode method_2_code 36 = .ok (.iadd, 1) := by decide +kernel
theorem dline_37 : decode method_2_code 37 = .ok (.invokevirtual 7, 3) := by decide +kernel
theorem dline_40 : decode method_2_code 40 = .ok (.iload_n 3, 1) := by decide +kernel
theorem dline_41 : decode method_2_code 41 = .ok (.if_icmp .ne 19, 3) := by decide +kernel
theorem dline_44 : decode method_2_code 44 = .ok (.aload_n 0, 1) := by decide +kernel
theorem dline_45 : decode method_2_code 45 = .ok (.iload_n 1, 1) := by decide +kernel
theorem dline_46 : decode method_2_code 46 = .ok (.iconst 4, 1) := by decide +kernel
theorem dline_47 : decode method_2_code 47 = .ok (.iadd, 1) := by decide +kernel
theorem dline_48 : decode method_2_code 48 = .ok (.invokevirtual 7, 3) := by decide +kernel
theorem dline_51 : decode method_2_code 51 = .ok (.bipush 10, 2) := by decide +kernel
theorem dline_53 : decode method_2_code 53 = .ok (.if_icmp .ne 7, 3) := by decide +kernel
theorem dline_56 : decode method_2_code 56 = .ok (.iconst 1, 1) := by decide +kernel
theorem dline_57 : decode method_2_code 57 = .ok (.goto 4, 3) := by decide +kernel
theorem dline_60 : decode method_2_code 60 = .ok (.iconst 0, 1) := by decide +kernel
theorem dline_61 : decode method_2_code 61 = .ok (.ireturn, 1) := by decide +kernel
set_option maxRecDepth 65536 in
set_option maxHeartbeats 40000000 in
theorem line1_0 (l : Launch) (Z : State) (a0 : Array Value) (hw : ∀ d ∈ tables_1, d.before a0 Z = true) (a : Addr) (b : Addr) (kb : ClassId) (cs : Int32) (fm : Value) (c0 : Int32) (c1 : Int32) (x0 : Int32) (x1 : Int32) (h : Heap) (n0 : Nat) (p0_ : Old Z n0 h) (p1_ : Sta Z Z.heap "java/lang/String" "COMPACT_STRINGS" "Z" (.int cs)) (hcs : ¬ cs = (0 : Int32)) (p3_ : Sta Z Z.heap "jdk/internal/util/Preconditions" "SIOOBE_FORMATTER" "Ljava/util/function/BiFunction;" fm) (hfm : fm.isRef = true) (hfc : fm.category = 1) (p6_ : Exa Z h a "java/lang/String") (p7_ : Fld Z h a "java/lang/String" "value" "[B" (.ref b)) (p8_ : Fld Z h a "java/lang/String" "coder" "B" (.int (0 : Int32))) (p9_ : Ary Z h b kb .byte [(.int x0), (.int (58 : Int32)), (.int (32 : Int32)), (.int x1), (.int (nar .byte (10 : Int32)))]) (hx0 : ((x0 &&& (255 : Int32)).toUInt32.toUInt16.toUInt32.toInt32) = c0) (hx1 : ((x1 &&& (255 : Int32)).toUInt32.toUInt16.toUInt32.toInt32) = c1) :
    Met l (⟨"com/example/lanka/lanka/HeadersOfPinLaw", "line", "(Ljava/lang/String;ICC)Z"⟩ : MethodName) method_2_code 4 (some .boolean) [] ({ frames := 4, cells := 0, slots := 0, locals := 70 } : Room) #[(.ref a), (.int (0 : Int32)), (.int c0), (.int c1)] Z h n0 (fun v h' => v = some (.int (1 : Int32)) ∧ h = h') := by
  refine Met.of (plainFor_of_name (by first | (simp [plainName, overriddenIn]; done) | decide +kernel)) ?_
  intro pP eE sS mM bB tT cC K
  refine Go.entry (ls := #[.val (.ref a), .val (.int (0 : Int32)), .val (.int c0), .val (.int c1)]) (by first | (simp [argsToLocals, Value.category]; done) | rfl) ?_
  refine go_aloadN (q := 1) K dline_0 rfl rfl rfl ?_
  refine go_iloadN (q := 2) K dline_1 rfl rfl ?_
  refine go_callV (q := 5) (W := 0) K (wd hw 190 rfl) (wd hw 191 rfl) (wd hw 193 rfl) (wd hw 192 rfl) (wd hw 5 rfl) (wd hw 194 rfl) (wd hw 94 rfl) rfl p6_ [(.int (0 : Int32))] [] (charAt l Z a0 hw _ _ _ _ _ _ _ _ _ _ n0 p0_ p9_ rfl rfl (by decide) (show (0 : Int32) < (5 : Int32) from by decide) p3_ hfm hfc p1_ hcs p6_ p7_ p8_) dline_2 (ps := [.int]) (by decide +kernel) rfl rfl rfl (by decide) rfl (by decide) (by decide) (by decide) (by decide) rfl ?_
  rintro _ _ ⟨rfl, rfl⟩
  show Go pP l eE _ sS mM _ bB tT cC n0 _ h 0 0 (mkF mM 5 #[.val (.ref a), .val (.int (0 : Int32)), .val (.int c0), .val (.int c1)] [(.int ((x0 &&& (255 : Int32)).toUInt32.toUInt16.toUInt32.toInt32))])
  refine go_iloadN (q := 6) K dline_5 rfl rfl ?_
  refine go_icmp (q := 60) (q' := 9) K dline_6 (by decide) rfl rfl (fun hn => cN_no hn (show ((x0 &&& (255 : Int32)).toUInt32.toUInt16.toUInt32.toInt32) = c0 from hx0)) (fun _ => ?_)
  refine go_aloadN (q := 10) K dline_9 rfl rfl rfl ?_
  refine go_iloadN (q := 11) K dline_10 rfl rfl ?_
  refine go_iconst (q := 12) K dline_11 (1 : Int32) rfl rfl ?_
  refine go_iadd (q := 13) K dline_12 rfl ?_
  refine go_eqI (y := (1 : Int32)) (by decide) ?_
  refine go_callV (q := 16) (W := 0) K (wd hw 190 rfl) (wd hw 191 rfl) (wd hw 193 rfl) (wd hw 192 rfl) (wd hw 5 rfl) (wd hw 194 rfl) (wd hw 94 rfl) rfl p6_ [(.int (1 : Int32))] [] (charAt l Z a0 hw _ _ _ _ _ _ _ _ _ _ n0 p0_ p9_ rfl rfl (by decide) (show (1 : Int32) < (5 : Int32) from by decide) p3_ hfm hfc p1_ hcs p6_ p7_ p8_) dline_13 (ps := [.int]) (by decide +kernel) rfl rfl rfl (by decide) rfl (by decide) (by decide) (by decide) (by decide) rfl ?_
  rintro _ _ ⟨rfl, rfl⟩
  show Go pP l eE _ sS mM _ bB tT cC n0 _ h 0 0 (mkF mM 16 #[.val (.ref a), .val (.int (0 : Int32)), .val (.int c0), .val (.int c1)] [(.int (((58 : Int32) &&& (255 : Int32)).toUInt32.toUInt16.toUInt32.toInt32))])
  refine go_bipush (q := 18) K dline_16 (58 : Int32) rfl rfl ?_
  refine go_icmp (q := 60) (q' := 21) K dline_18 (by decide) rfl rfl (fun hn => cN_no hn (show (((58 : Int32) &&& (255 : Int32)).toUInt32.toUInt16.toUInt32.toInt32) = (58 : Int32) from (by decide))) (fun _ => ?_)
  refine go_aloadN (q := 22) K dline_21 rfl rfl rfl ?_
  refine go_iloadN (q := 23) K dline_22 rfl rfl ?_
  refine go_iconst (q := 24) K dline_23 (2 : Int32) rfl rfl ?_
  refine go_iadd (q := 25) K dline_24 rfl ?_
  refine go_eqI (y := (2 : Int32)) (by decide) ?_
  refine go_callV (q := 28) (W := 0) K (wd hw 190 rfl) (wd hw 191 rfl) (wd hw 193 rfl) (wd hw 192 rfl) (wd hw 5 rfl) (wd hw 194 rfl) (wd hw 94 rfl) rfl p6_ [(.int (2 : Int32))] [] (charAt l Z a0 hw _ _ _ _ _ _ _ _ _ _ n0 p0_ p9_ rfl rfl (by decide) (show (2 : Int32) < (5 : Int32) from by decide) p3_ hfm hfc p1_ hcs p6_ p7_ p8_) dline_25 (ps := [.int]) (by decide +kernel) rfl rfl rfl (by decide) rfl (by decide) (by decide) (by decide) (by decide) rfl ?_
  rintro _ _ ⟨rfl, rfl⟩
  show Go pP l eE _ sS mM _ bB tT cC n0 _ h 0 0 (mkF mM 28 #[.val (.ref a), .val (.int (0 : Int32)), .val (.int c0), .val (.int c1)] [(.int (((32 : Int32) &&& (255 : Int32)).toUInt32.toUInt16.toUInt32.toInt32))])
  refine go_bipush (q := 30) K dline_28 (32 : Int32) rfl rfl ?_
  refine go_icmp (q := 60) (q' := 33) K dline_30 (by decide) rfl rfl (fun hn => cN_no hn (show (((32 : Int32) &&& (255 : Int32)).toUInt32.toUInt16.toUInt32.toInt32) = (32 : Int32) from (by decide))) (fun _ => ?_)
  refine go_aloadN (q := 34) K dline_33 rfl rfl rfl ?_
  refine go_iloadN (q := 35) K dline_34 rfl rfl ?_
  refine go_iconst (q := 36) K dline_35 (3 : Int32) rfl rfl ?_
  refine go_iadd (q := 37) K dline_36 rfl ?_
  refine go_eqI (y := (3 : Int32)) (by decide) ?_
  refine go_callV (q := 40) (W := 0) K (wd hw 190 rfl) (wd hw 191 rfl) (wd hw 193 rfl) (wd hw 192 rfl) (wd hw 5 rfl) (wd hw 194 rfl) (wd hw 94 rfl) rfl p6_ [(.int (3 : Int32))] [] (charAt l Z a0 hw _ _ _ _ _ _ _ _ _ _ n0 p0_ p9_ rfl rfl (by decide) (show (3 : Int32) < (5 : Int32) from by decide) p3_ hfm hfc p1_ hcs p6_ p7_ p8_) dline_37 (ps := [.int]) (by decide +kernel) rfl rfl rfl (by decide) rfl (by decide) (by decide) (by decide) (by decide) rfl ?_
  rintro _ _ ⟨rfl, rfl⟩
  show Go pP l eE _ sS mM _ bB tT cC n0 _ h 0 0 (mkF mM 40 #[.val (.ref a), .val (.int (0 : Int32)), .val (.int c0), .val (.int c1)] [(.int ((x1 &&& (255 : Int32)).toUInt32.toUInt16.toUInt32.toInt32))])
  refine go_iloadN (q := 41) K dline_40 rfl rfl ?_
  refine go_icmp (q := 60) (q' := 44) K dline_41 (by decide) rfl rfl (fun hn => cN_no hn (show ((x1 &&& (255 : Int32)).toUInt32.toUInt16.toUInt32.toInt32) = c1 from hx1)) (fun _ => ?_)
  refine go_aloadN (q := 45) K dline_44 rfl rfl rfl ?_
  refine go_iloadN (q := 46) K dline_45 rfl rfl ?_
  refine go_iconst (q := 47) K dline_46 (4 : Int32) rfl rfl ?_
  refine go_iadd (q := 48) K dline_47 rfl ?_
  refine go_eqI (y := (4 : Int32)) (by decide) ?_
  refine go_callV (q := 51) (W := 0) K (wd hw 190 rfl) (wd hw 191 rfl) (wd hw 193 rfl) (wd hw 192 rfl) (wd hw 5 rfl) (wd hw 194 rfl) (wd hw 94 rfl) rfl p6_ [(.int (4 : Int32))] [] (charAt l Z a0 hw _ _ _ _ _ _ _ _ _ _ n0 p0_ p9_ rfl rfl (by decide) (show (4 : Int32) < (5 : Int32) from by decide) p3_ hfm hfc p1_ hcs p6_ p7_ p8_) dline_48 (ps := [.int]) (by decide +kernel) rfl rfl rfl (by decide) rfl (by decide) (by decide) (by decide) (by decide) rfl ?_
  rintro _ _ ⟨rfl, rfl⟩
  show Go pP l eE _ sS mM _ bB tT cC n0 _ h 0 0 (mkF mM 51 #[.val (.ref a), .val (.int (0 : Int32)), .val (.int c0), .val (.int c1)] [(.int (((nar .byte (10 : Int32)) &&& (255 : Int32)).toUInt32.toUInt16.toUInt32.toInt32))])
  refine go_bipush (q := 53) K dline_51 (10 : Int32) rfl rfl ?_
  refine go_icmp (q := 60) (q' := 56) K dline_53 (by decide) rfl rfl (fun hn => cN_no hn (show (((nar .byte (10 : Int32)) &&& (255 : Int32)).toUInt32.toUInt16.toUInt32.toInt32) = (10 : Int32) from (by decide))) (fun _ => ?_)
  refine go_iconst (q := 57) K dline_56 (1 : Int32) rfl rfl ?_
  refine go_goto (q := 61) K dline_57 (by decide) rfl ?_
  refine go_iret K dline_61 rfl (Or.inr (Or.inl rfl)) rfl (by decide) (by decide) ?_
  exact ⟨rfl, rfl⟩
set_option maxRecDepth 65536 in
set_option maxHeartbeats 40000000 in
theorem line2_0 (l : Launch) (Z : State) (a0 : Array Value) (hw : ∀ d ∈ tables_1, d.before a0 Z = true) (a : Addr) (b : Addr) (kb : ClassId) (cs : Int32) (fm : Value) (c0 : Int32) (c1 : Int32) (x0 : Int32) (x1 : Int32) (x2 : Int32) (x3 : Int32) (h : Heap) (n0 : Nat) (p0_ : Old Z n0 h) (p1_ : Sta Z Z.heap "java/lang/String" "COMPACT_STRINGS" "Z" (.int cs)) (hcs : ¬ cs = (0 : Int32)) (p3_ : Sta Z Z.heap "jdk/internal/util/Preconditions" "SIOOBE_FORMATTER" "Ljava/util/function/BiFunction;" fm) (hfm : fm.isRef = true) (hfc : fm.category = 1) (p6_ : Exa Z h a "java/lang/String") (p7_ : Fld Z h a "java/lang/String" "value" "[B" (.ref b)) (p8_ : Fld Z h a "java/lang/String" "coder" "B" (.int (0 : Int32))) (p9_ : Ary Z h b kb .byte [(.int x0), (.int (58 : Int32)), (.int (32 : Int32)), (.int x1), (.int (nar .byte (10 : Int32))), (.int x2), (.int (58 : Int32)), (.int (32 : Int32)), (.int x3), (.int (nar .byte (10 : Int32)))]) (hx0 : ((x0 &&& (255 : Int32)).toUInt32.toUInt16.toUInt32.toInt32) = c0) (hx1 : ((x1 &&& (255 : Int32)).toUInt32.toUInt16.toUInt32.toInt32) = c1) :
    Met l (⟨"com/example/lanka/lanka/HeadersOfPinLaw", "line", "(Ljava/lang/String;ICC)Z"⟩ : MethodName) method_2_code 4 (some .boolean) [] ({ frames := 4, cells := 0, slots := 0, locals := 70 } : Room) #[(.ref a), (.int (0 : Int32)), (.int c0), (.int c1)] Z h n0 (fun v h' => v = some (.int (1 : Int32)) ∧ h = h') := by
  refine Met.of (plainFor_of_name (by first | (simp [plainName, overriddenIn]; done) | decide +kernel)) ?_
  intro pP eE sS mM bB tT cC K
  refine Go.entry (ls := #[.val (.ref a), .val (.int (0 : Int32)), .val (.int c0), .val (.int c1)]) (by first | (simp [argsToLocals, Value.category]; done) | rfl) ?_
  refine go_aloadN (q := 1) K dline_0 rfl rfl rfl ?_
  refine go_iloadN (q := 2) K dline_1 rfl rfl ?_
  refine go_callV (q := 5) (W := 0) K (wd hw 190 rfl) (wd hw 191 rfl) (wd hw 193 rfl) (wd hw 192 rfl) (wd hw 5 rfl) (wd hw 194 rfl) (wd hw 94 rfl) rfl p6_ [(.int (0 : Int32))] [] (charAt l Z a0 hw _ _ _ _ _ _ _ _ _ _ n0 p0_ p9_ rfl rfl (by decide) (show (0 : Int32) < (10 : Int32) from by decide) p3_ hfm hfc p1_ hcs p6_ p7_ p8_) dline_2 (ps := [.int]) (by decide +kernel) rfl rfl rfl (by decide) rfl (by decide) (by decide) (by decide) (by decide) rfl ?_
  rintro _ _ ⟨rfl, rfl⟩
  show Go pP l eE _ sS mM _ bB tT cC n0 _ h 0 0 (mkF mM 5 #[.val (.ref a), .val (.int (0 : Int32)), .val (.int c0), .val (.int c1)] [(.int ((x0 &&& (255 : Int32)).toUInt32.toUInt16.toUInt32.toInt32))])
  refine go_iloadN (q := 6) K dline_5 rfl rfl ?_
  refine go_icmp (q := 60) (q' := 9) K dline_6 (by decide) rfl rfl (fun hn => cN_no hn (show ((x0 &&& (255 : Int32)).toUInt32.toUInt16.toUInt32.toInt32) = c0 from hx0)) (fun _ => ?_)
  refine go_aloadN (q := 10) K dline_9 rfl rfl rfl ?_
  refine go_iloadN (q := 11) K dline_10 rfl rfl ?_
  refine go_iconst (q := 12) K dline_11 (1 : Int32) rfl rfl ?_
  refine go_iadd (q := 13) K dline_12 rfl ?_
  refine go_eqI (y := (1 : Int32)) (by decide) ?_
  refine go_callV (q := 16) (W := 0) K (wd hw 190 rfl) (wd hw 191 rfl) (wd hw 193 rfl) (wd hw 192 rfl) (wd hw 5 rfl) (wd hw 194 rfl) (wd hw 94 rfl) rfl p6_ [(.int (1 : Int32))] [] (charAt l Z a0 hw _ _ _ _ _ _ _ _ _ _ n0 p0_ p9_ rfl rfl (by decide) (show (1 : Int32) < (10 : Int32) from by decide) p3_ hfm hfc p1_ hcs p6_ p7_ p8_) dline_13 (ps := [.int]) (by decide +kernel) rfl rfl rfl (by decide) rfl (by decide) (by decide) (by decide) (by decide) rfl ?_
  rintro _ _ ⟨rfl, rfl⟩
  show Go pP l eE _ sS mM _ bB tT cC n0 _ h 0 0 (mkF mM 16 #[.val (.ref a), .val (.int (0 : Int32)), .val (.int c0), .val (.int c1)] [(.int (((58 : Int32) &&& (255 : Int32)).toUInt32.toUInt16.toUInt32.toInt32))])
  refine go_bipush (q := 18) K dline_16 (58 : Int32) rfl rfl ?_
  refine go_icmp (q := 60) (q' := 21) K dline_18 (by decide) rfl rfl (fun hn => cN_no hn (show (((58 : Int32) &&& (255 : Int32)).toUInt32.toUInt16.toUInt32.toInt32) = (58 : Int32) from (by decide))) (fun _ => ?_)
  refine go_aloadN (q := 22) K dline_21 rfl rfl rfl ?_
  refine go_iloadN (q := 23) K dline_22 rfl rfl ?_
  refine go_iconst (q := 24) K dline_23 (2 : Int32) rfl rfl ?_
  refine go_iadd (q := 25) K dline_24 rfl ?_
  refine go_eqI (y := (2 : Int32)) (by decide) ?_
  refine go_callV (q := 28) (W := 0) K (wd hw 190 rfl) (wd hw 191 rfl) (wd hw 193 rfl) (wd hw 192 rfl) (wd hw 5 rfl) (wd hw 194 rfl) (wd hw 94 rfl) rfl p6_ [(.int (2 : Int32))] [] (charAt l Z a0 hw _ _ _ _ _ _ _ _ _ _ n0 p0_ p9_ rfl rfl (by decide) (show (2 : Int32) < (10 : Int32) from by decide) p3_ hfm hfc p1_ hcs p6_ p7_ p8_) dline_25 (ps := [.int]) (by decide +kernel) rfl rfl rfl (by decide) rfl (by decide) (by decide) (by decide) (by decide) rfl ?_
  rintro _ _ ⟨rfl, rfl⟩
  show Go pP l eE _ sS mM _ bB tT cC n0 _ h 0 0 (mkF mM 28 #[.val (.ref a), .val (.int (0 : Int32)), .val (.int c0), .val (.int c1)] [(.int (((32 : Int32) &&& (255 : Int32)).toUInt32.toUInt16.toUInt32.toInt32))])
  refine go_bipush (q := 30) K dline_28 (32 : Int32) rfl rfl ?_
  refine go_icmp (q := 60) (q' := 33) K dline_30 (by decide) rfl rfl (fun hn => cN_no hn (show (((32 : Int32) &&& (255 : Int32)).toUInt32.toUInt16.toUInt32.toInt32) = (32 : Int32) from (by decide))) (fun _ => ?_)
  refine go_aloadN (q := 34) K dline_33 rfl rfl rfl ?_
  refine go_iloadN (q := 35) K dline_34 rfl rfl ?_
  refine go_iconst (q := 36) K dline_35 (3 : Int32) rfl rfl ?_
  refine go_iadd (q := 37) K dline_36 rfl ?_
  refine go_eqI (y := (3 : Int32)) (by decide) ?_
  refine go_callV (q := 40) (W := 0) K (wd hw 190 rfl) (wd hw 191 rfl) (wd hw 193 rfl) (wd hw 192 rfl) (wd hw 5 rfl) (wd hw 194 rfl) (wd hw 94 rfl) rfl p6_ [(.int (3 : Int32))] [] (charAt l Z a0 hw _ _ _ _ _ _ _ _ _ _ n0 p0_ p9_ rfl rfl (by decide) (show (3 : Int32) < (10 : Int32) from by decide) p3_ hfm hfc p1_ hcs p6_ p7_ p8_) dline_37 (ps := [.int]) (by decide +kernel) rfl rfl rfl (by decide) rfl (by decide) (by decide) (by decide) (by decide) rfl ?_
  rintro _ _ ⟨rfl, rfl⟩
  show Go pP l eE _ sS mM _ bB tT cC n0 _ h 0 0 (mkF mM 40 #[.val (.ref a), .val (.int (0 : Int32)), .val (.int c0), .val (.int c1)] [(.int ((x1 &&& (255 : Int32)).toUInt32.toUInt16.toUInt32.toInt32))])
  refine go_iloadN (q := 41) K dline_40 rfl rfl ?_
  refine go_icmp (q := 60) (q' := 44) K dline_41 (by decide) rfl rfl (fun hn => cN_no hn (show ((x1 &&& (255 : Int32)).toUInt32.toUInt16.toUInt32.toInt32) = c1 from hx1)) (fun _ => ?_)
  refine go_aloadN (q := 45) K dline_44 rfl rfl rfl ?_
  refine go_iloadN (q := 46) K dline_45 rfl rfl ?_
  refine go_iconst (q := 47) K dline_46 (4 : Int32) rfl rfl ?_
  refine go_iadd (q := 48) K dline_47 rfl ?_
  refine go_eqI (y := (4 : Int32)) (by decide) ?_
  refine go_callV (q := 51) (W := 0) K (wd hw 190 rfl) (wd hw 191 rfl) (wd hw 193 rfl) (wd hw 192 rfl) (wd hw 5 rfl) (wd hw 194 rfl) (wd hw 94 rfl) rfl p6_ [(.int (4 : Int32))] [] (charAt l Z a0 hw _ _ _ _ _ _ _ _ _ _ n0 p0_ p9_ rfl rfl (by decide) (show (4 : Int32) < (10 : Int32) from by decide) p3_ hfm hfc p1_ hcs p6_ p7_ p8_) dline_48 (ps := [.int]) (by decide +kernel) rfl rfl rfl (by decide) rfl (by decide) (by decide) (by decide) (by decide) rfl ?_
  rintro _ _ ⟨rfl, rfl⟩
  show Go pP l eE _ sS mM _ bB tT cC n0 _ h 0 0 (mkF mM 51 #[.val (.ref a), .val (.int (0 : Int32)), .val (.int c0), .val (.int c1)] [(.int (((nar .byte (10 : Int32)) &&& (255 : Int32)).toUInt32.toUInt16.toUInt32.toInt32))])
  refine go_bipush (q := 53) K dline_51 (10 : Int32) rfl rfl ?_
  refine go_icmp (q := 60) (q' := 56) K dline_53 (by decide) rfl rfl (fun hn => cN_no hn (show (((nar .byte (10 : Int32)) &&& (255 : Int32)).toUInt32.toUInt16.toUInt32.toInt32) = (10 : Int32) from (by decide))) (fun _ => ?_)
  refine go_iconst (q := 57) K dline_56 (1 : Int32) rfl rfl ?_
  refine go_goto (q := 61) K dline_57 (by decide) rfl ?_
  refine go_iret K dline_61 rfl (Or.inr (Or.inl rfl)) rfl (by decide) (by decide) ?_
  exact ⟨rfl, rfl⟩
set_option maxRecDepth 65536 in
set_option maxHeartbeats 40000000 in
theorem line2_5 (l : Launch) (Z : State) (a0 : Array Value) (hw : ∀ d ∈ tables_1, d.before a0 Z = true) (a : Addr) (b : Addr) (kb : ClassId) (cs : Int32) (fm : Value) (c0 : Int32) (c1 : Int32) (x0 : Int32) (x1 : Int32) (x2 : Int32) (x3 : Int32) (h : Heap) (n0 : Nat) (p0_ : Old Z n0 h) (p1_ : Sta Z Z.heap "java/lang/String" "COMPACT_STRINGS" "Z" (.int cs)) (hcs : ¬ cs = (0 : Int32)) (p3_ : Sta Z Z.heap "jdk/internal/util/Preconditions" "SIOOBE_FORMATTER" "Ljava/util/function/BiFunction;" fm) (hfm : fm.isRef = true) (hfc : fm.category = 1) (p6_ : Exa Z h a "java/lang/String") (p7_ : Fld Z h a "java/lang/String" "value" "[B" (.ref b)) (p8_ : Fld Z h a "java/lang/String" "coder" "B" (.int (0 : Int32))) (p9_ : Ary Z h b kb .byte [(.int x0), (.int (58 : Int32)), (.int (32 : Int32)), (.int x1), (.int (nar .byte (10 : Int32))), (.int x2), (.int (58 : Int32)), (.int (32 : Int32)), (.int x3), (.int (nar .byte (10 : Int32)))]) (hx0 : ((x2 &&& (255 : Int32)).toUInt32.toUInt16.toUInt32.toInt32) = c0) (hx1 : ((x3 &&& (255 : Int32)).toUInt32.toUInt16.toUInt32.toInt32) = c1) :
    Met l (⟨"com/example/lanka/lanka/HeadersOfPinLaw", "line", "(Ljava/lang/String;ICC)Z"⟩ : MethodName) method_2_code 4 (some .boolean) [] ({ frames := 4, cells := 0, slots := 0, locals := 70 } : Room) #[(.ref a), (.int (5 : Int32)), (.int c0), (.int c1)] Z h n0 (fun v h' => v = some (.int (1 : Int32)) ∧ h = h') := by
  refine Met.of (plainFor_of_name (by first | (simp [plainName, overriddenIn]; done) | decide +kernel)) ?_
  intro pP eE sS mM bB tT cC K
  refine Go.entry (ls := #[.val (.ref a), .val (.int (5 : Int32)), .val (.int c0), .val (.int c1)]) (by first | (simp [argsToLocals, Value.category]; done) | rfl) ?_
  refine go_aloadN (q := 1) K dline_0 rfl rfl rfl ?_
  refine go_iloadN (q := 2) K dline_1 rfl rfl ?_
  refine go_callV (q := 5) (W := 0) K (wd hw 190 rfl) (wd hw 191 rfl) (wd hw 193 rfl) (wd hw 192 rfl) (wd hw 5 rfl) (wd hw 194 rfl) (wd hw 94 rfl) rfl p6_ [(.int (5 : Int32))] [] (charAt l Z a0 hw _ _ _ _ _ _ _ _ _ _ n0 p0_ p9_ rfl rfl (by decide) (show (5 : Int32) < (10 : Int32) from by decide) p3_ hfm hfc p1_ hcs p6_ p7_ p8_) dline_2 (ps := [.int]) (by decide +kernel) rfl rfl rfl (by decide) rfl (by decide) (by decide) (by decide) (by decide) rfl ?_
  rintro _ _ ⟨rfl, rfl⟩
  show Go pP l eE _ sS mM _ bB tT cC n0 _ h 0 0 (mkF mM 5 #[.val (.ref a), .val (.int (5 : Int32)), .val (.int c0), .val (.int c1)] [(.int ((x2 &&& (255 : Int32)).toUInt32.toUInt16.toUInt32.toInt32))])
  refine go_iloadN (q := 6) K dline_5 rfl rfl ?_
  refine go_icmp (q := 60) (q' := 9) K dline_6 (by decide) rfl rfl (fun hn => cN_no hn (show ((x2 &&& (255 : Int32)).toUInt32.toUInt16.toUInt32.toInt32) = c0 from hx0)) (fun _ => ?_)
  refine go_aloadN (q := 10) K dline_9 rfl rfl rfl ?_
  refine go_iloadN (q := 11) K dline_10 rfl rfl ?_
  refine go_iconst (q := 12) K dline_11 (1 : Int32) rfl rfl ?_
  refine go_iadd (q := 13) K dline_12 rfl ?_
  refine go_eqI (y := (6 : Int32)) (by decide) ?_
  refine go_callV (q := 16) (W := 0) K (wd hw 190 rfl) (wd hw 191 rfl) (wd hw 193 rfl) (wd hw 192 rfl) (wd hw 5 rfl) (wd hw 194 rfl) (wd hw 94 rfl) rfl p6_ [(.int (6 : Int32))] [] (charAt l Z a0 hw _ _ _ _ _ _ _ _ _ _ n0 p0_ p9_ rfl rfl (by decide) (show (6 : Int32) < (10 : Int32) from by decide) p3_ hfm hfc p1_ hcs p6_ p7_ p8_) dline_13 (ps := [.int]) (by decide +kernel) rfl rfl rfl (by decide) rfl (by decide) (by decide) (by decide) (by decide) rfl ?_
  rintro _ _ ⟨rfl, rfl⟩
  show Go pP l eE _ sS mM _ bB tT cC n0 _ h 0 0 (mkF mM 16 #[.val (.ref a), .val (.int (5 : Int32)), .val (.int c0), .val (.int c1)] [(.int (((58 : Int32) &&& (255 : Int32)).toUInt32.toUInt16.toUInt32.toInt32))])
  refine go_bipush (q := 18) K dline_16 (58 : Int32) rfl rfl ?_
  refine go_icmp (q := 60) (q' := 21) K dline_18 (by decide) rfl rfl (fun hn => cN_no hn (show (((58 : Int32) &&& (255 : Int32)).toUInt32.toUInt16.toUInt32.toInt32) = (58 : Int32) from (by decide))) (fun _ => ?_)
  refine go_aloadN (q := 22) K dline_21 rfl rfl rfl ?_
  refine go_iloadN (q := 23) K dline_22 rfl rfl ?_
  refine go_iconst (q := 24) K dline_23 (2 : Int32) rfl rfl ?_
  refine go_iadd (q := 25) K dline_24 rfl ?_
  refine go_eqI (y := (7 : Int32)) (by decide) ?_
  refine go_callV (q := 28) (W := 0) K (wd hw 190 rfl) (wd hw 191 rfl) (wd hw 193 rfl) (wd hw 192 rfl) (wd hw 5 rfl) (wd hw 194 rfl) (wd hw 94 rfl) rfl p6_ [(.int (7 : Int32))] [] (charAt l Z a0 hw _ _ _ _ _ _ _ _ _ _ n0 p0_ p9_ rfl rfl (by decide) (show (7 : Int32) < (10 : Int32) from by decide) p3_ hfm hfc p1_ hcs p6_ p7_ p8_) dline_25 (ps := [.int]) (by decide +kernel) rfl rfl rfl (by decide) rfl (by decide) (by decide) (by decide) (by decide) rfl ?_
  rintro _ _ ⟨rfl, rfl⟩
  show Go pP l eE _ sS mM _ bB tT cC n0 _ h 0 0 (mkF mM 28 #[.val (.ref a), .val (.int (5 : Int32)), .val (.int c0), .val (.int c1)] [(.int (((32 : Int32) &&& (255 : Int32)).toUInt32.toUInt16.toUInt32.toInt32))])
  refine go_bipush (q := 30) K dline_28 (32 : Int32) rfl rfl ?_
  refine go_icmp (q := 60) (q' := 33) K dline_30 (by decide) rfl rfl (fun hn => cN_no hn (show (((32 : Int32) &&& (255 : Int32)).toUInt32.toUInt16.toUInt32.toInt32) = (32 : Int32) from (by decide))) (fun _ => ?_)
  refine go_aloadN (q := 34) K dline_33 rfl rfl rfl ?_
  refine go_iloadN (q := 35) K dline_34 rfl rfl ?_
  refine go_iconst (q := 36) K dline_35 (3 : Int32) rfl rfl ?_
  refine go_iadd (q := 37) K dline_36 rfl ?_
  refine go_eqI (y := (8 : Int32)) (by decide) ?_
  refine go_callV (q := 40) (W := 0) K (wd hw 190 rfl) (wd hw 191 rfl) (wd hw 193 rfl) (wd hw 192 rfl) (wd hw 5 rfl) (wd hw 194 rfl) (wd hw 94 rfl) rfl p6_ [(.int (8 : Int32))] [] (charAt l Z a0 hw _ _ _ _ _ _ _ _ _ _ n0 p0_ p9_ rfl rfl (by decide) (show (8 : Int32) < (10 : Int32) from by decide) p3_ hfm hfc p1_ hcs p6_ p7_ p8_) dline_37 (ps := [.int]) (by decide +kernel) rfl rfl rfl (by decide) rfl (by decide) (by decide) (by decide) (by decide) rfl ?_
  rintro _ _ ⟨rfl, rfl⟩
  show Go pP l eE _ sS mM _ bB tT cC n0 _ h 0 0 (mkF mM 40 #[.val (.ref a), .val (.int (5 : Int32)), .val (.int c0), .val (.int c1)] [(.int ((x3 &&& (255 : Int32)).toUInt32.toUInt16.toUInt32.toInt32))])
  refine go_iloadN (q := 41) K dline_40 rfl rfl ?_
  refine go_icmp (q := 60) (q' := 44) K dline_41 (by decide) rfl rfl (fun hn => cN_no hn (show ((x3 &&& (255 : Int32)).toUInt32.toUInt16.toUInt32.toInt32) = c1 from hx1)) (fun _ => ?_)
  refine go_aloadN (q := 45) K dline_44 rfl rfl rfl ?_
  refine go_iloadN (q := 46) K dline_45 rfl rfl ?_
  refine go_iconst (q := 47) K dline_46 (4 : Int32) rfl rfl ?_
  refine go_iadd (q := 48) K dline_47 rfl ?_
  refine go_eqI (y := (9 : Int32)) (by decide) ?_
  refine go_callV (q := 51) (W := 0) K (wd hw 190 rfl) (wd hw 191 rfl) (wd hw 193 rfl) (wd hw 192 rfl) (wd hw 5 rfl) (wd hw 194 rfl) (wd hw 94 rfl) rfl p6_ [(.int (9 : Int32))] [] (charAt l Z a0 hw _ _ _ _ _ _ _ _ _ _ n0 p0_ p9_ rfl rfl (by decide) (show (9 : Int32) < (10 : Int32) from by decide) p3_ hfm hfc p1_ hcs p6_ p7_ p8_) dline_48 (ps := [.int]) (by decide +kernel) rfl rfl rfl (by decide) rfl (by decide) (by decide) (by decide) (by decide) rfl ?_
  rintro _ _ ⟨rfl, rfl⟩
  show Go pP l eE _ sS mM _ bB tT cC n0 _ h 0 0 (mkF mM 51 #[.val (.ref a), .val (.int (5 : Int32)), .val (.int c0), .val (.int c1)] [(.int (((nar .byte (10 : Int32)) &&& (255 : Int32)).toUInt32.toUInt16.toUInt32.toInt32))])
  refine go_bipush (q := 53) K dline_51 (10 : Int32) rfl rfl ?_
  refine go_icmp (q := 60) (q' := 56) K dline_53 (by decide) rfl rfl (fun hn => cN_no hn (show (((nar .byte (10 : Int32)) &&& (255 : Int32)).toUInt32.toUInt16.toUInt32.toInt32) = (10 : Int32) from (by decide))) (fun _ => ?_)
  refine go_iconst (q := 57) K dline_56 (1 : Int32) rfl rfl ?_
  refine go_goto (q := 61) K dline_57 (by decide) rfl ?_
  refine go_iret K dline_61 rfl (Or.inr (Or.inl rfl)) rfl (by decide) (by decide) ?_
  exact ⟨rfl, rfl⟩
theorem own_lo {z x : Int32} (hz : z = (x &&& 255).toUInt32.toUInt16.toUInt32.toInt32) : ¬ (255 : Int32) < z := by
  rw [hz, i2c_mask, Int32.lt_iff_toInt_lt]
  have h := c_mask x 255 8 (by decide) (by decide)
  have e : (255 : Int32).toInt = 255 := rfl
  omega
theorem own_ch0 : ∀ k : Fin 256, ((nar .byte (Int32.ofNat k.val).toInt8.toInt32 &&& (255 : Int32)).toUInt32.toUInt16.toUInt32.toInt32) = Int32.ofNat k.val := by decide +kernel
theorem own_ch {z x : Int32} (hz : z = (x &&& 255).toUInt32.toUInt16.toUInt32.toInt32) : ((nar .byte z.toInt8.toInt32 &&& (255 : Int32)).toUInt32.toUInt16.toUInt32.toInt32) = z := by
  rw [i2c_mask] at hz
  have h := c_mask x 255 8 (by decide) (by decide)
  rw [← hz] at h
  have hb : z.toInt.toNat < 256 := by omega
  have e : Int32.ofNat z.toInt.toNat = z := by
    rw [← Int32.toInt_inj, Int32.toInt_ofNat_small (by omega)]; omega
  have q := own_ch0 ⟨z.toInt.toNat, hb⟩
  rw [← e]; exact q
theorem own_p3 {n x : Int32} (hn : n = (x &&& (2147483647 : Int32)) % (3 : Int32)) : n = 0 ∨ n = 1 ∨ n = 2 := by
  have h := c_mask x 2147483647 31 (by decide) (by decide)
  have e0 : (0 : Int32).toInt = 0 := rfl
  have e1 : (1 : Int32).toInt = 1 := rfl
  have e2 : (2 : Int32).toInt = 2 := rfl
  have e3 : (3 : Int32).toInt = 3 := rfl
  have hm : n.toInt = ((x &&& (2147483647 : Int32)).toInt).tmod 3 := by rw [hn, Int32.toInt_mod, e3]
  rw [h] at hm
  simp only [← Int32.toInt_inj, e0, e1, e2]
  have hp : 0 ≤ x.toInt % (2 ^ 31 : Nat) := Int.emod_nonneg _ (by decide)
  rw [Int.tmod_eq_emod_of_nonneg hp] at hm
  omega
theorem dlaw_0 : decode code 0 = .ok (.iload_n 0, 1) := by decide +kernel
theorem dlaw_1 : decode code 1 = .ok (.sipush 255, 3) := by decide +kernel
theorem dlaw_4 : decode code 4 = .ok (.iand, 1) := by decide +kernel
theorem dlaw_5 : decode code 5 = .ok (.i2c, 1) := by decide +kernel
theorem dlaw_6 : decode code 6 = .ok (.istore_n 3, 1) := by decide +kernel
theorem dlaw_7 : decode code 7 = .ok (.iload_n 0, 1) := by decide +kernel
theorem dlaw_8 : decode code 8 = .ok (.bipush 8, 2) := by decide +kernel
theorem dlaw_10 : decode code 10 = .ok (.iushr, 1) := by decide +kernel
theorem dlaw_11 : decode code 11 = .ok (.sipush 255, 3) := by decide +kernel
theorem dlaw_14 : decode code 14 = .ok (.iand, 1) := by decide +kernel
theorem dlaw_15 : decode code 15 = .ok (.i2c, 1) := by decide +kernel
theorem dlaw_16 : decode code 16 = .ok (.istore 4, 2) := by decide +kernel
theorem dlaw_18 : decode code 18 = .ok (.iload_n 1, 1) := by decide +kernel
theorem dlaw_19 : decode code 19 = .ok (.sipush 255, 3) := by decide +kernel
theorem dlaw_22 : decode code 22 = .ok (.iand, 1) := by decide +kernel
theorem dlaw_23 : decode code 23 = .ok (.i2c, 1) := by decide +kernel
theorem dlaw_24 : decode code 24 = .ok (.istore 5, 2) := by decide +kernel
theorem dlaw_26 : decode code 26 = .ok (.iload_n 1, 1) := by decide +kernel
theorem dlaw_27 : decode code 27 = .ok (.bipush 8, 2) := by decide +kernel
theorem dlaw_29 : decode code 29 = .ok (.iushr, 1) := by decide +kernel
theorem dlaw_30 : decode code 30 = .ok (.sipush 255, 3) := by decide +kernel
theorem dlaw_33 : decode code 33 = .ok (.iand, 1) := by decide +kernel
theorem dlaw_34 : decode code 34 = .ok (.i2c, 1) := by decide +kernel
theorem dlaw_35 : decode code 35 = .ok (.istore 6, 2) := by decide +kernel
theorem dlaw_37 : decode code 37 = .ok (.iload_n 2, 1) := by decide +kernel
theorem dlaw_38 : decode code 38 = .ok (.ldc 13, 2) := by decide +kernel
theorem dlaw_40 : decode code 40 = .ok (.iand, 1) := by decide +kernel
theorem dlaw_41 : decode code 41 = .ok (.iconst 3, 1) := by decide +kernel
theorem dlaw_42 : decode code 42 = .ok (.irem, 1) := by decide +kernel
theorem dlaw_43 : decode code 43 = .ok (.istore 7, 2) := by decide +kernel
theorem dlaw_45 : decode code 45 = .ok (.iload 7, 2) := by decide +kernel
theorem dlaw_47 : decode code 47 = .ok (.ifCond .ne 12, 3) := by decide +kernel
theorem dlaw_50 : decode code 50 = .ok (.iconst 0, 1) := by decide +kernel
theorem dlaw_51 : decode code 51 = .ok (.anewarray 8, 3) := by decide +kernel
theorem dlaw_54 : decode code 54 = .ok (.astore 8, 2) := by decide +kernel
theorem dlaw_56 : decode code 56 = .ok (.goto 24, 3) := by decide +kernel
theorem dlaw_59 : decode code 59 = .ok (.iload 7, 2) := by decide +kernel
theorem dlaw_61 : decode code 61 = .ok (.iconst 1, 1) := by decide +kernel
theorem dlaw_62 : decode code 62 = .ok (.if_icmp .ne 12, 3) := by decide +kernel
theorem dlaw_65 : decode code 65 = .ok (.iconst 2, 1) := by decide +kernel
theorem dlaw_66 : decode code 66 = .ok (.anewarray 8, 3) := by decide +kernel
theorem dlaw_69 : decode code 69 = .ok (.astore 8, 2) := by decide +kernel
theorem dlaw_71 : decode code 71 = .ok (.goto 9, 3) := by decide +kernel
theorem dlaw_74 : decode code 74 = .ok (.iconst 4, 1) := by decide +kernel
theorem dlaw_75 : decode code 75 = .ok (.anewarray 8, 3) := by decide +kernel
theorem dlaw_78 : decode code 78 = .ok (.astore 8, 2) := by decide +kernel
theorem dlaw_80 : decode code 80 = .ok (.iload 7, 2) := by decide +kernel
theorem dlaw_82 : decode code 82 = .ok (.iconst 1, 1) := by decide +kernel
theorem dlaw_83 : decode code 83 = .ok (.if_icmp .lt 20, 3) := by decide +kernel
theorem dlaw_86 : decode code 86 = .ok (.aload 8, 2) := by decide +kernel
theorem dlaw_88 : decode code 88 = .ok (.iconst 0, 1) := by decide +kernel
theorem dlaw_89 : decode code 89 = .ok (.iload_n 3, 1) := by decide +kernel
theorem dlaw_90 : decode code 90 = .ok (.invokestatic 14, 3) := by decide +kernel
theorem dlaw_93 : decode code 93 = .ok (.aastore, 1) := by decide +kernel
theorem dlaw_94 : decode code 94 = .ok (.aload 8, 2) := by decide +kernel
theorem dlaw_96 : decode code 96 = .ok (.iconst 1, 1) := by decide +kernel
theorem dlaw_97 : decode code 97 = .ok (.iload 4, 2) := by decide +kernel
theorem dlaw_99 : decode code 99 = .ok (.invokestatic 14, 3) := by decide +kernel
theorem dlaw_102 : decode code 102 = .ok (.aastore, 1) := by decide +kernel
theorem dlaw_103 : decode code 103 = .ok (.iload 7, 2) := by decide +kernel
theorem dlaw_105 : decode code 105 = .ok (.iconst 2, 1) := by decide +kernel
theorem dlaw_106 : decode code 106 = .ok (.if_icmp .lt 21, 3) := by decide +kernel
theorem dlaw_109 : decode code 109 = .ok (.aload 8, 2) := by decide +kernel
theorem dlaw_111 : decode code 111 = .ok (.iconst 2, 1) := by decide +kernel
theorem dlaw_112 : decode code 112 = .ok (.iload 5, 2) := by decide +kernel
theorem dlaw_114 : decode code 114 = .ok (.invokestatic 14, 3) := by decide +kernel
theorem dlaw_117 : decode code 117 = .ok (.aastore, 1) := by decide +kernel
theorem dlaw_118 : decode code 118 = .ok (.aload 8, 2) := by decide +kernel
theorem dlaw_120 : decode code 120 = .ok (.iconst 3, 1) := by decide +kernel
theorem dlaw_121 : decode code 121 = .ok (.iload 6, 2) := by decide +kernel
theorem dlaw_123 : decode code 123 = .ok (.invokestatic 14, 3) := by decide +kernel
theorem dlaw_126 : decode code 126 = .ok (.aastore, 1) := by decide +kernel
theorem dlaw_127 : decode code 127 = .ok (.aload 8, 2) := by decide +kernel
theorem dlaw_129 : decode code 129 = .ok (.invokestatic 18, 3) := by decide +kernel
theorem dlaw_132 : decode code 132 = .ok (.astore 9, 2) := by decide +kernel
theorem dlaw_134 : decode code 134 = .ok (.iload 7, 2) := by decide +kernel
theorem dlaw_136 : decode code 136 = .ok (.iconst 1, 1) := by decide +kernel
theorem dlaw_137 : decode code 137 = .ok (.if_icmp .lt 15, 3) := by decide +kernel
theorem dlaw_140 : decode code 140 = .ok (.aload 8, 2) := by decide +kernel
theorem dlaw_142 : decode code 142 = .ok (.iconst 0, 1) := by decide +kernel
theorem dlaw_143 : decode code 143 = .ok (.ldc 24, 2) := by decide +kernel
theorem dlaw_145 : decode code 145 = .ok (.aastore, 1) := by decide +kernel
theorem dlaw_146 : decode code 146 = .ok (.aload 8, 2) := by decide +kernel
theorem dlaw_148 : decode code 148 = .ok (.iconst 1, 1) := by decide +kernel
theorem dlaw_149 : decode code 149 = .ok (.ldc 24, 2) := by decide +kernel
theorem dlaw_151 : decode code 151 = .ok (.aastore, 1) := by decide +kernel
theorem dlaw_152 : decode code 152 = .ok (.iload 7, 2) := by decide +kernel
theorem dlaw_154 : decode code 154 = .ok (.iconst 2, 1) := by decide +kernel
theorem dlaw_155 : decode code 155 = .ok (.if_icmp .lt 15, 3) := by decide +kernel
theorem dlaw_158 : decode code 158 = .ok (.aload 8, 2) := by decide +kernel
theorem dlaw_160 : decode code 160 = .ok (.iconst 2, 1) := by decide +kernel
theorem dlaw_161 : decode code 161 = .ok (.ldc 24, 2) := by decide +kernel
theorem dlaw_163 : decode code 163 = .ok (.aastore, 1) := by decide +kernel
theorem dlaw_164 : decode code 164 = .ok (.aload 8, 2) := by decide +kernel
theorem dlaw_166 : decode code 166 = .ok (.iconst 3, 1) := by decide +kernel
theorem dlaw_167 : decode code 167 = .ok (.ldc 24, 2) := by decide +kernel
theorem dlaw_169 : decode code 169 = .ok (.aastore, 1) := by decide +kernel
theorem dlaw_170 : decode code 170 = .ok (.aload 9, 2) := by decide +kernel
theorem dlaw_172 : decode code 172 = .ok (.invokevirtual 26, 3) := by decide +kernel
theorem dlaw_175 : decode code 175 = .ok (.astore 10, 2) := by decide +kernel
theorem dlaw_177 : decode code 177 = .ok (.aload 10, 2) := by decide +kernel
theorem dlaw_179 : decode code 179 = .ok (.invokevirtual 30, 3) := by decide +kernel
theorem dlaw_182 : decode code 182 = .ok (.iconst 5, 1) := by decide +kernel
theorem dlaw_183 : decode code 183 = .ok (.iload 7, 2) := by decide +kernel
theorem dlaw_185 : decode code 185 = .ok (.imul, 1) := by decide +kernel
theorem dlaw_186 : decode code 186 = .ok (.if_icmp .eq 5, 3) := by decide +kernel
theorem dlaw_189 : decode code 189 = .ok (.iconst 0, 1) := by decide +kernel
theorem dlaw_190 : decode code 190 = .ok (.ireturn, 1) := by decide +kernel
theorem dlaw_191 : decode code 191 = .ok (.iload 7, 2) := by decide +kernel
theorem dlaw_193 : decode code 193 = .ok (.iconst 1, 1) := by decide +kernel
theorem dlaw_194 : decode code 194 = .ok (.if_icmp .lt 17, 3) := by decide +kernel
theorem dlaw_197 : decode code 197 = .ok (.aload 10, 2) := by decide +kernel
theorem dlaw_199 : decode code 199 = .ok (.iconst 0, 1) := by decide +kernel
theorem dlaw_200 : decode code 200 = .ok (.iload_n 3, 1) := by decide +kernel
theorem dlaw_201 : decode code 201 = .ok (.iload 4, 2) := by decide +kernel
theorem dlaw_203 : decode code 203 = .ok (.invokestatic 34, 3) := by decide +kernel
theorem dlaw_206 : decode code 206 = .ok (.ifCond .ne 5, 3) := by decide +kernel
theorem dlaw_209 : decode code 209 = .ok (.iconst 0, 1) := by decide +kernel
theorem dlaw_210 : decode code 210 = .ok (.ireturn, 1) := by decide +kernel
theorem dlaw_211 : decode code 211 = .ok (.iload 7, 2) := by decide +kernel
theorem dlaw_213 : decode code 213 = .ok (.iconst 2, 1) := by decide +kernel
theorem dlaw_214 : decode code 214 = .ok (.if_icmp .lt 18, 3) := by decide +kernel
theorem dlaw_217 : decode code 217 = .ok (.aload 10, 2) := by decide +kernel
theorem dlaw_219 : decode code 219 = .ok (.iconst 5, 1) := by decide +kernel
theorem dlaw_220 : decode code 220 = .ok (.iload 5, 2) := by decide +kernel
theorem dlaw_222 : decode code 222 = .ok (.iload 6, 2) := by decide +kernel
theorem dlaw_224 : decode code 224 = .ok (.invokestatic 34, 3) := by decide +kernel
theorem dlaw_227 : decode code 227 = .ok (.ifCond .ne 5, 3) := by decide +kernel
theorem dlaw_230 : decode code 230 = .ok (.iconst 0, 1) := by decide +kernel
theorem dlaw_231 : decode code 231 = .ok (.ireturn, 1) := by decide +kernel
theorem dlaw_232 : decode code 232 = .ok (.iconst 1, 1) := by decide +kernel
theorem dlaw_233 : decode code 233 = .ok (.ireturn, 1) := by decide +kernel
set_option maxRecDepth 65536 in
set_option maxHeartbeats 40000000 in
theorem law_met (l : Launch) (Z : State) (a0 : Array Value) (hw : ∀ d ∈ tables_1, d.before a0 Z = true) (ia : Int32) (ib : Int32) (ic : Int32) (cs : Int32) (fm : Value) (h : Heap) (n0 : Nat) (p0_ : Old Z n0 h) (p1_ : Sta Z Z.heap "java/lang/String" "COMPACT_STRINGS" "Z" (.int cs)) (hcs : ¬ cs = (0 : Int32)) (p3_ : Sta Z Z.heap "jdk/internal/util/Preconditions" "SIOOBE_FORMATTER" "Ljava/util/function/BiFunction;" fm) (hfm : fm.isRef = true) (hfc : fm.category = 1) :
    MetW l x code maxLocals ret tables_1 room_1 #[(.int ia), (.int ib), (.int ic)] Z consts_1 h n0 [] (fun v _ => v = some (.int 1)) := by
  refine MetW.of (plainFor_of_name (by first | (simp [plainName, overriddenIn]; done) | decide +kernel)) ?_
  intro pP eE sS mM bB tT cC Kc0 X0 SF
  have K := Kc0
  refine Go.entry (ls := #[.val (.int ia), .val (.int ib), .val (.int ic), .unset, .unset, .unset, .unset, .unset, .unset, .unset, .unset]) (by first | (simp [argsToLocals, Value.category, maxLocals]; done) | rfl) ?_
  refine go_iloadN (q := 1) K dlaw_0 rfl rfl ?_
  refine go_sipush (q := 4) K dlaw_1 (255 : Int32) rfl rfl ?_
  refine go_iand (q := 5) K dlaw_4 rfl ?_
  refine go_i2c (q := 6) K dlaw_5 rfl ?_
  refine go_nameI (fun z0 hz0 => ?_)
  refine go_istoreN (q := 7) K dlaw_6 #[.val (.int ia), .val (.int ib), .val (.int ic), .val (.int z0), .unset, .unset, .unset, .unset, .unset, .unset, .unset] rfl rfl ?_
  refine go_iloadN (q := 8) K dlaw_7 rfl rfl ?_
  refine go_bipush (q := 10) K dlaw_8 (8 : Int32) rfl rfl ?_
  refine go_iushr (q := 11) K dlaw_10 rfl ?_
  refine go_sipush (q := 14) K dlaw_11 (255 : Int32) rfl rfl ?_
  refine go_iand (q := 15) K dlaw_14 rfl ?_
  refine go_i2c (q := 16) K dlaw_15 rfl ?_
  refine go_nameI (fun z1 hz1 => ?_)
  refine go_istore (q := 18) K dlaw_16 #[.val (.int ia), .val (.int ib), .val (.int ic), .val (.int z0), .val (.int z1), .unset, .unset, .unset, .unset, .unset, .unset] rfl rfl ?_
  refine go_iloadN (q := 19) K dlaw_18 rfl rfl ?_
  refine go_sipush (q := 22) K dlaw_19 (255 : Int32) rfl rfl ?_
  refine go_iand (q := 23) K dlaw_22 rfl ?_
  refine go_i2c (q := 24) K dlaw_23 rfl ?_
  refine go_nameI (fun z2 hz2 => ?_)
  refine go_istore (q := 26) K dlaw_24 #[.val (.int ia), .val (.int ib), .val (.int ic), .val (.int z0), .val (.int z1), .val (.int z2), .unset, .unset, .unset, .unset, .unset] rfl rfl ?_
  refine go_iloadN (q := 27) K dlaw_26 rfl rfl ?_
  refine go_bipush (q := 29) K dlaw_27 (8 : Int32) rfl rfl ?_
  refine go_iushr (q := 30) K dlaw_29 rfl ?_
  refine go_sipush (q := 33) K dlaw_30 (255 : Int32) rfl rfl ?_
  refine go_iand (q := 34) K dlaw_33 rfl ?_
  refine go_i2c (q := 35) K dlaw_34 rfl ?_
  refine go_nameI (fun z3 hz3 => ?_)
  refine go_istore (q := 37) K dlaw_35 #[.val (.int ia), .val (.int ib), .val (.int ic), .val (.int z0), .val (.int z1), .val (.int z2), .val (.int z3), .unset, .unset, .unset, .unset] rfl rfl ?_
  refine go_iloadN (q := 38) K dlaw_37 rfl rfl ?_
  refine go_ldcI (q := 40) K (wd hw 0 rfl) dlaw_38 rfl ?_
  refine go_iand (q := 41) K dlaw_40 rfl ?_
  refine go_iconst (q := 42) K dlaw_41 (3 : Int32) rfl rfl ?_
  refine go_irem (q := 43) K dlaw_42 (by decide) rfl ?_
  refine go_nameI (fun pp hpp => ?_)
  refine go_istore (q := 45) K dlaw_43 #[.val (.int ia), .val (.int ib), .val (.int ic), .val (.int z0), .val (.int z1), .val (.int z2), .val (.int z3), .val (.int pp), .unset, .unset, .unset] rfl rfl ?_
  rcases own_p3 hpp with rfl | rfl | rfl
  · show Go pP l eE _ _ mM _ bB tT cC n0 _ h 0 0 (mkF mM 45 #[.val (.int ia), .val (.int ib), .val (.int ic), .val (.int z0), .val (.int z1), .val (.int z2), .val (.int z3), .val (.int (0 : Int32)), .unset, .unset, .unset] [])
    refine go_iload (q := 47) K dlaw_45 rfl rfl ?_
    refine go_if0 (q := 59) (q' := 50) K dlaw_47 (by decide) rfl rfl (fun hn => cN_no hn (show (0 : Int32) = (0 : Int32) from (by decide))) (fun _ => ?_)
    refine go_iconst (q := 51) K dlaw_50 (0 : Int32) rfl rfl ?_
    refine go_anewarrayE (q := 54) (num := 0) (cap := 0) (ad := "[Ljava/lang/String;") K (wd hw 1 rfl) (wd hw 2 rfl) (by decide +kernel) dlaw_51 (by decide) rfl (by decide) (by decide) (by decide) (by decide) rfl ?_
    intro h1 ah1 kh1 gah1 Eh1 Yh1 Vh1 Xah1
    have Xh1 := X0.ext Eh1
    refine go_astore (q := 56) K dlaw_54 #[.val (.int ia), .val (.int ib), .val (.int ic), .val (.int z0), .val (.int z1), .val (.int z2), .val (.int z3), .val (.int (0 : Int32)), .val (.ref ah1), .unset, .unset] rfl rfl rfl ?_
    refine go_goto (q := 80) K dlaw_56 (by decide) rfl ?_
    refine go_iload (q := 82) K dlaw_80 rfl rfl ?_
    refine go_iconst (q := 83) K dlaw_82 (1 : Int32) rfl rfl ?_
    refine go_icmp (q := 103) (q' := 86) K dlaw_83 (by decide) rfl rfl (fun _ => ?_) (fun hn => cN_no2 hn (show (0 : Int32) < (1 : Int32) from (by decide)))
    refine go_iload (q := 105) K dlaw_103 rfl rfl ?_
    refine go_iconst (q := 106) K dlaw_105 (2 : Int32) rfl rfl ?_
    refine go_icmp (q := 127) (q' := 109) K dlaw_106 (by decide) rfl rfl (fun _ => ?_) (fun hn => cN_no2 hn (show (0 : Int32) < (2 : Int32) from (by decide)))
    refine go_aload (q := 129) K dlaw_127 rfl rfl rfl ?_
    have f1 := (p0_.ext Eh1)
    refine gw_callS (q := 132) (W := 0) K Xh1 (ewn hw) all0 (wd hw 29 rfl) (wd hw 30 rfl) (wd hw 31 rfl) (wd hw 32 rfl) [(.ref ah1)] [] (hof0 l Z a0 hw _ _ _ n0 f1 Yh1 Xah1) dlaw_129 (ps := [(.array (.object "java/lang/String"))]) (by decide +kernel) rfl rfl rfl (by decide) rfl (by decide) (by decide) (by decide) (by decide) rfl ?_
    rintro _ h2 ⟨hdh2, ar2h2, rfl, Kh2, ghdh2, gar2h2, q0h2, q1h2, q2h2⟩ vmh2 Kch2 Xh2 sfh2
    have K := Kch2
    show Go pP l eE _ _ mM _ bB tT cC n0 _ h2 3 1 (mkF mM 132 #[.val (.int ia), .val (.int ib), .val (.int ic), .val (.int z0), .val (.int z1), .val (.int z2), .val (.int z3), .val (.int (0 : Int32)), .val (.ref ah1), .unset, .unset] [(.ref hdh2)])
    refine go_astore (q := 134) K dlaw_132 #[.val (.int ia), .val (.int ib), .val (.int ic), .val (.int z0), .val (.int z1), .val (.int z2), .val (.int z3), .val (.int (0 : Int32)), .val (.ref ah1), .val (.ref hdh2), .unset] rfl rfl rfl ?_
    refine go_iload (q := 136) K dlaw_134 rfl rfl ?_
    refine go_iconst (q := 137) K dlaw_136 (1 : Int32) rfl rfl ?_
    refine go_icmp (q := 152) (q' := 140) K dlaw_137 (by decide) rfl rfl (fun _ => ?_) (fun hn => cN_no2 hn (show (0 : Int32) < (1 : Int32) from (by decide)))
    refine go_iload (q := 154) K dlaw_152 rfl rfl ?_
    refine go_iconst (q := 155) K dlaw_154 (2 : Int32) rfl rfl ?_
    refine go_icmp (q := 170) (q' := 158) K dlaw_155 (by decide) rfl rfl (fun _ => ?_) (fun hn => cN_no2 hn (show (0 : Int32) < (2 : Int32) from (by decide)))
    refine go_aload (q := 172) K dlaw_170 rfl rfl rfl ?_
    have f2 := (f1.keep Kh2 all0)
    have f3 := (Yh1.keep Kh2 nin0)
    refine gw_callV (q := 175) (W := 0) K Xh2 (ewn hw) all0 (wd hw 58 rfl) (wd hw 59 rfl) (wd hw 61 rfl) (wd hw 60 rfl) (wd hw 31 rfl) (wd hw 62 rfl) (wd hw 61 rfl) rfl q0h2 [] [] (hts0 l Z a0 hw _ _ _ _ _ n0 f2 p1_ hcs q0h2 q1h2 q2h2) dlaw_172 (ps := []) (by decide +kernel) rfl rfl rfl (by decide) rfl (by decide) (by decide) (by decide) (by decide) rfl ?_
    rintro _ h3 ⟨rsh3, rbh3, rkh3, rfl, Kh3, grsh3, grbh3, q0h3, q1h3, q2h3, q3h3⟩ vmh3 Kch3 Xh3 sfh3
    have K := Kch3
    show Go pP l eE _ _ mM _ bB tT cC n0 _ h3 7 25 (mkF mM 175 #[.val (.int ia), .val (.int ib), .val (.int ic), .val (.int z0), .val (.int z1), .val (.int z2), .val (.int z3), .val (.int (0 : Int32)), .val (.ref ah1), .val (.ref hdh2), .unset] [(.ref rsh3)])
    refine go_astore (q := 177) K dlaw_175 #[.val (.int ia), .val (.int ib), .val (.int ic), .val (.int z0), .val (.int z1), .val (.int z2), .val (.int z3), .val (.int (0 : Int32)), .val (.ref ah1), .val (.ref hdh2), .val (.ref rsh3)] rfl rfl rfl ?_
    refine go_aload (q := 179) K dlaw_177 rfl rfl rfl ?_
    have f4 := (f2.keep Kh3 all0)
    refine go_callV (q := 182) (W := 0) K (wd hw 185 rfl) (wd hw 92 rfl) (wd hw 94 rfl) (wd hw 93 rfl) (wd hw 5 rfl) (wd hw 95 rfl) (wd hw 94 rfl) rfl q0h3 [] [] (strLen l Z a0 hw _ _ _ _ _ _ _ n0 f4 p1_ hcs q0h3 q1h3 q2h3 q3h3 rfl) dlaw_179 (ps := []) (by decide +kernel) rfl rfl rfl (by decide) rfl (by decide) (by decide) (by decide) (by decide) rfl ?_
    rintro _ _ ⟨rfl, rfl⟩
    show Go pP l eE _ _ mM _ bB tT cC n0 _ h3 7 25 (mkF mM 182 #[.val (.int ia), .val (.int ib), .val (.int ic), .val (.int z0), .val (.int z1), .val (.int z2), .val (.int z3), .val (.int (0 : Int32)), .val (.ref ah1), .val (.ref hdh2), .val (.ref rsh3)] [(.int (0 : Int32))])
    refine go_iconst (q := 183) K dlaw_182 (5 : Int32) rfl rfl ?_
    refine go_iload (q := 185) K dlaw_183 rfl rfl ?_
    refine go_imul (q := 186) K dlaw_185 rfl ?_
    refine go_eqI (y := (0 : Int32)) (by decide) ?_
    refine go_icmp (q := 191) (q' := 189) K dlaw_186 (by decide) rfl rfl (fun _ => ?_) (fun hn => cN_no2 hn (show (0 : Int32) = (0 : Int32) from (by decide)))
    refine go_iload (q := 193) K dlaw_191 rfl rfl ?_
    refine go_iconst (q := 194) K dlaw_193 (1 : Int32) rfl rfl ?_
    refine go_icmp (q := 211) (q' := 197) K dlaw_194 (by decide) rfl rfl (fun _ => ?_) (fun hn => cN_no2 hn (show (0 : Int32) < (1 : Int32) from (by decide)))
    refine go_iload (q := 213) K dlaw_211 rfl rfl ?_
    refine go_iconst (q := 214) K dlaw_213 (2 : Int32) rfl rfl ?_
    refine go_icmp (q := 232) (q' := 217) K dlaw_214 (by decide) rfl rfl (fun _ => ?_) (fun hn => cN_no2 hn (show (0 : Int32) < (2 : Int32) from (by decide)))
    refine go_iconst (q := 233) K dlaw_232 (1 : Int32) rfl rfl ?_
    refine gw_iret K Xh3 (ewn hw) dlaw_233 rfl (Or.inr (Or.inl rfl)) rfl (by decide) (by decide) ?_
    exact rfl
  · show Go pP l eE _ _ mM _ bB tT cC n0 _ h 0 0 (mkF mM 45 #[.val (.int ia), .val (.int ib), .val (.int ic), .val (.int z0), .val (.int z1), .val (.int z2), .val (.int z3), .val (.int (1 : Int32)), .unset, .unset, .unset] [])
    refine go_iload (q := 47) K dlaw_45 rfl rfl ?_
    refine go_if0 (q := 59) (q' := 50) K dlaw_47 (by decide) rfl rfl (fun _ => ?_) (fun hn => cN_no2 hn (show ¬ (1 : Int32) = (0 : Int32) from (by decide)))
    refine go_iload (q := 61) K dlaw_59 rfl rfl ?_
    refine go_iconst (q := 62) K dlaw_61 (1 : Int32) rfl rfl ?_
    refine go_icmp (q := 74) (q' := 65) K dlaw_62 (by decide) rfl rfl (fun hn => cN_no hn (show (1 : Int32) = (1 : Int32) from (by decide))) (fun _ => ?_)
    refine go_iconst (q := 66) K dlaw_65 (2 : Int32) rfl rfl ?_
    refine go_anewarrayE (q := 69) (num := 2) (cap := 2) (ad := "[Ljava/lang/String;") K (wd hw 1 rfl) (wd hw 2 rfl) (by decide +kernel) dlaw_66 (by decide) rfl (by decide) (by decide) (by decide) (by decide) rfl ?_
    intro h1 ah1 kh1 gah1 Eh1 Yh1 Vh1 Xah1
    have Xh1 := X0.ext Eh1
    refine go_astore (q := 71) K dlaw_69 #[.val (.int ia), .val (.int ib), .val (.int ic), .val (.int z0), .val (.int z1), .val (.int z2), .val (.int z3), .val (.int (1 : Int32)), .val (.ref ah1), .unset, .unset] rfl rfl rfl ?_
    refine go_goto (q := 80) K dlaw_71 (by decide) rfl ?_
    refine go_iload (q := 82) K dlaw_80 rfl rfl ?_
    refine go_iconst (q := 83) K dlaw_82 (1 : Int32) rfl rfl ?_
    refine go_icmp (q := 103) (q' := 86) K dlaw_83 (by decide) rfl rfl (fun hn => cN_no hn (show ¬ (1 : Int32) < (1 : Int32) from (by decide))) (fun _ => ?_)
    refine go_aload (q := 88) K dlaw_86 rfl rfl rfl ?_
    refine go_iconst (q := 89) K dlaw_88 (0 : Int32) rfl rfl ?_
    refine go_iloadN (q := 90) K dlaw_89 rfl rfl ?_
    have f1 := (p0_.ext Eh1)
    refine go_callS (q := 93) (W := 2) K (wd hw 3 rfl) (wd hw 4 rfl) (wd hw 5 rfl) (wd hw 6 rfl) [(.int z0)] [(.int (0 : Int32)), (.ref ah1)] (valueOfC l Z a0 hw _ _ _ n0 f1 p1_ hcs (own_lo hz0)) dlaw_90 (ps := [.char]) (by decide +kernel) rfl rfl rfl (by decide) rfl (by decide) (by decide) (by decide) (by decide) rfl ?_
    rintro _ h2 ⟨ah2, bh2, kbh2, rfl, Kh2, gah2, gbh2, q0h2, q1h2, q2h2, q3h2, q4h2⟩
    show Go pP l eE _ _ mM _ bB tT cC n0 _ h2 3 7 (mkF mM 93 #[.val (.int ia), .val (.int ib), .val (.int ic), .val (.int z0), .val (.int z1), .val (.int z2), .val (.int z3), .val (.int (1 : Int32)), .val (.ref ah1), .unset, .unset] [(.ref ah2), (.int (0 : Int32)), (.ref ah1)])
    have Xh2 := Xh1.keep Kh2 all0
    have f2 := (Yh1.keep Kh2 nin0)
    refine go_aastore (q := 94) K f2 rfl (sto_of f2 Vh1 (Ins.self q0h2)) (by decide) (show 0 < 2 from by decide) (Nat.le_trans (own_ge p0_) (Nat.le_of_eq gah1.symm)) dlaw_93 rfl ?_
    intro h3 Wh3 Yh3
    have f3 := (Xah1.keep Kh2)
    have Xh3 := Xh2.wr Wh3 (Kc0.safe f3 (by decide) (by decide))
    refine go_aload (q := 96) K dlaw_94 rfl rfl rfl ?_
    refine go_iconst (q := 97) K dlaw_96 (1 : Int32) rfl rfl ?_
    refine go_iload (q := 99) K dlaw_97 rfl rfl ?_
    have f4 := ((f1.keep Kh2 all0).wr Wh3 (Nat.le_trans (own_ge p0_) (Nat.le_of_eq gah1.symm)))
    have f5 := (q0h2.wr Wh3)
    have f6 := (q3h2.other Wh3 ((own_nel (Yh1).lt gbh2)).symm)
    refine go_callS (q := 102) (W := 2) K (wd hw 3 rfl) (wd hw 4 rfl) (wd hw 5 rfl) (wd hw 6 rfl) [(.int z1)] [(.int (1 : Int32)), (.ref ah1)] (valueOfC l Z a0 hw _ _ _ n0 f4 p1_ hcs (own_lo hz1)) dlaw_99 (ps := [.char]) (by decide +kernel) rfl rfl rfl (by decide) rfl (by decide) (by decide) (by decide) (by decide) rfl ?_
    rintro _ h4 ⟨ah4, bh4, kbh4, rfl, Kh4, gah4, gbh4, q0h4, q1h4, q2h4, q3h4, q4h4⟩
    show Go pP l eE _ _ mM _ bB tT cC n0 _ h4 5 12 (mkF mM 102 #[.val (.int ia), .val (.int ib), .val (.int ic), .val (.int z0), .val (.int z1), .val (.int z2), .val (.int z3), .val (.int (1 : Int32)), .val (.ref ah1), .unset, .unset] [(.ref ah4), (.int (1 : Int32)), (.ref ah1)])
    have Xh4 := Xh3.keep Kh4 all0
    have f7 := (Yh3.keep Kh4 nin0)
    refine go_aastore (q := 103) K f7 rfl (sto_of f7 Vh1 (Ins.self q0h4)) (by decide) (show 1 < 2 from by decide) (Nat.le_trans (own_ge p0_) (Nat.le_of_eq gah1.symm)) dlaw_102 rfl ?_
    intro h5 Wh5 Yh5
    have f8 := ((f3.wr Wh3).keep Kh4)
    have Xh5 := Xh4.wr Wh5 (Kc0.safe f8 (by decide) (by decide))
    refine go_iload (q := 105) K dlaw_103 rfl rfl ?_
    refine go_iconst (q := 106) K dlaw_105 (2 : Int32) rfl rfl ?_
    refine go_icmp (q := 127) (q' := 109) K dlaw_106 (by decide) rfl rfl (fun _ => ?_) (fun hn => cN_no2 hn (show (1 : Int32) < (2 : Int32) from (by decide)))
    refine go_aload (q := 129) K dlaw_127 rfl rfl rfl ?_
    have f9 := ((f4.keep Kh4 all0).wr Wh5 (Nat.le_trans (own_ge p0_) (Nat.le_of_eq gah1.symm)))
    have f10 := (f8.wr Wh5)
    have f11 := ((f5.keep Kh4).wr Wh5)
    have f12 := ((f6.keep Kh4 nin0).other Wh5 ((own_nel (Yh1).lt gbh2)).symm)
    have f13 := (q0h4.wr Wh5)
    have f14 := (q3h4.other Wh5 ((own_nel (Yh3).lt gbh4)).symm)
    refine gw_callS (q := 132) (W := 0) K Xh5 (ewn hw) all0 (wd hw 29 rfl) (wd hw 30 rfl) (wd hw 31 rfl) (wd hw 32 rfl) [(.ref ah1)] [] (hof2 l Z a0 hw _ _ _ _ _ n0 f9 Yh5 f10) dlaw_129 (ps := [(.array (.object "java/lang/String"))]) (by decide +kernel) rfl rfl rfl (by decide) rfl (by decide) (by decide) (by decide) (by decide) rfl ?_
    rintro _ h6 ⟨hdh6, ar2h6, rfl, Kh6, ghdh6, gar2h6, q0h6, q1h6, q2h6⟩ vmh6 Kch6 Xh6 sfh6
    have K := Kch6
    show Go pP l eE _ _ mM _ bB tT cC n0 _ h6 11 175 (mkF mM 132 #[.val (.int ia), .val (.int ib), .val (.int ic), .val (.int z0), .val (.int z1), .val (.int z2), .val (.int z3), .val (.int (1 : Int32)), .val (.ref ah1), .unset, .unset] [(.ref hdh6)])
    refine go_astore (q := 134) K dlaw_132 #[.val (.int ia), .val (.int ib), .val (.int ic), .val (.int z0), .val (.int z1), .val (.int z2), .val (.int z3), .val (.int (1 : Int32)), .val (.ref ah1), .val (.ref hdh6), .unset] rfl rfl rfl ?_
    refine go_iload (q := 136) K dlaw_134 rfl rfl ?_
    refine go_iconst (q := 137) K dlaw_136 (1 : Int32) rfl rfl ?_
    refine go_icmp (q := 152) (q' := 140) K dlaw_137 (by decide) rfl rfl (fun hn => cN_no hn (show ¬ (1 : Int32) < (1 : Int32) from (by decide))) (fun _ => ?_)
    refine go_aload (q := 142) K dlaw_140 rfl rfl rfl ?_
    refine go_iconst (q := 143) K dlaw_142 (0 : Int32) rfl rfl ?_
    have f15 := (f9.keep Kh6 all0)
    refine go_ldcS (q := 145) (num := 0) (text := "") K Xh6 (ewn hw) (wSn hw) (wd hw 57 rfl) (by decide) [] (0 : Int32) ⟨by decide, by decide⟩ (by decide) (by decide) (by decide) (by decide) (by decide) (by decide) dlaw_143 rfl ?_
    intro vmh7 h7 lah7 lbh7 lkh7 Eh7 Kch7 Xh7 sfh7 nbh7 leh7 lch7 lvh7 lyh7
    have K := Kch7
    have f16 := ((f10.keep Kh6).ext Eh7)
    have f17 := (q0h6.ext Eh7)
    have f18 := (q2h6.ext Eh7)
    have f19 := ((Yh5.keep Kh6 nin0).ext Eh7)
    refine go_aastore (q := 146) K f19 rfl (sto_of f19 Vh1 (Ins.self leh7)) (by decide) (show 0 < 2 from by decide) (Nat.le_trans (own_ge p0_) (Nat.le_of_eq gah1.symm)) dlaw_145 rfl ?_
    intro h8 Wh8 Yh8
    have Xh8 := Xh7.wr Wh8 (Kch7.safe f16 (by decide) (by decide))
    refine go_aload (q := 148) K dlaw_146 rfl rfl rfl ?_
    refine go_iconst (q := 149) K dlaw_148 (1 : Int32) rfl rfl ?_
    have f20 := ((f15.ext Eh7).wr Wh8 (Nat.le_trans (own_ge p0_) (Nat.le_of_eq gah1.symm)))
    refine go_ldcS (q := 151) (num := 0) (text := "") K Xh8 (ewn hw) (wSn hw) (wd hw 57 rfl) (by decide) [] (0 : Int32) ⟨by decide, by decide⟩ (by decide) (by decide) (by decide) (by decide) (by decide) (by decide) dlaw_149 rfl ?_
    intro vmh9 h9 lah9 lbh9 lkh9 Eh9 Kch9 Xh9 sfh9 nbh9 leh9 lch9 lvh9 lyh9
    have K := Kch9
    have f21 := ((f16.wr Wh8).ext Eh9)
    have f22 := ((f17.wr Wh8).ext Eh9)
    have f23 := ((f18.other Wh8 ((own_nel (Yh5).lt gar2h6)).symm).ext Eh9)
    have f24 := (Yh8.ext Eh9)
    refine go_aastore (q := 152) K f24 rfl (sto_of f24 Vh1 (Ins.self leh9)) (by decide) (show 1 < 2 from by decide) (Nat.le_trans (own_ge p0_) (Nat.le_of_eq gah1.symm)) dlaw_151 rfl ?_
    intro h10 Wh10 Yh10
    have Xh10 := Xh9.wr Wh10 (Kch9.safe f21 (by decide) (by decide))
    refine go_iload (q := 154) K dlaw_152 rfl rfl ?_
    refine go_iconst (q := 155) K dlaw_154 (2 : Int32) rfl rfl ?_
    refine go_icmp (q := 170) (q' := 158) K dlaw_155 (by decide) rfl rfl (fun _ => ?_) (fun hn => cN_no2 hn (show (1 : Int32) < (2 : Int32) from (by decide)))
    refine go_aload (q := 172) K dlaw_170 rfl rfl rfl ?_
    have f25 := ((f20.ext Eh9).wr Wh10 (Nat.le_trans (own_ge p0_) (Nat.le_of_eq gah1.symm)))
    have f26 := (f22.wr Wh10)
    have f27 := ((((q1h6.ext Eh7).other Wh8 (Or.inl ((own_nel (Yh5).lt ghdh6)).symm)).ext Eh9).other Wh10 (Or.inl ((own_nel (Yh5).lt ghdh6)).symm))
    have f28 := (f23.other Wh10 ((own_nel (Yh5).lt gar2h6)).symm)
    have f29 := (((((f11.keep Kh6).ext Eh7).wr Wh8).ext Eh9).wr Wh10)
    have f30 := ((((((((q1h2.other Wh3 (Or.inl ((own_nel (Yh1).lt gah2)).symm)).keep Kh4 nin0).other Wh5 (Or.inl ((own_nel (Yh1).lt gah2)).symm)).keep Kh6 nin0).ext Eh7).other Wh8 (Or.inl ((own_nel (Yh1).lt gah2)).symm)).ext Eh9).other Wh10 (Or.inl ((own_nel (Yh1).lt gah2)).symm))
    have f31 := ((((((((q2h2.other Wh3 (Or.inl ((own_nel (Yh1).lt gah2)).symm)).keep Kh4 nin0).other Wh5 (Or.inl ((own_nel (Yh1).lt gah2)).symm)).keep Kh6 nin0).ext Eh7).other Wh8 (Or.inl ((own_nel (Yh1).lt gah2)).symm)).ext Eh9).other Wh10 (Or.inl ((own_nel (Yh1).lt gah2)).symm))
    have f32 := (((((f12.keep Kh6 nin0).ext Eh7).other Wh8 ((own_nel (Yh1).lt gbh2)).symm).ext Eh9).other Wh10 ((own_nel (Yh1).lt gbh2)).symm)
    have f33 := (((((f13.keep Kh6).ext Eh7).wr Wh8).ext Eh9).wr Wh10)
    have f34 := ((((((q1h4.other Wh5 (Or.inl ((own_nel (Yh3).lt gah4)).symm)).keep Kh6 nin0).ext Eh7).other Wh8 (Or.inl ((own_nel (Yh3).lt gah4)).symm)).ext Eh9).other Wh10 (Or.inl ((own_nel (Yh3).lt gah4)).symm))
    have f35 := ((((((q2h4.other Wh5 (Or.inl ((own_nel (Yh3).lt gah4)).symm)).keep Kh6 nin0).ext Eh7).other Wh8 (Or.inl ((own_nel (Yh3).lt gah4)).symm)).ext Eh9).other Wh10 (Or.inl ((own_nel (Yh3).lt gah4)).symm))
    have f36 := (((((f14.keep Kh6 nin0).ext Eh7).other Wh8 ((own_nel (Yh3).lt gbh4)).symm).ext Eh9).other Wh10 ((own_nel (Yh3).lt gbh4)).symm)
    have f37 := (((leh7.wr Wh8).ext Eh9).wr Wh10)
    have f38 := (((lyh7.other Wh8 ((nbh7 _ (Kch7.safe f16 (by decide) (by decide))).2).symm).ext Eh9).other Wh10 ((nbh7 _ (Kch7.safe f16 (by decide) (by decide))).2).symm)
    have f39 := (leh9.wr Wh10)
    have f40 := (lyh9.other Wh10 ((nbh9 _ (Kch9.safe f21 (by decide) (by decide))).2).symm)
    refine gw_callV (q := 175) (W := 0) K Xh10 (ewn hw) all0 (wd hw 58 rfl) (wd hw 59 rfl) (wd hw 61 rfl) (wd hw 60 rfl) (wd hw 31 rfl) (wd hw 62 rfl) (wd hw 61 rfl) rfl f26 [] [] (hts1 l Z a0 hw _ _ _ _ _ _ _ _ _ _ _ _ _ n0 f25 p1_ hcs f26 f27 f28 f29 f30 f31 f32 f33 f34 f35 f36 (fits_nar _) (fits_nar _)) dlaw_172 (ps := []) (by decide +kernel) rfl rfl rfl (by decide) rfl (by decide) (by decide) (by decide) (by decide) rfl ?_
    rintro _ h11 ⟨rsh11, rbh11, rkh11, rfl, Kh11, grsh11, grbh11, q0h11, q1h11, q2h11, q3h11⟩ vmh11 Kch11 Xh11 sfh11
    have K := Kch11
    show Go pP l eE _ _ mM _ bB tT cC n0 _ h11 21 224 (mkF mM 175 #[.val (.int ia), .val (.int ib), .val (.int ic), .val (.int z0), .val (.int z1), .val (.int z2), .val (.int z3), .val (.int (1 : Int32)), .val (.ref ah1), .val (.ref hdh6), .unset] [(.ref rsh11)])
    refine go_astore (q := 177) K dlaw_175 #[.val (.int ia), .val (.int ib), .val (.int ic), .val (.int z0), .val (.int z1), .val (.int z2), .val (.int z3), .val (.int (1 : Int32)), .val (.ref ah1), .val (.ref hdh6), .val (.ref rsh11)] rfl rfl rfl ?_
    refine go_aload (q := 179) K dlaw_177 rfl rfl rfl ?_
    have f41 := (f25.keep Kh11 all0)
    refine go_callV (q := 182) (W := 0) K (wd hw 185 rfl) (wd hw 92 rfl) (wd hw 94 rfl) (wd hw 93 rfl) (wd hw 5 rfl) (wd hw 95 rfl) (wd hw 94 rfl) rfl q0h11 [] [] (strLen l Z a0 hw _ _ _ _ _ _ _ n0 f41 p1_ hcs q0h11 q1h11 q2h11 q3h11 rfl) dlaw_179 (ps := []) (by decide +kernel) rfl rfl rfl (by decide) rfl (by decide) (by decide) (by decide) (by decide) rfl ?_
    rintro _ _ ⟨rfl, rfl⟩
    show Go pP l eE _ _ mM _ bB tT cC n0 _ h11 21 224 (mkF mM 182 #[.val (.int ia), .val (.int ib), .val (.int ic), .val (.int z0), .val (.int z1), .val (.int z2), .val (.int z3), .val (.int (1 : Int32)), .val (.ref ah1), .val (.ref hdh6), .val (.ref rsh11)] [(.int (5 : Int32))])
    refine go_iconst (q := 183) K dlaw_182 (5 : Int32) rfl rfl ?_
    refine go_iload (q := 185) K dlaw_183 rfl rfl ?_
    refine go_imul (q := 186) K dlaw_185 rfl ?_
    refine go_eqI (y := (5 : Int32)) (by decide) ?_
    refine go_icmp (q := 191) (q' := 189) K dlaw_186 (by decide) rfl rfl (fun _ => ?_) (fun hn => cN_no2 hn (show (5 : Int32) = (5 : Int32) from (by decide)))
    refine go_iload (q := 193) K dlaw_191 rfl rfl ?_
    refine go_iconst (q := 194) K dlaw_193 (1 : Int32) rfl rfl ?_
    refine go_icmp (q := 211) (q' := 197) K dlaw_194 (by decide) rfl rfl (fun hn => cN_no hn (show ¬ (1 : Int32) < (1 : Int32) from (by decide))) (fun _ => ?_)
    refine go_aload (q := 199) K dlaw_197 rfl rfl rfl ?_
    refine go_iconst (q := 200) K dlaw_199 (0 : Int32) rfl rfl ?_
    refine go_iloadN (q := 201) K dlaw_200 rfl rfl ?_
    refine go_iload (q := 203) K dlaw_201 rfl rfl ?_
    refine go_callS (q := 206) (W := 0) K (wd hw 186 rfl) (wd hw 187 rfl) (wd hw 188 rfl) (wd hw 189 rfl) [(.ref rsh11), (.int (0 : Int32)), (.int z0), (.int z1)] [] (line1_0 l Z a0 hw _ _ _ _ _ _ _ _ _ _ n0 f41 p1_ hcs p3_ hfm hfc q0h11 q1h11 q2h11 q3h11 (own_ch hz0) (own_ch hz1)) dlaw_203 (ps := [(.object "java/lang/String"), .int, .char, .char]) (by decide +kernel) rfl rfl rfl (by decide) rfl (by decide) (by decide) (by decide) (by decide) rfl ?_
    rintro _ _ ⟨rfl, rfl⟩
    show Go pP l eE _ _ mM _ bB tT cC n0 _ h11 21 224 (mkF mM 206 #[.val (.int ia), .val (.int ib), .val (.int ic), .val (.int z0), .val (.int z1), .val (.int z2), .val (.int z3), .val (.int (1 : Int32)), .val (.ref ah1), .val (.ref hdh6), .val (.ref rsh11)] [(.int (1 : Int32))])
    refine go_if0 (q := 211) (q' := 209) K dlaw_206 (by decide) rfl rfl (fun _ => ?_) (fun hn => cN_no2 hn (show ¬ (1 : Int32) = (0 : Int32) from (by decide)))
    refine go_iload (q := 213) K dlaw_211 rfl rfl ?_
    refine go_iconst (q := 214) K dlaw_213 (2 : Int32) rfl rfl ?_
    refine go_icmp (q := 232) (q' := 217) K dlaw_214 (by decide) rfl rfl (fun _ => ?_) (fun hn => cN_no2 hn (show (1 : Int32) < (2 : Int32) from (by decide)))
    refine go_iconst (q := 233) K dlaw_232 (1 : Int32) rfl rfl ?_
    refine gw_iret K Xh11 (ewn hw) dlaw_233 rfl (Or.inr (Or.inl rfl)) rfl (by decide) (by decide) ?_
    exact rfl
  · show Go pP l eE _ _ mM _ bB tT cC n0 _ h 0 0 (mkF mM 45 #[.val (.int ia), .val (.int ib), .val (.int ic), .val (.int z0), .val (.int z1), .val (.int z2), .val (.int z3), .val (.int (2 : Int32)), .unset, .unset, .unset] [])
    refine go_iload (q := 47) K dlaw_45 rfl rfl ?_
    refine go_if0 (q := 59) (q' := 50) K dlaw_47 (by decide) rfl rfl (fun _ => ?_) (fun hn => cN_no2 hn (show ¬ (2 : Int32) = (0 : Int32) from (by decide)))
    refine go_iload (q := 61) K dlaw_59 rfl rfl ?_
    refine go_iconst (q := 62) K dlaw_61 (1 : Int32) rfl rfl ?_
    refine go_icmp (q := 74) (q' := 65) K dlaw_62 (by decide) rfl rfl (fun _ => ?_) (fun hn => cN_no2 hn (show ¬ (2 : Int32) = (1 : Int32) from (by decide)))
    refine go_iconst (q := 75) K dlaw_74 (4 : Int32) rfl rfl ?_
    refine go_anewarrayE (q := 78) (num := 4) (cap := 4) (ad := "[Ljava/lang/String;") K (wd hw 1 rfl) (wd hw 2 rfl) (by decide +kernel) dlaw_75 (by decide) rfl (by decide) (by decide) (by decide) (by decide) rfl ?_
    intro h1 ah1 kh1 gah1 Eh1 Yh1 Vh1 Xah1
    have Xh1 := X0.ext Eh1
    refine go_astore (q := 80) K dlaw_78 #[.val (.int ia), .val (.int ib), .val (.int ic), .val (.int z0), .val (.int z1), .val (.int z2), .val (.int z3), .val (.int (2 : Int32)), .val (.ref ah1), .unset, .unset] rfl rfl rfl ?_
    refine go_iload (q := 82) K dlaw_80 rfl rfl ?_
    refine go_iconst (q := 83) K dlaw_82 (1 : Int32) rfl rfl ?_
    refine go_icmp (q := 103) (q' := 86) K dlaw_83 (by decide) rfl rfl (fun hn => cN_no hn (show ¬ (2 : Int32) < (1 : Int32) from (by decide))) (fun _ => ?_)
    refine go_aload (q := 88) K dlaw_86 rfl rfl rfl ?_
    refine go_iconst (q := 89) K dlaw_88 (0 : Int32) rfl rfl ?_
    refine go_iloadN (q := 90) K dlaw_89 rfl rfl ?_
    have f1 := (p0_.ext Eh1)
    refine go_callS (q := 93) (W := 2) K (wd hw 3 rfl) (wd hw 4 rfl) (wd hw 5 rfl) (wd hw 6 rfl) [(.int z0)] [(.int (0 : Int32)), (.ref ah1)] (valueOfC l Z a0 hw _ _ _ n0 f1 p1_ hcs (own_lo hz0)) dlaw_90 (ps := [.char]) (by decide +kernel) rfl rfl rfl (by decide) rfl (by decide) (by decide) (by decide) (by decide) rfl ?_
    rintro _ h2 ⟨ah2, bh2, kbh2, rfl, Kh2, gah2, gbh2, q0h2, q1h2, q2h2, q3h2, q4h2⟩
    show Go pP l eE _ _ mM _ bB tT cC n0 _ h2 3 9 (mkF mM 93 #[.val (.int ia), .val (.int ib), .val (.int ic), .val (.int z0), .val (.int z1), .val (.int z2), .val (.int z3), .val (.int (2 : Int32)), .val (.ref ah1), .unset, .unset] [(.ref ah2), (.int (0 : Int32)), (.ref ah1)])
    have Xh2 := Xh1.keep Kh2 all0
    have f2 := (Yh1.keep Kh2 nin0)
    refine go_aastore (q := 94) K f2 rfl (sto_of f2 Vh1 (Ins.self q0h2)) (by decide) (show 0 < 4 from by decide) (Nat.le_trans (own_ge p0_) (Nat.le_of_eq gah1.symm)) dlaw_93 rfl ?_
    intro h3 Wh3 Yh3
    have f3 := (Xah1.keep Kh2)
    have Xh3 := Xh2.wr Wh3 (Kc0.safe f3 (by decide) (by decide))
    refine go_aload (q := 96) K dlaw_94 rfl rfl rfl ?_
    refine go_iconst (q := 97) K dlaw_96 (1 : Int32) rfl rfl ?_
    refine go_iload (q := 99) K dlaw_97 rfl rfl ?_
    have f4 := ((f1.keep Kh2 all0).wr Wh3 (Nat.le_trans (own_ge p0_) (Nat.le_of_eq gah1.symm)))
    have f5 := (q0h2.wr Wh3)
    have f6 := (q3h2.other Wh3 ((own_nel (Yh1).lt gbh2)).symm)
    refine go_callS (q := 102) (W := 2) K (wd hw 3 rfl) (wd hw 4 rfl) (wd hw 5 rfl) (wd hw 6 rfl) [(.int z1)] [(.int (1 : Int32)), (.ref ah1)] (valueOfC l Z a0 hw _ _ _ n0 f4 p1_ hcs (own_lo hz1)) dlaw_99 (ps := [.char]) (by decide +kernel) rfl rfl rfl (by decide) rfl (by decide) (by decide) (by decide) (by decide) rfl ?_
    rintro _ h4 ⟨ah4, bh4, kbh4, rfl, Kh4, gah4, gbh4, q0h4, q1h4, q2h4, q3h4, q4h4⟩
    show Go pP l eE _ _ mM _ bB tT cC n0 _ h4 5 14 (mkF mM 102 #[.val (.int ia), .val (.int ib), .val (.int ic), .val (.int z0), .val (.int z1), .val (.int z2), .val (.int z3), .val (.int (2 : Int32)), .val (.ref ah1), .unset, .unset] [(.ref ah4), (.int (1 : Int32)), (.ref ah1)])
    have Xh4 := Xh3.keep Kh4 all0
    have f7 := (Yh3.keep Kh4 nin0)
    refine go_aastore (q := 103) K f7 rfl (sto_of f7 Vh1 (Ins.self q0h4)) (by decide) (show 1 < 4 from by decide) (Nat.le_trans (own_ge p0_) (Nat.le_of_eq gah1.symm)) dlaw_102 rfl ?_
    intro h5 Wh5 Yh5
    have f8 := ((f3.wr Wh3).keep Kh4)
    have Xh5 := Xh4.wr Wh5 (Kc0.safe f8 (by decide) (by decide))
    refine go_iload (q := 105) K dlaw_103 rfl rfl ?_
    refine go_iconst (q := 106) K dlaw_105 (2 : Int32) rfl rfl ?_
    refine go_icmp (q := 127) (q' := 109) K dlaw_106 (by decide) rfl rfl (fun hn => cN_no hn (show ¬ (2 : Int32) < (2 : Int32) from (by decide))) (fun _ => ?_)
    refine go_aload (q := 111) K dlaw_109 rfl rfl rfl ?_
    refine go_iconst (q := 112) K dlaw_111 (2 : Int32) rfl rfl ?_
    refine go_iload (q := 114) K dlaw_112 rfl rfl ?_
    have f9 := ((f4.keep Kh4 all0).wr Wh5 (Nat.le_trans (own_ge p0_) (Nat.le_of_eq gah1.symm)))
    have f10 := ((f5.keep Kh4).wr Wh5)
    have f11 := ((f6.keep Kh4 nin0).other Wh5 ((own_nel (Yh1).lt gbh2)).symm)
    have f12 := (q0h4.wr Wh5)
    have f13 := (q3h4.other Wh5 ((own_nel (Yh3).lt gbh4)).symm)
    refine go_callS (q := 117) (W := 2) K (wd hw 3 rfl) (wd hw 4 rfl) (wd hw 5 rfl) (wd hw 6 rfl) [(.int z2)] [(.int (2 : Int32)), (.ref ah1)] (valueOfC l Z a0 hw _ _ _ n0 f9 p1_ hcs (own_lo hz2)) dlaw_114 (ps := [.char]) (by decide +kernel) rfl rfl rfl (by decide) rfl (by decide) (by decide) (by decide) (by decide) rfl ?_
    rintro _ h6 ⟨ah6, bh6, kbh6, rfl, Kh6, gah6, gbh6, q0h6, q1h6, q2h6, q3h6, q4h6⟩
    show Go pP l eE _ _ mM _ bB tT cC n0 _ h6 7 19 (mkF mM 117 #[.val (.int ia), .val (.int ib), .val (.int ic), .val (.int z0), .val (.int z1), .val (.int z2), .val (.int z3), .val (.int (2 : Int32)), .val (.ref ah1), .unset, .unset] [(.ref ah6), (.int (2 : Int32)), (.ref ah1)])
    have Xh6 := Xh5.keep Kh6 all0
    have f14 := (Yh5.keep Kh6 nin0)
    refine go_aastore (q := 118) K f14 rfl (sto_of f14 Vh1 (Ins.self q0h6)) (by decide) (show 2 < 4 from by decide) (Nat.le_trans (own_ge p0_) (Nat.le_of_eq gah1.symm)) dlaw_117 rfl ?_
    intro h7 Wh7 Yh7
    have f15 := ((f8.wr Wh5).keep Kh6)
    have Xh7 := Xh6.wr Wh7 (Kc0.safe f15 (by decide) (by decide))
    refine go_aload (q := 120) K dlaw_118 rfl rfl rfl ?_
    refine go_iconst (q := 121) K dlaw_120 (3 : Int32) rfl rfl ?_
    refine go_iload (q := 123) K dlaw_121 rfl rfl ?_
    have f16 := ((f9.keep Kh6 all0).wr Wh7 (Nat.le_trans (own_ge p0_) (Nat.le_of_eq gah1.symm)))
    have f17 := ((f10.keep Kh6).wr Wh7)
    have f18 := ((f11.keep Kh6 nin0).other Wh7 ((own_nel (Yh1).lt gbh2)).symm)
    have f19 := ((f12.keep Kh6).wr Wh7)
    have f20 := ((f13.keep Kh6 nin0).other Wh7 ((own_nel (Yh3).lt gbh4)).symm)
    have f21 := (q0h6.wr Wh7)
    have f22 := (q3h6.other Wh7 ((own_nel (Yh5).lt gbh6)).symm)
    refine go_callS (q := 126) (W := 2) K (wd hw 3 rfl) (wd hw 4 rfl) (wd hw 5 rfl) (wd hw 6 rfl) [(.int z3)] [(.int (3 : Int32)), (.ref ah1)] (valueOfC l Z a0 hw _ _ _ n0 f16 p1_ hcs (own_lo hz3)) dlaw_123 (ps := [.char]) (by decide +kernel) rfl rfl rfl (by decide) rfl (by decide) (by decide) (by decide) (by decide) rfl ?_
    rintro _ h8 ⟨ah8, bh8, kbh8, rfl, Kh8, gah8, gbh8, q0h8, q1h8, q2h8, q3h8, q4h8⟩
    show Go pP l eE _ _ mM _ bB tT cC n0 _ h8 9 24 (mkF mM 126 #[.val (.int ia), .val (.int ib), .val (.int ic), .val (.int z0), .val (.int z1), .val (.int z2), .val (.int z3), .val (.int (2 : Int32)), .val (.ref ah1), .unset, .unset] [(.ref ah8), (.int (3 : Int32)), (.ref ah1)])
    have Xh8 := Xh7.keep Kh8 all0
    have f23 := (Yh7.keep Kh8 nin0)
    refine go_aastore (q := 127) K f23 rfl (sto_of f23 Vh1 (Ins.self q0h8)) (by decide) (show 3 < 4 from by decide) (Nat.le_trans (own_ge p0_) (Nat.le_of_eq gah1.symm)) dlaw_126 rfl ?_
    intro h9 Wh9 Yh9
    have f24 := ((f15.wr Wh7).keep Kh8)
    have Xh9 := Xh8.wr Wh9 (Kc0.safe f24 (by decide) (by decide))
    refine go_aload (q := 129) K dlaw_127 rfl rfl rfl ?_
    have f25 := ((f16.keep Kh8 all0).wr Wh9 (Nat.le_trans (own_ge p0_) (Nat.le_of_eq gah1.symm)))
    have f26 := (f24.wr Wh9)
    have f27 := ((f17.keep Kh8).wr Wh9)
    have f28 := ((f18.keep Kh8 nin0).other Wh9 ((own_nel (Yh1).lt gbh2)).symm)
    have f29 := ((f19.keep Kh8).wr Wh9)
    have f30 := ((f20.keep Kh8 nin0).other Wh9 ((own_nel (Yh3).lt gbh4)).symm)
    have f31 := ((f21.keep Kh8).wr Wh9)
    have f32 := ((f22.keep Kh8 nin0).other Wh9 ((own_nel (Yh5).lt gbh6)).symm)
    have f33 := (q0h8.wr Wh9)
    have f34 := (q3h8.other Wh9 ((own_nel (Yh7).lt gbh8)).symm)
    refine gw_callS (q := 132) (W := 0) K Xh9 (ewn hw) all0 (wd hw 29 rfl) (wd hw 30 rfl) (wd hw 31 rfl) (wd hw 32 rfl) [(.ref ah1)] [] (hof4 l Z a0 hw _ _ _ _ _ _ _ n0 f25 Yh9 f26) dlaw_129 (ps := [(.array (.object "java/lang/String"))]) (by decide +kernel) rfl rfl rfl (by decide) rfl (by decide) (by decide) (by decide) (by decide) rfl ?_
    rintro _ h10 ⟨hdh10, ar2h10, rfl, Kh10, ghdh10, gar2h10, q0h10, q1h10, q2h10⟩ vmh10 Kch10 Xh10 sfh10
    have K := Kch10
    show Go pP l eE _ _ mM _ bB tT cC n0 _ h10 19 349 (mkF mM 132 #[.val (.int ia), .val (.int ib), .val (.int ic), .val (.int z0), .val (.int z1), .val (.int z2), .val (.int z3), .val (.int (2 : Int32)), .val (.ref ah1), .unset, .unset] [(.ref hdh10)])
    refine go_astore (q := 134) K dlaw_132 #[.val (.int ia), .val (.int ib), .val (.int ic), .val (.int z0), .val (.int z1), .val (.int z2), .val (.int z3), .val (.int (2 : Int32)), .val (.ref ah1), .val (.ref hdh10), .unset] rfl rfl rfl ?_
    refine go_iload (q := 136) K dlaw_134 rfl rfl ?_
    refine go_iconst (q := 137) K dlaw_136 (1 : Int32) rfl rfl ?_
    refine go_icmp (q := 152) (q' := 140) K dlaw_137 (by decide) rfl rfl (fun hn => cN_no hn (show ¬ (2 : Int32) < (1 : Int32) from (by decide))) (fun _ => ?_)
    refine go_aload (q := 142) K dlaw_140 rfl rfl rfl ?_
    refine go_iconst (q := 143) K dlaw_142 (0 : Int32) rfl rfl ?_
    have f35 := (f25.keep Kh10 all0)
    refine go_ldcS (q := 145) (num := 0) (text := "") K Xh10 (ewn hw) (wSn hw) (wd hw 57 rfl) (by decide) [] (0 : Int32) ⟨by decide, by decide⟩ (by decide) (by decide) (by decide) (by decide) (by decide) (by decide) dlaw_143 rfl ?_
    intro vmh11 h11 lah11 lbh11 lkh11 Eh11 Kch11 Xh11 sfh11 nbh11 leh11 lch11 lvh11 lyh11
    have K := Kch11
    have f36 := ((f26.keep Kh10).ext Eh11)
    have f37 := (q0h10.ext Eh11)
    have f38 := (q2h10.ext Eh11)
    have f39 := ((Yh9.keep Kh10 nin0).ext Eh11)
    refine go_aastore (q := 146) K f39 rfl (sto_of f39 Vh1 (Ins.self leh11)) (by decide) (show 0 < 4 from by decide) (Nat.le_trans (own_ge p0_) (Nat.le_of_eq gah1.symm)) dlaw_145 rfl ?_
    intro h12 Wh12 Yh12
    have Xh12 := Xh11.wr Wh12 (Kch11.safe f36 (by decide) (by decide))
    refine go_aload (q := 148) K dlaw_146 rfl rfl rfl ?_
    refine go_iconst (q := 149) K dlaw_148 (1 : Int32) rfl rfl ?_
    have f40 := ((f35.ext Eh11).wr Wh12 (Nat.le_trans (own_ge p0_) (Nat.le_of_eq gah1.symm)))
    refine go_ldcS (q := 151) (num := 0) (text := "") K Xh12 (ewn hw) (wSn hw) (wd hw 57 rfl) (by decide) [] (0 : Int32) ⟨by decide, by decide⟩ (by decide) (by decide) (by decide) (by decide) (by decide) (by decide) dlaw_149 rfl ?_
    intro vmh13 h13 lah13 lbh13 lkh13 Eh13 Kch13 Xh13 sfh13 nbh13 leh13 lch13 lvh13 lyh13
    have K := Kch13
    have f41 := ((f36.wr Wh12).ext Eh13)
    have f42 := ((f37.wr Wh12).ext Eh13)
    have f43 := ((f38.other Wh12 ((own_nel (Yh9).lt gar2h10)).symm).ext Eh13)
    have f44 := (Yh12.ext Eh13)
    refine go_aastore (q := 152) K f44 rfl (sto_of f44 Vh1 (Ins.self leh13)) (by decide) (show 1 < 4 from by decide) (Nat.le_trans (own_ge p0_) (Nat.le_of_eq gah1.symm)) dlaw_151 rfl ?_
    intro h14 Wh14 Yh14
    have Xh14 := Xh13.wr Wh14 (Kch13.safe f41 (by decide) (by decide))
    refine go_iload (q := 154) K dlaw_152 rfl rfl ?_
    refine go_iconst (q := 155) K dlaw_154 (2 : Int32) rfl rfl ?_
    refine go_icmp (q := 170) (q' := 158) K dlaw_155 (by decide) rfl rfl (fun hn => cN_no hn (show ¬ (2 : Int32) < (2 : Int32) from (by decide))) (fun _ => ?_)
    refine go_aload (q := 160) K dlaw_158 rfl rfl rfl ?_
    refine go_iconst (q := 161) K dlaw_160 (2 : Int32) rfl rfl ?_
    have f45 := ((f40.ext Eh13).wr Wh14 (Nat.le_trans (own_ge p0_) (Nat.le_of_eq gah1.symm)))
    refine go_ldcS (q := 163) (num := 0) (text := "") K Xh14 (ewn hw) (wSn hw) (wd hw 57 rfl) (by decide) [] (0 : Int32) ⟨by decide, by decide⟩ (by decide) (by decide) (by decide) (by decide) (by decide) (by decide) dlaw_161 rfl ?_
    intro vmh15 h15 lah15 lbh15 lkh15 Eh15 Kch15 Xh15 sfh15 nbh15 leh15 lch15 lvh15 lyh15
    have K := Kch15
    have f46 := ((f41.wr Wh14).ext Eh15)
    have f47 := ((f42.wr Wh14).ext Eh15)
    have f48 := ((f43.other Wh14 ((own_nel (Yh9).lt gar2h10)).symm).ext Eh15)
    have f49 := (Yh14.ext Eh15)
    refine go_aastore (q := 164) K f49 rfl (sto_of f49 Vh1 (Ins.self leh15)) (by decide) (show 2 < 4 from by decide) (Nat.le_trans (own_ge p0_) (Nat.le_of_eq gah1.symm)) dlaw_163 rfl ?_
    intro h16 Wh16 Yh16
    have Xh16 := Xh15.wr Wh16 (Kch15.safe f46 (by decide) (by decide))
    refine go_aload (q := 166) K dlaw_164 rfl rfl rfl ?_
    refine go_iconst (q := 167) K dlaw_166 (3 : Int32) rfl rfl ?_
    have f50 := ((f45.ext Eh15).wr Wh16 (Nat.le_trans (own_ge p0_) (Nat.le_of_eq gah1.symm)))
    refine go_ldcS (q := 169) (num := 0) (text := "") K Xh16 (ewn hw) (wSn hw) (wd hw 57 rfl) (by decide) [] (0 : Int32) ⟨by decide, by decide⟩ (by decide) (by decide) (by decide) (by decide) (by decide) (by decide) dlaw_167 rfl ?_
    intro vmh17 h17 lah17 lbh17 lkh17 Eh17 Kch17 Xh17 sfh17 nbh17 leh17 lch17 lvh17 lyh17
    have K := Kch17
    have f51 := ((f46.wr Wh16).ext Eh17)
    have f52 := ((f47.wr Wh16).ext Eh17)
    have f53 := ((f48.other Wh16 ((own_nel (Yh9).lt gar2h10)).symm).ext Eh17)
    have f54 := (Yh16.ext Eh17)
    refine go_aastore (q := 170) K f54 rfl (sto_of f54 Vh1 (Ins.self leh17)) (by decide) (show 3 < 4 from by decide) (Nat.le_trans (own_ge p0_) (Nat.le_of_eq gah1.symm)) dlaw_169 rfl ?_
    intro h18 Wh18 Yh18
    have Xh18 := Xh17.wr Wh18 (Kch17.safe f51 (by decide) (by decide))
    refine go_aload (q := 172) K dlaw_170 rfl rfl rfl ?_
    have f55 := ((f50.ext Eh17).wr Wh18 (Nat.le_trans (own_ge p0_) (Nat.le_of_eq gah1.symm)))
    have f56 := (f52.wr Wh18)
    have f57 := ((((((((q1h10.ext Eh11).other Wh12 (Or.inl ((own_nel (Yh9).lt ghdh10)).symm)).ext Eh13).other Wh14 (Or.inl ((own_nel (Yh9).lt ghdh10)).symm)).ext Eh15).other Wh16 (Or.inl ((own_nel (Yh9).lt ghdh10)).symm)).ext Eh17).other Wh18 (Or.inl ((own_nel (Yh9).lt ghdh10)).symm))
    have f58 := (f53.other Wh18 ((own_nel (Yh9).lt gar2h10)).symm)
    have f59 := (((((((((f27.keep Kh10).ext Eh11).wr Wh12).ext Eh13).wr Wh14).ext Eh15).wr Wh16).ext Eh17).wr Wh18)
    have f60 := ((((((((((((((((q1h2.other Wh3 (Or.inl ((own_nel (Yh1).lt gah2)).symm)).keep Kh4 nin0).other Wh5 (Or.inl ((own_nel (Yh1).lt gah2)).symm)).keep Kh6 nin0).other Wh7 (Or.inl ((own_nel (Yh1).lt gah2)).symm)).keep Kh8 nin0).other Wh9 (Or.inl ((own_nel (Yh1).lt gah2)).symm)).keep Kh10 nin0).ext Eh11).other Wh12 (Or.inl ((own_nel (Yh1).lt gah2)).symm)).ext Eh13).other Wh14 (Or.inl ((own_nel (Yh1).lt gah2)).symm)).ext Eh15).other Wh16 (Or.inl ((own_nel (Yh1).lt gah2)).symm)).ext Eh17).other Wh18 (Or.inl ((own_nel (Yh1).lt gah2)).symm))
    have f61 := ((((((((((((((((q2h2.other Wh3 (Or.inl ((own_nel (Yh1).lt gah2)).symm)).keep Kh4 nin0).other Wh5 (Or.inl ((own_nel (Yh1).lt gah2)).symm)).keep Kh6 nin0).other Wh7 (Or.inl ((own_nel (Yh1).lt gah2)).symm)).keep Kh8 nin0).other Wh9 (Or.inl ((own_nel (Yh1).lt gah2)).symm)).keep Kh10 nin0).ext Eh11).other Wh12 (Or.inl ((own_nel (Yh1).lt gah2)).symm)).ext Eh13).other Wh14 (Or.inl ((own_nel (Yh1).lt gah2)).symm)).ext Eh15).other Wh16 (Or.inl ((own_nel (Yh1).lt gah2)).symm)).ext Eh17).other Wh18 (Or.inl ((own_nel (Yh1).lt gah2)).symm))
    have f62 := (((((((((f28.keep Kh10 nin0).ext Eh11).other Wh12 ((own_nel (Yh1).lt gbh2)).symm).ext Eh13).other Wh14 ((own_nel (Yh1).lt gbh2)).symm).ext Eh15).other Wh16 ((own_nel (Yh1).lt gbh2)).symm).ext Eh17).other Wh18 ((own_nel (Yh1).lt gbh2)).symm)
    have f63 := (((((((((f29.keep Kh10).ext Eh11).wr Wh12).ext Eh13).wr Wh14).ext Eh15).wr Wh16).ext Eh17).wr Wh18)
    have f64 := ((((((((((((((q1h4.other Wh5 (Or.inl ((own_nel (Yh3).lt gah4)).symm)).keep Kh6 nin0).other Wh7 (Or.inl ((own_nel (Yh3).lt gah4)).symm)).keep Kh8 nin0).other Wh9 (Or.inl ((own_nel (Yh3).lt gah4)).symm)).keep Kh10 nin0).ext Eh11).other Wh12 (Or.inl ((own_nel (Yh3).lt gah4)).symm)).ext Eh13).other Wh14 (Or.inl ((own_nel (Yh3).lt gah4)).symm)).ext Eh15).other Wh16 (Or.inl ((own_nel (Yh3).lt gah4)).symm)).ext Eh17).other Wh18 (Or.inl ((own_nel (Yh3).lt gah4)).symm))
    have f65 := ((((((((((((((q2h4.other Wh5 (Or.inl ((own_nel (Yh3).lt gah4)).symm)).keep Kh6 nin0).other Wh7 (Or.inl ((own_nel (Yh3).lt gah4)).symm)).keep Kh8 nin0).other Wh9 (Or.inl ((own_nel (Yh3).lt gah4)).symm)).keep Kh10 nin0).ext Eh11).other Wh12 (Or.inl ((own_nel (Yh3).lt gah4)).symm)).ext Eh13).other Wh14 (Or.inl ((own_nel (Yh3).lt gah4)).symm)).ext Eh15).other Wh16 (Or.inl ((own_nel (Yh3).lt gah4)).symm)).ext Eh17).other Wh18 (Or.inl ((own_nel (Yh3).lt gah4)).symm))
    have f66 := (((((((((f30.keep Kh10 nin0).ext Eh11).other Wh12 ((own_nel (Yh3).lt gbh4)).symm).ext Eh13).other Wh14 ((own_nel (Yh3).lt gbh4)).symm).ext Eh15).other Wh16 ((own_nel (Yh3).lt gbh4)).symm).ext Eh17).other Wh18 ((own_nel (Yh3).lt gbh4)).symm)
    have f67 := (((((((((f31.keep Kh10).ext Eh11).wr Wh12).ext Eh13).wr Wh14).ext Eh15).wr Wh16).ext Eh17).wr Wh18)
    have f68 := ((((((((((((q1h6.other Wh7 (Or.inl ((own_nel (Yh5).lt gah6)).symm)).keep Kh8 nin0).other Wh9 (Or.inl ((own_nel (Yh5).lt gah6)).symm)).keep Kh10 nin0).ext Eh11).other Wh12 (Or.inl ((own_nel (Yh5).lt gah6)).symm)).ext Eh13).other Wh14 (Or.inl ((own_nel (Yh5).lt gah6)).symm)).ext Eh15).other Wh16 (Or.inl ((own_nel (Yh5).lt gah6)).symm)).ext Eh17).other Wh18 (Or.inl ((own_nel (Yh5).lt gah6)).symm))
    have f69 := ((((((((((((q2h6.other Wh7 (Or.inl ((own_nel (Yh5).lt gah6)).symm)).keep Kh8 nin0).other Wh9 (Or.inl ((own_nel (Yh5).lt gah6)).symm)).keep Kh10 nin0).ext Eh11).other Wh12 (Or.inl ((own_nel (Yh5).lt gah6)).symm)).ext Eh13).other Wh14 (Or.inl ((own_nel (Yh5).lt gah6)).symm)).ext Eh15).other Wh16 (Or.inl ((own_nel (Yh5).lt gah6)).symm)).ext Eh17).other Wh18 (Or.inl ((own_nel (Yh5).lt gah6)).symm))
    have f70 := (((((((((f32.keep Kh10 nin0).ext Eh11).other Wh12 ((own_nel (Yh5).lt gbh6)).symm).ext Eh13).other Wh14 ((own_nel (Yh5).lt gbh6)).symm).ext Eh15).other Wh16 ((own_nel (Yh5).lt gbh6)).symm).ext Eh17).other Wh18 ((own_nel (Yh5).lt gbh6)).symm)
    have f71 := (((((((((f33.keep Kh10).ext Eh11).wr Wh12).ext Eh13).wr Wh14).ext Eh15).wr Wh16).ext Eh17).wr Wh18)
    have f72 := ((((((((((q1h8.other Wh9 (Or.inl ((own_nel (Yh7).lt gah8)).symm)).keep Kh10 nin0).ext Eh11).other Wh12 (Or.inl ((own_nel (Yh7).lt gah8)).symm)).ext Eh13).other Wh14 (Or.inl ((own_nel (Yh7).lt gah8)).symm)).ext Eh15).other Wh16 (Or.inl ((own_nel (Yh7).lt gah8)).symm)).ext Eh17).other Wh18 (Or.inl ((own_nel (Yh7).lt gah8)).symm))
    have f73 := ((((((((((q2h8.other Wh9 (Or.inl ((own_nel (Yh7).lt gah8)).symm)).keep Kh10 nin0).ext Eh11).other Wh12 (Or.inl ((own_nel (Yh7).lt gah8)).symm)).ext Eh13).other Wh14 (Or.inl ((own_nel (Yh7).lt gah8)).symm)).ext Eh15).other Wh16 (Or.inl ((own_nel (Yh7).lt gah8)).symm)).ext Eh17).other Wh18 (Or.inl ((own_nel (Yh7).lt gah8)).symm))
    have f74 := (((((((((f34.keep Kh10 nin0).ext Eh11).other Wh12 ((own_nel (Yh7).lt gbh8)).symm).ext Eh13).other Wh14 ((own_nel (Yh7).lt gbh8)).symm).ext Eh15).other Wh16 ((own_nel (Yh7).lt gbh8)).symm).ext Eh17).other Wh18 ((own_nel (Yh7).lt gbh8)).symm)
    have f75 := (((((((leh11.wr Wh12).ext Eh13).wr Wh14).ext Eh15).wr Wh16).ext Eh17).wr Wh18)
    have f76 := (((((((lyh11.other Wh12 ((nbh11 _ (Kch11.safe f36 (by decide) (by decide))).2).symm).ext Eh13).other Wh14 ((nbh11 _ (Kch11.safe f36 (by decide) (by decide))).2).symm).ext Eh15).other Wh16 ((nbh11 _ (Kch11.safe f36 (by decide) (by decide))).2).symm).ext Eh17).other Wh18 ((nbh11 _ (Kch11.safe f36 (by decide) (by decide))).2).symm)
    have f77 := (((((leh13.wr Wh14).ext Eh15).wr Wh16).ext Eh17).wr Wh18)
    have f78 := (((((lyh13.other Wh14 ((nbh13 _ (Kch13.safe f41 (by decide) (by decide))).2).symm).ext Eh15).other Wh16 ((nbh13 _ (Kch13.safe f41 (by decide) (by decide))).2).symm).ext Eh17).other Wh18 ((nbh13 _ (Kch13.safe f41 (by decide) (by decide))).2).symm)
    have f79 := (((leh15.wr Wh16).ext Eh17).wr Wh18)
    have f80 := (((lyh15.other Wh16 ((nbh15 _ (Kch15.safe f46 (by decide) (by decide))).2).symm).ext Eh17).other Wh18 ((nbh15 _ (Kch15.safe f46 (by decide) (by decide))).2).symm)
    have f81 := (leh17.wr Wh18)
    have f82 := (lyh17.other Wh18 ((nbh17 _ (Kch17.safe f51 (by decide) (by decide))).2).symm)
    refine gw_callV (q := 175) (W := 0) K Xh18 (ewn hw) all0 (wd hw 58 rfl) (wd hw 59 rfl) (wd hw 61 rfl) (wd hw 60 rfl) (wd hw 31 rfl) (wd hw 62 rfl) (wd hw 61 rfl) rfl f56 [] [] (hts2 l Z a0 hw _ _ _ _ _ _ _ _ _ _ _ _ _ _ _ _ _ _ _ _ _ n0 f55 p1_ hcs f56 f57 f58 f59 f60 f61 f62 f63 f64 f65 f66 f67 f68 f69 f70 f71 f72 f73 f74 (fits_nar _) (fits_nar _) (fits_nar _) (fits_nar _)) dlaw_172 (ps := []) (by decide +kernel) rfl rfl rfl (by decide) rfl (by decide) (by decide) (by decide) (by decide) rfl ?_
    rintro _ h19 ⟨rsh19, rbh19, rkh19, rfl, Kh19, grsh19, grbh19, q0h19, q1h19, q2h19, q3h19⟩ vmh19 Kch19 Xh19 sfh19
    have K := Kch19
    show Go pP l eE _ _ mM _ bB tT cC n0 _ h19 35 423 (mkF mM 175 #[.val (.int ia), .val (.int ib), .val (.int ic), .val (.int z0), .val (.int z1), .val (.int z2), .val (.int z3), .val (.int (2 : Int32)), .val (.ref ah1), .val (.ref hdh10), .unset] [(.ref rsh19)])
    refine go_astore (q := 177) K dlaw_175 #[.val (.int ia), .val (.int ib), .val (.int ic), .val (.int z0), .val (.int z1), .val (.int z2), .val (.int z3), .val (.int (2 : Int32)), .val (.ref ah1), .val (.ref hdh10), .val (.ref rsh19)] rfl rfl rfl ?_
    refine go_aload (q := 179) K dlaw_177 rfl rfl rfl ?_
    have f83 := (f55.keep Kh19 all0)
    refine go_callV (q := 182) (W := 0) K (wd hw 185 rfl) (wd hw 92 rfl) (wd hw 94 rfl) (wd hw 93 rfl) (wd hw 5 rfl) (wd hw 95 rfl) (wd hw 94 rfl) rfl q0h19 [] [] (strLen l Z a0 hw _ _ _ _ _ _ _ n0 f83 p1_ hcs q0h19 q1h19 q2h19 q3h19 rfl) dlaw_179 (ps := []) (by decide +kernel) rfl rfl rfl (by decide) rfl (by decide) (by decide) (by decide) (by decide) rfl ?_
    rintro _ _ ⟨rfl, rfl⟩
    show Go pP l eE _ _ mM _ bB tT cC n0 _ h19 35 423 (mkF mM 182 #[.val (.int ia), .val (.int ib), .val (.int ic), .val (.int z0), .val (.int z1), .val (.int z2), .val (.int z3), .val (.int (2 : Int32)), .val (.ref ah1), .val (.ref hdh10), .val (.ref rsh19)] [(.int (10 : Int32))])
    refine go_iconst (q := 183) K dlaw_182 (5 : Int32) rfl rfl ?_
    refine go_iload (q := 185) K dlaw_183 rfl rfl ?_
    refine go_imul (q := 186) K dlaw_185 rfl ?_
    refine go_eqI (y := (10 : Int32)) (by decide) ?_
    refine go_icmp (q := 191) (q' := 189) K dlaw_186 (by decide) rfl rfl (fun _ => ?_) (fun hn => cN_no2 hn (show (10 : Int32) = (10 : Int32) from (by decide)))
    refine go_iload (q := 193) K dlaw_191 rfl rfl ?_
    refine go_iconst (q := 194) K dlaw_193 (1 : Int32) rfl rfl ?_
    refine go_icmp (q := 211) (q' := 197) K dlaw_194 (by decide) rfl rfl (fun hn => cN_no hn (show ¬ (2 : Int32) < (1 : Int32) from (by decide))) (fun _ => ?_)
    refine go_aload (q := 199) K dlaw_197 rfl rfl rfl ?_
    refine go_iconst (q := 200) K dlaw_199 (0 : Int32) rfl rfl ?_
    refine go_iloadN (q := 201) K dlaw_200 rfl rfl ?_
    refine go_iload (q := 203) K dlaw_201 rfl rfl ?_
    refine go_callS (q := 206) (W := 0) K (wd hw 186 rfl) (wd hw 187 rfl) (wd hw 188 rfl) (wd hw 189 rfl) [(.ref rsh19), (.int (0 : Int32)), (.int z0), (.int z1)] [] (line2_0 l Z a0 hw _ _ _ _ _ _ _ _ _ _ _ _ n0 f83 p1_ hcs p3_ hfm hfc q0h19 q1h19 q2h19 q3h19 (own_ch hz0) (own_ch hz1)) dlaw_203 (ps := [(.object "java/lang/String"), .int, .char, .char]) (by decide +kernel) rfl rfl rfl (by decide) rfl (by decide) (by decide) (by decide) (by decide) rfl ?_
    rintro _ _ ⟨rfl, rfl⟩
    show Go pP l eE _ _ mM _ bB tT cC n0 _ h19 35 423 (mkF mM 206 #[.val (.int ia), .val (.int ib), .val (.int ic), .val (.int z0), .val (.int z1), .val (.int z2), .val (.int z3), .val (.int (2 : Int32)), .val (.ref ah1), .val (.ref hdh10), .val (.ref rsh19)] [(.int (1 : Int32))])
    refine go_if0 (q := 211) (q' := 209) K dlaw_206 (by decide) rfl rfl (fun _ => ?_) (fun hn => cN_no2 hn (show ¬ (1 : Int32) = (0 : Int32) from (by decide)))
    refine go_iload (q := 213) K dlaw_211 rfl rfl ?_
    refine go_iconst (q := 214) K dlaw_213 (2 : Int32) rfl rfl ?_
    refine go_icmp (q := 232) (q' := 217) K dlaw_214 (by decide) rfl rfl (fun hn => cN_no hn (show ¬ (2 : Int32) < (2 : Int32) from (by decide))) (fun _ => ?_)
    refine go_aload (q := 219) K dlaw_217 rfl rfl rfl ?_
    refine go_iconst (q := 220) K dlaw_219 (5 : Int32) rfl rfl ?_
    refine go_iload (q := 222) K dlaw_220 rfl rfl ?_
    refine go_iload (q := 224) K dlaw_222 rfl rfl ?_
    refine go_callS (q := 227) (W := 0) K (wd hw 186 rfl) (wd hw 187 rfl) (wd hw 188 rfl) (wd hw 189 rfl) [(.ref rsh19), (.int (5 : Int32)), (.int z2), (.int z3)] [] (line2_5 l Z a0 hw _ _ _ _ _ _ _ _ _ _ _ _ n0 f83 p1_ hcs p3_ hfm hfc q0h19 q1h19 q2h19 q3h19 (own_ch hz2) (own_ch hz3)) dlaw_224 (ps := [(.object "java/lang/String"), .int, .char, .char]) (by decide +kernel) rfl rfl rfl (by decide) rfl (by decide) (by decide) (by decide) (by decide) rfl ?_
    rintro _ _ ⟨rfl, rfl⟩
    show Go pP l eE _ _ mM _ bB tT cC n0 _ h19 35 423 (mkF mM 227 #[.val (.int ia), .val (.int ib), .val (.int ic), .val (.int z0), .val (.int z1), .val (.int z2), .val (.int z3), .val (.int (2 : Int32)), .val (.ref ah1), .val (.ref hdh10), .val (.ref rsh19)] [(.int (1 : Int32))])
    refine go_if0 (q := 232) (q' := 230) K dlaw_227 (by decide) rfl rfl (fun _ => ?_) (fun hn => cN_no2 hn (show ¬ (1 : Int32) = (0 : Int32) from (by decide)))
    refine go_iconst (q := 233) K dlaw_232 (1 : Int32) rfl rfl ?_
    refine gw_iret K Xh19 (ewn hw) dlaw_233 rfl (Or.inr (Or.inl rfl)) rfl (by decide) (by decide) ?_
    exact rfl
theorem own_isref {args : Array Value} {first s : State} {o : Option Outcome} {idx : List Nat} {t : Term} (h : (Cond.isRef t).value args first o s idx = some true) : ∃ v, t.eval args first o idx s = some v ∧ v.isRef = true ∧ v.category = 1 := by
  simp only [Cond.value] at h; cases ht : t.eval args first o idx s with
  | none => simp [ht] at h
  | some x => cases x <;> simp [ht] at h <;> exact ⟨_, rfl, rfl, rfl⟩
set_option maxRecDepth 65536 in
set_option maxHeartbeats 40000000 in
theorem comes_1 {Post : Tables → Env → Array Value → State → Outcome → State → Prop} (hpost : ∀ tb e args s v u, (limb_1_1.after args s (.returned v) u = true ∧ limb_1_2.after args s (.returned v) u = true ∧ True) → ReturnedEndW s (.returned v) u (Jvm.fieldLocs frame_1_writes args s ++ Jvm.arrayLocs frame_1_arrays args s ++ Jvm.staticLocs frame_1_statics s) 48 3328 → Post tb e args s (.returned v) u) :
    ArmFor flags0 classFile x code maxLocals ret World_1 tables_1 room_1 Calls_1 rest_1 Pre_1 Post := by
  intro l hfl _ _ p e ha hc hk s m args below hf hA hF happ hP
  obtain ⟨hcalls, hrest, hpre⟩ := hP
  obtain ⟨-, -, -, hnamed, -, -, -, hat⟩ := (Spec.applies_iff hf).mp happ
  obtain ⟨hg, hn⟩ := and_e (Cond.before_iff.mp (show (Jvm.Cond.and given_1 narrow_1).before args s = true from hpre))
  obtain ⟨hcnt, hg0⟩ := and_e hg
  obtain ⟨ha0, hg1⟩ := and_e hg0
  obtain ⟨ha1, hg2⟩ := and_e hg1
  have ha2 := hg2
  obtain ⟨w0, w1, w2, rfl⟩ : ∃ w0 w1 w2 : Value, args = #[w0, w1, w2] := by
    have hs : args.size = 3 := by simpa [Cond.value, given_1] using hcnt
    obtain ⟨L⟩ := args
    match L, hs with
    | [w0, w1, w2], _ => exact ⟨w0, w1, w2, rfl⟩
  have hw := fun d (hd : d ∈ tables_1) => atoms_spec (ws := Jvm.Cond.code x code maxLocals ret :: tables_1) hat d (List.mem_cons_of_mem _ hd)
  have hfit : Fit s := fun {y c} hc i hi => by
    obtain ⟨ha, rfl⟩ := Array.getElem?_eq_some_iff.mp hc
    have q := List.all_eq_true.mp ((Array.all_eq_true_iff_forall_mem.mp hF) _ (Array.getElem_mem ha)) i (List.mem_range.mpr hi)
    simpa [Array.getElem?_eq_getElem hi] using q
  obtain ⟨i0, ea0⟩ := is_v ha0
  obtain rfl : w0 = (.int i0) := Option.some.inj ea0
  obtain ⟨i1, ea1⟩ := is_v ha1
  obtain rfl : w1 = (.int i1) := Option.some.inj ea1
  obtain ⟨i2, ea2⟩ := is_v ha2
  obtain rfl : w2 = (.int i2) := Option.some.inj ea2
  obtain ⟨hsets, hown0⟩ := atoms_of _ (rest_1_c_eq ▸ (show rest_1_c.before _ s = true from hrest))
  obtain ⟨cs, ecs⟩ := is_v (Cond.before_iff.mp (hsets _ (List.mem_of_getElem? (i := 1) rfl)))
  have Scs : Sta s s.heap "java/lang/String" "COMPACT_STRINGS" "Z" (.int cs) := Sta.start ecs (Or.inl (hsets _ (List.mem_of_getElem? (i := 0) rfl)))
  have hcs : ¬ (cs = (0 : Int32)) := gotF (Cond.eq_ints ecs (Term.int_eval (0))) (not_v (Cond.before_iff.mp (hsets _ (List.mem_of_getElem? (i := 2) rfl))))
  obtain ⟨fm, efm, hfm, hfc⟩ := own_isref (Cond.before_iff.mp (hsets _ (List.mem_of_getElem? (i := 8) rfl)))
  have Sfm : Sta s s.heap "jdk/internal/util/Preconditions" "SIOOBE_FORMATTER" "Ljava/util/function/BiFunction;" fm := Sta.start efm (Or.inl (hsets _ (List.mem_of_getElem? (i := 7) rfl)))
  have CHs : CHv s consts_1 s.vm s.heap := CHv.start (ewn hw) (fun p hp => hcalls.1 p hp) (hsets _ (List.mem_of_getElem? (i := 2) rfl)) (wSn hw _ (by simp [Bundle.stringAtoms])) (wSn hw _ (by simp [Bundle.stringAtoms, Bundle.sN]))
  obtain ⟨n, o, h1, h2, h3, _, L, rfl, ⟨rfl, N⟩, -, hq⟩ := law_met l s _ hw i0 i1 i2 cs fm s.heap s.heap.size (Old.start s) Scs hcs Sfm hfm hfc p e ha hc hk s m _ below hf ((Spec.applies_iff_loose hf).mp happ).1 ⟨rfl, State.Warmed39.refl s, rfl, CHs, fun _ q => nomatch q⟩ trivial
  refine ⟨n, _, h1, h2, h3, hpost _ _ _ _ _ _ ⟨Cond.after_iff.mpr rfl, Cond.after_iff.mpr (eq_i res_at (Term.int_eval (1)) rfl), trivial⟩ ⟨hq.1, hq.2.1, hq.2.2.1, (hq.2.2.2.sift fun y hy => Or.inr (N y hy)).mono (by decide) (by decide)⟩⟩
theorem main_1_1 : Claimed_1_1 := comes_1 fun _ _ _ _ _ _ h hF => ⟨h.1, hF⟩
theorem main_1_2 : Claimed_1_2 := comes_1 fun _ _ _ _ _ _ h hF => ⟨h.2.1, hF⟩
end Jvm.Pilot.@@N@@
namespace Jvm.Pilot.@@N@@
open Jvm Jvm.ClassFile Sem Op Lib Jvm.Free Jvm.Stand Jvm.Pilot.@@N@@.Jvm.D
/-! MADE BY PROGRAM (witnessworld.py) out of the Statement's table words and the real class files: 25 classes; the members and pool entries that the words name. The judged class is class 1, her method 2. -/
namespace start1
open Jvm.ClassFile
def u (s : String) : CpInfo := .utf8 (stringToUtf16 s)
/-- a pool by its gaps: so many unusable entries, then the entry; so many at the end -/
def gap : Nat → List CpInfo → List CpInfo
  | 0, r => r
  | n + 1, r => .unusable :: gap n r
def poolList (es : List (Nat × CpInfo)) (last : Nat) : List CpInfo := es.foldr (fun e r => gap e.1 (e.2 :: r)) (gap last [])
def pool (es : List (Nat × CpInfo)) (last : Nat) : Array CpInfo := ⟨poolList es last⟩
def fileOf (pool : Array CpInfo) (this : Nat) (attrs : Array Attribute := #[]) (ms : Array MethodInfo := #[]) (fl : Nat := 33) (sup : Nat := 0) (ifs : Array Nat := #[]) (fds : Array FieldInfo := #[]) : ClassFile where
  minorVersion := 0
  majorVersion := 65
  constantPool := pool
  accessFlags := fl
  thisClass := this
  superClass := sup
  interfaces := ifs
  fields := fds
  methods := ms
  attributes := attrs
def plain (name : String) (sup : Option ClassId) : Class where
  name := name
  kind := .ordinary
  loader := none
  accessFlags := 33
  super := sup
  interfaces := #[]
  cf := none
  fields := #[]
  methods := #[]
  instanceTypes := #[]
  staticTypes := #[]
  resolved := #[]
  callSites := []
  init := .initialized
  statics := none
  mirror := none

def pool0 : Array CpInfo := pool [(5, u "<init>"), (0, u "()V"), (1, .class_ 10), (1, u "java/lang/Object"), (85, u "clone"), (0, u "()Ljava/lang/Object;")] 26

def k0c0 : Code := { maxStack := 0, maxLocals := 1, code := object_method_1_code, exceptionTable := #[], attributes := #[] }
def k0m0 : Method := { name := "<init>", desc := "()V", sig := { parameters := [], returnType := none }, accessFlags := 1, code := some k0c0 }
def k0m1 : Method := { name := "clone", desc := "()Ljava/lang/Object;", sig := { parameters := [], returnType := some (.object "java/lang/Object") }, accessFlags := 260, code := none }
/-- java/lang/Object -/
def k0 : Class := { plain "java/lang/Object" none with
  accessFlags := 33
  interfaces := #[]
  cf := some (fileOf pool0 8 #[] #[{ accessFlags := 1, nameIndex := 5, descriptorIndex := 6, attributes := #[] }, { accessFlags := 260, nameIndex := 96, descriptorIndex := 97, attributes := #[] }] 33 0 #[] #[])
  fields := #[]
  methods := #[k0m0, k0m1]
  instanceTypes := #[]
  staticTypes := #[]
  resolved := Array.replicate 124 none
  statics := none }

def pool1 : Array CpInfo := pool [(2, .class_ 4), (1, u "java/lang/Object"), (0, u "<init>"), (0, u "()V"), (0, .methodref 8 9), (0, .class_ 10), (0, .nameAndType 11 12), (0, u "java/lang/String"), (0, u "charAt"), (0, u "(I)C"), (0, .integer 2147483647), (0, .methodref 8 15), (0, .nameAndType 16 17), (0, u "valueOf"), (0, u "(C)Ljava/lang/String;"), (0, .methodref 19 20), (0, .class_ 21), (0, .nameAndType 22 23), (0, u "com/example/lanka/lanka/Headers"), (0, u "of"), (0, u "([Ljava/lang/String;)Lcom/example/lanka/lanka/Headers;"), (0, .string 25), (0, u ""), (0, .methodref 19 27), (0, .nameAndType 28 29), (0, u "toString"), (0, u "()Ljava/lang/String;"), (0, .methodref 8 31), (0, .nameAndType 32 33), (0, u "length"), (0, u "()I"), (0, .methodref 35 36), (0, .class_ 37), (0, .nameAndType 38 39), (0, u "com/example/lanka/lanka/HeadersOfPinLaw"), (0, u "line"), (0, u "(Ljava/lang/String;ICC)Z"), (3, u "law"), (0, u "(III)Z")] 4

def k1m0 : Method := { name := "<init>", desc := "()V", sig := { parameters := [], returnType := none }, accessFlags := 1, code := none }
def k1c1 : Code := { maxStack := 3, maxLocals := 4, code := method_2_code, exceptionTable := #[], attributes := #[] }
def k1m1 : Method := { name := "line", desc := "(Ljava/lang/String;ICC)Z", sig := { parameters := [(.object "java/lang/String"), .int, .char, .char], returnType := some .boolean }, accessFlags := 10, code := some k1c1 }
def k1c2 : Code := { maxStack := 4, maxLocals := 11, code := code, exceptionTable := #[], attributes := #[] }
def k1m2 : Method := { name := "law", desc := "(III)Z", sig := { parameters := [.int, .int, .int], returnType := some .boolean }, accessFlags := 9, code := some k1c2 }
/-- com/example/lanka/lanka/HeadersOfPinLaw -/
def k1 : Class := { plain "com/example/lanka/lanka/HeadersOfPinLaw" (some 0) with
  accessFlags := 49
  interfaces := #[]
  cf := some (fileOf pool1 35 #[] #[{ accessFlags := 1, nameIndex := 5, descriptorIndex := 6, attributes := #[] }, { accessFlags := 10, nameIndex := 38, descriptorIndex := 39, attributes := #[] }, { accessFlags := 9, nameIndex := 43, descriptorIndex := 44, attributes := #[] }] 49 2 #[] #[])
  fields := #[]
  methods := #[k1m0, k1m1, k1m2]
  instanceTypes := #[]
  staticTypes := #[]
  resolved := Array.replicate 49 none
  statics := none }

def pool2 : Array CpInfo := pool [(1, .class_ 2), (0, u "java/io/Serializable"), (0, .class_ 4), (0, u "java/lang/Object")] 2

/-- java/io/Serializable -/
def k2 : Class := { plain "java/io/Serializable" (some 0) with
  accessFlags := 1537
  interfaces := #[]
  cf := some (fileOf pool2 1 #[] #[] 1537 3 #[] #[])
  fields := #[]
  methods := #[]
  instanceTypes := #[]
  staticTypes := #[]
  resolved := Array.replicate 7 none
  statics := none }

def pool3 : Array CpInfo := pool [(1, .class_ 2), (0, u "java/lang/Comparable"), (0, .class_ 4), (0, u "java/lang/Object")] 7

/-- java/lang/Comparable -/
def k3 : Class := { plain "java/lang/Comparable" (some 0) with
  accessFlags := 1537
  interfaces := #[]
  cf := some (fileOf pool3 1 #[] #[] 1537 3 #[] #[])
  fields := #[]
  methods := #[]
  instanceTypes := #[]
  staticTypes := #[]
  resolved := Array.replicate 12 none
  statics := none }

def pool4 : Array CpInfo := pool [(2, .class_ 4), (1, u "java/lang/CharSequence"), (42, .class_ 48), (0, u "java/lang/CharSequence$1CodePointIterator"), (10, .class_ 60), (0, u "java/lang/CharSequence$1CharIterator"), (5, .class_ 67), (0, u "java/lang/Object")] 63

/-- java/lang/CharSequence -/
def k4 : Class := { plain "java/lang/CharSequence" (some 0) with
  accessFlags := 1537
  interfaces := #[]
  cf := some (fileOf pool4 2 #[.nestMembers #[47, 59]] #[] 1537 66 #[] #[])
  fields := #[]
  methods := #[]
  instanceTypes := #[]
  staticTypes := #[]
  resolved := Array.replicate 131 none
  statics := none }

def pool5 : Array CpInfo := pool [(1, .class_ 2), (0, u "java/lang/constant/Constable"), (0, .class_ 4), (0, u "java/lang/Object")] 6

/-- java/lang/constant/Constable -/
def k5 : Class := { plain "java/lang/constant/Constable" (some 0) with
  accessFlags := 1537
  interfaces := #[]
  cf := some (fileOf pool5 1 #[] #[] 1537 3 #[] #[])
  fields := #[]
  methods := #[]
  instanceTypes := #[]
  staticTypes := #[]
  resolved := Array.replicate 11 none
  statics := none }

def pool6 : Array CpInfo := pool [(1, .class_ 2), (0, u "java/lang/constant/ConstantDesc"), (0, .class_ 4), (0, u "java/lang/Object")] 32

/-- java/lang/constant/ConstantDesc -/
def k6 : Class := { plain "java/lang/constant/ConstantDesc" (some 0) with
  accessFlags := 1537
  interfaces := #[]
  cf := some (fileOf pool6 1 #[] #[] 1537 3 #[] #[])
  fields := #[]
  methods := #[]
  instanceTypes := #[]
  staticTypes := #[]
  resolved := Array.replicate 37 none
  statics := none }

def pool7 : Array CpInfo := pool [(1, .methodref 2 3), (0, .class_ 4), (0, .nameAndType 5 6), (0, u "java/lang/Object"), (0, u "<init>"), (0, u "()V"), (2, .fieldref 10 11), (0, .class_ 12), (0, .nameAndType 13 14), (0, u "java/lang/String"), (0, u "value"), (0, u "[B"), (0, .fieldref 10 16), (0, .nameAndType 17 18), (0, u "coder"), (0, u "B"), (2, u "hash"), (0, u "I"), (2, u "hashIsZero"), (0, u "Z"), (11, .fieldref 10 39), (0, .nameAndType 40 26), (0, u "COMPACT_STRINGS"), (12, u "toBytes"), (0, .methodref 55 56), (0, .class_ 57), (0, .nameAndType 58 59), (0, u "java/util/Arrays"), (0, u "copyOfRange"), (0, u "([BII)[B"), (47, .class_ 109), (1, u "java/lang/StringLatin1"), (32, u "()Z"), (50, .class_ 195), (1, u "java/lang/System"), (13, .methodref 10 210), (0, .nameAndType 5 211), (0, u "([BB)V"), (0, .methodref 193 213), (0, .nameAndType 214 215), (0, u "arraycopy"), (0, u "(Ljava/lang/Object;ILjava/lang/Object;II)V"), (118, u "()I"), (0, .methodref 10 336), (0, .nameAndType 17 337), (0, u "()B"), (2, u "()[B"), (22, u "([BI)C"), (5, u "(C)Z"), (21, u "(II)V"), (35, u "(I)C"), (61, .methodref 10 490), (0, .nameAndType 5 491), (0, u "(Ljava/lang/AbstractStringBuilder;Ljava/lang/Void;)V"), (0, .methodref 10 493), (0, .nameAndType 494 142), (0, u "isLatin1"), (0, .methodref 107 496), (0, .nameAndType 497 363), (0, u "charAt"), (3, u "checkIndex"), (4, .nameAndType 507 334), (0, u "length"), (24, u "getBytes"), (16, .methodref 550 506), (0, .class_ 551), (0, u "java/lang/AbstractStringBuilder"), (0, .methodref 550 553), (0, .nameAndType 554 340), (0, u "getValue"), (20, .class_ 576), (0, u "java/lang/CharSequence"), (22, u "CASE_INSENSITIVE_ORDER"), (0, u "Ljava/util/Comparator;"), (181, u "valueOf"), (0, u "(C)Ljava/lang/String;"), (37, u "([BIB)V"), (193, .methodref 107 1016), (0, .nameAndType 1017 369), (0, u "canEncode"), (0, .methodref 107 1019), (0, .nameAndType 53 1020), (0, u "(C)[B"), (26, .methodref 550 493), (5, .fieldref 1054 1055), (0, .class_ 1056), (0, .nameAndType 1057 1058), (0, u "jdk/internal/util/Preconditions"), (0, u "SIOOBE_FORMATTER"), (0, u "Ljava/util/function/BiFunction;"), (0, .methodref 1054 1060), (0, .nameAndType 501 1061), (0, u "(IILjava/util/function/BiFunction;)I"), (39, u "serialPersistentFields"), (0, u "[Ljava/io/ObjectStreamField;"), (0, .class_ 1104), (0, u "java/lang/String$CaseInsensitiveComparator"), (1, .class_ 1107), (0, u "java/io/Serializable"), (0, .class_ 1109), (0, u "java/lang/Comparable"), (0, .class_ 1111), (0, u "java/lang/constant/Constable"), (0, .class_ 1113), (0, u "java/lang/constant/ConstantDesc"), (2, u "serialVersionUID"), (0, u "J"), (3, u "REPL"), (0, u "C"), (2, u "LATIN1"), (1, u "UTF16"), (105, u "(Ljava/lang/StringBuilder;)V")] 217

def k7m0 : Method := { name := "<init>", desc := "()V", sig := { parameters := [], returnType := none }, accessFlags := 1, code := none }
def k7c1 : Code := { maxStack := 3, maxLocals := 2, code := jdk_42_method_53_code, exceptionTable := #[], attributes := #[] }
def k7m1 : Method := { name := "<init>", desc := "(Ljava/lang/StringBuilder;)V", sig := { parameters := [(.object "java/lang/StringBuilder")], returnType := none }, accessFlags := 1, code := some k7c1 }
def k7c2 : Code := { maxStack := 2, maxLocals := 1, code := jdk_42_method_54_code, exceptionTable := #[], attributes := #[] }
def k7m2 : Method := { name := "length", desc := "()I", sig := { parameters := [], returnType := some .int }, accessFlags := 1, code := some k7c2 }
def k7c3 : Code := { maxStack := 2, maxLocals := 2, code := jdk_42_method_56_code, exceptionTable := #[], attributes := #[] }
def k7m3 : Method := { name := "charAt", desc := "(I)C", sig := { parameters := [.int], returnType := some .char }, accessFlags := 1, code := some k7c3 }
def k7c4 : Code := { maxStack := 4, maxLocals := 1, code := jdk_42_method_139_code, exceptionTable := #[], attributes := #[] }
def k7m4 : Method := { name := "valueOf", desc := "(C)Ljava/lang/String;", sig := { parameters := [.char], returnType := some (.object "java/lang/String") }, accessFlags := 9, code := some k7c4 }
def k7c5 : Code := { maxStack := 5, maxLocals := 4, code := jdk_42_method_147_code, exceptionTable := #[], attributes := #[] }
def k7m5 : Method := { name := "getBytes", desc := "([BIB)V", sig := { parameters := [(.array .byte), .int, .byte], returnType := none }, accessFlags := 0, code := some k7c5 }
def k7c6 : Code := { maxStack := 5, maxLocals := 5, code := jdk_42_method_150_code, exceptionTable := #[], attributes := #[] }
def k7m6 : Method := { name := "<init>", desc := "(Ljava/lang/AbstractStringBuilder;Ljava/lang/Void;)V", sig := { parameters := [(.object "java/lang/AbstractStringBuilder"), (.object "java/lang/Void")], returnType := none }, accessFlags := 0, code := some k7c6 }
def k7c7 : Code := { maxStack := 2, maxLocals := 3, code := jdk_42_method_151_code, exceptionTable := #[], attributes := #[] }
def k7m7 : Method := { name := "<init>", desc := "([BB)V", sig := { parameters := [(.array .byte), .byte], returnType := none }, accessFlags := 0, code := some k7c7 }
def k7c8 : Code := { maxStack := 1, maxLocals := 1, code := jdk_42_method_152_code, exceptionTable := #[], attributes := #[] }
def k7m8 : Method := { name := "coder", desc := "()B", sig := { parameters := [], returnType := some .byte }, accessFlags := 0, code := some k7c8 }
def k7c9 : Code := { maxStack := 1, maxLocals := 1, code := jdk_42_method_154_code, exceptionTable := #[], attributes := #[] }
def k7m9 : Method := { name := "isLatin1", desc := "()Z", sig := { parameters := [], returnType := some .boolean }, accessFlags := 0, code := some k7c9 }
def k7c10 : Code := { maxStack := 3, maxLocals := 2, code := jdk_42_method_155_code, exceptionTable := #[], attributes := #[] }
def k7m10 : Method := { name := "checkIndex", desc := "(II)V", sig := { parameters := [.int, .int], returnType := none }, accessFlags := 8, code := some k7c10 }
/-- java/lang/String -/
def k7 : Class := { plain "java/lang/String" (some 0) with
  accessFlags := 49
  interfaces := #[2, 3, 4, 5, 6]
  cf := some (fileOf pool7 10 #[.nestMembers #[1103]] #[{ accessFlags := 1, nameIndex := 5, descriptorIndex := 6, attributes := #[] }, { accessFlags := 1, nameIndex := 5, descriptorIndex := 1233, attributes := #[] }, { accessFlags := 1, nameIndex := 507, descriptorIndex := 334, attributes := #[] }, { accessFlags := 1, nameIndex := 497, descriptorIndex := 427, attributes := #[] }, { accessFlags := 9, nameIndex := 782, descriptorIndex := 783, attributes := #[] }, { accessFlags := 0, nameIndex := 532, descriptorIndex := 821, attributes := #[] }, { accessFlags := 0, nameIndex := 5, descriptorIndex := 491, attributes := #[] }, { accessFlags := 0, nameIndex := 5, descriptorIndex := 211, attributes := #[] }, { accessFlags := 0, nameIndex := 17, descriptorIndex := 337, attributes := #[] }, { accessFlags := 0, nameIndex := 494, descriptorIndex := 142, attributes := #[] }, { accessFlags := 8, nameIndex := 501, descriptorIndex := 391, attributes := #[] }] 49 2 #[1106, 1108, 575, 1110, 1112] #[{ accessFlags := 18, nameIndex := 13, descriptorIndex := 14, attributes := #[] }, { accessFlags := 18, nameIndex := 17, descriptorIndex := 18, attributes := #[] }, { accessFlags := 2, nameIndex := 21, descriptorIndex := 22, attributes := #[] }, { accessFlags := 2, nameIndex := 25, descriptorIndex := 26, attributes := #[] }, { accessFlags := 26, nameIndex := 1116, descriptorIndex := 1117, attributes := #[] }, { accessFlags := 24, nameIndex := 40, descriptorIndex := 26, attributes := #[] }, { accessFlags := 26, nameIndex := 1101, descriptorIndex := 1102, attributes := #[] }, { accessFlags := 26, nameIndex := 1121, descriptorIndex := 1122, attributes := #[] }, { accessFlags := 25, nameIndex := 599, descriptorIndex := 600, attributes := #[] }, { accessFlags := 24, nameIndex := 1125, descriptorIndex := 18, attributes := #[] }, { accessFlags := 24, nameIndex := 1127, descriptorIndex := 18, attributes := #[] }])
  fields := #[{ name := "value", type := (.array .byte), accessFlags := 18, slot := 0, constantValue := 0 }, { name := "coder", type := .byte, accessFlags := 18, slot := 1, constantValue := 0 }, { name := "hash", type := .int, accessFlags := 2, slot := 2, constantValue := 0 }, { name := "hashIsZero", type := .boolean, accessFlags := 2, slot := 3, constantValue := 0 }, { name := "serialVersionUID", type := .long, accessFlags := 26, slot := 0, constantValue := 0 }, { name := "COMPACT_STRINGS", type := .boolean, accessFlags := 24, slot := 1, constantValue := 0 }, { name := "serialPersistentFields", type := (.array (.object "java/io/ObjectStreamField")), accessFlags := 26, slot := 2, constantValue := 0 }, { name := "REPL", type := .char, accessFlags := 26, slot := 3, constantValue := 0 }, { name := "CASE_INSENSITIVE_ORDER", type := (.object "java/util/Comparator"), accessFlags := 25, slot := 4, constantValue := 0 }, { name := "LATIN1", type := .byte, accessFlags := 24, slot := 5, constantValue := 0 }, { name := "UTF16", type := .byte, accessFlags := 24, slot := 6, constantValue := 0 }]
  methods := #[k7m0, k7m1, k7m2, k7m3, k7m4, k7m5, k7m6, k7m7, k7m8, k7m9, k7m10]
  instanceTypes := #[(.array .byte), .byte, .int, .boolean]
  staticTypes := #[.long, .boolean, (.array (.object "java/io/ObjectStreamField")), .char, (.object "java/util/Comparator"), .byte, .byte]
  resolved := Array.replicate 1451 none
  statics := some 0 }

def pool8 : Array CpInfo := pool [(1, .class_ 2), (0, u "java/lang/String"), (1, .class_ 6), (1, u "java/lang/Object"), (0, u "<init>"), (0, u "()V"), (0, .methodref 1 10), (0, .nameAndType 11 12), (0, u "checkIndex"), (0, u "(II)V"), (1, .class_ 16), (1, u "java/lang/StringLatin1"), (36, u "([BI)C"), (36, u "canEncode"), (14, u "(C)Z"), (15, u "$assertionsDisabled"), (0, u "Z"), (98, .class_ 223), (1, u "java/lang/StringLatin1$LinesSpliterator"), (28, u "charAt"), (127, u "toBytes"), (1, u "(C)[B"), (7, .class_ 391), (0, u "java/lang/StringLatin1$CharsSpliterator")] 3

def k8m0 : Method := { name := "<init>", desc := "()V", sig := { parameters := [], returnType := none }, accessFlags := 0, code := none }
def k8c1 : Code := { maxStack := 2, maxLocals := 2, code := jdk_43_method_2_code, exceptionTable := #[], attributes := #[] }
def k8m1 : Method := { name := "charAt", desc := "([BI)C", sig := { parameters := [(.array .byte), .int], returnType := some .char }, accessFlags := 9, code := some k8c1 }
def k8c2 : Code := { maxStack := 2, maxLocals := 1, code := jdk_43_method_3_code, exceptionTable := #[], attributes := #[] }
def k8m2 : Method := { name := "canEncode", desc := "(C)Z", sig := { parameters := [.char], returnType := some .boolean }, accessFlags := 9, code := some k8c2 }
def k8c3 : Code := { maxStack := 4, maxLocals := 1, code := jdk_43_method_46_code, exceptionTable := #[], attributes := #[] }
def k8m3 : Method := { name := "toBytes", desc := "(C)[B", sig := { parameters := [.char], returnType := some (.array .byte) }, accessFlags := 9, code := some k8c3 }
/-- java/lang/StringLatin1 -/
def k8 : Class := { plain "java/lang/StringLatin1" (some 0) with
  accessFlags := 48
  interfaces := #[]
  cf := some (fileOf pool8 14 #[.nestMembers #[390, 221]] #[{ accessFlags := 0, nameIndex := 7, descriptorIndex := 8, attributes := #[] }, { accessFlags := 9, nameIndex := 252, descriptorIndex := 53, attributes := #[] }, { accessFlags := 9, nameIndex := 90, descriptorIndex := 105, attributes := #[] }, { accessFlags := 9, nameIndex := 380, descriptorIndex := 382, attributes := #[] }] 48 4 #[] #[{ accessFlags := 4120, nameIndex := 121, descriptorIndex := 122, attributes := #[] }])
  fields := #[{ name := "$assertionsDisabled", type := .boolean, accessFlags := 4120, slot := 0, constantValue := 0 }]
  methods := #[k8m0, k8m1, k8m2, k8m3]
  instanceTypes := #[]
  staticTypes := #[.boolean]
  resolved := Array.replicate 395 none
  statics := none }

def pool9 : Array CpInfo := pool [(1, .methodref 2 3), (0, .class_ 4), (0, .nameAndType 5 6), (0, u "java/lang/Object"), (0, u "<init>"), (0, u "()V"), (0, .fieldref 8 9), (0, .class_ 10), (0, .nameAndType 11 12), (0, u "com/example/lanka/lanka/Headers"), (0, u "namesAndValues"), (0, u "[Ljava/lang/String;"), (7, .methodref 21 22), (0, .class_ 12), (0, .nameAndType 23 24), (0, u "clone"), (0, u "()Ljava/lang/Object;"), (0, .string 26), (0, u "field name or value"), (0, .methodref 28 29), (0, .class_ 30), (0, .nameAndType 31 32), (0, u "java/util/Objects"), (0, u "requireNonNull"), (0, u "(Ljava/lang/Object;Ljava/lang/String;)Ljava/lang/Object;"), (0, .methodref 8 34), (0, .nameAndType 5 35), (0, u "([Ljava/lang/String;)V"), (10, u "of"), (20, .class_ 68), (0, u "java/lang/StringBuilder"), (0, .methodref 67 3), (0, .methodref 67 71), (0, .nameAndType 72 73), (0, u "append"), (0, u "(Ljava/lang/String;)Ljava/lang/StringBuilder;"), (0, .string 75), (0, u ": "), (0, .methodref 67 77), (0, .nameAndType 72 78), (0, u "(C)Ljava/lang/StringBuilder;"), (0, .methodref 67 80), (0, .nameAndType 81 82), (0, u "toString"), (0, u "()Ljava/lang/String;"), (2, u "([Ljava/lang/String;)Lcom/example/lanka/lanka/Headers;")] 10

def k9c0 : Code := { maxStack := 2, maxLocals := 2, code := prog_4_method_1_code, exceptionTable := #[], attributes := #[] }
def k9m0 : Method := { name := "<init>", desc := "([Ljava/lang/String;)V", sig := { parameters := [(.array (.object "java/lang/String"))], returnType := none }, accessFlags := 2, code := some k9c0 }
def k9c1 : Code := { maxStack := 3, maxLocals := 6, code := prog_4_method_2_code, exceptionTable := #[], attributes := #[] }
def k9m1 : Method := { name := "of", desc := "([Ljava/lang/String;)Lcom/example/lanka/lanka/Headers;", sig := { parameters := [(.array (.object "java/lang/String"))], returnType := some (.object "com/example/lanka/lanka/Headers") }, accessFlags := 137, code := some k9c1 }
def k9c2 : Code := { maxStack := 4, maxLocals := 3, code := prog_4_method_5_code, exceptionTable := #[], attributes := #[] }
def k9m2 : Method := { name := "toString", desc := "()Ljava/lang/String;", sig := { parameters := [], returnType := some (.object "java/lang/String") }, accessFlags := 1, code := some k9c2 }
/-- com/example/lanka/lanka/Headers -/
def k9 : Class := { plain "com/example/lanka/lanka/Headers" (some 0) with
  accessFlags := 49
  interfaces := #[]
  cf := some (fileOf pool9 8 #[] #[{ accessFlags := 2, nameIndex := 5, descriptorIndex := 35, attributes := #[] }, { accessFlags := 137, nameIndex := 46, descriptorIndex := 85, attributes := #[] }, { accessFlags := 1, nameIndex := 81, descriptorIndex := 82, attributes := #[] }] 49 2 #[] #[{ accessFlags := 18, nameIndex := 11, descriptorIndex := 12, attributes := #[] }])
  fields := #[{ name := "namesAndValues", type := (.array (.object "java/lang/String")), accessFlags := 18, slot := 0, constantValue := 0 }]
  methods := #[k9m0, k9m1, k9m2]
  instanceTypes := #[(.array (.object "java/lang/String"))]
  staticTypes := #[]
  resolved := Array.replicate 96 none
  statics := none }

def pool10 : Array CpInfo := pool [(1, .class_ 2), (0, u "java/lang/Cloneable"), (0, .class_ 4), (0, u "java/lang/Object")] 2

/-- java/lang/Cloneable -/
def k10 : Class := { plain "java/lang/Cloneable" (some 0) with
  accessFlags := 1537
  interfaces := #[]
  cf := some (fileOf pool10 1 #[] #[] 1537 3 #[] #[])
  fields := #[]
  methods := #[]
  instanceTypes := #[]
  staticTypes := #[]
  resolved := Array.replicate 7 none
  statics := none }

def pool11 : Array CpInfo := pool [(2, .class_ 4), (1, u "java/lang/Object"), (0, u "<init>"), (0, u "()V"), (35, .class_ 44), (1, u "java/util/Objects"), (0, u "requireNonNull"), (48, u "(Ljava/lang/Object;Ljava/lang/String;)Ljava/lang/Object;")] 89

def k11m0 : Method := { name := "<init>", desc := "()V", sig := { parameters := [], returnType := none }, accessFlags := 2, code := none }
def k11c1 : Code := { maxStack := 3, maxLocals := 2, code := jdk_31_method_11_code, exceptionTable := #[], attributes := #[] }
def k11m1 : Method := { name := "requireNonNull", desc := "(Ljava/lang/Object;Ljava/lang/String;)Ljava/lang/Object;", sig := { parameters := [(.object "java/lang/Object"), (.object "java/lang/String")], returnType := some (.object "java/lang/Object") }, accessFlags := 9, code := some k11c1 }
/-- java/util/Objects -/
def k11 : Class := { plain "java/util/Objects" (some 0) with
  accessFlags := 49
  interfaces := #[]
  cf := some (fileOf pool11 42 #[] #[{ accessFlags := 2, nameIndex := 5, descriptorIndex := 6, attributes := #[] }, { accessFlags := 9, nameIndex := 45, descriptorIndex := 94, attributes := #[] }] 49 2 #[] #[])
  fields := #[]
  methods := #[k11m0, k11m1]
  instanceTypes := #[]
  staticTypes := #[]
  resolved := Array.replicate 184 none
  statics := none }

def pool12 : Array CpInfo := pool [(1, .class_ 2), (0, u "java/lang/Appendable"), (0, .class_ 4), (0, u "java/lang/Object")] 9

/-- java/lang/Appendable -/
def k12 : Class := { plain "java/lang/Appendable" (some 0) with
  accessFlags := 1537
  interfaces := #[]
  cf := some (fileOf pool12 1 #[] #[] 1537 3 #[] #[])
  fields := #[]
  methods := #[]
  instanceTypes := #[]
  staticTypes := #[]
  resolved := Array.replicate 14 none
  statics := none }

def pool13 : Array CpInfo := pool [(1, .class_ 2), (0, u "java/lang/String"), (0, .methodref 4 5), (0, .class_ 6), (0, .nameAndType 7 8), (0, u "java/lang/Object"), (0, u "<init>"), (0, u "()V"), (1, .class_ 12), (1, u "java/lang/AbstractStringBuilder"), (0, u "EMPTYVALUE"), (0, u "[B"), (0, .fieldref 10 16), (0, .nameAndType 17 14), (0, u "value"), (0, .fieldref 1 19), (0, .nameAndType 20 21), (0, u "COMPACT_STRINGS"), (0, u "Z"), (0, .fieldref 10 23), (0, .nameAndType 24 25), (0, u "coder"), (0, u "B"), (6, .methodref 1 33), (0, .nameAndType 34 35), (0, u "length"), (0, u "()I"), (4, .methodref 1 41), (0, .nameAndType 24 42), (0, u "()B"), (2, u "append"), (0, u "(Ljava/lang/String;)Ljava/lang/AbstractStringBuilder;"), (1, .class_ 49), (0, u "java/lang/CharSequence"), (19, u "(Ljava/lang/String;)V"), (5, u "maybeLatin1"), (3, .fieldref 10 80), (0, .nameAndType 81 82), (0, u "count"), (0, u "I"), (0, .methodref 10 84), (0, .nameAndType 85 86), (0, u "isLatin1"), (0, u "()Z"), (1, .class_ 90), (1, u "java/lang/StringLatin1"), (9, .methodref 10 101), (0, .nameAndType 102 103), (0, u "ensureCapacityInternal"), (0, u "(I)V"), (87, .methodref 88 192), (0, .nameAndType 193 194), (0, u "canEncode"), (0, u "(C)Z"), (13, .methodref 10 209), (0, .nameAndType 210 211), (0, u "putStringAt"), (0, u "(ILjava/lang/String;)V"), (5, u "inflateIfNeededFor"), (2, .nameAndType 221 222), (0, u "getBytes"), (0, u "([BIB)V"), (69, u "(C)Ljava/lang/AbstractStringBuilder;"), (104, .methodref 10 398), (0, .nameAndType 217 69), (0, .methodref 1 220), (3, u "()[B"), (40, .class_ 445), (0, u "java/lang/Appendable"), (106, u "getValue")] 56

def k13m0 : Method := { name := "<init>", desc := "()V", sig := { parameters := [], returnType := none }, accessFlags := 0, code := none }
def k13c1 : Code := { maxStack := 2, maxLocals := 2, code := jdk_68_method_2_code, exceptionTable := #[], attributes := #[] }
def k13m1 : Method := { name := "<init>", desc := "(I)V", sig := { parameters := [.int], returnType := none }, accessFlags := 0, code := some k13c1 }
def k13c2 : Code := { maxStack := 1, maxLocals := 1, code := jdk_68_method_6_code, exceptionTable := #[], attributes := #[] }
def k13m2 : Method := { name := "length", desc := "()I", sig := { parameters := [], returnType := some .int }, accessFlags := 1, code := some k13c2 }
def k13c3 : Code := { maxStack := 4, maxLocals := 3, code := jdk_68_method_9_code, exceptionTable := #[], attributes := #[] }
def k13m3 : Method := { name := "ensureCapacityInternal", desc := "(I)V", sig := { parameters := [.int], returnType := none }, accessFlags := 2, code := some k13c3 }
def k13c4 : Code := { maxStack := 3, maxLocals := 3, code := jdk_68_method_22_code, exceptionTable := #[], attributes := #[] }
def k13m4 : Method := { name := "append", desc := "(Ljava/lang/String;)Ljava/lang/AbstractStringBuilder;", sig := { parameters := [(.object "java/lang/String")], returnType := some (.object "java/lang/AbstractStringBuilder") }, accessFlags := 1, code := some k13c4 }
def k13c5 : Code := { maxStack := 5, maxLocals := 2, code := jdk_68_method_31_code, exceptionTable := #[], attributes := #[] }
def k13m5 : Method := { name := "append", desc := "(C)Ljava/lang/AbstractStringBuilder;", sig := { parameters := [.char], returnType := some (.object "java/lang/AbstractStringBuilder") }, accessFlags := 1, code := some k13c5 }
def k13c6 : Code := { maxStack := 1, maxLocals := 1, code := jdk_68_method_64_code, exceptionTable := #[], attributes := #[] }
def k13m6 : Method := { name := "getValue", desc := "()[B", sig := { parameters := [], returnType := some (.array .byte) }, accessFlags := 16, code := some k13c6 }
def k13c7 : Code := { maxStack := 1, maxLocals := 1, code := jdk_68_method_68_code, exceptionTable := #[], attributes := #[] }
def k13m7 : Method := { name := "isLatin1", desc := "()Z", sig := { parameters := [], returnType := some .boolean }, accessFlags := 16, code := some k13c7 }
def k13c8 : Code := { maxStack := 2, maxLocals := 2, code := jdk_68_method_71_code, exceptionTable := #[], attributes := #[] }
def k13m8 : Method := { name := "inflateIfNeededFor", desc := "(Ljava/lang/String;)V", sig := { parameters := [(.object "java/lang/String")], returnType := none }, accessFlags := 2, code := some k13c8 }
def k13c9 : Code := { maxStack := 4, maxLocals := 3, code := jdk_68_method_73_code, exceptionTable := #[], attributes := #[] }
def k13m9 : Method := { name := "putStringAt", desc := "(ILjava/lang/String;)V", sig := { parameters := [.int, (.object "java/lang/String")], returnType := none }, accessFlags := 2, code := some k13c9 }
/-- java/lang/AbstractStringBuilder -/
def k13 : Class := { plain "java/lang/AbstractStringBuilder" (some 0) with
  accessFlags := 1056
  interfaces := #[12, 4]
  cf := some (fileOf pool13 10 #[] #[{ accessFlags := 0, nameIndex := 7, descriptorIndex := 8, attributes := #[] }, { accessFlags := 0, nameIndex := 7, descriptorIndex := 103, attributes := #[] }, { accessFlags := 1, nameIndex := 34, descriptorIndex := 35, attributes := #[] }, { accessFlags := 2, nameIndex := 102, descriptorIndex := 103, attributes := #[] }, { accessFlags := 1, nameIndex := 45, descriptorIndex := 46, attributes := #[] }, { accessFlags := 1, nameIndex := 45, descriptorIndex := 292, attributes := #[] }, { accessFlags := 16, nameIndex := 552, descriptorIndex := 403, attributes := #[] }, { accessFlags := 16, nameIndex := 85, descriptorIndex := 86, attributes := #[] }, { accessFlags := 2, nameIndex := 217, descriptorIndex := 69, attributes := #[] }, { accessFlags := 2, nameIndex := 210, descriptorIndex := 211, attributes := #[] }] 1056 4 #[444, 48] #[{ accessFlags := 0, nameIndex := 17, descriptorIndex := 14, attributes := #[] }, { accessFlags := 0, nameIndex := 24, descriptorIndex := 25, attributes := #[] }, { accessFlags := 0, nameIndex := 75, descriptorIndex := 21, attributes := #[] }, { accessFlags := 0, nameIndex := 81, descriptorIndex := 82, attributes := #[] }, { accessFlags := 26, nameIndex := 13, descriptorIndex := 14, attributes := #[] }])
  fields := #[{ name := "value", type := (.array .byte), accessFlags := 0, slot := 0, constantValue := 0 }, { name := "coder", type := .byte, accessFlags := 0, slot := 1, constantValue := 0 }, { name := "maybeLatin1", type := .boolean, accessFlags := 0, slot := 2, constantValue := 0 }, { name := "count", type := .int, accessFlags := 0, slot := 3, constantValue := 0 }, { name := "EMPTYVALUE", type := (.array .byte), accessFlags := 26, slot := 0, constantValue := 0 }]
  methods := #[k13m0, k13m1, k13m2, k13m3, k13m4, k13m5, k13m6, k13m7, k13m8, k13m9]
  instanceTypes := #[(.array .byte), .byte, .boolean, .int]
  staticTypes := #[(.array .byte)]
  resolved := Array.replicate 609 none
  statics := none }

def pool14 : Array CpInfo := pool [(1, .methodref 2 3), (0, .class_ 4), (0, .nameAndType 5 6), (0, u "java/lang/AbstractStringBuilder"), (0, u "<init>"), (0, u "(I)V"), (11, .class_ 20), (1, u "java/lang/String"), (3, .class_ 26), (1, u "java/lang/StringBuilder"), (0, u "append"), (0, u "(Ljava/lang/String;)Ljava/lang/StringBuilder;"), (0, .methodref 2 30), (0, .nameAndType 27 31), (0, u "(Ljava/lang/String;)Ljava/lang/AbstractStringBuilder;"), (18, .methodref 2 51), (0, .nameAndType 27 52), (0, u "(C)Ljava/lang/AbstractStringBuilder;"), (84, .methodref 18 138), (0, .nameAndType 5 139), (0, u "(Ljava/lang/StringBuilder;)V"), (5, u "()V"), (10, u "()I"), (129, u "(C)Ljava/lang/StringBuilder;"), (56, .methodref 2 344), (0, .nameAndType 345 156), (0, u "length"), (3, .class_ 350), (0, u "java/lang/Appendable"), (0, .class_ 352), (0, u "java/io/Serializable"), (0, .class_ 354), (0, u "java/lang/Comparable"), (0, .class_ 356), (0, u "java/lang/CharSequence"), (0, u "serialVersionUID"), (0, u "J"), (40, u "toString"), (0, u "()Ljava/lang/String;")] 21

def k14c0 : Code := { maxStack := 2, maxLocals := 1, code := jdk_67_method_1_code, exceptionTable := #[], attributes := #[] }
def k14m0 : Method := { name := "<init>", desc := "()V", sig := { parameters := [], returnType := none }, accessFlags := 1, code := some k14c0 }
def k14c1 : Code := { maxStack := 2, maxLocals := 2, code := jdk_67_method_7_code, exceptionTable := #[], attributes := #[] }
def k14m1 : Method := { name := "append", desc := "(Ljava/lang/String;)Ljava/lang/StringBuilder;", sig := { parameters := [(.object "java/lang/String")], returnType := some (.object "java/lang/StringBuilder") }, accessFlags := 1, code := some k14c1 }
def k14c2 : Code := { maxStack := 2, maxLocals := 2, code := jdk_67_method_14_code, exceptionTable := #[], attributes := #[] }
def k14m2 : Method := { name := "append", desc := "(C)Ljava/lang/StringBuilder;", sig := { parameters := [.char], returnType := some (.object "java/lang/StringBuilder") }, accessFlags := 1, code := some k14c2 }
def k14c3 : Code := { maxStack := 3, maxLocals := 1, code := jdk_67_method_42_code, exceptionTable := #[], attributes := #[] }
def k14m3 : Method := { name := "toString", desc := "()Ljava/lang/String;", sig := { parameters := [], returnType := some (.object "java/lang/String") }, accessFlags := 1, code := some k14c3 }
def k14c4 : Code := { maxStack := 1, maxLocals := 1, code := jdk_67_method_93_code, exceptionTable := #[], attributes := #[] }
def k14m4 : Method := { name := "length", desc := "()I", sig := { parameters := [], returnType := some .int }, accessFlags := 4161, code := some k14c4 }
/-- java/lang/StringBuilder -/
def k14 : Class := { plain "java/lang/StringBuilder" (some 13) with
  accessFlags := 49
  interfaces := #[12, 2, 3, 4]
  cf := some (fileOf pool14 24 #[] #[{ accessFlags := 1, nameIndex := 5, descriptorIndex := 145, attributes := #[] }, { accessFlags := 1, nameIndex := 27, descriptorIndex := 28, attributes := #[] }, { accessFlags := 1, nameIndex := 27, descriptorIndex := 286, attributes := #[] }, { accessFlags := 1, nameIndex := 399, descriptorIndex := 400, attributes := #[] }, { accessFlags := 4161, nameIndex := 345, descriptorIndex := 156, attributes := #[] }] 49 2 #[349, 351, 353, 355] #[{ accessFlags := 24, nameIndex := 357, descriptorIndex := 358, attributes := #[] }])
  fields := #[{ name := "serialVersionUID", type := .long, accessFlags := 24, slot := 0, constantValue := 0 }]
  methods := #[k14m0, k14m1, k14m2, k14m3, k14m4]
  instanceTypes := #[(.array .byte), .byte, .boolean, .int]
  staticTypes := #[.long]
  resolved := Array.replicate 422 none
  statics := none }

def pool15 : Array CpInfo := pool [(2, .class_ 4), (1, u "java/lang/Object"), (0, u "<init>"), (0, u "()V"), (1, .class_ 10), (1, u "java/lang/System"), (0, u "allowSecurityManager"), (0, u "I"), (16, u "cons"), (0, u "Ljava/io/Console;"), (77, .class_ 110), (1, u "java/lang/System$CallersHolder"), (43, u "initialErrStream"), (0, u "Ljava/io/PrintStream;"), (19, u "security"), (0, u "Ljava/lang/SecurityManager;"), (31, .class_ 209), (0, u "java/lang/System$1"), (7, u "props"), (0, u "Ljava/util/Properties;"), (2, u "lineSeparator"), (0, u "Ljava/lang/String;"), (96, .class_ 321), (1, u "java/lang/System$LoggerFinder"), (5, .class_ 328), (0, u "java/lang/System$Logger"), (67, u "err"), (2, u "out"), (91, u "notSupportedJnuEncoding"), (15, u "in"), (17, u "initialIn"), (0, u "Ljava/io/InputStream;"), (35, u "bootLayer"), (0, u "Ljava/lang/ModuleLayer;"), (99, .class_ 664), (0, u "java/lang/System$2"), (9, u "NEVER"), (2, u "MAYBE"), (49, u "arraycopy"), (0, u "(Ljava/lang/Object;ILjava/lang/Object;II)V"), (72, .class_ 802), (0, u "java/lang/System$Logger$Level")] 31

def k15m0 : Method := { name := "<init>", desc := "()V", sig := { parameters := [], returnType := none }, accessFlags := 2, code := none }
def k15m1 : Method := { name := "arraycopy", desc := "(Ljava/lang/Object;ILjava/lang/Object;II)V", sig := { parameters := [(.object "java/lang/Object"), .int, (.object "java/lang/Object"), .int, .int], returnType := none }, accessFlags := 265, code := none }
/-- java/lang/System -/
def k15 : Class := { plain "java/lang/System" (some 0) with
  accessFlags := 49
  interfaces := #[]
  cf := some (fileOf pool15 8 #[.nestMembers #[319, 327, 801, 108, 663, 208]] #[{ accessFlags := 2, nameIndex := 5, descriptorIndex := 6, attributes := #[] }, { accessFlags := 265, nameIndex := 727, descriptorIndex := 728, attributes := #[] }] 49 2 #[] #[{ accessFlags := 25, nameIndex := 507, descriptorIndex := 526, attributes := #[] }, { accessFlags := 25, nameIndex := 399, descriptorIndex := 155, attributes := #[] }, { accessFlags := 25, nameIndex := 396, descriptorIndex := 155, attributes := #[] }, { accessFlags := 10, nameIndex := 525, descriptorIndex := 526, attributes := #[] }, { accessFlags := 26, nameIndex := 674, descriptorIndex := 12, attributes := #[] }, { accessFlags := 26, nameIndex := 677, descriptorIndex := 12, attributes := #[] }, { accessFlags := 10, nameIndex := 11, descriptorIndex := 12, attributes := #[] }, { accessFlags := 74, nameIndex := 175, descriptorIndex := 176, attributes := #[] }, { accessFlags := 10, nameIndex := 491, descriptorIndex := 222, attributes := #[] }, { accessFlags := 74, nameIndex := 29, descriptorIndex := 30, attributes := #[] }, { accessFlags := 74, nameIndex := 154, descriptorIndex := 155, attributes := #[] }, { accessFlags := 10, nameIndex := 217, descriptorIndex := 218, attributes := #[] }, { accessFlags := 10, nameIndex := 221, descriptorIndex := 222, attributes := #[] }, { accessFlags := 8, nameIndex := 562, descriptorIndex := 563, attributes := #[] }])
  fields := #[{ name := "in", type := (.object "java/io/InputStream"), accessFlags := 25, slot := 0, constantValue := 0 }, { name := "out", type := (.object "java/io/PrintStream"), accessFlags := 25, slot := 1, constantValue := 0 }, { name := "err", type := (.object "java/io/PrintStream"), accessFlags := 25, slot := 2, constantValue := 0 }, { name := "initialIn", type := (.object "java/io/InputStream"), accessFlags := 10, slot := 3, constantValue := 0 }, { name := "NEVER", type := .int, accessFlags := 26, slot := 4, constantValue := 0 }, { name := "MAYBE", type := .int, accessFlags := 26, slot := 5, constantValue := 0 }, { name := "allowSecurityManager", type := .int, accessFlags := 10, slot := 6, constantValue := 0 }, { name := "security", type := (.object "java/lang/SecurityManager"), accessFlags := 74, slot := 7, constantValue := 0 }, { name := "notSupportedJnuEncoding", type := (.object "java/lang/String"), accessFlags := 10, slot := 8, constantValue := 0 }, { name := "cons", type := (.object "java/io/Console"), accessFlags := 74, slot := 9, constantValue := 0 }, { name := "initialErrStream", type := (.object "java/io/PrintStream"), accessFlags := 74, slot := 10, constantValue := 0 }, { name := "props", type := (.object "java/util/Properties"), accessFlags := 10, slot := 11, constantValue := 0 }, { name := "lineSeparator", type := (.object "java/lang/String"), accessFlags := 10, slot := 12, constantValue := 0 }, { name := "bootLayer", type := (.object "java/lang/ModuleLayer"), accessFlags := 8, slot := 13, constantValue := 0 }]
  methods := #[k15m0, k15m1]
  instanceTypes := #[]
  staticTypes := #[(.object "java/io/InputStream"), (.object "java/io/PrintStream"), (.object "java/io/PrintStream"), (.object "java/io/InputStream"), .int, .int, .int, (.object "java/lang/SecurityManager"), (.object "java/lang/String"), (.object "java/io/Console"), (.object "java/io/PrintStream"), (.object "java/util/Properties"), (.object "java/lang/String"), (.object "java/lang/ModuleLayer")]
  resolved := Array.replicate 834 none
  statics := none }

def pool16 : Array CpInfo := pool [(2, .class_ 4), (1, u "java/lang/Object"), (0, u "<init>"), (0, u "()V"), (7, .class_ 16), (1, u "java/util/Arrays"), (57, .class_ 76), (1, u "java/util/Arrays$NaturalOrder"), (36, .class_ 115), (1, u "java/util/Arrays$LegacyMergeSort"), (1, u "Z"), (21, u "copyOfRange"), (10, .methodref 151 152), (0, .class_ 153), (0, .nameAndType 154 155), (0, u "java/lang/System"), (0, u "arraycopy"), (0, u "(Ljava/lang/Object;ILjava/lang/Object;II)V"), (148, .methodref 305 306), (0, .class_ 307), (0, .nameAndType 308 309), (0, u "java/lang/Math"), (0, u "min"), (0, u "(II)I"), (29, .methodref 14 340), (0, .nameAndType 341 342), (0, u "copyOfRangeByte"), (0, u "([BII)[B"), (0, .methodref 14 344), (0, .nameAndType 345 346), (0, u "checkLength"), (0, u "(II)V"), (28, .class_ 376), (0, u "java/util/Arrays$ArrayList"), (68, u "$assertionsDisabled"), (269, u "MIN_ARRAY_SORT_GRAN"), (0, u "I"), (2, u "INSERTIONSORT_THRESHOLD"), (255, .class_ 976), (0, u "java/util/Arrays$ArrayItr")] 52

def k16m0 : Method := { name := "<init>", desc := "()V", sig := { parameters := [], returnType := none }, accessFlags := 2, code := none }
def k16c1 : Code := { maxStack := 4, maxLocals := 2, code := jdk_65_method_131_code, exceptionTable := #[], attributes := #[] }
def k16m1 : Method := { name := "checkLength", desc := "(II)V", sig := { parameters := [.int, .int], returnType := none }, accessFlags := 10, code := some k16c1 }
def k16c2 : Code := { maxStack := 3, maxLocals := 3, code := jdk_65_method_132_code, exceptionTable := #[], attributes := #[] }
def k16m2 : Method := { name := "copyOfRange", desc := "([BII)[B", sig := { parameters := [(.array .byte), .int, .int], returnType := some (.array .byte) }, accessFlags := 9, code := some k16c2 }
def k16c3 : Code := { maxStack := 6, maxLocals := 5, code := jdk_65_method_133_code, exceptionTable := #[], attributes := #[] }
def k16m3 : Method := { name := "copyOfRangeByte", desc := "([BII)[B", sig := { parameters := [(.array .byte), .int, .int], returnType := some (.array .byte) }, accessFlags := 10, code := some k16c3 }
/-- java/util/Arrays -/
def k16 : Class := { plain "java/util/Arrays" (some 0) with
  accessFlags := 49
  interfaces := #[]
  cf := some (fileOf pool16 14 #[.nestMembers #[975, 375, 113, 74]] #[{ accessFlags := 2, nameIndex := 5, descriptorIndex := 6, attributes := #[] }, { accessFlags := 10, nameIndex := 345, descriptorIndex := 346, attributes := #[] }, { accessFlags := 9, nameIndex := 139, descriptorIndex := 342, attributes := #[] }, { accessFlags := 10, nameIndex := 341, descriptorIndex := 342, attributes := #[] }] 49 2 #[] #[{ accessFlags := 26, nameIndex := 715, descriptorIndex := 716, attributes := #[] }, { accessFlags := 26, nameIndex := 719, descriptorIndex := 716, attributes := #[] }, { accessFlags := 4120, nameIndex := 445, descriptorIndex := 117, attributes := #[] }])
  fields := #[{ name := "MIN_ARRAY_SORT_GRAN", type := .int, accessFlags := 26, slot := 0, constantValue := 0 }, { name := "INSERTIONSORT_THRESHOLD", type := .int, accessFlags := 26, slot := 1, constantValue := 0 }, { name := "$assertionsDisabled", type := .boolean, accessFlags := 4120, slot := 2, constantValue := 0 }]
  methods := #[k16m0, k16m1, k16m2, k16m3]
  instanceTypes := #[]
  staticTypes := #[.int, .int, .boolean]
  resolved := Array.replicate 1029 none
  statics := none }

def pool17 : Array CpInfo := pool [(1, .class_ 2), (0, u "java/lang/Math"), (1, .class_ 6), (1, u "java/lang/Object"), (0, u "<init>"), (0, u "()V"), (89, .class_ 100), (1, u "java/lang/Math$RandomNumberGeneratorHolder"), (71, u "negativeZeroFloatBits"), (0, u "J"), (2, u "negativeZeroDoubleBits"), (24, u "min"), (43, u "$assertionsDisabled"), (0, u "Z"), (88, u "(II)I"), (2, u "twoToTheDoubleScaleDown"), (0, u "D"), (4, u "twoToTheDoubleScaleUp"), (9, u "E"), (3, u "PI"), (2, u "TAU"), (2, u "DEGREES_TO_RADIANS"), (0, u "RADIANS_TO_DEGREES")] 94

def k17m0 : Method := { name := "<init>", desc := "()V", sig := { parameters := [], returnType := none }, accessFlags := 2, code := none }
def k17c1 : Code := { maxStack := 2, maxLocals := 2, code := jdk_29_method_69_code, exceptionTable := #[], attributes := #[] }
def k17m1 : Method := { name := "min", desc := "(II)I", sig := { parameters := [.int, .int], returnType := some .int }, accessFlags := 9, code := some k17c1 }
/-- java/lang/Math -/
def k17 : Class := { plain "java/lang/Math" (some 0) with
  accessFlags := 49
  interfaces := #[]
  cf := some (fileOf pool17 1 #[.nestMembers #[98]] #[{ accessFlags := 2, nameIndex := 7, descriptorIndex := 8, attributes := #[] }, { accessFlags := 9, nameIndex := 201, descriptorIndex := 335, attributes := #[] }] 49 4 #[] #[{ accessFlags := 25, nameIndex := 354, descriptorIndex := 339, attributes := #[] }, { accessFlags := 25, nameIndex := 358, descriptorIndex := 339, attributes := #[] }, { accessFlags := 25, nameIndex := 361, descriptorIndex := 339, attributes := #[] }, { accessFlags := 26, nameIndex := 364, descriptorIndex := 339, attributes := #[] }, { accessFlags := 26, nameIndex := 365, descriptorIndex := 339, attributes := #[] }, { accessFlags := 26, nameIndex := 172, descriptorIndex := 173, attributes := #[] }, { accessFlags := 26, nameIndex := 176, descriptorIndex := 173, attributes := #[] }, { accessFlags := 8, nameIndex := 344, descriptorIndex := 339, attributes := #[] }, { accessFlags := 8, nameIndex := 338, descriptorIndex := 339, attributes := #[] }, { accessFlags := 4120, nameIndex := 245, descriptorIndex := 246, attributes := #[] }])
  fields := #[{ name := "E", type := .double, accessFlags := 25, slot := 0, constantValue := 0 }, { name := "PI", type := .double, accessFlags := 25, slot := 1, constantValue := 0 }, { name := "TAU", type := .double, accessFlags := 25, slot := 2, constantValue := 0 }, { name := "DEGREES_TO_RADIANS", type := .double, accessFlags := 26, slot := 3, constantValue := 0 }, { name := "RADIANS_TO_DEGREES", type := .double, accessFlags := 26, slot := 4, constantValue := 0 }, { name := "negativeZeroFloatBits", type := .long, accessFlags := 26, slot := 5, constantValue := 0 }, { name := "negativeZeroDoubleBits", type := .long, accessFlags := 26, slot := 6, constantValue := 0 }, { name := "twoToTheDoubleScaleUp", type := .double, accessFlags := 8, slot := 7, constantValue := 0 }, { name := "twoToTheDoubleScaleDown", type := .double, accessFlags := 8, slot := 8, constantValue := 0 }, { name := "$assertionsDisabled", type := .boolean, accessFlags := 4120, slot := 9, constantValue := 0 }]
  methods := #[k17m0, k17m1]
  instanceTypes := #[]
  staticTypes := #[.double, .double, .double, .double, .double, .long, .long, .double, .double, .boolean]
  resolved := Array.replicate 460 none
  statics := none }

def pool18 : Array CpInfo := pool [(2, .class_ 4), (1, u "java/lang/Object"), (0, u "<init>"), (0, u "()V"), (17, .class_ 26), (1, u "jdk/internal/util/Preconditions"), (6, u "checkIndex"), (21, .class_ 56), (0, u "jdk/internal/util/Preconditions$4"), (57, .class_ 115), (0, u "jdk/internal/util/Preconditions$1"), (7, u "SIOOBE_FORMATTER"), (0, u "Ljava/util/function/BiFunction;"), (0, .class_ 126), (0, u "jdk/internal/util/Preconditions$2"), (3, u "AIOOBE_FORMATTER"), (0, .class_ 132), (0, u "jdk/internal/util/Preconditions$3"), (3, u "IOOBE_FORMATTER"), (41, u "(IILjava/util/function/BiFunction;)I")] 15

def k18m0 : Method := { name := "<init>", desc := "()V", sig := { parameters := [], returnType := none }, accessFlags := 1, code := none }
def k18c1 : Code := { maxStack := 3, maxLocals := 3, code := jdk_41_method_11_code, exceptionTable := #[], attributes := #[] }
def k18m1 : Method := { name := "checkIndex", desc := "(IILjava/util/function/BiFunction;)I", sig := { parameters := [.int, .int, (.object "java/util/function/BiFunction")], returnType := some .int }, accessFlags := 9, code := some k18c1 }
/-- jdk/internal/util/Preconditions -/
def k18 : Class := { plain "jdk/internal/util/Preconditions" (some 0) with
  accessFlags := 33
  interfaces := #[]
  cf := some (fileOf pool18 24 #[.nestMembers #[55, 131, 125, 114]] #[{ accessFlags := 1, nameIndex := 5, descriptorIndex := 6, attributes := #[] }, { accessFlags := 9, nameIndex := 33, descriptorIndex := 178, attributes := #[] }] 33 2 #[] #[{ accessFlags := 25, nameIndex := 123, descriptorIndex := 124, attributes := #[] }, { accessFlags := 25, nameIndex := 130, descriptorIndex := 124, attributes := #[] }, { accessFlags := 25, nameIndex := 136, descriptorIndex := 124, attributes := #[] }])
  fields := #[{ name := "SIOOBE_FORMATTER", type := (.object "java/util/function/BiFunction"), accessFlags := 25, slot := 0, constantValue := 0 }, { name := "AIOOBE_FORMATTER", type := (.object "java/util/function/BiFunction"), accessFlags := 25, slot := 1, constantValue := 0 }, { name := "IOOBE_FORMATTER", type := (.object "java/util/function/BiFunction"), accessFlags := 25, slot := 2, constantValue := 0 }]
  methods := #[k18m0, k18m1]
  instanceTypes := #[]
  staticTypes := #[(.object "java/util/function/BiFunction"), (.object "java/util/function/BiFunction"), (.object "java/util/function/BiFunction")]
  resolved := Array.replicate 194 none
  statics := some 1 }

def pool19 : Array CpInfo := pool [(9, u "<init>"), (6, .class_ 18), (1, u "java/lang/Object"), (0, u "()V"), (1, .class_ 23), (1, u "jdk/internal/util/ArraysSupport"), (0, u "LOG2_ARRAY_LONG_INDEX_SCALE"), (0, u "I"), (2, u "U"), (0, u "Ljdk/internal/misc/Unsafe;"), (8, u "BIG_ENDIAN"), (0, u "Z"), (8, u "LOG2_BYTE_BIT_SIZE"), (4, u "LOG2_ARRAY_INT_INDEX_SCALE"), (54, u "JLA"), (0, u "Ljdk/internal/access/JavaLangAccess;"), (11, u "LOG2_ARRAY_BOOLEAN_INDEX_SCALE"), (9, u "LOG2_ARRAY_BYTE_INDEX_SCALE"), (5, u "LOG2_ARRAY_CHAR_INDEX_SCALE"), (5, u "LOG2_ARRAY_SHORT_INDEX_SCALE"), (18, u "LOG2_ARRAY_FLOAT_INDEX_SCALE"), (24, u "LOG2_ARRAY_DOUBLE_INDEX_SCALE"), (89, u "T_BOOLEAN"), (2, u "T_CHAR"), (1, u "T_FLOAT"), (1, u "T_DOUBLE"), (1, u "T_BYTE"), (1, u "T_SHORT"), (1, u "T_INT"), (1, u "T_LONG"), (1, u "SOFT_MAX_ARRAY_LENGTH")] 83

def k19m0 : Method := { name := "<init>", desc := "()V", sig := { parameters := [], returnType := none }, accessFlags := 2, code := none }
/-- jdk/internal/util/ArraysSupport -/
def k19 : Class := { plain "jdk/internal/util/ArraysSupport" (some 0) with
  accessFlags := 33
  interfaces := #[]
  cf := some (fileOf pool19 21 #[] #[{ accessFlags := 2, nameIndex := 9, descriptorIndex := 19, attributes := #[] }] 33 16 #[] #[{ accessFlags := 24, nameIndex := 28, descriptorIndex := 29, attributes := #[] }, { accessFlags := 26, nameIndex := 38, descriptorIndex := 39, attributes := #[] }, { accessFlags := 25, nameIndex := 121, descriptorIndex := 25, attributes := #[] }, { accessFlags := 25, nameIndex := 131, descriptorIndex := 25, attributes := #[] }, { accessFlags := 25, nameIndex := 137, descriptorIndex := 25, attributes := #[] }, { accessFlags := 25, nameIndex := 143, descriptorIndex := 25, attributes := #[] }, { accessFlags := 25, nameIndex := 53, descriptorIndex := 25, attributes := #[] }, { accessFlags := 25, nameIndex := 24, descriptorIndex := 25, attributes := #[] }, { accessFlags := 25, nameIndex := 162, descriptorIndex := 25, attributes := #[] }, { accessFlags := 25, nameIndex := 187, descriptorIndex := 25, attributes := #[] }, { accessFlags := 26, nameIndex := 48, descriptorIndex := 25, attributes := #[] }, { accessFlags := 25, nameIndex := 277, descriptorIndex := 25, attributes := #[] }, { accessFlags := 25, nameIndex := 280, descriptorIndex := 25, attributes := #[] }, { accessFlags := 25, nameIndex := 282, descriptorIndex := 25, attributes := #[] }, { accessFlags := 25, nameIndex := 284, descriptorIndex := 25, attributes := #[] }, { accessFlags := 25, nameIndex := 286, descriptorIndex := 25, attributes := #[] }, { accessFlags := 25, nameIndex := 288, descriptorIndex := 25, attributes := #[] }, { accessFlags := 25, nameIndex := 290, descriptorIndex := 25, attributes := #[] }, { accessFlags := 25, nameIndex := 292, descriptorIndex := 25, attributes := #[] }, { accessFlags := 26, nameIndex := 108, descriptorIndex := 109, attributes := #[] }, { accessFlags := 25, nameIndex := 294, descriptorIndex := 25, attributes := #[] }])
  fields := #[{ name := "U", type := (.object "jdk/internal/misc/Unsafe"), accessFlags := 24, slot := 0, constantValue := 0 }, { name := "BIG_ENDIAN", type := .boolean, accessFlags := 26, slot := 1, constantValue := 0 }, { name := "LOG2_ARRAY_BOOLEAN_INDEX_SCALE", type := .int, accessFlags := 25, slot := 2, constantValue := 0 }, { name := "LOG2_ARRAY_BYTE_INDEX_SCALE", type := .int, accessFlags := 25, slot := 3, constantValue := 0 }, { name := "LOG2_ARRAY_CHAR_INDEX_SCALE", type := .int, accessFlags := 25, slot := 4, constantValue := 0 }, { name := "LOG2_ARRAY_SHORT_INDEX_SCALE", type := .int, accessFlags := 25, slot := 5, constantValue := 0 }, { name := "LOG2_ARRAY_INT_INDEX_SCALE", type := .int, accessFlags := 25, slot := 6, constantValue := 0 }, { name := "LOG2_ARRAY_LONG_INDEX_SCALE", type := .int, accessFlags := 25, slot := 7, constantValue := 0 }, { name := "LOG2_ARRAY_FLOAT_INDEX_SCALE", type := .int, accessFlags := 25, slot := 8, constantValue := 0 }, { name := "LOG2_ARRAY_DOUBLE_INDEX_SCALE", type := .int, accessFlags := 25, slot := 9, constantValue := 0 }, { name := "LOG2_BYTE_BIT_SIZE", type := .int, accessFlags := 26, slot := 10, constantValue := 0 }, { name := "T_BOOLEAN", type := .int, accessFlags := 25, slot := 11, constantValue := 0 }, { name := "T_CHAR", type := .int, accessFlags := 25, slot := 12, constantValue := 0 }, { name := "T_FLOAT", type := .int, accessFlags := 25, slot := 13, constantValue := 0 }, { name := "T_DOUBLE", type := .int, accessFlags := 25, slot := 14, constantValue := 0 }, { name := "T_BYTE", type := .int, accessFlags := 25, slot := 15, constantValue := 0 }, { name := "T_SHORT", type := .int, accessFlags := 25, slot := 16, constantValue := 0 }, { name := "T_INT", type := .int, accessFlags := 25, slot := 17, constantValue := 0 }, { name := "T_LONG", type := .int, accessFlags := 25, slot := 18, constantValue := 0 }, { name := "JLA", type := (.object "jdk/internal/access/JavaLangAccess"), accessFlags := 26, slot := 19, constantValue := 0 }, { name := "SOFT_MAX_ARRAY_LENGTH", type := .int, accessFlags := 25, slot := 20, constantValue := 0 }]
  methods := #[k19m0]
  instanceTypes := #[]
  staticTypes := #[(.object "jdk/internal/misc/Unsafe"), .boolean, .int, .int, .int, .int, .int, .int, .int, .int, .int, .int, .int, .int, .int, .int, .int, .int, .int, (.object "jdk/internal/access/JavaLangAccess"), .int]
  resolved := Array.replicate 378 none
  statics := none }

/-- the primitive byte -/
def k20 : Class := { plain "byte" none with kind := .primitive 'B', accessFlags := 0x411 }
/-- [B -/
def k21 : Class := { plain "[B" (some 0) with kind := .array 20 .byte, interfaces := #[10, 2], accessFlags := 1041 }

/-- the primitive int -/
def k22 : Class := { plain "int" none with kind := .primitive 'I', accessFlags := 0x411 }
/-- [I -/
def k23 : Class := { plain "[I" (some 0) with kind := .array 22 .int, interfaces := #[10, 2], accessFlags := 1041 }

/-- [Ljava/lang/String; -/
def k24 : Class := { plain "[Ljava/lang/String;" (some 0) with kind := .array 7 (.object "java/lang/String"), interfaces := #[10, 2], accessFlags := 1041 }

def heap : Heap := #[{ cls := 7, slots := #[.long 0, .int 1, .null, .int 0, .null, .int 0, .int 0], vm := .statics 7 },
  { cls := 18, slots := #[.null, .null, .null], vm := .statics 18 }]
def classes : Array Class := #[k0, k1, k2, k3, k4, k5, k6, k7, k8, k9, k10, k11, k12, k13, k14, k15, k16, k17, k18, k19, k20, k21, k22, k23, k24]
def interned : List (Array UInt16 × Addr) := []
def slotsUsed : Nat := 10
def theMethod : MethodId := ⟨1, 2⟩
def args0 : Array Value := #[.int 5, .int 6, .int 7]
def aboutOver (below : List Frame) : State where
  vm := { classes := classes, interned := interned.toArray }
  heap := heap
  slotsUsed := slotsUsed
  threads := #[{ frames := .invoking theMethod args0 :: below }]
def below0 : List Frame := [.native { method := ⟨0, 0⟩, args := #[] }]
def about1 : State := aboutOver below0
def p0 : Program := .bare "" "" ""
def e0 : Env := launch0.env 0 0 0
theorem w_frames : about1.frames = Frame.invoking theMethod args0 :: below0 := rfl
set_option maxRecDepth 65536 in
theorem w_args : argsFit about1.vm theMethod args0 = true := by decide +kernel
set_option maxRecDepth 65536 in
theorem w_heap : heapFits about1 = true := by decide +kernel
set_option maxRecDepth 65536 in
theorem w_runnable : about1.curStatus? = some .runnable := by decide +kernel
set_option maxRecDepth 65536 in
theorem w_alone : about1.alone = true := by decide +kernel
set_option maxRecDepth 65536 in
theorem w_named : about1.methodNamed? x = some theMethod := by decide +kernel
set_option maxRecDepth 65536 in
theorem w_hears : about1.hears theMethod below0 = true := by decide +kernel
set_option maxRecDepth 65536 in
theorem w_ripe : about1.ripe theMethod args0 below0 = true := by decide +kernel
theorem w_running : about1.status = .running := rfl
set_option maxRecDepth 65536 in
theorem w_room : about1.hasRoom e0.platform room_1 = true :=
  launch0.hasRoom_least _ room_1 (by decide +kernel) (by decide +kernel) (by decide +kernel) (by decide +kernel) (by decide +kernel) (by decide +kernel)
theorem allAtoms_all (ts : List Jvm.Cond) (a : Array Jvm.Value) (st : Jvm.State) : (allAtoms ts).before a st = ts.all (fun c => c.before a st) := by
  induction ts with
  | nil => rfl
  | cons c t ih =>
    show (Jvm.Cond.and c (allAtoms t)).before a st = _
    rw [Jvm.Cond.before_and, ih, List.all_cons]
def words1 : List Jvm.Cond := Jvm.Cond.code x code maxLocals ret :: tables_1
/-- a 'code' word, met by the world's own term for the bytes: nothing is compared byte by byte -/
theorem code_word {y : MethodName} {bytes : ByteArray} {mx : Nat} {rt : Option FieldType} {a : Array Value} {s : State} {m : MethodId} {meth : Method} {c : Code} (h1 : s.methodNamed? y = some m) (h2 : s.vm.method? m = some meth) (h3 : meth.code = some c) (h4 : c.code = bytes)
    (h5 : (c.maxLocals == mx && c.exceptionTable.isEmpty && decide (c.maxStack ≤ mostOperands) && decide (meth.sig.returnType = rt) && !meth.locks && decide (parseMethodDescriptor y.desc = some meth.sig)) = true) : (Jvm.Cond.code y bytes mx rt).before a s = true := by
  simp only [Bool.and_eq_true, beq_iff_eq, Bool.not_eq_true', decide_eq_true_eq] at h5
  obtain ⟨⟨⟨⟨⟨g1, g2⟩, g3⟩, g4⟩, g5⟩, g6⟩ := h5
  simp [Cond.before, Cond.holds, Cond.value, h1, h2, h3, h4, g1, g2, g3, g4, g5, g6]
def isCode : Jvm.Cond → Bool
  | .code _ _ _ _ => true
  | _ => false
theorem all_split {L : List Jvm.Cond} {P : Jvm.Cond → Bool} (h1 : L.all (fun c => isCode c || P c) = true) (h2 : ∀ c ∈ L.filter isCode, P c = true) : L.all P = true := by
  refine List.all_eq_true.mpr fun c hc => ?_
  have h := List.all_eq_true.mp h1 c hc
  rcases Bool.eq_false_or_eq_true (isCode c) with hi | hi
  · exact h2 c (List.mem_filter.mpr ⟨hc, hi⟩)
  · simpa [hi] using h
set_option maxRecDepth 65536 in
theorem w_c0 : (Jvm.Cond.code x code maxLocals ret).before args0 about1 = true := code_word (m := ⟨1, 2⟩) (meth := k1m2) (c := k1c2) (by decide +kernel) rfl rfl rfl (by decide +kernel)
set_option maxRecDepth 65536 in
theorem w_c1 : (Jvm.Cond.code ({ cls := "java/lang/String", name := "valueOf", desc := "(C)Ljava/lang/String;" } : Jvm.MethodName) jdk_42_method_139_code (1 : Nat) (Option.some (Jvm.ClassFile.FieldType.object "java/lang/String"))).before args0 about1 = true := code_word (m := ⟨7, 4⟩) (meth := k7m4) (c := k7c4) (by decide +kernel) rfl rfl rfl (by decide +kernel)
set_option maxRecDepth 65536 in
theorem w_c2 : (Jvm.Cond.code ({ cls := "java/lang/StringLatin1", name := "canEncode", desc := "(C)Z" } : Jvm.MethodName) jdk_43_method_3_code (1 : Nat) (Option.some Jvm.ClassFile.FieldType.boolean)).before args0 about1 = true := code_word (m := ⟨8, 2⟩) (meth := k8m2) (c := k8c2) (by decide +kernel) rfl rfl rfl (by decide +kernel)
set_option maxRecDepth 65536 in
theorem w_c3 : (Jvm.Cond.code ({ cls := "java/lang/StringLatin1", name := "toBytes", desc := "(C)[B" } : Jvm.MethodName) jdk_43_method_46_code (1 : Nat) (Option.some (Jvm.ClassFile.FieldType.array Jvm.ClassFile.FieldType.byte))).before args0 about1 = true := code_word (m := ⟨8, 3⟩) (meth := k8m3) (c := k8c3) (by decide +kernel) rfl rfl rfl (by decide +kernel)
set_option maxRecDepth 65536 in
theorem w_c4 : (Jvm.Cond.code ({ cls := "java/lang/String", name := "<init>", desc := "([BB)V" } : Jvm.MethodName) jdk_42_method_151_code (3 : Nat) (Option.none : Option Jvm.ClassFile.FieldType)).before args0 about1 = true := code_word (m := ⟨7, 7⟩) (meth := k7m7) (c := k7c7) (by decide +kernel) rfl rfl rfl (by decide +kernel)
set_option maxRecDepth 65536 in
theorem w_c5 : (Jvm.Cond.code ({ cls := "java/lang/Object", name := "<init>", desc := "()V" } : Jvm.MethodName) object_method_1_code (1 : Nat) (Option.none : Option Jvm.ClassFile.FieldType)).before args0 about1 = true := code_word (m := ⟨0, 0⟩) (meth := k0m0) (c := k0c0) (by decide +kernel) rfl rfl rfl (by decide +kernel)
set_option maxRecDepth 65536 in
theorem w_c6 : (Jvm.Cond.code ({ cls := "com/example/lanka/lanka/Headers", name := "of", desc := "([Ljava/lang/String;)Lcom/example/lanka/lanka/Headers;" } : Jvm.MethodName) prog_4_method_2_code (6 : Nat) (Option.some (Jvm.ClassFile.FieldType.object "com/example/lanka/lanka/Headers"))).before args0 about1 = true := code_word (m := ⟨9, 1⟩) (meth := k9m1) (c := k9c1) (by decide +kernel) rfl rfl rfl (by decide +kernel)
set_option maxRecDepth 65536 in
theorem w_c7 : (Jvm.Cond.code ({ cls := "java/util/Objects", name := "requireNonNull", desc := "(Ljava/lang/Object;Ljava/lang/String;)Ljava/lang/Object;" } : Jvm.MethodName) jdk_31_method_11_code (2 : Nat) (Option.some (Jvm.ClassFile.FieldType.object "java/lang/Object"))).before args0 about1 = true := code_word (m := ⟨11, 1⟩) (meth := k11m1) (c := k11c1) (by decide +kernel) rfl rfl rfl (by decide +kernel)
set_option maxRecDepth 65536 in
theorem w_c8 : (Jvm.Cond.code ({ cls := "com/example/lanka/lanka/Headers", name := "<init>", desc := "([Ljava/lang/String;)V" } : Jvm.MethodName) prog_4_method_1_code (2 : Nat) (Option.none : Option Jvm.ClassFile.FieldType)).before args0 about1 = true := code_word (m := ⟨9, 0⟩) (meth := k9m0) (c := k9c0) (by decide +kernel) rfl rfl rfl (by decide +kernel)
set_option maxRecDepth 65536 in
theorem w_c9 : (Jvm.Cond.code ({ cls := "com/example/lanka/lanka/Headers", name := "toString", desc := "()Ljava/lang/String;" } : Jvm.MethodName) prog_4_method_5_code (3 : Nat) (Option.some (Jvm.ClassFile.FieldType.object "java/lang/String"))).before args0 about1 = true := code_word (m := ⟨9, 2⟩) (meth := k9m2) (c := k9c2) (by decide +kernel) rfl rfl rfl (by decide +kernel)
set_option maxRecDepth 65536 in
theorem w_c10 : (Jvm.Cond.code ({ cls := "java/lang/StringBuilder", name := "<init>", desc := "()V" } : Jvm.MethodName) jdk_67_method_1_code (1 : Nat) (Option.none : Option Jvm.ClassFile.FieldType)).before args0 about1 = true := code_word (m := ⟨14, 0⟩) (meth := k14m0) (c := k14c0) (by decide +kernel) rfl rfl rfl (by decide +kernel)
set_option maxRecDepth 65536 in
theorem w_c11 : (Jvm.Cond.code ({ cls := "java/lang/AbstractStringBuilder", name := "<init>", desc := "(I)V" } : Jvm.MethodName) jdk_68_method_2_code (2 : Nat) (Option.none : Option Jvm.ClassFile.FieldType)).before args0 about1 = true := code_word (m := ⟨13, 1⟩) (meth := k13m1) (c := k13c1) (by decide +kernel) rfl rfl rfl (by decide +kernel)
set_option maxRecDepth 65536 in
theorem w_c12 : (Jvm.Cond.code ({ cls := "java/lang/StringBuilder", name := "append", desc := "(Ljava/lang/String;)Ljava/lang/StringBuilder;" } : Jvm.MethodName) jdk_67_method_7_code (2 : Nat) (Option.some (Jvm.ClassFile.FieldType.object "java/lang/StringBuilder"))).before args0 about1 = true := code_word (m := ⟨14, 1⟩) (meth := k14m1) (c := k14c1) (by decide +kernel) rfl rfl rfl (by decide +kernel)
set_option maxRecDepth 65536 in
theorem w_c13 : (Jvm.Cond.code ({ cls := "java/lang/AbstractStringBuilder", name := "append", desc := "(Ljava/lang/String;)Ljava/lang/AbstractStringBuilder;" } : Jvm.MethodName) jdk_68_method_22_code (3 : Nat) (Option.some (Jvm.ClassFile.FieldType.object "java/lang/AbstractStringBuilder"))).before args0 about1 = true := code_word (m := ⟨13, 4⟩) (meth := k13m4) (c := k13c4) (by decide +kernel) rfl rfl rfl (by decide +kernel)
set_option maxRecDepth 65536 in
theorem w_c14 : (Jvm.Cond.code ({ cls := "java/lang/String", name := "length", desc := "()I" } : Jvm.MethodName) jdk_42_method_54_code (1 : Nat) (Option.some Jvm.ClassFile.FieldType.int)).before args0 about1 = true := code_word (m := ⟨7, 2⟩) (meth := k7m2) (c := k7c2) (by decide +kernel) rfl rfl rfl (by decide +kernel)
set_option maxRecDepth 65536 in
theorem w_c15 : (Jvm.Cond.code ({ cls := "java/lang/String", name := "coder", desc := "()B" } : Jvm.MethodName) jdk_42_method_152_code (1 : Nat) (Option.some Jvm.ClassFile.FieldType.byte)).before args0 about1 = true := code_word (m := ⟨7, 8⟩) (meth := k7m8) (c := k7c8) (by decide +kernel) rfl rfl rfl (by decide +kernel)
set_option maxRecDepth 65536 in
theorem w_c16 : (Jvm.Cond.code ({ cls := "java/lang/AbstractStringBuilder", name := "ensureCapacityInternal", desc := "(I)V" } : Jvm.MethodName) jdk_68_method_9_code (3 : Nat) (Option.none : Option Jvm.ClassFile.FieldType)).before args0 about1 = true := code_word (m := ⟨13, 3⟩) (meth := k13m3) (c := k13c3) (by decide +kernel) rfl rfl rfl (by decide +kernel)
set_option maxRecDepth 65536 in
theorem w_c17 : (Jvm.Cond.code ({ cls := "java/lang/AbstractStringBuilder", name := "putStringAt", desc := "(ILjava/lang/String;)V" } : Jvm.MethodName) jdk_68_method_73_code (3 : Nat) (Option.none : Option Jvm.ClassFile.FieldType)).before args0 about1 = true := code_word (m := ⟨13, 9⟩) (meth := k13m9) (c := k13c9) (by decide +kernel) rfl rfl rfl (by decide +kernel)
set_option maxRecDepth 65536 in
theorem w_c18 : (Jvm.Cond.code ({ cls := "java/lang/AbstractStringBuilder", name := "inflateIfNeededFor", desc := "(Ljava/lang/String;)V" } : Jvm.MethodName) jdk_68_method_71_code (2 : Nat) (Option.none : Option Jvm.ClassFile.FieldType)).before args0 about1 = true := code_word (m := ⟨13, 8⟩) (meth := k13m8) (c := k13c8) (by decide +kernel) rfl rfl rfl (by decide +kernel)
set_option maxRecDepth 65536 in
theorem w_c19 : (Jvm.Cond.code ({ cls := "java/lang/String", name := "getBytes", desc := "([BIB)V" } : Jvm.MethodName) jdk_42_method_147_code (4 : Nat) (Option.none : Option Jvm.ClassFile.FieldType)).before args0 about1 = true := code_word (m := ⟨7, 5⟩) (meth := k7m5) (c := k7c5) (by decide +kernel) rfl rfl rfl (by decide +kernel)
set_option maxRecDepth 65536 in
theorem w_c20 : (Jvm.Cond.code ({ cls := "java/lang/StringBuilder", name := "append", desc := "(C)Ljava/lang/StringBuilder;" } : Jvm.MethodName) jdk_67_method_14_code (2 : Nat) (Option.some (Jvm.ClassFile.FieldType.object "java/lang/StringBuilder"))).before args0 about1 = true := code_word (m := ⟨14, 2⟩) (meth := k14m2) (c := k14c2) (by decide +kernel) rfl rfl rfl (by decide +kernel)
set_option maxRecDepth 65536 in
theorem w_c21 : (Jvm.Cond.code ({ cls := "java/lang/AbstractStringBuilder", name := "append", desc := "(C)Ljava/lang/AbstractStringBuilder;" } : Jvm.MethodName) jdk_68_method_31_code (2 : Nat) (Option.some (Jvm.ClassFile.FieldType.object "java/lang/AbstractStringBuilder"))).before args0 about1 = true := code_word (m := ⟨13, 5⟩) (meth := k13m5) (c := k13c5) (by decide +kernel) rfl rfl rfl (by decide +kernel)
set_option maxRecDepth 65536 in
theorem w_c22 : (Jvm.Cond.code ({ cls := "java/lang/AbstractStringBuilder", name := "isLatin1", desc := "()Z" } : Jvm.MethodName) jdk_68_method_68_code (1 : Nat) (Option.some Jvm.ClassFile.FieldType.boolean)).before args0 about1 = true := code_word (m := ⟨13, 7⟩) (meth := k13m7) (c := k13c7) (by decide +kernel) rfl rfl rfl (by decide +kernel)
set_option maxRecDepth 65536 in
theorem w_c23 : (Jvm.Cond.code ({ cls := "java/lang/StringBuilder", name := "toString", desc := "()Ljava/lang/String;" } : Jvm.MethodName) jdk_67_method_42_code (1 : Nat) (Option.some (Jvm.ClassFile.FieldType.object "java/lang/String"))).before args0 about1 = true := code_word (m := ⟨14, 3⟩) (meth := k14m3) (c := k14c3) (by decide +kernel) rfl rfl rfl (by decide +kernel)
set_option maxRecDepth 65536 in
theorem w_c24 : (Jvm.Cond.code ({ cls := "java/lang/String", name := "<init>", desc := "(Ljava/lang/StringBuilder;)V" } : Jvm.MethodName) jdk_42_method_53_code (2 : Nat) (Option.none : Option Jvm.ClassFile.FieldType)).before args0 about1 = true := code_word (m := ⟨7, 1⟩) (meth := k7m1) (c := k7c1) (by decide +kernel) rfl rfl rfl (by decide +kernel)
set_option maxRecDepth 65536 in
theorem w_c25 : (Jvm.Cond.code ({ cls := "java/lang/String", name := "<init>", desc := "(Ljava/lang/AbstractStringBuilder;Ljava/lang/Void;)V" } : Jvm.MethodName) jdk_42_method_150_code (5 : Nat) (Option.none : Option Jvm.ClassFile.FieldType)).before args0 about1 = true := code_word (m := ⟨7, 6⟩) (meth := k7m6) (c := k7c6) (by decide +kernel) rfl rfl rfl (by decide +kernel)
set_option maxRecDepth 65536 in
theorem w_c26 : (Jvm.Cond.code ({ cls := "java/lang/AbstractStringBuilder", name := "getValue", desc := "()[B" } : Jvm.MethodName) jdk_68_method_64_code (1 : Nat) (Option.some (Jvm.ClassFile.FieldType.array Jvm.ClassFile.FieldType.byte))).before args0 about1 = true := code_word (m := ⟨13, 6⟩) (meth := k13m6) (c := k13c6) (by decide +kernel) rfl rfl rfl (by decide +kernel)
set_option maxRecDepth 65536 in
theorem w_c27 : (Jvm.Cond.code ({ cls := "java/lang/StringBuilder", name := "length", desc := "()I" } : Jvm.MethodName) jdk_67_method_93_code (1 : Nat) (Option.some Jvm.ClassFile.FieldType.int)).before args0 about1 = true := code_word (m := ⟨14, 4⟩) (meth := k14m4) (c := k14c4) (by decide +kernel) rfl rfl rfl (by decide +kernel)
set_option maxRecDepth 65536 in
theorem w_c28 : (Jvm.Cond.code ({ cls := "java/lang/AbstractStringBuilder", name := "length", desc := "()I" } : Jvm.MethodName) jdk_68_method_6_code (1 : Nat) (Option.some Jvm.ClassFile.FieldType.int)).before args0 about1 = true := code_word (m := ⟨13, 2⟩) (meth := k13m2) (c := k13c2) (by decide +kernel) rfl rfl rfl (by decide +kernel)
set_option maxRecDepth 65536 in
theorem w_c29 : (Jvm.Cond.code ({ cls := "java/util/Arrays", name := "copyOfRange", desc := "([BII)[B" } : Jvm.MethodName) jdk_65_method_132_code (3 : Nat) (Option.some (Jvm.ClassFile.FieldType.array Jvm.ClassFile.FieldType.byte))).before args0 about1 = true := code_word (m := ⟨16, 2⟩) (meth := k16m2) (c := k16c2) (by decide +kernel) rfl rfl rfl (by decide +kernel)
set_option maxRecDepth 65536 in
theorem w_c30 : (Jvm.Cond.code ({ cls := "java/util/Arrays", name := "copyOfRangeByte", desc := "([BII)[B" } : Jvm.MethodName) jdk_65_method_133_code (5 : Nat) (Option.some (Jvm.ClassFile.FieldType.array Jvm.ClassFile.FieldType.byte))).before args0 about1 = true := code_word (m := ⟨16, 3⟩) (meth := k16m3) (c := k16c3) (by decide +kernel) rfl rfl rfl (by decide +kernel)
set_option maxRecDepth 65536 in
theorem w_c31 : (Jvm.Cond.code ({ cls := "java/util/Arrays", name := "checkLength", desc := "(II)V" } : Jvm.MethodName) jdk_65_method_131_code (2 : Nat) (Option.none : Option Jvm.ClassFile.FieldType)).before args0 about1 = true := code_word (m := ⟨16, 1⟩) (meth := k16m1) (c := k16c1) (by decide +kernel) rfl rfl rfl (by decide +kernel)
set_option maxRecDepth 65536 in
theorem w_c32 : (Jvm.Cond.code ({ cls := "java/lang/Math", name := "min", desc := "(II)I" } : Jvm.MethodName) jdk_29_method_69_code (2 : Nat) (Option.some Jvm.ClassFile.FieldType.int)).before args0 about1 = true := code_word (m := ⟨17, 1⟩) (meth := k17m1) (c := k17c1) (by decide +kernel) rfl rfl rfl (by decide +kernel)
set_option maxRecDepth 65536 in
theorem w_c33 : (Jvm.Cond.code ({ cls := "com/example/lanka/lanka/HeadersOfPinLaw", name := "line", desc := "(Ljava/lang/String;ICC)Z" } : Jvm.MethodName) method_2_code (4 : Nat) (Option.some Jvm.ClassFile.FieldType.boolean)).before args0 about1 = true := code_word (m := ⟨1, 1⟩) (meth := k1m1) (c := k1c1) (by decide +kernel) rfl rfl rfl (by decide +kernel)
set_option maxRecDepth 65536 in
theorem w_c34 : (Jvm.Cond.code ({ cls := "java/lang/String", name := "charAt", desc := "(I)C" } : Jvm.MethodName) jdk_42_method_56_code (2 : Nat) (Option.some Jvm.ClassFile.FieldType.char)).before args0 about1 = true := code_word (m := ⟨7, 3⟩) (meth := k7m3) (c := k7c3) (by decide +kernel) rfl rfl rfl (by decide +kernel)
set_option maxRecDepth 65536 in
theorem w_c35 : (Jvm.Cond.code ({ cls := "java/lang/String", name := "isLatin1", desc := "()Z" } : Jvm.MethodName) jdk_42_method_154_code (1 : Nat) (Option.some Jvm.ClassFile.FieldType.boolean)).before args0 about1 = true := code_word (m := ⟨7, 9⟩) (meth := k7m9) (c := k7c9) (by decide +kernel) rfl rfl rfl (by decide +kernel)
set_option maxRecDepth 65536 in
theorem w_c36 : (Jvm.Cond.code ({ cls := "java/lang/StringLatin1", name := "charAt", desc := "([BI)C" } : Jvm.MethodName) jdk_43_method_2_code (2 : Nat) (Option.some Jvm.ClassFile.FieldType.char)).before args0 about1 = true := code_word (m := ⟨8, 1⟩) (meth := k8m1) (c := k8c1) (by decide +kernel) rfl rfl rfl (by decide +kernel)
set_option maxRecDepth 65536 in
theorem w_c37 : (Jvm.Cond.code ({ cls := "java/lang/String", name := "checkIndex", desc := "(II)V" } : Jvm.MethodName) jdk_42_method_155_code (2 : Nat) (Option.none : Option Jvm.ClassFile.FieldType)).before args0 about1 = true := code_word (m := ⟨7, 10⟩) (meth := k7m10) (c := k7c10) (by decide +kernel) rfl rfl rfl (by decide +kernel)
set_option maxRecDepth 65536 in
theorem w_c38 : (Jvm.Cond.code ({ cls := "jdk/internal/util/Preconditions", name := "checkIndex", desc := "(IILjava/util/function/BiFunction;)I" } : Jvm.MethodName) jdk_41_method_11_code (3 : Nat) (Option.some Jvm.ClassFile.FieldType.int)).before args0 about1 = true := code_word (m := ⟨18, 1⟩) (meth := k18m1) (c := k18c1) (by decide +kernel) rfl rfl rfl (by decide +kernel)
def codes1 : List Jvm.Cond := [Jvm.Cond.code x code maxLocals ret, Jvm.Cond.code ({ cls := "java/lang/String", name := "valueOf", desc := "(C)Ljava/lang/String;" } : Jvm.MethodName) jdk_42_method_139_code (1 : Nat) (Option.some (Jvm.ClassFile.FieldType.object "java/lang/String")), Jvm.Cond.code ({ cls := "java/lang/StringLatin1", name := "canEncode", desc := "(C)Z" } : Jvm.MethodName) jdk_43_method_3_code (1 : Nat) (Option.some Jvm.ClassFile.FieldType.boolean), Jvm.Cond.code ({ cls := "java/lang/StringLatin1", name := "toBytes", desc := "(C)[B" } : Jvm.MethodName) jdk_43_method_46_code (1 : Nat) (Option.some (Jvm.ClassFile.FieldType.array Jvm.ClassFile.FieldType.byte)), Jvm.Cond.code ({ cls := "java/lang/String", name := "<init>", desc := "([BB)V" } : Jvm.MethodName) jdk_42_method_151_code (3 : Nat) (Option.none : Option Jvm.ClassFile.FieldType), Jvm.Cond.code ({ cls := "java/lang/Object", name := "<init>", desc := "()V" } : Jvm.MethodName) object_method_1_code (1 : Nat) (Option.none : Option Jvm.ClassFile.FieldType), Jvm.Cond.code ({ cls := "com/example/lanka/lanka/Headers", name := "of", desc := "([Ljava/lang/String;)Lcom/example/lanka/lanka/Headers;" } : Jvm.MethodName) prog_4_method_2_code (6 : Nat) (Option.some (Jvm.ClassFile.FieldType.object "com/example/lanka/lanka/Headers")), Jvm.Cond.code ({ cls := "java/util/Objects", name := "requireNonNull", desc := "(Ljava/lang/Object;Ljava/lang/String;)Ljava/lang/Object;" } : Jvm.MethodName) jdk_31_method_11_code (2 : Nat) (Option.some (Jvm.ClassFile.FieldType.object "java/lang/Object")), Jvm.Cond.code ({ cls := "com/example/lanka/lanka/Headers", name := "<init>", desc := "([Ljava/lang/String;)V" } : Jvm.MethodName) prog_4_method_1_code (2 : Nat) (Option.none : Option Jvm.ClassFile.FieldType), Jvm.Cond.code ({ cls := "com/example/lanka/lanka/Headers", name := "toString", desc := "()Ljava/lang/String;" } : Jvm.MethodName) prog_4_method_5_code (3 : Nat) (Option.some (Jvm.ClassFile.FieldType.object "java/lang/String")), Jvm.Cond.code ({ cls := "java/lang/StringBuilder", name := "<init>", desc := "()V" } : Jvm.MethodName) jdk_67_method_1_code (1 : Nat) (Option.none : Option Jvm.ClassFile.FieldType), Jvm.Cond.code ({ cls := "java/lang/AbstractStringBuilder", name := "<init>", desc := "(I)V" } : Jvm.MethodName) jdk_68_method_2_code (2 : Nat) (Option.none : Option Jvm.ClassFile.FieldType), Jvm.Cond.code ({ cls := "java/lang/StringBuilder", name := "append", desc := "(Ljava/lang/String;)Ljava/lang/StringBuilder;" } : Jvm.MethodName) jdk_67_method_7_code (2 : Nat) (Option.some (Jvm.ClassFile.FieldType.object "java/lang/StringBuilder")), Jvm.Cond.code ({ cls := "java/lang/AbstractStringBuilder", name := "append", desc := "(Ljava/lang/String;)Ljava/lang/AbstractStringBuilder;" } : Jvm.MethodName) jdk_68_method_22_code (3 : Nat) (Option.some (Jvm.ClassFile.FieldType.object "java/lang/AbstractStringBuilder")), Jvm.Cond.code ({ cls := "java/lang/String", name := "length", desc := "()I" } : Jvm.MethodName) jdk_42_method_54_code (1 : Nat) (Option.some Jvm.ClassFile.FieldType.int), Jvm.Cond.code ({ cls := "java/lang/String", name := "coder", desc := "()B" } : Jvm.MethodName) jdk_42_method_152_code (1 : Nat) (Option.some Jvm.ClassFile.FieldType.byte), Jvm.Cond.code ({ cls := "java/lang/AbstractStringBuilder", name := "ensureCapacityInternal", desc := "(I)V" } : Jvm.MethodName) jdk_68_method_9_code (3 : Nat) (Option.none : Option Jvm.ClassFile.FieldType), Jvm.Cond.code ({ cls := "java/lang/AbstractStringBuilder", name := "putStringAt", desc := "(ILjava/lang/String;)V" } : Jvm.MethodName) jdk_68_method_73_code (3 : Nat) (Option.none : Option Jvm.ClassFile.FieldType), Jvm.Cond.code ({ cls := "java/lang/AbstractStringBuilder", name := "inflateIfNeededFor", desc := "(Ljava/lang/String;)V" } : Jvm.MethodName) jdk_68_method_71_code (2 : Nat) (Option.none : Option Jvm.ClassFile.FieldType), Jvm.Cond.code ({ cls := "java/lang/String", name := "getBytes", desc := "([BIB)V" } : Jvm.MethodName) jdk_42_method_147_code (4 : Nat) (Option.none : Option Jvm.ClassFile.FieldType), Jvm.Cond.code ({ cls := "java/lang/StringBuilder", name := "append", desc := "(C)Ljava/lang/StringBuilder;" } : Jvm.MethodName) jdk_67_method_14_code (2 : Nat) (Option.some (Jvm.ClassFile.FieldType.object "java/lang/StringBuilder")), Jvm.Cond.code ({ cls := "java/lang/AbstractStringBuilder", name := "append", desc := "(C)Ljava/lang/AbstractStringBuilder;" } : Jvm.MethodName) jdk_68_method_31_code (2 : Nat) (Option.some (Jvm.ClassFile.FieldType.object "java/lang/AbstractStringBuilder")), Jvm.Cond.code ({ cls := "java/lang/AbstractStringBuilder", name := "isLatin1", desc := "()Z" } : Jvm.MethodName) jdk_68_method_68_code (1 : Nat) (Option.some Jvm.ClassFile.FieldType.boolean), Jvm.Cond.code ({ cls := "java/lang/StringBuilder", name := "toString", desc := "()Ljava/lang/String;" } : Jvm.MethodName) jdk_67_method_42_code (1 : Nat) (Option.some (Jvm.ClassFile.FieldType.object "java/lang/String")), Jvm.Cond.code ({ cls := "java/lang/String", name := "<init>", desc := "(Ljava/lang/StringBuilder;)V" } : Jvm.MethodName) jdk_42_method_53_code (2 : Nat) (Option.none : Option Jvm.ClassFile.FieldType), Jvm.Cond.code ({ cls := "java/lang/String", name := "<init>", desc := "(Ljava/lang/AbstractStringBuilder;Ljava/lang/Void;)V" } : Jvm.MethodName) jdk_42_method_150_code (5 : Nat) (Option.none : Option Jvm.ClassFile.FieldType), Jvm.Cond.code ({ cls := "java/lang/AbstractStringBuilder", name := "getValue", desc := "()[B" } : Jvm.MethodName) jdk_68_method_64_code (1 : Nat) (Option.some (Jvm.ClassFile.FieldType.array Jvm.ClassFile.FieldType.byte)), Jvm.Cond.code ({ cls := "java/lang/StringBuilder", name := "length", desc := "()I" } : Jvm.MethodName) jdk_67_method_93_code (1 : Nat) (Option.some Jvm.ClassFile.FieldType.int), Jvm.Cond.code ({ cls := "java/lang/AbstractStringBuilder", name := "length", desc := "()I" } : Jvm.MethodName) jdk_68_method_6_code (1 : Nat) (Option.some Jvm.ClassFile.FieldType.int), Jvm.Cond.code ({ cls := "java/util/Arrays", name := "copyOfRange", desc := "([BII)[B" } : Jvm.MethodName) jdk_65_method_132_code (3 : Nat) (Option.some (Jvm.ClassFile.FieldType.array Jvm.ClassFile.FieldType.byte)), Jvm.Cond.code ({ cls := "java/util/Arrays", name := "copyOfRangeByte", desc := "([BII)[B" } : Jvm.MethodName) jdk_65_method_133_code (5 : Nat) (Option.some (Jvm.ClassFile.FieldType.array Jvm.ClassFile.FieldType.byte)), Jvm.Cond.code ({ cls := "java/util/Arrays", name := "checkLength", desc := "(II)V" } : Jvm.MethodName) jdk_65_method_131_code (2 : Nat) (Option.none : Option Jvm.ClassFile.FieldType), Jvm.Cond.code ({ cls := "java/lang/Math", name := "min", desc := "(II)I" } : Jvm.MethodName) jdk_29_method_69_code (2 : Nat) (Option.some Jvm.ClassFile.FieldType.int), Jvm.Cond.code ({ cls := "com/example/lanka/lanka/HeadersOfPinLaw", name := "line", desc := "(Ljava/lang/String;ICC)Z" } : Jvm.MethodName) method_2_code (4 : Nat) (Option.some Jvm.ClassFile.FieldType.boolean), Jvm.Cond.code ({ cls := "java/lang/String", name := "charAt", desc := "(I)C" } : Jvm.MethodName) jdk_42_method_56_code (2 : Nat) (Option.some Jvm.ClassFile.FieldType.char), Jvm.Cond.code ({ cls := "java/lang/String", name := "isLatin1", desc := "()Z" } : Jvm.MethodName) jdk_42_method_154_code (1 : Nat) (Option.some Jvm.ClassFile.FieldType.boolean), Jvm.Cond.code ({ cls := "java/lang/StringLatin1", name := "charAt", desc := "([BI)C" } : Jvm.MethodName) jdk_43_method_2_code (2 : Nat) (Option.some Jvm.ClassFile.FieldType.char), Jvm.Cond.code ({ cls := "java/lang/String", name := "checkIndex", desc := "(II)V" } : Jvm.MethodName) jdk_42_method_155_code (2 : Nat) (Option.none : Option Jvm.ClassFile.FieldType), Jvm.Cond.code ({ cls := "jdk/internal/util/Preconditions", name := "checkIndex", desc := "(IILjava/util/function/BiFunction;)I" } : Jvm.MethodName) jdk_41_method_11_code (3 : Nat) (Option.some Jvm.ClassFile.FieldType.int)]
set_option maxRecDepth 65536 in
theorem codes_eq : words1.filter isCode = codes1 := rfl
theorem w_codes : ∀ c ∈ words1.filter isCode, c.before args0 about1 = true := by
  rw [codes_eq]
  intro c hc
  simp only [codes1, List.mem_cons, List.not_mem_nil, or_false] at hc
  rcases hc with rfl | rfl | rfl | rfl | rfl | rfl | rfl | rfl | rfl | rfl | rfl | rfl | rfl | rfl | rfl | rfl | rfl | rfl | rfl | rfl | rfl | rfl | rfl | rfl | rfl | rfl | rfl | rfl | rfl | rfl | rfl | rfl | rfl | rfl | rfl | rfl | rfl | rfl | rfl
  · exact w_c0
  · exact w_c1
  · exact w_c2
  · exact w_c3
  · exact w_c4
  · exact w_c5
  · exact w_c6
  · exact w_c7
  · exact w_c8
  · exact w_c9
  · exact w_c10
  · exact w_c11
  · exact w_c12
  · exact w_c13
  · exact w_c14
  · exact w_c15
  · exact w_c16
  · exact w_c17
  · exact w_c18
  · exact w_c19
  · exact w_c20
  · exact w_c21
  · exact w_c22
  · exact w_c23
  · exact w_c24
  · exact w_c25
  · exact w_c26
  · exact w_c27
  · exact w_c28
  · exact w_c29
  · exact w_c30
  · exact w_c31
  · exact w_c32
  · exact w_c33
  · exact w_c34
  · exact w_c35
  · exact w_c36
  · exact w_c37
  · exact w_c38
set_option maxRecDepth 65536 in
theorem w_t1 : (words1.take 24).all (fun c => isCode c || c.before args0 about1) = true := by decide +kernel
set_option maxRecDepth 65536 in
theorem w_t2 : ((words1.drop 24).take 24).all (fun c => isCode c || c.before args0 about1) = true := by decide +kernel
set_option maxRecDepth 65536 in
theorem w_t3 : (((words1.drop 24).drop 24).take 24).all (fun c => isCode c || c.before args0 about1) = true := by decide +kernel
set_option maxRecDepth 65536 in
theorem w_t4 : ((((words1.drop 24).drop 24).drop 24).take 24).all (fun c => isCode c || c.before args0 about1) = true := by decide +kernel
set_option maxRecDepth 65536 in
theorem w_t5 : (((((words1.drop 24).drop 24).drop 24).drop 24).take 24).all (fun c => isCode c || c.before args0 about1) = true := by decide +kernel
set_option maxRecDepth 65536 in
theorem w_t6 : ((((((words1.drop 24).drop 24).drop 24).drop 24).drop 24).take 24).all (fun c => isCode c || c.before args0 about1) = true := by decide +kernel
set_option maxRecDepth 65536 in
theorem w_t7 : (((((((words1.drop 24).drop 24).drop 24).drop 24).drop 24).drop 24).take 24).all (fun c => isCode c || c.before args0 about1) = true := by decide +kernel
set_option maxRecDepth 65536 in
theorem w_t8 : ((((((((words1.drop 24).drop 24).drop 24).drop 24).drop 24).drop 24).drop 24).take 24).all (fun c => isCode c || c.before args0 about1) = true := by decide +kernel
set_option maxRecDepth 65536 in
theorem w_t9 : ((((((((words1.drop 24).drop 24).drop 24).drop 24).drop 24).drop 24).drop 24).drop 24).all (fun c => isCode c || c.before args0 about1) = true := by decide +kernel
theorem w_tables : (allAtoms (Jvm.Cond.code x code maxLocals ret :: tables_1)).before args0 about1 = true := by
  rw [allAtoms_all]
  show words1.all (fun c => c.before args0 about1) = true
  refine all_split ?_ w_codes
  rw [← List.take_append_drop 24 words1, List.all_append, w_t1, ← List.take_append_drop 24 (words1.drop 24), List.all_append, w_t2, ← List.take_append_drop 24 ((words1.drop 24).drop 24), List.all_append, w_t3, ← List.take_append_drop 24 (((words1.drop 24).drop 24).drop 24), List.all_append, w_t4, ← List.take_append_drop 24 ((((words1.drop 24).drop 24).drop 24).drop 24), List.all_append, w_t5, ← List.take_append_drop 24 (((((words1.drop 24).drop 24).drop 24).drop 24).drop 24), List.all_append, w_t6, ← List.take_append_drop 24 ((((((words1.drop 24).drop 24).drop 24).drop 24).drop 24).drop 24), List.all_append, w_t7, ← List.take_append_drop 24 (((((((words1.drop 24).drop 24).drop 24).drop 24).drop 24).drop 24).drop 24), List.all_append, w_t8, w_t9]
  rfl
set_option maxRecDepth 65536 in
theorem w_rest : rest_1_c.before args0 about1 = true := by decide +kernel
set_option maxRecDepth 65536 in
theorem w_case : (Jvm.Cond.and given_1 narrow_1).before args0 about1 = true := by decide +kernel
set_option maxRecDepth 65536 in
theorem w_consts : constsHeld consts_1 about1 := Jvm.Lit.constsHeldB_iff.mp (by decide +kernel)
theorem w_applies : (headSpec (Jvm.Cond.code x code maxLocals ret :: tables_1) room_1).applies x e0.platform about1 = true :=
  (Spec.applies_iff w_frames).mpr ⟨w_running, w_runnable, w_alone, w_named, w_hears, w_ripe, w_room, w_tables⟩
theorem atStart : AtStart classFile x code maxLocals ret World_1 tables_1 room_1 Calls_1 rest_1 Pre_1 launch0 p0 e0 about1 theMethod args0 below0 :=
  ⟨lists_1, trivial, launch0.admits_env _ _ _, launch0.least_env, fairChoices_fair.cas, fairChoices_fair.clock, w_frames, w_args, w_heap, w_applies, ⟨w_consts, trivial⟩, w_rest, w_case⟩
end start1
theorem witness_1 : WitnessClaimed_1 := ⟨start1.p0, start1.e0, start1.about1, start1.theMethod, start1.args0, start1.below0, start1.atStart⟩
end Jvm.Pilot.@@N@@
