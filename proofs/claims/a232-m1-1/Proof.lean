import JvmDerived
import JvmDerived.Pilot.@@N@@Statement
import JvmDerived.Pilot.@@N@@Code
set_option linter.unusedVariables false
set_option linter.unusedSimpArgs false
namespace Jvm.Pilot.@@N@@
open Jvm Jvm.ClassFile Sem Op Lib Jvm.Free Jvm.Stand Jvm.LawKit Jvm.RoadKit Bundle Jvm.Pilot.@@N@@.Jvm.D
section OwnKit
variable {p : Program} {l : Launch} {e : Env} {R : Room} {s : State} {m : MethodId} {args : Array Value} {below : List Frame} {meth : Method} {c : Code} {T : State} {Z : State} {own mn : String} {bytes : ByteArray} {ml n0 k n : Nat} {rt : Option FieldType} {h : Heap} {G : Outcome → State → Prop} {pc q : Nat} {L : Array Slot} {st rest : List Value} {a0 : Array Value}
/-- the run from S comes to an end of which G speaks -/
def Goes (p : Program) (e : Env) (below : List Frame) (G : Outcome → State → Prop) (S : State) : Prop := ∃ s₂ o, Steps p.tables e below S s₂ ∧ s₂.status = .running ∧ Ended s₂ below o ∧ G o s₂
theorem go_st {S S' : State} (f : ∀ t, Steps p.tables e below S' t → Steps p.tables e below S t) (r : Goes p e below G S') : Goes p e below G S := by
  obtain ⟨s₂, o, a, b⟩ := r; exact ⟨s₂, o, f _ a, b⟩
theorem go_tr {S S' : State} (f : Steps p.tables e below S S') (r : Goes p e below G S') : Goes p e below G S := by
  obtain ⟨s₂, o, a, b⟩ := r; exact ⟨s₂, o, f.trans a, b⟩
/-- what a body's walk knows from its start on -/
def Cx (p : Program) (s : State) (m : MethodId) (meth : Method) (c : Code) (Z : State) (own : String) (bytes : ByteArray) (ml : Nat) (rt : Option FieldType) (mn : String) : Prop :=
  p.tables.exec = Jvm.exec ∧ Z.Warmed39 s.vm ∧ s.vm.findClass own = some m.cls ∧ c.code = bytes ∧ c.maxLocals = ml ∧ meth.sig.returnType = rt ∧ meth.locks = false ∧ meth.name = mn
/-- where it stands: the heap is h; all that was written lies at n0 or above; at most k cells and n slots are new -/
def St (p : Program) (l : Launch) (e : Env) (R : Room) (s : State) (m : MethodId) (args : Array Value) (below : List Frame) (meth : Method) (c : Code) (n0 : Nat) (T : State) (h : Heap) (k n : Nat) : Prop :=
  ∃ locs cells slots, Stand p l e R s m args below meth c T locs cells slots ∧ Fr n0 locs ∧ T.heap = h ∧ cells ≤ k ∧ slots ≤ n
def FinN (Q : Option Value → Heap → Prop) (s : State) (n0 k n : Nat) (o : Outcome) (U : State) : Prop := ∃ v L, o = .returned v ∧ (Fr n0 L ∧ Q v U.heap) ∧ FrameEnd s o U L k n
def Met (l : Launch) (Z : State) (y : MethodName) (bytes : ByteArray) (ml : Nat) (rt : Option FieldType) (rm : Room) (as' : Array Value) (h0 : Heap) (n0 : Nat) (Q : Option Value → Heap → Prop) : Prop :=
  ∀ ws : List Jvm.Cond, MetFree l y (head1 (Jvm.Cond.code y bytes ml rt :: ws) rm) (fun a U => a = as' ∧ Z.Warmed39 U.vm ∧ U.heap = h0) (fun _ _ _ _ _ => True) (fun _ U o U' => ∃ v L, o = .returned v ∧ (Fr n0 L ∧ Q v U'.heap) ∧ FrameEnd U o U' L rm.cells rm.slots)
abbrev Met1 (l : Launch) (Z : State) (y : MethodName) (bytes : ByteArray) (ml : Nat) (rt : Option FieldType) (rm : Room) (as' : Array Value) (h0 : Heap) (n0 : Nat) (Q : Value → Heap → Prop) : Prop := Met l Z y bytes ml rt rm as' h0 n0 (fun v h => ∃ w, v = some w ∧ Q w h)
abbrev Met0 (l : Launch) (Z : State) (y : MethodName) (bytes : ByteArray) (ml : Nat) (rt : Option FieldType) (rm : Room) (as' : Array Value) (h0 : Heap) (n0 : Nat) (Q : Heap → Prop) : Prop := Met l Z y bytes ml rt rm as' h0 n0 (fun v h => v = none ∧ Q h)
theorem met_of {y : MethodName} {rm : Room} {as' : Array Value} {Q : Option Value → Heap → Prop} (hp : plainFor y = true) (hef : ∀ m, entryFrame m as' ml = mkF m 0 L [])
    (body : ∀ (p : Program) (e : Env) (s : State) (m : MethodId) (below : List Frame) (meth : Method) (c : Code) (T : State), Cx p s m meth c Z y.cls bytes ml rt y.name → St p l e rm s m as' below meth c n0 T h 0 0 → Goes p e below (FinN Q s n0 rm.cells rm.slots) (T.setTop (mkF m 0 L []))) :
    Met l Z y bytes ml rt rm as' h n0 Q := by
  intro ws
  refine MetFree.of_bodySF hp hisR ?_
  intro p e s m args below meth c s₁ Bd hml hP hK
  obtain ⟨rfl, hZ, hh⟩ := hP
  have e0 : s₁.heap = h := by rw [← hh, Bd.state]; rfl
  have b := body p e s m below meth c s₁ ⟨Bd.exec, hZ, findClass_of_methodNamed Bd.named, Bd.bytes, hml, Bd.returns, BodyLoose.notSynchronized Bd, (name_of_methodNamed Bd.named Bd.method).1⟩ ⟨[], 0, 0, Stand.of_body Bd, Fr.nil _, e0, Nat.le_refl _, Nat.le_refl _⟩
  rw [hef m]
  exact b
theorem St.mono {k' n' : Nat} (X : St p l e R s m args below meth c n0 T h k n) (hk : k ≤ k') (hn : n ≤ n') : St p l e R s m args below meth c n0 T h k' n' := by
  obtain ⟨a, b, d, x, y, z, u, v⟩ := X; exact ⟨a, b, d, x, y, z, Nat.le_trans u hk, Nat.le_trans v hn⟩
theorem g_aloadN (C : Cx p s m meth c Z own bytes ml rt mn) (X : St p l e R s m args below meth c n0 T h k n) {j : Fin 4} {v : Value} (hd : decode bytes pc = .ok (.aload_n j, 1)) (hq : pc + 1 = q) (hl : L[j.val]? = some (.val v)) (hv : v.isRef = true) (r : Goes p e below G (T.setTop (mkF m q L (v :: st)))) : Goes p e below G (T.setTop (mkF m pc L (st))) := by
  obtain ⟨hx, -, -, hby, -⟩ := C
  obtain ⟨_, _, _, X, -⟩ := X
  subst hq 
  exact go_st (fun t k => XS.aloadN X.here hx rfl (hb hby hd) hl hv k) r
theorem g_aload (C : Cx p s m meth c Z own bytes ml rt mn) (X : St p l e R s m args below meth c n0 T h k n) {j : Nat} {v : Value} (hd : decode bytes pc = .ok (.aload j, 2)) (hq : pc + 2 = q) (hl : L[j]? = some (.val v)) (hv : v.isRef = true) (r : Goes p e below G (T.setTop (mkF m q L (v :: st)))) : Goes p e below G (T.setTop (mkF m pc L (st))) := by
  obtain ⟨hx, -, -, hby, -⟩ := C
  obtain ⟨_, _, _, X, -⟩ := X
  subst hq 
  exact go_st (fun t k => XS.aload X.here hx rfl (hb hby hd) hl hv k) r
theorem g_iloadN (C : Cx p s m meth c Z own bytes ml rt mn) (X : St p l e R s m args below meth c n0 T h k n) {j : Fin 4} {v : Int32} (hd : decode bytes pc = .ok (.iload_n j, 1)) (hq : pc + 1 = q) (hl : L[j.val]? = some (.val (.int v))) (r : Goes p e below G (T.setTop (mkF m q L (.int v :: st)))) : Goes p e below G (T.setTop (mkF m pc L (st))) := by
  obtain ⟨hx, -, -, hby, -⟩ := C
  obtain ⟨_, _, _, X, -⟩ := X
  subst hq 
  exact go_st (fun t k => XS.iloadN X.here hx rfl (hb hby hd) hl k) r
theorem g_iload (C : Cx p s m meth c Z own bytes ml rt mn) (X : St p l e R s m args below meth c n0 T h k n) {j : Nat} {v : Int32} (hd : decode bytes pc = .ok (.iload j, 2)) (hq : pc + 2 = q) (hl : L[j]? = some (.val (.int v))) (r : Goes p e below G (T.setTop (mkF m q L (.int v :: st)))) : Goes p e below G (T.setTop (mkF m pc L (st))) := by
  obtain ⟨hx, -, -, hby, -⟩ := C
  obtain ⟨_, _, _, X, -⟩ := X
  subst hq 
  exact go_st (fun t k => XS.iload X.here hx rfl (hb hby hd) hl k) r
theorem g_lloadN (C : Cx p s m meth c Z own bytes ml rt mn) (X : St p l e R s m args below meth c n0 T h k n) {j : Fin 4} {v : Int64} (hd : decode bytes pc = .ok (.lload_n j, 1)) (hq : pc + 1 = q) (hl : L[j.val]? = some (.val (.long v))) (r : Goes p e below G (T.setTop (mkF m q L (.long v :: st)))) : Goes p e below G (T.setTop (mkF m pc L (st))) := by
  obtain ⟨hx, -, -, hby, -⟩ := C
  obtain ⟨_, _, _, X, -⟩ := X
  subst hq 
  exact go_st (fun t k => XS.lloadN X.here hx rfl (hb hby hd) hl k) r
theorem g_lload (C : Cx p s m meth c Z own bytes ml rt mn) (X : St p l e R s m args below meth c n0 T h k n) {j : Nat} {v : Int64} (hd : decode bytes pc = .ok (.lload j, 2)) (hq : pc + 2 = q) (hl : L[j]? = some (.val (.long v))) (r : Goes p e below G (T.setTop (mkF m q L (.long v :: st)))) : Goes p e below G (T.setTop (mkF m pc L (st))) := by
  obtain ⟨hx, -, -, hby, -⟩ := C
  obtain ⟨_, _, _, X, -⟩ := X
  subst hq 
  exact go_st (fun t k => XS.lload X.here hx rfl (hb hby hd) hl k) r
theorem g_iconst (C : Cx p s m meth c Z own bytes ml rt mn) (X : St p l e R s m args below meth c n0 T h k n) {i : Int} {z : Int32} (hd : decode bytes pc = .ok (.iconst i, 1)) (hq : pc + 1 = q) (hz : Int32.ofInt i = z) (r : Goes p e below G (T.setTop (mkF m q L (.int z :: st)))) : Goes p e below G (T.setTop (mkF m pc L (st))) := by
  obtain ⟨hx, -, -, hby, -⟩ := C
  obtain ⟨_, _, _, X, -⟩ := X
  subst hq hz
  exact go_st (fun t k => XS.iconst X.here hx rfl (hb hby hd)  k) r
theorem g_bipush (C : Cx p s m meth c Z own bytes ml rt mn) (X : St p l e R s m args below meth c n0 T h k n) {i : Int} {z : Int32} (hd : decode bytes pc = .ok (.bipush i, 2)) (hq : pc + 2 = q) (hz : (Int8.ofInt i).toInt32 = z) (r : Goes p e below G (T.setTop (mkF m q L (.int z :: st)))) : Goes p e below G (T.setTop (mkF m pc L (st))) := by
  obtain ⟨hx, -, -, hby, -⟩ := C
  obtain ⟨_, _, _, X, -⟩ := X
  subst hq hz
  exact go_st (fun t k => XS.bipush X.here hx rfl (hb hby hd)  k) r
theorem g_sipush (C : Cx p s m meth c Z own bytes ml rt mn) (X : St p l e R s m args below meth c n0 T h k n) {i : Int} {z : Int32} (hd : decode bytes pc = .ok (.sipush i, 3)) (hq : pc + 3 = q) (hz : (Int16.ofInt i).toInt32 = z) (r : Goes p e below G (T.setTop (mkF m q L (.int z :: st)))) : Goes p e below G (T.setTop (mkF m pc L (st))) := by
  obtain ⟨hx, -, -, hby, -⟩ := C
  obtain ⟨_, _, _, X, -⟩ := X
  subst hq hz
  exact go_st (fun t k => XS.sipush X.here hx rfl (hb hby hd)  k) r
theorem g_aconstNull (C : Cx p s m meth c Z own bytes ml rt mn) (X : St p l e R s m args below meth c n0 T h k n)  (hd : decode bytes pc = .ok (.aconst_null, 1)) (hq : pc + 1 = q)  (r : Goes p e below G (T.setTop (mkF m q L (.null :: st)))) : Goes p e below G (T.setTop (mkF m pc L (st))) := by
  obtain ⟨hx, -, -, hby, -⟩ := C
  obtain ⟨_, _, _, X, -⟩ := X
  subst hq 
  exact go_st (fun t k => XS.aconstNull X.here hx rfl (hb hby hd)  k) r
theorem g_iadd (C : Cx p s m meth c Z own bytes ml rt mn) (X : St p l e R s m args below meth c n0 T h k n) {x y z : Int32} (hd : decode bytes pc = .ok (.iadd, 1)) (hq : pc + 1 = q) (hz : x + y = z) (r : Goes p e below G (T.setTop (mkF m q L (.int z :: st)))) : Goes p e below G (T.setTop (mkF m pc L (.int y :: .int x :: st))) := by
  obtain ⟨hx, -, -, hby, -⟩ := C
  obtain ⟨_, _, _, X, -⟩ := X
  subst hq hz
  exact go_st (fun t k => XS.iadd X.here hx rfl (hb hby hd) rfl k) r
theorem g_isub (C : Cx p s m meth c Z own bytes ml rt mn) (X : St p l e R s m args below meth c n0 T h k n) {x y z : Int32} (hd : decode bytes pc = .ok (.isub, 1)) (hq : pc + 1 = q) (hz : x - y = z) (r : Goes p e below G (T.setTop (mkF m q L (.int z :: st)))) : Goes p e below G (T.setTop (mkF m pc L (.int y :: .int x :: st))) := by
  obtain ⟨hx, -, -, hby, -⟩ := C
  obtain ⟨_, _, _, X, -⟩ := X
  subst hq hz
  exact go_st (fun t k => XS.isub X.here hx rfl (hb hby hd) rfl k) r
theorem g_imul (C : Cx p s m meth c Z own bytes ml rt mn) (X : St p l e R s m args below meth c n0 T h k n) {x y z : Int32} (hd : decode bytes pc = .ok (.imul, 1)) (hq : pc + 1 = q) (hz : x * y = z) (r : Goes p e below G (T.setTop (mkF m q L (.int z :: st)))) : Goes p e below G (T.setTop (mkF m pc L (.int y :: .int x :: st))) := by
  obtain ⟨hx, -, -, hby, -⟩ := C
  obtain ⟨_, _, _, X, -⟩ := X
  subst hq hz
  exact go_st (fun t k => XS.imul X.here hx rfl (hb hby hd) rfl k) r
theorem g_iand (C : Cx p s m meth c Z own bytes ml rt mn) (X : St p l e R s m args below meth c n0 T h k n) {x y z : Int32} (hd : decode bytes pc = .ok (.iand, 1)) (hq : pc + 1 = q) (hz : x &&& y = z) (r : Goes p e below G (T.setTop (mkF m q L (.int z :: st)))) : Goes p e below G (T.setTop (mkF m pc L (.int y :: .int x :: st))) := by
  obtain ⟨hx, -, -, hby, -⟩ := C
  obtain ⟨_, _, _, X, -⟩ := X
  subst hq hz
  exact go_st (fun t k => XS.iand X.here hx rfl (hb hby hd) rfl k) r
theorem g_ior (C : Cx p s m meth c Z own bytes ml rt mn) (X : St p l e R s m args below meth c n0 T h k n) {x y z : Int32} (hd : decode bytes pc = .ok (.ior, 1)) (hq : pc + 1 = q) (hz : x ||| y = z) (r : Goes p e below G (T.setTop (mkF m q L (.int z :: st)))) : Goes p e below G (T.setTop (mkF m pc L (.int y :: .int x :: st))) := by
  obtain ⟨hx, -, -, hby, -⟩ := C
  obtain ⟨_, _, _, X, -⟩ := X
  subst hq hz
  exact go_st (fun t k => XS.ior X.here hx rfl (hb hby hd) rfl k) r
theorem g_ixor (C : Cx p s m meth c Z own bytes ml rt mn) (X : St p l e R s m args below meth c n0 T h k n) {x y z : Int32} (hd : decode bytes pc = .ok (.ixor, 1)) (hq : pc + 1 = q) (hz : x ^^^ y = z) (r : Goes p e below G (T.setTop (mkF m q L (.int z :: st)))) : Goes p e below G (T.setTop (mkF m pc L (.int y :: .int x :: st))) := by
  obtain ⟨hx, -, -, hby, -⟩ := C
  obtain ⟨_, _, _, X, -⟩ := X
  subst hq hz
  exact go_st (fun t k => XS.ixor X.here hx rfl (hb hby hd) rfl k) r
theorem g_ishl (C : Cx p s m meth c Z own bytes ml rt mn) (X : St p l e R s m args below meth c n0 T h k n) {x y z : Int32} (hd : decode bytes pc = .ok (.ishl, 1)) (hq : pc + 1 = q) (hz : x <<< (y &&& 31) = z) (r : Goes p e below G (T.setTop (mkF m q L (.int z :: st)))) : Goes p e below G (T.setTop (mkF m pc L (.int y :: .int x :: st))) := by
  obtain ⟨hx, -, -, hby, -⟩ := C
  obtain ⟨_, _, _, X, -⟩ := X
  subst hq hz
  exact go_st (fun t k => XS.ishl X.here hx rfl (hb hby hd) rfl k) r
theorem g_ishr (C : Cx p s m meth c Z own bytes ml rt mn) (X : St p l e R s m args below meth c n0 T h k n) {x y z : Int32} (hd : decode bytes pc = .ok (.ishr, 1)) (hq : pc + 1 = q) (hz : x >>> (y &&& 31) = z) (r : Goes p e below G (T.setTop (mkF m q L (.int z :: st)))) : Goes p e below G (T.setTop (mkF m pc L (.int y :: .int x :: st))) := by
  obtain ⟨hx, -, -, hby, -⟩ := C
  obtain ⟨_, _, _, X, -⟩ := X
  subst hq hz
  exact go_st (fun t k => XS.ishr X.here hx rfl (hb hby hd) rfl k) r
theorem g_iushr (C : Cx p s m meth c Z own bytes ml rt mn) (X : St p l e R s m args below meth c n0 T h k n) {x y z : Int32} (hd : decode bytes pc = .ok (.iushr, 1)) (hq : pc + 1 = q) (hz : (x.toUInt32 >>> (y &&& 31).toUInt32).toInt32 = z) (r : Goes p e below G (T.setTop (mkF m q L (.int z :: st)))) : Goes p e below G (T.setTop (mkF m pc L (.int y :: .int x :: st))) := by
  obtain ⟨hx, -, -, hby, -⟩ := C
  obtain ⟨_, _, _, X, -⟩ := X
  subst hq hz
  exact go_st (fun t k => XS.iushr X.here hx rfl (hb hby hd) rfl k) r
theorem g_idiv (C : Cx p s m meth c Z own bytes ml rt mn) (X : St p l e R s m args below meth c n0 T h k n) {x y z : Int32} (hd : decode bytes pc = .ok (.idiv, 1)) (hq : pc + 1 = q) (hy : y ≠ 0) (hz : x / y = z) (r : Goes p e below G (T.setTop (mkF m q L (.int z :: st)))) : Goes p e below G (T.setTop (mkF m pc L (.int y :: .int x :: st))) := by
  obtain ⟨hx, -, -, hby, -⟩ := C
  obtain ⟨_, _, _, X, -⟩ := X
  subst hq hz
  exact go_st (fun t k => XS.idiv X.here hx rfl (hb hby hd) rfl hy k) r
theorem g_irem (C : Cx p s m meth c Z own bytes ml rt mn) (X : St p l e R s m args below meth c n0 T h k n) {x y z : Int32} (hd : decode bytes pc = .ok (.irem, 1)) (hq : pc + 1 = q) (hy : y ≠ 0) (hz : x % y = z) (r : Goes p e below G (T.setTop (mkF m q L (.int z :: st)))) : Goes p e below G (T.setTop (mkF m pc L (.int y :: .int x :: st))) := by
  obtain ⟨hx, -, -, hby, -⟩ := C
  obtain ⟨_, _, _, X, -⟩ := X
  subst hq hz
  exact go_st (fun t k => iremM X hx rfl (hb hby hd) rfl hy k) r
theorem g_ineg (C : Cx p s m meth c Z own bytes ml rt mn) (X : St p l e R s m args below meth c n0 T h k n) {x z : Int32} (hd : decode bytes pc = .ok (.ineg, 1)) (hq : pc + 1 = q) (hz : -x = z) (r : Goes p e below G (T.setTop (mkF m q L (.int z :: st)))) : Goes p e below G (T.setTop (mkF m pc L (.int x :: st))) := by
  obtain ⟨hx, -, -, hby, -⟩ := C
  obtain ⟨_, _, _, X, -⟩ := X
  subst hq hz
  exact go_st (fun t k => XS.ineg X.here hx rfl (hb hby hd) rfl k) r
theorem g_ladd (C : Cx p s m meth c Z own bytes ml rt mn) (X : St p l e R s m args below meth c n0 T h k n) {x y z : Int64} (hd : decode bytes pc = .ok (.ladd, 1)) (hq : pc + 1 = q) (hz : x + y = z) (r : Goes p e below G (T.setTop (mkF m q L (.long z :: st)))) : Goes p e below G (T.setTop (mkF m pc L (.long y :: .long x :: st))) := by
  obtain ⟨hx, -, -, hby, -⟩ := C
  obtain ⟨_, _, _, X, -⟩ := X
  subst hq hz
  exact go_st (fun t k => XS.ladd X.here hx rfl (hb hby hd) rfl k) r
theorem g_lsub (C : Cx p s m meth c Z own bytes ml rt mn) (X : St p l e R s m args below meth c n0 T h k n) {x y z : Int64} (hd : decode bytes pc = .ok (.lsub, 1)) (hq : pc + 1 = q) (hz : x - y = z) (r : Goes p e below G (T.setTop (mkF m q L (.long z :: st)))) : Goes p e below G (T.setTop (mkF m pc L (.long y :: .long x :: st))) := by
  obtain ⟨hx, -, -, hby, -⟩ := C
  obtain ⟨_, _, _, X, -⟩ := X
  subst hq hz
  exact go_st (fun t k => XS.lsub X.here hx rfl (hb hby hd) rfl k) r
theorem g_lmul (C : Cx p s m meth c Z own bytes ml rt mn) (X : St p l e R s m args below meth c n0 T h k n) {x y z : Int64} (hd : decode bytes pc = .ok (.lmul, 1)) (hq : pc + 1 = q) (hz : x * y = z) (r : Goes p e below G (T.setTop (mkF m q L (.long z :: st)))) : Goes p e below G (T.setTop (mkF m pc L (.long y :: .long x :: st))) := by
  obtain ⟨hx, -, -, hby, -⟩ := C
  obtain ⟨_, _, _, X, -⟩ := X
  subst hq hz
  exact go_st (fun t k => XS.lmul X.here hx rfl (hb hby hd) rfl k) r
theorem g_land (C : Cx p s m meth c Z own bytes ml rt mn) (X : St p l e R s m args below meth c n0 T h k n) {x y z : Int64} (hd : decode bytes pc = .ok (.land, 1)) (hq : pc + 1 = q) (hz : x &&& y = z) (r : Goes p e below G (T.setTop (mkF m q L (.long z :: st)))) : Goes p e below G (T.setTop (mkF m pc L (.long y :: .long x :: st))) := by
  obtain ⟨hx, -, -, hby, -⟩ := C
  obtain ⟨_, _, _, X, -⟩ := X
  subst hq hz
  exact go_st (fun t k => XS.land X.here hx rfl (hb hby hd) rfl k) r
theorem g_lor (C : Cx p s m meth c Z own bytes ml rt mn) (X : St p l e R s m args below meth c n0 T h k n) {x y z : Int64} (hd : decode bytes pc = .ok (.lor, 1)) (hq : pc + 1 = q) (hz : x ||| y = z) (r : Goes p e below G (T.setTop (mkF m q L (.long z :: st)))) : Goes p e below G (T.setTop (mkF m pc L (.long y :: .long x :: st))) := by
  obtain ⟨hx, -, -, hby, -⟩ := C
  obtain ⟨_, _, _, X, -⟩ := X
  subst hq hz
  exact go_st (fun t k => XS.lor X.here hx rfl (hb hby hd) rfl k) r
theorem g_lxor (C : Cx p s m meth c Z own bytes ml rt mn) (X : St p l e R s m args below meth c n0 T h k n) {x y z : Int64} (hd : decode bytes pc = .ok (.lxor, 1)) (hq : pc + 1 = q) (hz : x ^^^ y = z) (r : Goes p e below G (T.setTop (mkF m q L (.long z :: st)))) : Goes p e below G (T.setTop (mkF m pc L (.long y :: .long x :: st))) := by
  obtain ⟨hx, -, -, hby, -⟩ := C
  obtain ⟨_, _, _, X, -⟩ := X
  subst hq hz
  exact go_st (fun t k => XS.lxor X.here hx rfl (hb hby hd) rfl k) r
theorem g_lshl (C : Cx p s m meth c Z own bytes ml rt mn) (X : St p l e R s m args below meth c n0 T h k n) {x z : Int64} {y : Int32} (hd : decode bytes pc = .ok (.lshl, 1)) (hq : pc + 1 = q) (hz : x <<< (y &&& 0x3f).toInt64 = z) (r : Goes p e below G (T.setTop (mkF m q L (.long z :: st)))) : Goes p e below G (T.setTop (mkF m pc L (.int y :: .long x :: st))) := by
  obtain ⟨hx, -, -, hby, -⟩ := C
  obtain ⟨_, _, _, X, -⟩ := X
  subst hq hz
  exact go_st (fun t k => XS.lshl X.here hx rfl (hb hby hd) rfl k) r
theorem g_lshr (C : Cx p s m meth c Z own bytes ml rt mn) (X : St p l e R s m args below meth c n0 T h k n) {x z : Int64} {y : Int32} (hd : decode bytes pc = .ok (.lshr, 1)) (hq : pc + 1 = q) (hz : x >>> (y &&& 0x3f).toInt64 = z) (r : Goes p e below G (T.setTop (mkF m q L (.long z :: st)))) : Goes p e below G (T.setTop (mkF m pc L (.int y :: .long x :: st))) := by
  obtain ⟨hx, -, -, hby, -⟩ := C
  obtain ⟨_, _, _, X, -⟩ := X
  subst hq hz
  exact go_st (fun t k => XS.lshr X.here hx rfl (hb hby hd) rfl k) r
theorem g_lushr (C : Cx p s m meth c Z own bytes ml rt mn) (X : St p l e R s m args below meth c n0 T h k n) {x z : Int64} {y : Int32} (hd : decode bytes pc = .ok (.lushr, 1)) (hq : pc + 1 = q) (hz : (x.toUInt64 >>> (y &&& 0x3f).toInt64.toUInt64).toInt64 = z) (r : Goes p e below G (T.setTop (mkF m q L (.long z :: st)))) : Goes p e below G (T.setTop (mkF m pc L (.int y :: .long x :: st))) := by
  obtain ⟨hx, -, -, hby, -⟩ := C
  obtain ⟨_, _, _, X, -⟩ := X
  subst hq hz
  exact go_st (fun t k => XS.lushr X.here hx rfl (hb hby hd) rfl k) r
theorem g_ldiv (C : Cx p s m meth c Z own bytes ml rt mn) (X : St p l e R s m args below meth c n0 T h k n) {x y z : Int64} (hd : decode bytes pc = .ok (.ldiv, 1)) (hq : pc + 1 = q) (hy : y ≠ 0) (hz : x / y = z) (r : Goes p e below G (T.setTop (mkF m q L (.long z :: st)))) : Goes p e below G (T.setTop (mkF m pc L (.long y :: .long x :: st))) := by
  obtain ⟨hx, -, -, hby, -⟩ := C
  obtain ⟨_, _, _, X, -⟩ := X
  subst hq hz
  exact go_st (fun t k => XS.ldiv X.here hx rfl (hb hby hd) rfl hy k) r
theorem g_lrem (C : Cx p s m meth c Z own bytes ml rt mn) (X : St p l e R s m args below meth c n0 T h k n) {x y z : Int64} (hd : decode bytes pc = .ok (.lrem, 1)) (hq : pc + 1 = q) (hy : y ≠ 0) (hz : x % y = z) (r : Goes p e below G (T.setTop (mkF m q L (.long z :: st)))) : Goes p e below G (T.setTop (mkF m pc L (.long y :: .long x :: st))) := by
  obtain ⟨hx, -, -, hby, -⟩ := C
  obtain ⟨_, _, _, X, -⟩ := X
  subst hq hz
  have w := lrem_mod x y
  exact go_st (fun t k => XS.lrem X.here hx rfl (hb hby hd) rfl hy (by rw [w]; exact k)) r
theorem g_lneg (C : Cx p s m meth c Z own bytes ml rt mn) (X : St p l e R s m args below meth c n0 T h k n) {x z : Int64} (hd : decode bytes pc = .ok (.lneg, 1)) (hq : pc + 1 = q) (hz : -x = z) (r : Goes p e below G (T.setTop (mkF m q L (.long z :: st)))) : Goes p e below G (T.setTop (mkF m pc L (.long x :: st))) := by
  obtain ⟨hx, -, -, hby, -⟩ := C
  obtain ⟨_, _, _, X, -⟩ := X
  subst hq hz
  exact go_st (fun t k => XS.lneg X.here hx rfl (hb hby hd) rfl k) r
theorem g_i2l (C : Cx p s m meth c Z own bytes ml rt mn) (X : St p l e R s m args below meth c n0 T h k n) {x : Int32} {z : Int64} (hd : decode bytes pc = .ok (.i2l, 1)) (hq : pc + 1 = q) (hz : x.toInt64 = z) (r : Goes p e below G (T.setTop (mkF m q L (.long z :: st)))) : Goes p e below G (T.setTop (mkF m pc L (.int x :: st))) := by
  obtain ⟨hx, -, -, hby, -⟩ := C
  obtain ⟨_, _, _, X, -⟩ := X
  subst hq hz
  exact go_st (fun t k => XS.i2l X.here hx rfl (hb hby hd) rfl k) r
theorem g_l2i (C : Cx p s m meth c Z own bytes ml rt mn) (X : St p l e R s m args below meth c n0 T h k n) {x : Int64} {z : Int32} (hd : decode bytes pc = .ok (.l2i, 1)) (hq : pc + 1 = q) (hz : x.toInt32 = z) (r : Goes p e below G (T.setTop (mkF m q L (.int z :: st)))) : Goes p e below G (T.setTop (mkF m pc L (.long x :: st))) := by
  obtain ⟨hx, -, -, hby, -⟩ := C
  obtain ⟨_, _, _, X, -⟩ := X
  subst hq hz
  exact go_st (fun t k => XS.l2i X.here hx rfl (hb hby hd) rfl k) r
theorem g_i2b (C : Cx p s m meth c Z own bytes ml rt mn) (X : St p l e R s m args below meth c n0 T h k n) {x z : Int32} (hd : decode bytes pc = .ok (.i2b, 1)) (hq : pc + 1 = q) (hz : x.toInt8.toInt32 = z) (r : Goes p e below G (T.setTop (mkF m q L (.int z :: st)))) : Goes p e below G (T.setTop (mkF m pc L (.int x :: st))) := by
  obtain ⟨hx, -, -, hby, -⟩ := C
  obtain ⟨_, _, _, X, -⟩ := X
  subst hq hz
  exact go_st (fun t k => XS.i2b X.here hx rfl (hb hby hd) rfl k) r
theorem g_i2s (C : Cx p s m meth c Z own bytes ml rt mn) (X : St p l e R s m args below meth c n0 T h k n) {x z : Int32} (hd : decode bytes pc = .ok (.i2s, 1)) (hq : pc + 1 = q) (hz : x.toInt16.toInt32 = z) (r : Goes p e below G (T.setTop (mkF m q L (.int z :: st)))) : Goes p e below G (T.setTop (mkF m pc L (.int x :: st))) := by
  obtain ⟨hx, -, -, hby, -⟩ := C
  obtain ⟨_, _, _, X, -⟩ := X
  subst hq hz
  exact go_st (fun t k => XS.i2s X.here hx rfl (hb hby hd) rfl k) r
theorem g_i2c (C : Cx p s m meth c Z own bytes ml rt mn) (X : St p l e R s m args below meth c n0 T h k n) {x z : Int32} (hd : decode bytes pc = .ok (.i2c, 1)) (hq : pc + 1 = q) (hz : x.toUInt32.toUInt16.toUInt32.toInt32 = z) (r : Goes p e below G (T.setTop (mkF m q L (.int z :: st)))) : Goes p e below G (T.setTop (mkF m pc L (.int x :: st))) := by
  obtain ⟨hx, -, -, hby, -⟩ := C
  obtain ⟨_, _, _, X, -⟩ := X
  subst hq hz
  exact go_st (fun t k => XS.i2c X.here hx rfl (hb hby hd) rfl k) r
theorem g_lconst (C : Cx p s m meth c Z own bytes ml rt mn) (X : St p l e R s m args below meth c n0 T h k n) {i : Fin 2} {z : Int64} (hd : decode bytes pc = .ok (.lconst i, 1)) (hq : pc + 1 = q) (hz : (i.val.toInt64) = z) (r : Goes p e below G (T.setTop (mkF m q L (.long z :: st)))) : Goes p e below G (T.setTop (mkF m pc L (st))) := by
  obtain ⟨hx, -, -, hby, -⟩ := C
  obtain ⟨_, _, _, X, -⟩ := X
  subst hq hz
  exact go_st (fun t k => XS.lconst X.here hx rfl (hb hby hd) k) r
theorem own_lcW (x y : Int64) : (if x > y then (1 : Int32) else if x = y then 0 else -1) = lcmpW x y := rfl
theorem g_lcmp (C : Cx p s m meth c Z own bytes ml rt mn) (X : St p l e R s m args below meth c n0 T h k n) {x y : Int64} {z : Int32} (hd : decode bytes pc = .ok (.lcmp, 1)) (hq : pc + 1 = q) (hz : lcmpW x y = z) (r : Goes p e below G (T.setTop (mkF m q L (.int z :: st)))) : Goes p e below G (T.setTop (mkF m pc L (.long y :: .long x :: st))) := by
  obtain ⟨hx, -, -, hby, -⟩ := C
  obtain ⟨_, _, _, X, -⟩ := X
  subst hq hz
  exact go_st (fun t k => XS.lcmp X.here hx rfl (hb hby hd) rfl k) r
theorem g_dup (C : Cx p s m meth c Z own bytes ml rt mn) (X : St p l e R s m args below meth c n0 T h k n) {x : Value} (hd : decode bytes pc = .ok (.dup, 1)) (hq : pc + 1 = q) (hc : x.category = 1) (r : Goes p e below G (T.setTop (mkF m q L (x :: x :: st)))) : Goes p e below G (T.setTop (mkF m pc L (x :: st))) := by
  obtain ⟨hx, -, -, hby, -⟩ := C
  obtain ⟨_, _, _, X, -⟩ := X
  subst hq 
  exact go_st (fun t k => XS.dup X.here hx rfl (hb hby hd) rfl hc k) r
theorem g_pop (C : Cx p s m meth c Z own bytes ml rt mn) (X : St p l e R s m args below meth c n0 T h k n) {x : Value} (hd : decode bytes pc = .ok (.pop, 1)) (hq : pc + 1 = q) (hc : x.category = 1) (r : Goes p e below G (T.setTop (mkF m q L (st)))) : Goes p e below G (T.setTop (mkF m pc L (x :: st))) := by
  obtain ⟨hx, -, -, hby, -⟩ := C
  obtain ⟨_, _, _, X, -⟩ := X
  subst hq 
  exact go_st (fun t k => XS.pop X.here hx rfl (hb hby hd) rfl hc k) r
theorem g_dupX1 (C : Cx p s m meth c Z own bytes ml rt mn) (X : St p l e R s m args below meth c n0 T h k n) {x y : Value} (hd : decode bytes pc = .ok (.dup_x1, 1)) (hq : pc + 1 = q) (hc : x.category = 1) (hc' : y.category = 1) (r : Goes p e below G (T.setTop (mkF m q L (x :: y :: x :: st)))) : Goes p e below G (T.setTop (mkF m pc L (x :: y :: st))) := by
  obtain ⟨hx, -, -, hby, -⟩ := C
  obtain ⟨_, _, _, X, -⟩ := X
  subst hq 
  exact go_st (fun t k => XS.dupX1 X.here hx rfl (hb hby hd) rfl hc hc' k) r
theorem g_dup2 (C : Cx p s m meth c Z own bytes ml rt mn) (X : St p l e R s m args below meth c n0 T h k n) {x y : Value} (hd : decode bytes pc = .ok (.dup2, 1)) (hq : pc + 1 = q) (hc : x.category = 1) (hc' : y.category = 1) (r : Goes p e below G (T.setTop (mkF m q L (x :: y :: x :: y :: st)))) : Goes p e below G (T.setTop (mkF m pc L (x :: y :: st))) := by
  obtain ⟨hx, -, -, hby, -⟩ := C
  obtain ⟨_, _, _, X, -⟩ := X
  subst hq 
  exact go_st (fun t k => Jvm.Free.XT.dup2 X.here hx rfl (hb hby hd) rfl hc hc' k) r
theorem g_istoreN (C : Cx p s m meth c Z own bytes ml rt mn) (X : St p l e R s m args below meth c n0 T h k n) {j : Fin 4} {x : Int32} {L' : Array Slot} (hd : decode bytes pc = .ok (.istore_n j, 1)) (hq : pc + 1 = q) (hl : storeLocals L j.val (.int x) = some L') (r : Goes p e below G (T.setTop (mkF m q L' (st)))) : Goes p e below G (T.setTop (mkF m pc L (.int x :: st))) := by
  obtain ⟨hx, -, -, hby, -⟩ := C
  obtain ⟨_, _, _, X, -⟩ := X
  subst hq 
  exact go_st (fun t k => XS.istoreN X.here hx rfl (hb hby hd) rfl hl k) r
theorem g_istore (C : Cx p s m meth c Z own bytes ml rt mn) (X : St p l e R s m args below meth c n0 T h k n) {j : Nat} {x : Int32} {L' : Array Slot} (hd : decode bytes pc = .ok (.istore j, 2)) (hq : pc + 2 = q) (hl : storeLocals L j (.int x) = some L') (r : Goes p e below G (T.setTop (mkF m q L' (st)))) : Goes p e below G (T.setTop (mkF m pc L (.int x :: st))) := by
  obtain ⟨hx, -, -, hby, -⟩ := C
  obtain ⟨_, _, _, X, -⟩ := X
  subst hq 
  exact go_st (fun t k => XS.istore X.here hx rfl (hb hby hd) rfl hl k) r
theorem g_lstoreN (C : Cx p s m meth c Z own bytes ml rt mn) (X : St p l e R s m args below meth c n0 T h k n) {j : Fin 4} {x : Int64} {L' : Array Slot} (hd : decode bytes pc = .ok (.lstore_n j, 1)) (hq : pc + 1 = q) (hl : storeLocals L j.val (.long x) = some L') (r : Goes p e below G (T.setTop (mkF m q L' (st)))) : Goes p e below G (T.setTop (mkF m pc L (.long x :: st))) := by
  obtain ⟨hx, -, -, hby, -⟩ := C
  obtain ⟨_, _, _, X, -⟩ := X
  subst hq 
  exact go_st (fun t k => XS.lstoreN X.here hx rfl (hb hby hd) rfl hl k) r
theorem g_lstore (C : Cx p s m meth c Z own bytes ml rt mn) (X : St p l e R s m args below meth c n0 T h k n) {j : Nat} {x : Int64} {L' : Array Slot} (hd : decode bytes pc = .ok (.lstore j, 2)) (hq : pc + 2 = q) (hl : storeLocals L j (.long x) = some L') (r : Goes p e below G (T.setTop (mkF m q L' (st)))) : Goes p e below G (T.setTop (mkF m pc L (.long x :: st))) := by
  obtain ⟨hx, -, -, hby, -⟩ := C
  obtain ⟨_, _, _, X, -⟩ := X
  subst hq 
  exact go_st (fun t k => XS.lstore X.here hx rfl (hb hby hd) rfl hl k) r
theorem g_astoreN (C : Cx p s m meth c Z own bytes ml rt mn) (X : St p l e R s m args below meth c n0 T h k n) {j : Fin 4} {x : Value} {L' : Array Slot} (hd : decode bytes pc = .ok (.astore_n j, 1)) (hq : pc + 1 = q) (hv : x.isRef = true) (hl : storeLocals L j.val x = some L') (r : Goes p e below G (T.setTop (mkF m q L' (st)))) : Goes p e below G (T.setTop (mkF m pc L (x :: st))) := by
  obtain ⟨hx, -, -, hby, -⟩ := C
  obtain ⟨_, _, _, X, -⟩ := X
  subst hq 
  exact go_st (fun t k => XS.astoreN X.here hx rfl (hb hby hd) rfl hv hl k) r
theorem g_astore (C : Cx p s m meth c Z own bytes ml rt mn) (X : St p l e R s m args below meth c n0 T h k n) {j : Nat} {x : Value} {L' : Array Slot} (hd : decode bytes pc = .ok (.astore j, 2)) (hq : pc + 2 = q) (hv : x.isRef = true) (hl : storeLocals L j x = some L') (r : Goes p e below G (T.setTop (mkF m q L' (st)))) : Goes p e below G (T.setTop (mkF m pc L (x :: st))) := by
  obtain ⟨hx, -, -, hby, -⟩ := C
  obtain ⟨_, _, _, X, -⟩ := X
  subst hq 
  exact go_st (fun t k => XS.astore X.here hx rfl (hb hby hd) rfl hv hl k) r
theorem g_iinc (C : Cx p s m meth c Z own bytes ml rt mn) (X : St p l e R s m args below meth c n0 T h k n) {j : Nat} {i : Int} {x z : Int32} {L' : Array Slot} (hd : decode bytes pc = .ok (.iinc j i, 3)) (hq : pc + 3 = q) (hl : L[j]? = some (.val (.int x))) (hz : x + Int32.ofInt i = z) (hl' : storeLocals L j (.int z) = some L') (r : Goes p e below G (T.setTop (mkF m q L' (st)))) : Goes p e below G (T.setTop (mkF m pc L (st))) := by
  obtain ⟨hx, -, -, hby, -⟩ := C
  obtain ⟨_, _, _, X, -⟩ := X
  subst hq hz
  exact go_st (fun t k => XS.iinc X.here hx rfl (hb hby hd) hl hl' k) r
theorem g_goto (C : Cx p s m meth c Z own bytes ml rt mn) (X : St p l e R s m args below meth c n0 T h k n)  {o : Int} (hd : decode bytes pc = .ok (.goto o, 3)) (ho : 0 ≤ (pc : Int) + o) (hq : ((pc : Int) + o).toNat = q)  (r : Goes p e below G (T.setTop (mkF m q L st))) : Goes p e below G (T.setTop (mkF m pc L (st))) := by
  obtain ⟨hx, -, -, hby, -⟩ := C
  obtain ⟨_, _, _, X, -⟩ := X
  exact go_st (fun t k => XS.goto X.here hx rfl rfl (hb hby hd) ho hq k) r
theorem g_ifY (C : Cx p s m meth c Z own bytes ml rt mn) (X : St p l e R s m args below meth c n0 T h k n) {cd : ClassFile.Cond} {x : Int32} {o : Int} (hd : decode bytes pc = .ok (.ifCond cd o, 3)) (ho : 0 ≤ (pc : Int) + o) (hq : ((pc : Int) + o).toNat = q) (hc : if_icmp.holds cd x 0 = true) (r : Goes p e below G (T.setTop (mkF m q L st))) : Goes p e below G (T.setTop (mkF m pc L (.int x :: st))) := by
  obtain ⟨hx, -, -, hby, -⟩ := C
  obtain ⟨_, _, _, X, -⟩ := X
  exact go_st (fun t k => XS.ifYes X.here hx rfl rfl (hb hby hd) rfl ((if0 _ _).trans hc) ho hq k) r
theorem g_ifN (C : Cx p s m meth c Z own bytes ml rt mn) (X : St p l e R s m args below meth c n0 T h k n) {cd : ClassFile.Cond} {x : Int32} {o : Int} (hd : decode bytes pc = .ok (.ifCond cd o, 3)) (hq : pc + 3 = q) (hc : if_icmp.holds cd x 0 = false) (r : Goes p e below G (T.setTop (mkF m q L st))) : Goes p e below G (T.setTop (mkF m pc L (.int x :: st))) := by
  obtain ⟨hx, -, -, hby, -⟩ := C
  obtain ⟨_, _, _, X, -⟩ := X
  subst hq
  exact go_st (fun t k => XS.ifNo X.here hx rfl (hb hby hd) rfl ((if0 _ _).trans hc) k) r
theorem g_icY (C : Cx p s m meth c Z own bytes ml rt mn) (X : St p l e R s m args below meth c n0 T h k n) {cd : ClassFile.Cond} {x y : Int32} {o : Int} (hd : decode bytes pc = .ok (.if_icmp cd o, 3)) (ho : 0 ≤ (pc : Int) + o) (hq : ((pc : Int) + o).toNat = q) (hc : if_icmp.holds cd x y = true) (r : Goes p e below G (T.setTop (mkF m q L st))) : Goes p e below G (T.setTop (mkF m pc L (.int y :: .int x :: st))) := by
  obtain ⟨hx, -, -, hby, -⟩ := C
  obtain ⟨_, _, _, X, -⟩ := X
  exact go_st (fun t k => XS.icmpYes X.here hx rfl rfl (hb hby hd) rfl hc ho hq k) r
theorem g_icN (C : Cx p s m meth c Z own bytes ml rt mn) (X : St p l e R s m args below meth c n0 T h k n) {cd : ClassFile.Cond} {x y : Int32} {o : Int} (hd : decode bytes pc = .ok (.if_icmp cd o, 3)) (hq : pc + 3 = q) (hc : if_icmp.holds cd x y = false) (r : Goes p e below G (T.setTop (mkF m q L st))) : Goes p e below G (T.setTop (mkF m pc L (.int y :: .int x :: st))) := by
  obtain ⟨hx, -, -, hby, -⟩ := C
  obtain ⟨_, _, _, X, -⟩ := X
  subst hq
  exact go_st (fun t k => XS.icmpNo X.here hx rfl (hb hby hd) rfl hc k) r
theorem g_nulY (C : Cx p s m meth c Z own bytes ml rt mn) (X : St p l e R s m args below meth c n0 T h k n)  {o : Int} (hd : decode bytes pc = .ok (.ifnull o, 3)) (ho : 0 ≤ (pc : Int) + o) (hq : ((pc : Int) + o).toNat = q)  (r : Goes p e below G (T.setTop (mkF m q L st))) : Goes p e below G (T.setTop (mkF m pc L (.null :: st))) := by
  obtain ⟨hx, -, -, hby, -⟩ := C
  obtain ⟨_, _, _, X, -⟩ := X
  exact go_st (fun t k => XS.ifnullYes X.here hx rfl rfl (hb hby hd) rfl ho hq k) r
theorem g_nulN (C : Cx p s m meth c Z own bytes ml rt mn) (X : St p l e R s m args below meth c n0 T h k n) {b : Addr} {o : Int} (hd : decode bytes pc = .ok (.ifnull o, 3)) (hq : pc + 3 = q)  (r : Goes p e below G (T.setTop (mkF m q L st))) : Goes p e below G (T.setTop (mkF m pc L (.ref b :: st))) := by
  obtain ⟨hx, -, -, hby, -⟩ := C
  obtain ⟨_, _, _, X, -⟩ := X
  subst hq
  exact go_st (fun t k => XS.ifnullNo X.here hx rfl (hb hby hd) rfl k) r
theorem g_nonY (C : Cx p s m meth c Z own bytes ml rt mn) (X : St p l e R s m args below meth c n0 T h k n) {b : Addr} {o : Int} (hd : decode bytes pc = .ok (.ifnonnull o, 3)) (ho : 0 ≤ (pc : Int) + o) (hq : ((pc : Int) + o).toNat = q)  (r : Goes p e below G (T.setTop (mkF m q L st))) : Goes p e below G (T.setTop (mkF m pc L (.ref b :: st))) := by
  obtain ⟨hx, -, -, hby, -⟩ := C
  obtain ⟨_, _, _, X, -⟩ := X
  exact go_st (fun t k => XS.ifnonnullYes X.here hx rfl rfl (hb hby hd) rfl ho hq k) r
theorem g_nonN (C : Cx p s m meth c Z own bytes ml rt mn) (X : St p l e R s m args below meth c n0 T h k n)  {o : Int} (hd : decode bytes pc = .ok (.ifnonnull o, 3)) (hq : pc + 3 = q)  (r : Goes p e below G (T.setTop (mkF m q L st))) : Goes p e below G (T.setTop (mkF m pc L (.null :: st))) := by
  obtain ⟨hx, -, -, hby, -⟩ := C
  obtain ⟨_, _, _, X, -⟩ := X
  subst hq
  exact go_st (fun t k => XS.ifnonnullNo X.here hx rfl (hb hby hd) rfl k) r
theorem g_boolF (C : Cx p s m meth c Z own bytes ml rt mn) (X : St p l e R s m args below meth c n0 T h k n) {cd : ClassFile.Cond} {x : Int32} (hd : decode bytes pc = .ok (.ifCond cd 7, 3)) (hd1 : decode bytes (pc + 3) = .ok (.iconst 1, 1)) (hd2 : decode bytes (pc + 4) = .ok (.goto 4, 3)) (hd3 : decode bytes (pc + 7) = .ok (.iconst 0, 1)) (hq : pc + 8 = q) (r : ∀ b : Int32, (if_icmp.holds cd x 0 = true → b = 0) → (if_icmp.holds cd x 0 = false → b = 1) → Goes p e below G (T.setTop (mkF m q L (.int b :: st)))) : Goes p e below G (T.setTop (mkF m pc L (.int x :: st))) := by
  subst hq
  cases hc : if_icmp.holds cd x 0
  · refine g_ifN C X hd (q := pc + 3) rfl hc ?_
    refine g_iconst C X hd1 (q := pc + 4) rfl (z := 1) rfl ?_
    refine g_goto C X hd2 (by omega) (q := pc + 8) (by omega) ?_
    exact r 1 (fun z => by rw [hc] at z; cases z) (fun _ => rfl)
  · refine g_ifY C X hd (by omega) (q := pc + 7) (by omega) hc ?_
    refine g_iconst C X hd3 (q := pc + 8) rfl (z := 0) rfl ?_
    exact r 0 (fun _ => rfl) (fun z => by rw [hc] at z; cases z)
theorem g_selF (C : Cx p s m meth c Z own bytes ml rt mn) (X : St p l e R s m args below meth c n0 T h k n) {cd : ClassFile.Cond} {x v1 v2 : Int32} {j1 j2 : Fin 4} (hd : decode bytes pc = .ok (.ifCond cd 7, 3)) (hd1 : decode bytes (pc + 3) = .ok (.iload_n j1, 1)) (hd2 : decode bytes (pc + 4) = .ok (.goto 4, 3)) (hd3 : decode bytes (pc + 7) = .ok (.iload_n j2, 1)) (hq : pc + 8 = q) (l1 : L[j1.val]? = some (.val (.int v1))) (l2 : L[j2.val]? = some (.val (.int v2))) (r : ∀ b : Int32, (if_icmp.holds cd x 0 = true → b = v2) → (if_icmp.holds cd x 0 = false → b = v1) → Goes p e below G (T.setTop (mkF m q L (.int b :: st)))) : Goes p e below G (T.setTop (mkF m pc L (.int x :: st))) := by
  subst hq
  cases hc : if_icmp.holds cd x 0
  · refine g_ifN C X hd (q := pc + 3) rfl hc ?_
    refine g_iloadN C X hd1 (q := pc + 4) rfl l1 ?_
    refine g_goto C X hd2 (by omega) (q := pc + 8) (by omega) ?_
    exact r v1 (fun z => by rw [hc] at z; cases z) (fun _ => rfl)
  · refine g_ifY C X hd (by omega) (q := pc + 7) (by omega) hc ?_
    refine g_iloadN C X hd3 (q := pc + 8) rfl l2 ?_
    exact r v2 (fun _ => rfl) (fun z => by rw [hc] at z; cases z)
theorem g_boolC (C : Cx p s m meth c Z own bytes ml rt mn) (X : St p l e R s m args below meth c n0 T h k n) {cd : ClassFile.Cond} {x y : Int32} (hd : decode bytes pc = .ok (.if_icmp cd 7, 3)) (hd1 : decode bytes (pc + 3) = .ok (.iconst 1, 1)) (hd2 : decode bytes (pc + 4) = .ok (.goto 4, 3)) (hd3 : decode bytes (pc + 7) = .ok (.iconst 0, 1)) (hq : pc + 8 = q) (r : ∀ b : Int32, (if_icmp.holds cd x y = true → b = 0) → (if_icmp.holds cd x y = false → b = 1) → Goes p e below G (T.setTop (mkF m q L (.int b :: st)))) : Goes p e below G (T.setTop (mkF m pc L (.int y :: .int x :: st))) := by
  subst hq
  cases hc : if_icmp.holds cd x y
  · refine g_icN C X hd (q := pc + 3) rfl hc ?_
    refine g_iconst C X hd1 (q := pc + 4) rfl (z := 1) rfl ?_
    refine g_goto C X hd2 (by omega) (q := pc + 8) (by omega) ?_
    exact r 1 (fun z => by rw [hc] at z; cases z) (fun _ => rfl)
  · refine g_icY C X hd (by omega) (q := pc + 7) (by omega) hc ?_
    refine g_iconst C X hd3 (q := pc + 8) rfl (z := 0) rfl ?_
    exact r 0 (fun _ => rfl) (fun z => by rw [hc] at z; cases z)
theorem g_acmp (C : Cx p s m meth c Z own bytes ml rt mn) (X : St p l e R s m args below meth c n0 T h k n) {cd : ACond} {x y : Value} {o : Int} {same : Bool} (hd : decode bytes pc = .ok (.if_acmp cd o, 3)) (h1 : x.isRef = true) (h2 : y.isRef = true) (hs : decide (x = y) = same) (ho : 0 ≤ (pc : Int) + o) (hq : q = if acV cd same = true then ((pc : Int) + o).toNat else pc + 3) (r : Goes p e below G (T.setTop (mkF m q L st))) : Goes p e below G (T.setTop (mkF m pc L (y :: x :: st))) := by
  obtain ⟨hx, -, -, hby, -⟩ := C
  obtain ⟨_, _, _, X, -⟩ := X
  exact go_st (fun t k => Jvm.RoadKit.acmp (g := mkF m pc L (y :: x :: st)) X hx rfl h1 h2 rfl (hb hby hd) rfl hs ho hq k) r
theorem g_lsw (C : Cx p s m meth c Z own bytes ml rt mn) (X : St p l e R s m args below meth c n0 T h k n) {d o : Int} {ps : Array (Int × Int)} {i : Int32} {len : Nat} (hd : decode bytes pc = .ok (.lookupswitch d ps, len)) (hinc : (ps.toList.zip (ps.toList.drop 1)).all (fun (a, next) => a.1 < next.1) = true) (hoff : lookupswitch.offset ps.toList d i.toInt = o) (ho : 0 ≤ (pc : Int) + o) (hq : ((pc : Int) + o).toNat = q) (r : Goes p e below G (T.setTop (mkF m q L st))) : Goes p e below G (T.setTop (mkF m pc L (.int i :: st))) := by
  obtain ⟨hx, -, -, hby, -⟩ := C
  obtain ⟨_, _, _, X, -⟩ := X
  subst hq
  refine go_st (fun t k => ?_) r
  have hd' := hb hby hd
  show Steps p.tables e below (T.setTop { method := m, pc := pc, locals := L, stack := .int i :: st, locked := none }) _
  jvm_step X.here [X.here.top, hx, hd', lookupswitch.wp_chain, hoff, ho]
  refine ⟨?_, k⟩
  intro a b a1 b1 hm
  simpa using List.all_eq_true.mp hinc ((a, b), a1, b1) (by simpa using hm)
theorem g_tswI (C : Cx p s m meth c Z own bytes ml rt mn) (X : St p l e R s m args below meth c n0 T h k n) {d lo hi o : Int} {offs : Array Int} {i : Int32} {len : Nat} (hd : decode bytes pc = .ok (.tableswitch d lo hi offs, len)) (hin : ¬ (i.toInt < lo ∨ i.toInt > hi)) (hoff : offs[(i.toInt - lo).toNat]? = some o) (ho : 0 ≤ (pc : Int) + o) (hq : ((pc : Int) + o).toNat = q) (r : Goes p e below G (T.setTop (mkF m q L st))) : Goes p e below G (T.setTop (mkF m pc L (.int i :: st))) := by
  obtain ⟨hx, -, -, hby, -⟩ := C
  obtain ⟨_, _, _, X, -⟩ := X
  exact go_st (fun t k => XS.tswIn X.here hx rfl rfl (hb hby hd) rfl hin hoff ho hq k) r
theorem g_tswO (C : Cx p s m meth c Z own bytes ml rt mn) (X : St p l e R s m args below meth c n0 T h k n) {d lo hi : Int} {offs : Array Int} {i : Int32} {len : Nat} (hd : decode bytes pc = .ok (.tableswitch d lo hi offs, len)) (hin : i.toInt < lo ∨ i.toInt > hi) (ho : 0 ≤ (pc : Int) + d) (hq : ((pc : Int) + d).toNat = q) (r : Goes p e below G (T.setTop (mkF m q L st))) : Goes p e below G (T.setTop (mkF m pc L (.int i :: st))) := by
  obtain ⟨hx, -, -, hby, -⟩ := C
  obtain ⟨_, _, _, X, -⟩ := X
  exact go_st (fun t k => XS.tswOut X.here hx rfl rfl (hb hby hd) rfl hin ho hq k) r
theorem g_ldcI (C : Cx p s m meth c Z own bytes ml rt mn) (X : St p l e R s m args below meth c n0 T h k n) {i : Nat} {v : Int32} (w : (Cond.constant own i v).before a0 Z = true) (hd : decode bytes pc = .ok (.ldc i, 2)) (hq : pc + 2 = q) (r : Goes p e below G (T.setTop (mkF m q L (.int v :: st)))) : Goes p e below G (T.setTop (mkF m pc L st)) := by
  obtain ⟨hx, hZ, hown, hby, -⟩ := C
  obtain ⟨_, _, _, X, -⟩ := X
  subst hq
  exact go_st (fun t k => X.ldcInt hx hown (mvT hZ w) (g := mkF m pc L st) rfl (hb hby hd) t k) r
theorem g_ldcJ (C : Cx p s m meth c Z own bytes ml rt mn) (X : St p l e R s m args below meth c n0 T h k n) {i : Nat} {v : Int64} (w : (Cond.constantLong own i v).before a0 Z = true) (hd : decode bytes pc = .ok (.ldc2_w i, 3)) (hq : pc + 3 = q) (r : Goes p e below G (T.setTop (mkF m q L (.long v :: st)))) : Goes p e below G (T.setTop (mkF m pc L st)) := by
  obtain ⟨hx, hZ, hown, hby, -⟩ := C
  obtain ⟨_, _, _, X, -⟩ := X
  subst hq
  exact go_st (fun t k => X.ldc2Long hx hown (mvT hZ w) (g := mkF m pc L st) rfl (hb hby hd) t k) r
theorem own_end (C : Cx p s m meth c Z own bytes ml rt mn) (X : St p l e R s m args below meth c n0 T h k n) {Q : Option Value → Heap → Prop} {K N : Nat} {S : State} {v : Option Value} (hv : rt = none → v = none) (hk : k ≤ K) (hn : n ≤ N) (hQ : Q v h)
    (f : ∀ locs cells slots fs, Stand p l e R s m args below meth c T locs cells slots → (∀ (f : JFrame) (acts : List Action), f.method = m → f.locked = none → f.entered = [] → (doReturn e (T.setTop f) acts v).1 = T.setFrames fs) → Steps p.tables e below S (T.setFrames fs)) : Goes p e below (FinN Q s n0 K N) S := by
  obtain ⟨hx, -, -, hby, -, hret, hlk, -⟩ := C
  obtain ⟨locs, cells, slots, X, hF, rfl, h1, h2⟩ := X
  obtain ⟨fs, hr, hrun, hended, hW, hsame⟩ := X.leave (v := v) (fun h => hv (hret.symm.trans h)) hlk
  exact ⟨_, _, f _ _ _ fs X hr, hrun, hended, _, _, rfl, ⟨hF, hQ⟩, ⟨_, rfl⟩, hW, hsame.mono (Nat.le_trans h1 hk) (Nat.le_trans h2 hn)⟩
theorem g_retI (C : Cx p s m meth c Z own bytes ml (some .int) mn) (X : St p l e R s m args below meth c n0 T h k n) {Q : Option Value → Heap → Prop} {K N : Nat} {z : Int32} (hd : decode bytes pc = .ok (.ireturn, 1)) (hk : k ≤ K) (hn : n ≤ N) (hQ : Q (some (.int z)) h) : Goes p e below (FinN Q s n0 K N) (T.setTop (mkF m pc L (.int z :: st))) := by
  refine own_end C X (by simp) hk hn hQ fun locs cells slots fs X hr => ?_
  obtain ⟨hx, -, -, hby, -, hret, hlk, -⟩ := C
  exact retOut X hx hret rfl (Or.inl ⟨rfl, Or.inl rfl, _, rfl⟩) (hb hby hd) hr
theorem g_retN {t : FieldType} (C : Cx p s m meth c Z own bytes ml (some t) mn) (X : St p l e R s m args below meth c n0 T h k n) {Q : Option Value → Heap → Prop} {K N : Nat} {z z' : Int32} (ht : t = .boolean ∨ t = .byte ∨ t = .char ∨ t = .short) (hz : nar t z = z') (hd : decode bytes pc = .ok (.ireturn, 1)) (hk : k ≤ K) (hn : n ≤ N) (hQ : Q (some (.int z')) h) : Goes p e below (FinN Q s n0 K N) (T.setTop (mkF m pc L (.int z :: st))) := by
  subst hz
  refine own_end C X (by simp) hk hn hQ fun locs cells slots fs X hr => ?_
  obtain ⟨hx, -, -, hby, -, hret, hlk, -⟩ := C
  exact retN X hx hret ht (hb hby hd) hr
theorem g_retA {t : FieldType} (C : Cx p s m meth c Z own bytes ml (some t) mn) (X : St p l e R s m args below meth c n0 T h k n) {Q : Option Value → Heap → Prop} {K N : Nat} {v : Value} (ht : t.isReference = true) (hv : v.isRef = true) (hd : decode bytes pc = .ok (.areturn, 1)) (hk : k ≤ K) (hn : n ≤ N) (hQ : Q (some v) h) : Goes p e below (FinN Q s n0 K N) (T.setTop (mkF m pc L (v :: st))) := by
  refine own_end C X (by simp) hk hn hQ fun locs cells slots fs X hr => ?_
  obtain ⟨hx, -, -, hby, -, hret, hlk, -⟩ := C
  have hn' : narrow t v = v := by rcases ref_cases hv with rfl | ⟨b, rfl⟩ <;> cases t <;> first | rfl | (cases ht)
  exact retOut X hx hret hn' (Or.inr (Or.inr (Or.inr (Or.inr ⟨rfl, ht, hv⟩)))) (hb hby hd) hr
theorem g_retJ (C : Cx p s m meth c Z own bytes ml (some .long) mn) (X : St p l e R s m args below meth c n0 T h k n) {Q : Option Value → Heap → Prop} {K N : Nat} {z : Int64} (hd : decode bytes pc = .ok (.lreturn, 1)) (hk : k ≤ K) (hn : n ≤ N) (hQ : Q (some (.long z)) h) : Goes p e below (FinN Q s n0 K N) (T.setTop (mkF m pc L (.long z :: st))) := by
  refine own_end C X (by simp) hk hn hQ fun locs cells slots fs X hr => ?_
  obtain ⟨hx, -, -, hby, -, hret, hlk, -⟩ := C
  exact retOut X hx hret rfl (Or.inr (Or.inl ⟨rfl, rfl, _, rfl⟩)) (hb hby hd) hr
theorem g_retV (C : Cx p s m meth c Z own bytes ml none mn) (X : St p l e R s m args below meth c n0 T h k n) {Q : Option Value → Heap → Prop} {K N : Nat} (hd : decode bytes pc = .ok (.return_, 1)) (hk : k ≤ K) (hn : n ≤ N) (hQ : Q none h) : Goes p e below (FinN Q s n0 K N) (T.setTop (mkF m pc L [])) := by
  refine own_end C X (fun _ => rfl) hk hn hQ fun locs cells slots fs X hr => ?_
  obtain ⟨hx, -, -, hby, -, hret, hlk, -⟩ := C
  exact X.returnOut hx hret (hb hby hd) hr
theorem g_dloadN (C : Cx p s m meth c Z own bytes ml rt mn) (X : St p l e R s m args below meth c n0 T h k n) {j : Fin 4} {v : UInt64} (hd : decode bytes pc = .ok (.dload_n j, 1)) (hq : pc + 1 = q) (hl : L[j.val]? = some (.val (.double v))) (r : Goes p e below G (T.setTop (mkF m q L (.double v :: st)))) : Goes p e below G (T.setTop (mkF m pc L (st))) := by
  obtain ⟨hx, -, -, hby, -⟩ := C
  obtain ⟨_, _, _, X, -⟩ := X
  subst hq 
  exact go_st (fun t k => XS.dloadN X.here hx rfl (hb hby hd) hl k) r
theorem g_dload (C : Cx p s m meth c Z own bytes ml rt mn) (X : St p l e R s m args below meth c n0 T h k n) {j : Nat} {v : UInt64} (hd : decode bytes pc = .ok (.dload j, 2)) (hq : pc + 2 = q) (hl : L[j]? = some (.val (.double v))) (r : Goes p e below G (T.setTop (mkF m q L (.double v :: st)))) : Goes p e below G (T.setTop (mkF m pc L (st))) := by
  obtain ⟨hx, -, -, hby, -⟩ := C
  obtain ⟨_, _, _, X, -⟩ := X
  subst hq 
  exact go_st (fun t k => XS.dload X.here hx rfl (hb hby hd) hl k) r
theorem g_dstoreN (C : Cx p s m meth c Z own bytes ml rt mn) (X : St p l e R s m args below meth c n0 T h k n) {j : Fin 4} {x : UInt64} {L' : Array Slot} (hd : decode bytes pc = .ok (.dstore_n j, 1)) (hq : pc + 1 = q) (hl : storeLocals L j.val (.double x) = some L') (r : Goes p e below G (T.setTop (mkF m q L' (st)))) : Goes p e below G (T.setTop (mkF m pc L (.double x :: st))) := by
  obtain ⟨hx, -, -, hby, -⟩ := C
  obtain ⟨_, _, _, X, -⟩ := X
  subst hq 
  exact go_st (fun t k => XS.dstoreN X.here hx rfl (hb hby hd) rfl hl k) r
theorem g_dstore (C : Cx p s m meth c Z own bytes ml rt mn) (X : St p l e R s m args below meth c n0 T h k n) {j : Nat} {x : UInt64} {L' : Array Slot} (hd : decode bytes pc = .ok (.dstore j, 2)) (hq : pc + 2 = q) (hl : storeLocals L j (.double x) = some L') (r : Goes p e below G (T.setTop (mkF m q L' (st)))) : Goes p e below G (T.setTop (mkF m pc L (.double x :: st))) := by
  obtain ⟨hx, -, -, hby, -⟩ := C
  obtain ⟨_, _, _, X, -⟩ := X
  subst hq 
  exact go_st (fun t k => XS.dstore X.here hx rfl (hb hby hd) rfl hl k) r
theorem g_i2d (C : Cx p s m meth c Z own bytes ml rt mn) (X : St p l e R s m args below meth c n0 T h k n) {x : Int32} {z : UInt64} (hd : decode bytes pc = .ok (.i2d, 1)) (hq : pc + 1 = q) (hz : FP.i2d x = z) (r : Goes p e below G (T.setTop (mkF m q L (.double z :: st)))) : Goes p e below G (T.setTop (mkF m pc L (.int x :: st))) := by
  obtain ⟨hx, -, -, hby, -⟩ := C
  obtain ⟨_, _, _, X, -⟩ := X
  subst hq 
  exact go_st (fun t k => XS.i2dS X.here hx rfl (hb hby hd) rfl hz k) r
theorem g_dcmp (C : Cx p s m meth c Z own bytes ml rt mn) (X : St p l e R s m args below meth c n0 T h k n) {o : CmpOp} {x y : UInt64} {z : Int32} (hd : decode bytes pc = .ok (.dcmp o, 1)) (hq : pc + 1 = q) (hz : cmpValue (FP.dcmp x y) o = z) (r : Goes p e below G (T.setTop (mkF m q L (.int z :: st)))) : Goes p e below G (T.setTop (mkF m pc L (.double y :: .double x :: st))) := by
  obtain ⟨hx, -, -, hby, -⟩ := C
  obtain ⟨_, _, _, X, -⟩ := X
  subst hq 
  exact go_st (fun t k => XS.dcmpS X.here hx rfl (hb hby hd) rfl hz k) r
theorem g_pop2 (C : Cx p s m meth c Z own bytes ml rt mn) (X : St p l e R s m args below meth c n0 T h k n) {x : Value} (hd : decode bytes pc = .ok (.pop2, 1)) (hq : pc + 1 = q) (hc : x.category = 2) (r : Goes p e below G (T.setTop (mkF m q L st))) : Goes p e below G (T.setTop (mkF m pc L (x :: st))) := by
  obtain ⟨hx, -, -, hby, -⟩ := C
  obtain ⟨_, _, _, X, -⟩ := X
  subst hq
  refine go_st (fun t k => ?_) r
  have hd' := hb hby hd
  show Steps p.tables e below (T.setTop { method := m, pc := pc, locals := L, stack := x :: st, locked := none }) _
  jvm_step X.here [X.here.top, hx, hd', hc]
  exact k
theorem g_dmul (C : Cx p s m meth c Z own bytes ml rt mn) (X : St p l e R s m args below meth c n0 T h k n) {x y z : UInt64} (hd : decode bytes pc = .ok (.dmul, 1)) (hq : pc + 1 = q) (hn : Jvm.Free.Fl.NoNaN64 (FP.dmul x y)) (hz : FP.dmul x y = z) (r : Goes p e below G (T.setTop (mkF m q L (.double z :: st)))) : Goes p e below G (T.setTop (mkF m pc L (.double y :: .double x :: st))) := by
  obtain ⟨hx, -, -, hby, -⟩ := C
  obtain ⟨_, _, _, X, -⟩ := X
  subst hq 
  exact go_st (fun t k => XS.dmulS X.here hx rfl (hb hby hd) rfl hn hz k) r
theorem g_ddiv (C : Cx p s m meth c Z own bytes ml rt mn) (X : St p l e R s m args below meth c n0 T h k n) {x y z : UInt64} (hd : decode bytes pc = .ok (.ddiv, 1)) (hq : pc + 1 = q) (hn : Jvm.Free.Fl.NoNaN64 (FP.ddiv x y)) (hz : FP.ddiv x y = z) (r : Goes p e below G (T.setTop (mkF m q L (.double z :: st)))) : Goes p e below G (T.setTop (mkF m pc L (.double y :: .double x :: st))) := by
  obtain ⟨hx, -, -, hby, -⟩ := C
  obtain ⟨_, _, _, X, -⟩ := X
  subst hq 
  exact go_st (fun t k => XS.ddivS X.here hx rfl (hb hby hd) rfl hn hz k) r
theorem g_ldcD (C : Cx p s m meth c Z own bytes ml rt mn) (X : St p l e R s m args below meth c n0 T h k n) {i : Nat} {v : UInt64} (w : (Cond.constantDouble own i v).before a0 Z = true) (hd : decode bytes pc = .ok (.ldc2_w i, 3)) (hq : pc + 3 = q) (r : Goes p e below G (T.setTop (mkF m q L (.double v :: st)))) : Goes p e below G (T.setTop (mkF m pc L st)) := by
  obtain ⟨hx, hZ, hown, hby, -⟩ := C
  obtain ⟨_, _, _, X, -⟩ := X
  subst hq
  exact go_st (fun t k => X.ldc2DoubleC hx hown (mvT hZ w) (g := mkF m pc L st) rfl (hb hby hd) t k) r
theorem g_dconst0 (C : Cx p s m meth c Z own bytes ml rt mn) (X : St p l e R s m args below meth c n0 T h k n) {z : UInt64} (hd : decode bytes pc = .ok (.dconst 0, 1)) (hq : pc + 1 = q) (hz : FP.dconst0 = z) (r : Goes p e below G (T.setTop (mkF m q L (.double z :: st)))) : Goes p e below G (T.setTop (mkF m pc L (st))) := by
  obtain ⟨hx, -, -, hby, -⟩ := C
  obtain ⟨_, _, _, X, -⟩ := X
  subst hq 
  exact go_st (fun t k => XS.dconst0 X.here hx rfl (hb hby hd) hz k) r
theorem g_dconst1 (C : Cx p s m meth c Z own bytes ml rt mn) (X : St p l e R s m args below meth c n0 T h k n) {z : UInt64} (hd : decode bytes pc = .ok (.dconst 1, 1)) (hq : pc + 1 = q) (hz : FP.dconst1 = z) (r : Goes p e below G (T.setTop (mkF m q L (.double z :: st)))) : Goes p e below G (T.setTop (mkF m pc L (st))) := by
  obtain ⟨hx, -, -, hby, -⟩ := C
  obtain ⟨_, _, _, X, -⟩ := X
  subst hq 
  exact go_st (fun t k => XS.dconst1 X.here hx rfl (hb hby hd) hz k) r
theorem g_retD (C : Cx p s m meth c Z own bytes ml (some .double) mn) (X : St p l e R s m args below meth c n0 T h k n) {Q : Option Value → Heap → Prop} {K N : Nat} {z : UInt64} (hd : decode bytes pc = .ok (.dreturn, 1)) (hk : k ≤ K) (hn : n ≤ N) (hQ : Q (some (.double z)) h) : Goes p e below (FinN Q s n0 K N) (T.setTop (mkF m pc L (.double z :: st))) := by
  refine own_end C X (by simp) hk hn hQ fun locs cells slots fs X hr => ?_
  obtain ⟨hx, -, -, hby, -, hret, hlk, -⟩ := C
  exact retOut X hx hret rfl (Or.inr (Or.inr (Or.inl ⟨rfl, rfl, _, rfl⟩))) (hb hby hd) hr
theorem g_getS (C : Cx p s m meth c Z own bytes ml rt mn) (X : St p l e R s m args below meth c n0 T h k n) {R0 O f d host : String} {i : Nat} {v : Value} (w : (Cond.fieldLink own i R0 f d).before a0 Z = true ∨ (Cond.fieldLinkNest own i R0 f d host).before a0 Z = true) (via : Via Z R0 O f d) (F : Sta Z h O f d v) (hd : decode bytes pc = .ok (.getstatic i, 3)) (hq : pc + 3 = q) (r : ∀ T', St p l e R s m args below meth c n0 T' h k n → Goes p e below G (T'.setTop (mkF m q L (v :: st)))) : Goes p e below G (T.setTop (mkF m pc L st)) := by
  obtain ⟨hx, hZ, hown, hby, -⟩ := C
  obtain ⟨_, _, _, X, hF, eT, h1, h2⟩ := X
  subst hq
  obtain ⟨T', X', e', st'⟩ := getS2 X hx hZ hown w via eT F (g := mkF m pc L st) rfl (hb hby hd)
  exact go_st st' (r T' ⟨_, _, _, X', hF, e', h1, h2⟩)
theorem g_getF (C : Cx p s m meth c Z own bytes ml rt mn) (X : St p l e R s m args below meth c n0 T h k n) {R0 O f d host : String} {i : Nat} {a : Addr} {v : Value} (w : (Cond.fieldLink own i R0 f d).before a0 Z = true ∨ (Cond.fieldLinkNest own i R0 f d host).before a0 Z = true) (via : Via Z R0 O f d) (F : Fld Z h a O f d v) (hd : decode bytes pc = .ok (.getfield i, 3)) (hq : pc + 3 = q) (r : ∀ T', St p l e R s m args below meth c n0 T' h k n → Goes p e below G (T'.setTop (mkF m q L (v :: st)))) : Goes p e below G (T.setTop (mkF m pc L (.ref a :: st))) := by
  obtain ⟨hx, hZ, hown, hby, -⟩ := C
  obtain ⟨_, _, _, X, hF, eT, h1, h2⟩ := X
  subst hq
  obtain ⟨T', X', e', st'⟩ := getF X hx hZ hown w via eT F (g := mkF m pc L (.ref a :: st)) rfl rfl (hb hby hd)
  exact go_st st' (r T' ⟨_, _, _, X', hF, e', h1, h2⟩)
theorem g_putF (C : Cx p s m meth c Z own bytes ml rt mn) (X : St p l e R s m args below meth c n0 T h k n) {R0 O f d host K : String} {i kk : Nat} {ty : FieldType} {a : Addr} {v old : Value} (w : (Cond.fieldLink own i R0 f d).before a0 Z = true ∨ (Cond.fieldLinkNest own i R0 f d host).before a0 Z = true) (via : Via Z R0 O f d) (F : Fld Z h a O f d old) (E : Exa Z h a K) (Ly : (Cond.lays K O f d).before a0 Z = true ∨ ((Cond.laysFinal K O f d).before a0 Z = true ∧ own = O ∧ mn = "<init>")) (wi : (Cond.instantiable K kk).before a0 Z = true)
    (hty : parseFieldDescriptor d = some ty) (hnn : narrow ty v = v) (hff : fits ty v = true) (hd : decode bytes pc = .ok (.putfield i, 3)) (hq : pc + 3 = q) (ha : n0 ≤ a) (r : ∀ T' h', St p l e R s m args below meth c n0 T' h' k n → Wr h h' a (Jvm.RoadKit.slotOf Z O f d) v → Goes p e below G (T'.setTop (mkF m q L st))) : Goes p e below G (T.setTop (mkF m pc L (v :: .ref a :: st))) := by
  obtain ⟨hx, hZ, hown, hby, -, -, -, hnm⟩ := C
  obtain ⟨_, _, _, X, hF, eT, h1, h2⟩ := X
  subst hq
  obtain ⟨T', h', X', e', W', st'⟩ := putF X hx hZ hown w via eT F E (Ly.imp id fun z => ⟨z.1, z.2.1, hnm.trans z.2.2⟩) wi hty hnn hff (g := mkF m pc L (v :: .ref a :: st)) rfl rfl (hb hby hd)
  exact go_st st' (r T' h' ⟨_, _, _, X', Fr.snoc X' hF ha, e', h1, h2⟩ W')
theorem g_putFN (C : Cx p s m meth c Z own bytes ml rt mn) (X : St p l e R s m args below meth c n0 T h k n) {R0 O f d K : String} {i kk : Nat} {ty : FieldType} {a : Addr} {v v' old : Value} (w : (Cond.fieldLink own i R0 f d).before a0 Z = true) (via : Via Z R0 O f d) (F : Fld Z h a O f d old) (E : Exa Z h a K) (Ly : (Cond.lays K O f d).before a0 Z = true ∨ ((Cond.laysFinal K O f d).before a0 Z = true ∧ own = O ∧ mn = "<init>")) (wi : (Cond.instantiable K kk).before a0 Z = true)
    (hty : parseFieldDescriptor d = some ty) (hnn : narrow ty v = v') (hff : fits ty v' = true) (hd : decode bytes pc = .ok (.putfield i, 3)) (hq : pc + 3 = q) (ha : n0 ≤ a) (r : ∀ T' h', St p l e R s m args below meth c n0 T' h' k n → Wr h h' a (Jvm.RoadKit.slotOf Z O f d) v' → Goes p e below G (T'.setTop (mkF m q L st))) : Goes p e below G (T.setTop (mkF m pc L (v :: .ref a :: st))) := by
  obtain ⟨hx, hZ, hown, hby, -, -, -, hnm⟩ := C
  obtain ⟨_, _, _, X, hF, eT, h1, h2⟩ := X
  subst hq
  obtain ⟨T', h', X', e', W', st'⟩ := putFN X hx hZ hown w via eT F E (Ly.imp id fun z => ⟨z.1, z.2.1, hnm.trans z.2.2⟩) wi hty hnn hff (g := mkF m pc L (v :: .ref a :: st)) rfl rfl (hb hby hd)
  exact go_st st' (r T' h' ⟨_, _, _, X', Fr.snoc X' hF ha, e', h1, h2⟩ W')
theorem g_new (C : Cx p s m meth c Z own bytes ml rt mn) (X : St p l e R s m args below meth c n0 T h k n) {K : String} {i z k' n' : Nat} (w : (Cond.classLink own i K).before a0 Z = true) (wi : (Cond.instantiable K z).before a0 Z = true) (wz : (Cond.initialized K).before a0 Z = true) (hd : decode bytes pc = .ok (.new i, 3)) (hq : pc + 3 = q) (hk : k + 1 = k') (hn : n + z = n') (hkR : k' ≤ R.cells) (hnR : n' ≤ R.slots)
    (r : ∀ T' h' a, a = h.size → St p l e R s m args below meth c n0 T' h' k' n' → Ext h h' → Exa Z h' a K → (∀ {O nm d : String} {ty : FieldType}, Laid Z a0 K O nm d → parseFieldDescriptor d = some ty → Fld Z h' a O nm d (defaultValue ty)) → Goes p e below G (T'.setTop (mkF m q L (.ref a :: st)))) : Goes p e below G (T.setTop (mkF m pc L st)) := by
  obtain ⟨hx, hZ, hown, hby, -⟩ := C
  obtain ⟨_, _, _, X, hF, eT, h1, h2⟩ := X
  subst hq hk hn
  obtain ⟨T', h', X', e', E', A', D', -, st'⟩ := newO X hx hZ hown w wi wz eT (g := mkF m pc L st) rfl (hb hby hd) (Nat.le_trans (Nat.add_le_add_right h1 1) hkR) (Nat.le_trans (Nat.add_le_add_right h2 z) hnR)
  exact go_st st' (r T' h' _ rfl ⟨_, _, _, X', hF, e', Nat.add_le_add_right h1 1, Nat.add_le_add_right h2 z⟩ E' A' D')
theorem g_newP (C : Cx p s m meth c Z own bytes ml rt mn) (X : St p l e R s m args below meth c n0 T h k n) {aty : ArrayType} {ty : FieldType} {z : Int32} {cap k' n' : Nat} (w : (Cond.arrayClass ty).before a0 Z = true) (hty : newarray.typeOf aty = ty) (hd : decode bytes pc = .ok (.newarray aty, 2)) (hq : pc + 2 = q) (hz : ¬ z < 0) (hcap : z.toNatClampNeg ≤ cap) (hcb : cap * 8 ≤ 536870912) (hk : k + 1 = k') (hn : n + cap = n') (hkR : k' ≤ R.cells) (hnR : n' ≤ R.slots)
    (r : ∀ T' h' cA a, a = h.size → St p l e R s m args below meth c n0 T' h' k' n' → Ext h h' → Arv Z h' a cA ty z [] (defaultValue ty) → Goes p e below G (T'.setTop (mkF m q L (.ref a :: st)))) : Goes p e below G (T.setTop (mkF m pc L (.int z :: st))) := by
  obtain ⟨hx, hZ, hown, hby, -⟩ := C
  obtain ⟨_, _, _, X, hF, eT, h1, h2⟩ := X
  subst hq hk hn hty
  obtain ⟨T', h', cA, X', e', E', A', st'⟩ := newP X hx hZ w eT (g := mkF m pc L (.int z :: st)) rfl (hb hby hd) rfl hz (cap := cap) hcap hcb (Nat.le_trans (Nat.add_le_add_right h1 1) hkR) (Nat.le_trans (Nat.add_le_add_right h2 cap) hnR)
  exact go_st st' (r T' h' cA _ rfl ⟨_, _, _, X', hF, e', Nat.add_le_add_right h1 1, Nat.add_le_add_right h2 cap⟩ E' (Arv.new A' hz))
theorem g_initO (C : Cx p s m meth c Z own bytes ml rt mn) (X : St p l e R s m args below meth c n0 T h k n) {i : Nat} {a : Addr} (w1 : (Cond.methodLink own i Lib.objectInit).before a0 Z = true) (w2 : (Cond.instanceMethod Lib.objectInit).before a0 Z = true) (w3 : (Cond.code Lib.objectInit ⟨#[0xb1]⟩ 1 none).before a0 Z = true) (hsz : L.size = ml) (hd : decode bytes pc = .ok (.invokespecial i, 3)) (hq : pc + 3 = q) (hf : 1 ≤ R.frames) (hW : (st.map fun v => v.category).sum + 12 ≤ R.locals)
    (r : ∀ T', St p l e R s m args below meth c n0 T' h k n → Goes p e below G (T'.setTop (mkF m q L st))) : Goes p e below G (T.setTop (mkF m pc L (.ref a :: st))) := by
  obtain ⟨hx, hZ, hown, hby, hml, -⟩ := C
  obtain ⟨_, _, _, X, hF, eT, h1, h2⟩ := X
  subst hq
  obtain ⟨T', X', e', st'⟩ := initO X hx hZ hown w1 w2 w3 eT (g := mkF m pc L (.ref a :: st)) rfl (hsz.trans hml.symm) rfl (hb hby hd) hf (W := (st.map fun v => v.category).sum) (by show 2 * 0 + _ ≤ _; omega) hW
  exact go_st st' (r T' ⟨_, _, _, X', hF, e', h1, h2⟩)
theorem g_iastore (C : Cx p s m meth c Z own bytes ml rt mn) (X : St p l e R s m args below meth c n0 T h k n) {a : Addr} {cA : ClassId} {z j : Int32} {vs vs' : List Value} {dv : Value} {i : Nat} {v : Int32} (V : Arv Z h a cA .int z vs dv) (hj : ¬ j < 0 ∧ j < z) (hi : j.toNatClampNeg = i) (hlt : i < vs.length) (hvs : vs.set i (.int v) = vs') (ha : n0 ≤ a) (hd : decode bytes pc = .ok (.iastore, 1)) (hq : pc + 1 = q)
    (r : ∀ T' h', St p l e R s m args below meth c n0 T' h' k n → Wr h h' a i (.int v) → Arv Z h' a cA .int z vs' dv → Goes p e below G (T'.setTop (mkF m q L st))) : Goes p e below G (T.setTop (mkF m pc L (.int v :: .int j :: .ref a :: st))) := by
  obtain ⟨hx, hZ, hown, hby, -⟩ := C
  obtain ⟨_, _, _, X, hF, eT, h1, h2⟩ := X
  subst hq hi hvs
  obtain ⟨cl, A, q1, Sz, q3, H, Gf⟩ := V
  obtain ⟨T', h', X', e', W', st'⟩ := stI X hx hZ eT A (j := j) (inb_of Sz hj) (g := mkF m pc L (.int v :: .int j :: .ref a :: st)) rfl rfl (hb hby hd)
  exact go_st st' (r T' h' ⟨_, _, _, X', Fr.snoc X' hF ha, e', h1, h2⟩ W' (Arv.set A q1 Sz q3 H Gf rfl W' _ rfl hlt))
theorem g_castore (C : Cx p s m meth c Z own bytes ml rt mn) (X : St p l e R s m args below meth c n0 T h k n) {a : Addr} {cA : ClassId} {z j : Int32} {vs vs' : List Value} {dv : Value} {i : Nat} {v : Int32} (V : Arv Z h a cA .char z vs dv) (hj : ¬ j < 0 ∧ j < z) (hi : j.toNatClampNeg = i) (hlt : i < vs.length) (hvs : vs.set i (.int (nar .char v)) = vs') (ha : n0 ≤ a) (hd : decode bytes pc = .ok (.castore, 1)) (hq : pc + 1 = q)
    (r : ∀ T' h', St p l e R s m args below meth c n0 T' h' k n → Wr h h' a i (.int (nar .char v)) → Arv Z h' a cA .char z vs' dv → Goes p e below G (T'.setTop (mkF m q L st))) : Goes p e below G (T.setTop (mkF m pc L (.int v :: .int j :: .ref a :: st))) := by
  obtain ⟨hx, hZ, hown, hby, -⟩ := C
  obtain ⟨_, _, _, X, hF, eT, h1, h2⟩ := X
  subst hq hi hvs
  obtain ⟨cl, A, q1, Sz, q3, H, Gf⟩ := V
  obtain ⟨T', h', X', e', W', st'⟩ := stC X hx hZ eT A (j := j) (inb_of Sz hj) (g := mkF m pc L (.int v :: .int j :: .ref a :: st)) rfl rfl (hb hby hd)
  exact go_st st' (r T' h' ⟨_, _, _, X', Fr.snoc X' hF ha, e', h1, h2⟩ W' (Arv.set A q1 Sz q3 H Gf (fits_nar_char _) W' _ rfl hlt))
theorem g_bastore (C : Cx p s m meth c Z own bytes ml rt mn) (X : St p l e R s m args below meth c n0 T h k n) {a : Addr} {cA : ClassId} {z j : Int32} {vs vs' : List Value} {dv : Value} {i : Nat} {v : Int32} (V : Arv Z h a cA .byte z vs dv) (hj : ¬ j < 0 ∧ j < z) (hi : j.toNatClampNeg = i) (hlt : i < vs.length) (hvs : vs.set i (.int (nar .byte v)) = vs') (ha : n0 ≤ a) (hd : decode bytes pc = .ok (.bastore, 1)) (hq : pc + 1 = q)
    (r : ∀ T' h', St p l e R s m args below meth c n0 T' h' k n → Wr h h' a i (.int (nar .byte v)) → Arv Z h' a cA .byte z vs' dv → Goes p e below G (T'.setTop (mkF m q L st))) : Goes p e below G (T.setTop (mkF m pc L (.int v :: .int j :: .ref a :: st))) := by
  obtain ⟨hx, hZ, hown, hby, -⟩ := C
  obtain ⟨_, _, _, X, hF, eT, h1, h2⟩ := X
  subst hq hi hvs
  obtain ⟨cl, A, q1, Sz, q3, H, Gf⟩ := V
  obtain ⟨T', h', X', e', W', st'⟩ := stB X hx hZ eT A (j := j) (inb_of Sz hj) (g := mkF m pc L (.int v :: .int j :: .ref a :: st)) rfl rfl (hb hby hd)
  exact go_st st' (r T' h' ⟨_, _, _, X', Fr.snoc X' hF ha, e', h1, h2⟩ W' (Arv.set A q1 Sz q3 H Gf (fits_nar_byte _) W' _ rfl hlt))
theorem g_zastore (C : Cx p s m meth c Z own bytes ml rt mn) (X : St p l e R s m args below meth c n0 T h k n) {a : Addr} {cA : ClassId} {z j : Int32} {vs vs' : List Value} {dv : Value} {i : Nat} {v : Int32} (V : Arv Z h a cA .boolean z vs dv) (hj : ¬ j < 0 ∧ j < z) (hi : j.toNatClampNeg = i) (hlt : i < vs.length) (hvs : vs.set i (.int (nar .boolean v)) = vs') (ha : n0 ≤ a) (hd : decode bytes pc = .ok (.bastore, 1)) (hq : pc + 1 = q)
    (r : ∀ T' h', St p l e R s m args below meth c n0 T' h' k n → Wr h h' a i (.int (nar .boolean v)) → Arv Z h' a cA .boolean z vs' dv → Goes p e below G (T'.setTop (mkF m q L st))) : Goes p e below G (T.setTop (mkF m pc L (.int v :: .int j :: .ref a :: st))) := by
  obtain ⟨hx, hZ, hown, hby, -⟩ := C
  obtain ⟨_, _, _, X, hF, eT, h1, h2⟩ := X
  subst hq hi hvs
  obtain ⟨cl, A, q1, Sz, q3, H, Gf⟩ := V
  obtain ⟨T', h', X', e', W', st'⟩ := stZ X hx hZ eT A (j := j) (inb_of Sz hj) (g := mkF m pc L (.int v :: .int j :: .ref a :: st)) rfl rfl (hb hby hd)
  exact go_st st' (r T' h' ⟨_, _, _, X', Fr.snoc X' hF ha, e', h1, h2⟩ W' (Arv.set A q1 Sz q3 H Gf (fits_nar_bool _) W' _ rfl hlt))
theorem g_lastore (C : Cx p s m meth c Z own bytes ml rt mn) (X : St p l e R s m args below meth c n0 T h k n) {a : Addr} {cA : ClassId} {z j : Int32} {vs vs' : List Value} {dv : Value} {i : Nat} {v : Int64} (V : Arv Z h a cA .long z vs dv) (hj : ¬ j < 0 ∧ j < z) (hi : j.toNatClampNeg = i) (hlt : i < vs.length) (hvs : vs.set i (.long v) = vs') (ha : n0 ≤ a) (hd : decode bytes pc = .ok (.lastore, 1)) (hq : pc + 1 = q)
    (r : ∀ T' h', St p l e R s m args below meth c n0 T' h' k n → Wr h h' a i (.long v) → Arv Z h' a cA .long z vs' dv → Goes p e below G (T'.setTop (mkF m q L st))) : Goes p e below G (T.setTop (mkF m pc L (.long v :: .int j :: .ref a :: st))) := by
  obtain ⟨hx, hZ, hown, hby, -⟩ := C
  obtain ⟨_, _, _, X, hF, eT, h1, h2⟩ := X
  subst hq hi hvs
  obtain ⟨cl, A, q1, Sz, q3, H, Gf⟩ := V
  obtain ⟨T', h', X', e', W', st'⟩ := stJ X hx hZ eT A (j := j) (inb_of Sz hj) (g := mkF m pc L (.long v :: .int j :: .ref a :: st)) rfl rfl (hb hby hd)
  exact go_st st' (r T' h' ⟨_, _, _, X', Fr.snoc X' hF ha, e', h1, h2⟩ W' (Arv.set A q1 Sz q3 H Gf rfl W' _ rfl hlt))
theorem g_dastore (C : Cx p s m meth c Z own bytes ml rt mn) (X : St p l e R s m args below meth c n0 T h k n) {a : Addr} {cA : ClassId} {z j : Int32} {vs vs' : List Value} {dv : Value} {i : Nat} {v : UInt64} (V : Arv Z h a cA .double z vs dv) (hj : ¬ j < 0 ∧ j < z) (hi : j.toNatClampNeg = i) (hlt : i < vs.length) (hvs : vs.set i (.double v) = vs') (ha : n0 ≤ a) (hd : decode bytes pc = .ok (.dastore, 1)) (hq : pc + 1 = q)
    (r : ∀ T' h', St p l e R s m args below meth c n0 T' h' k n → Wr h h' a i (.double v) → Arv Z h' a cA .double z vs' dv → Goes p e below G (T'.setTop (mkF m q L st))) : Goes p e below G (T.setTop (mkF m pc L (.double v :: .int j :: .ref a :: st))) := by
  obtain ⟨hx, hZ, hown, hby, -⟩ := C
  obtain ⟨_, _, _, X, hF, eT, h1, h2⟩ := X
  subst hq hi hvs
  obtain ⟨cl, A, q1, Sz, q3, H, Gf⟩ := V
  obtain ⟨T', h', X', e', W', st'⟩ := stD X hx hZ eT A (j := j) (inb_of Sz hj) (g := mkF m pc L (.double v :: .int j :: .ref a :: st)) rfl rfl (hb hby hd)
  exact go_st st' (r T' h' ⟨_, _, _, X', Fr.snoc X' hF ha, e', h1, h2⟩ W' (Arv.set A q1 Sz q3 H Gf rfl W' _ rfl hlt))
theorem g_aastore (C : Cx p s m meth c Z own bytes ml rt mn) (X : St p l e R s m args below meth c n0 T h k n) {a : Addr} {cA : ClassId} {z j : Int32} {vs vs' : List Value} {dv v : Value} {ty : FieldType} {i : Nat} (V : Arv Z h a cA ty z vs dv) (hty : ty.isReference = true) (F : Sto Z h a v) (hfv : fits ty v = true) (hj : ¬ j < 0 ∧ j < z) (hi : j.toNatClampNeg = i) (hlt : i < vs.length) (hvs : vs.set i v = vs') (ha : n0 ≤ a) (hd : decode bytes pc = .ok (.aastore, 1)) (hq : pc + 1 = q)
    (r : ∀ T' h', St p l e R s m args below meth c n0 T' h' k n → Wr h h' a i v → Arv Z h' a cA ty z vs' dv → Goes p e below G (T'.setTop (mkF m q L st))) : Goes p e below G (T.setTop (mkF m pc L (v :: .int j :: .ref a :: st))) := by
  obtain ⟨hx, hZ, hown, hby, -⟩ := C
  obtain ⟨_, _, _, X, hF, eT, h1, h2⟩ := X
  subst hq hi hvs
  obtain ⟨cl, A, q1, Sz, q3, H, Gf⟩ := V
  obtain ⟨T', h', X', e', W', st'⟩ := stR X hx hZ eT A (j := j) (inb_of Sz hj) hty F (g := mkF m pc L (v :: .int j :: .ref a :: st)) rfl rfl (hb hby hd)
  exact go_st st' (r T' h' ⟨_, _, _, X', Fr.snoc X' hF ha, e', h1, h2⟩ W' (Arv.set A q1 Sz q3 H Gf hfv W' _ rfl hlt))
theorem g_iaload (C : Cx p s m meth c Z own bytes ml rt mn) (X : St p l e R s m args below meth c n0 T h k n) {a : Addr} {cA : ClassId} {z j : Int32} {vs : List Value} {dv w : Value}  (V : Arv Z h a cA .int z vs dv) (hj : ¬ j < 0 ∧ j < z) (hv : vs.getD j.toNatClampNeg dv = w) (hd : decode bytes pc = .ok (.iaload, 1)) (hq : pc + 1 = q) (r : Goes p e below G (T.setTop (mkF m q L (w :: st)))) : Goes p e below G (T.setTop (mkF m pc L (.int j :: .ref a :: st))) := by
  obtain ⟨hx, hZ, hown, hby, -⟩ := C
  obtain ⟨_, _, _, X, hF, eT, h1, h2⟩ := X
  subst hq
  obtain ⟨cl, A, q1, Sz, q3, H, Gf⟩ := V
  exact go_st (fun t k => X.iaload hx (j := j) (v := w) (by rw [eT]; exact A.1) (State.isArrayOf_alike hZ.alike A.2.1) A.2.2 (inb_of Sz hj) (H.at (inb_of Sz hj) hv) (g := mkF m pc L (.int j :: .ref a :: st)) rfl rfl (hb hby hd) t k) r
theorem g_caload (C : Cx p s m meth c Z own bytes ml rt mn) (X : St p l e R s m args below meth c n0 T h k n) {a : Addr} {cA : ClassId} {z j : Int32} {vs : List Value} {dv w : Value}  (V : Arv Z h a cA .char z vs dv) (hj : ¬ j < 0 ∧ j < z) (hv : vs.getD j.toNatClampNeg dv = w) (hd : decode bytes pc = .ok (.caload, 1)) (hq : pc + 1 = q) (r : Goes p e below G (T.setTop (mkF m q L (w :: st)))) : Goes p e below G (T.setTop (mkF m pc L (.int j :: .ref a :: st))) := by
  obtain ⟨hx, hZ, hown, hby, -⟩ := C
  obtain ⟨_, _, _, X, hF, eT, h1, h2⟩ := X
  subst hq
  obtain ⟨cl, A, q1, Sz, q3, H, Gf⟩ := V
  exact go_st (fun t k => X.caload hx (j := j) (v := w) (by rw [eT]; exact A.1) (State.isArrayOf_alike hZ.alike A.2.1) A.2.2 (inb_of Sz hj) (H.at (inb_of Sz hj) hv) (g := mkF m pc L (.int j :: .ref a :: st)) rfl rfl (hb hby hd) t k) r
theorem g_baload (C : Cx p s m meth c Z own bytes ml rt mn) (X : St p l e R s m args below meth c n0 T h k n) {a : Addr} {cA : ClassId} {z j : Int32} {vs : List Value} {dv w : Value}  (V : Arv Z h a cA .byte z vs dv) (hj : ¬ j < 0 ∧ j < z) (hv : vs.getD j.toNatClampNeg dv = w) (hd : decode bytes pc = .ok (.baload, 1)) (hq : pc + 1 = q) (r : Goes p e below G (T.setTop (mkF m q L (w :: st)))) : Goes p e below G (T.setTop (mkF m pc L (.int j :: .ref a :: st))) := by
  obtain ⟨hx, hZ, hown, hby, -⟩ := C
  obtain ⟨_, _, _, X, hF, eT, h1, h2⟩ := X
  subst hq
  obtain ⟨cl, A, q1, Sz, q3, H, Gf⟩ := V
  exact go_st (fun t k => X.baloadBytes hx (j := j) (v := w) (by rw [eT]; exact A.1) (State.isArrayOf_alike hZ.alike A.2.1) A.2.2 (inb_of Sz hj) (H.at (inb_of Sz hj) hv) (g := mkF m pc L (.int j :: .ref a :: st)) rfl rfl (hb hby hd) t k) r
theorem g_zaload (C : Cx p s m meth c Z own bytes ml rt mn) (X : St p l e R s m args below meth c n0 T h k n) {a : Addr} {cA : ClassId} {z j : Int32} {vs : List Value} {dv w : Value}  (V : Arv Z h a cA .boolean z vs dv) (hj : ¬ j < 0 ∧ j < z) (hv : vs.getD j.toNatClampNeg dv = w) (hd : decode bytes pc = .ok (.baload, 1)) (hq : pc + 1 = q) (r : Goes p e below G (T.setTop (mkF m q L (w :: st)))) : Goes p e below G (T.setTop (mkF m pc L (.int j :: .ref a :: st))) := by
  obtain ⟨hx, hZ, hown, hby, -⟩ := C
  obtain ⟨_, _, _, X, hF, eT, h1, h2⟩ := X
  subst hq
  obtain ⟨cl, A, q1, Sz, q3, H, Gf⟩ := V
  exact go_st (fun t k => X.baloadBooleans hx (j := j) (v := w) (by rw [eT]; exact A.1) (State.isArrayOf_alike hZ.alike A.2.1) A.2.2 (inb_of Sz hj) (H.at (inb_of Sz hj) hv) (g := mkF m pc L (.int j :: .ref a :: st)) rfl rfl (hb hby hd) t k) r
theorem g_laload (C : Cx p s m meth c Z own bytes ml rt mn) (X : St p l e R s m args below meth c n0 T h k n) {a : Addr} {cA : ClassId} {z j : Int32} {vs : List Value} {dv w : Value}  (V : Arv Z h a cA .long z vs dv) (hj : ¬ j < 0 ∧ j < z) (hv : vs.getD j.toNatClampNeg dv = w) (hd : decode bytes pc = .ok (.laload, 1)) (hq : pc + 1 = q) (r : Goes p e below G (T.setTop (mkF m q L (w :: st)))) : Goes p e below G (T.setTop (mkF m pc L (.int j :: .ref a :: st))) := by
  obtain ⟨hx, hZ, hown, hby, -⟩ := C
  obtain ⟨_, _, _, X, hF, eT, h1, h2⟩ := X
  subst hq
  obtain ⟨cl, A, q1, Sz, q3, H, Gf⟩ := V
  exact go_st (fun t k => X.laload hx (j := j) (v := w) (by rw [eT]; exact A.1) (State.isArrayOf_alike hZ.alike A.2.1) A.2.2 (inb_of Sz hj) (H.at (inb_of Sz hj) hv) (g := mkF m pc L (.int j :: .ref a :: st)) rfl rfl (hb hby hd) t k) r
theorem g_daload (C : Cx p s m meth c Z own bytes ml rt mn) (X : St p l e R s m args below meth c n0 T h k n) {a : Addr} {cA : ClassId} {z j : Int32} {vs : List Value} {dv w : Value}  (V : Arv Z h a cA .double z vs dv) (hj : ¬ j < 0 ∧ j < z) (hv : vs.getD j.toNatClampNeg dv = w) (hd : decode bytes pc = .ok (.daload, 1)) (hq : pc + 1 = q) (r : Goes p e below G (T.setTop (mkF m q L (w :: st)))) : Goes p e below G (T.setTop (mkF m pc L (.int j :: .ref a :: st))) := by
  obtain ⟨hx, hZ, hown, hby, -⟩ := C
  obtain ⟨_, _, _, X, hF, eT, h1, h2⟩ := X
  subst hq
  obtain ⟨cl, A, q1, Sz, q3, H, Gf⟩ := V
  exact go_st (fun t k => X.daload hx (j := j) (v := w) (by rw [eT]; exact A.1) (State.isArrayOf_alike hZ.alike A.2.1) A.2.2 (inb_of Sz hj) (H.at (inb_of Sz hj) hv) (g := mkF m pc L (.int j :: .ref a :: st)) rfl rfl (hb hby hd) t k) r
theorem g_aaload (C : Cx p s m meth c Z own bytes ml rt mn) (X : St p l e R s m args below meth c n0 T h k n) {a : Addr} {cA : ClassId} {z j : Int32} {vs : List Value} {dv w : Value} {ty : FieldType} (hty : ty.isReference = true) (V : Arv Z h a cA ty z vs dv) (hj : ¬ j < 0 ∧ j < z) (hv : vs.getD j.toNatClampNeg dv = w) (hd : decode bytes pc = .ok (.aaload, 1)) (hq : pc + 1 = q) (r : Goes p e below G (T.setTop (mkF m q L (w :: st)))) : Goes p e below G (T.setTop (mkF m pc L (.int j :: .ref a :: st))) := by
  obtain ⟨hx, hZ, hown, hby, -⟩ := C
  obtain ⟨_, _, _, X, hF, eT, h1, h2⟩ := X
  subst hq
  obtain ⟨cl, A, q1, Sz, q3, H, Gf⟩ := V
  exact go_st (fun t k => X.aaload hx (j := j) (v := w) (by rw [eT]; exact A.1) (State.isArrayOf_alike hZ.alike A.2.1) hty A.2.2 (inb_of Sz hj) (H.at (inb_of Sz hj) hv) (g := mkF m pc L (.int j :: .ref a :: st)) rfl rfl (hb hby hd) t k) r
theorem g_alen (C : Cx p s m meth c Z own bytes ml rt mn) (X : St p l e R s m args below meth c n0 T h k n) {a : Addr} {cA : ClassId} {z : Int32} {vs : List Value} {dv : Value} {ty : FieldType} (V : Arv Z h a cA ty z vs dv) (hd : decode bytes pc = .ok (.arraylength, 1)) (hq : pc + 1 = q) (r : Goes p e below G (T.setTop (mkF m q L (.int z :: st)))) : Goes p e below G (T.setTop (mkF m pc L (.ref a :: st))) := by
  obtain ⟨hx, hZ, hown, hby, -⟩ := C
  obtain ⟨_, _, _, X, hF, eT, h1, h2⟩ := X
  subst hq
  obtain ⟨cl, A, q1, Sz, q3, H, Gf⟩ := V
  exact go_st (fun t k => X.arraylength hx (by rw [eT]; exact A.1) (State.isArrayOf_alike hZ.alike A.2.1) (g := mkF m pc L (.ref a :: st)) rfl rfl (hb hby hd) t (by rw [len_of Sz q3]; exact k)) r
theorem g_newR (C : Cx p s m meth c Z own bytes ml rt mn) (X : St p l e R s m args below meth c n0 T h k n) {K : String} {i cap k' n' : Nat} {z : Int32} (w1 : (Cond.classLink own i K).before a0 Z = true) (w2 : (Cond.arrayOver (.object K)).before a0 Z = true) (hd : decode bytes pc = .ok (.anewarray i, 3)) (hq : pc + 3 = q) (hz : ¬ z < 0) (hcap : z.toNatClampNeg ≤ cap) (hcb : cap * 8 ≤ 536870912) (hk : k + 1 = k') (hn : n + cap = n') (hkR : k' ≤ R.cells) (hnR : n' ≤ R.slots)
    (r : ∀ T' h' cA a, a = h.size → St p l e R s m args below meth c n0 T' h' k' n' → Ext h h' → Arv Z h' a cA (.object K) z [] .null → Ovr Z cA K → Goes p e below G (T'.setTop (mkF m q L (.ref a :: st)))) : Goes p e below G (T.setTop (mkF m pc L (.int z :: st))) := by
  obtain ⟨hx, hZ, hown, hby, -⟩ := C
  obtain ⟨_, _, _, X, hF, eT, h1, h2⟩ := X
  subst hq hk hn
  obtain ⟨T', h', cA, X', e', E', A', O', st'⟩ := newR X hx hZ hown w1 w2 eT (g := mkF m pc L (.int z :: st)) rfl (hb hby hd) rfl hz (cap := cap) hcap hcb (Nat.le_trans (Nat.add_le_add_right h1 1) hkR) (Nat.le_trans (Nat.add_le_add_right h2 cap) hnR)
  exact go_st st' (r T' h' cA _ rfl ⟨_, _, _, X', hF, e', Nat.add_le_add_right h1 1, Nat.add_le_add_right h2 cap⟩ E' (Arv.new A' hz) O')
theorem g_castY (C : Cx p s m meth c Z own bytes ml rt mn) (X : St p l e R s m args below meth c n0 T h k n) {K : String} {i : Nat} {a : Addr} (w : (Cond.classLink own i K).before a0 Z = true) (I : Ins Z h a K true) (hd : decode bytes pc = .ok (.checkcast i, 3)) (hq : pc + 3 = q) (r : ∀ T', St p l e R s m args below meth c n0 T' h k n → Goes p e below G (T'.setTop (mkF m q L (.ref a :: st)))) : Goes p e below G (T.setTop (mkF m pc L (.ref a :: st))) := by
  obtain ⟨hx, hZ, hown, hby, -⟩ := C
  obtain ⟨_, _, _, X, hF, eT, h1, h2⟩ := X
  subst hq
  obtain ⟨T', X', e', st'⟩ := castY X hx hZ hown w eT I (g := mkF m pc L (.ref a :: st)) rfl rfl (hb hby hd)
  exact go_st st' (r T' ⟨_, _, _, X', hF, e', h1, h2⟩)
theorem g_instY (C : Cx p s m meth c Z own bytes ml rt mn) (X : St p l e R s m args below meth c n0 T h k n) {K : String} {i : Nat} {a : Addr} (w : (Cond.classLink own i K).before a0 Z = true) (I : Ins Z h a K true) (hd : decode bytes pc = .ok (.instanceof i, 3)) (hq : pc + 3 = q) (r : ∀ T', St p l e R s m args below meth c n0 T' h k n → Goes p e below G (T'.setTop (mkF m q L (.int 1 :: st)))) : Goes p e below G (T.setTop (mkF m pc L (.ref a :: st))) := by
  obtain ⟨hx, hZ, hown, hby, -⟩ := C
  obtain ⟨_, _, _, X, hF, eT, h1, h2⟩ := X
  subst hq
  obtain ⟨T', X', e', st'⟩ := instY X hx hZ hown w eT I (g := mkF m pc L (.ref a :: st)) rfl rfl (hb hby hd)
  exact go_st st' (r T' ⟨_, _, _, X', hF, e', h1, h2⟩)
theorem g_instNo (C : Cx p s m meth c Z own bytes ml rt mn) (X : St p l e R s m args below meth c n0 T h k n) {K K' : String} {i : Nat} {a : Addr} (w : (Cond.classLink own i K).before a0 Z = true) (E : Exa Z h a K') (F : ∃ c t, Z.vm.findClass K' = some c ∧ Z.vm.findClass K = some t ∧ Z.vm.assignable c t = false) (hd : decode bytes pc = .ok (.instanceof i, 3)) (hq : pc + 3 = q) (r : ∀ T', St p l e R s m args below meth c n0 T' h k n → Goes p e below G (T'.setTop (mkF m q L (.int 0 :: st)))) : Goes p e below G (T.setTop (mkF m pc L (.ref a :: st))) := by
  obtain ⟨hx, hZ, hown, hby, -⟩ := C
  obtain ⟨_, _, _, X, hF, eT, h1, h2⟩ := X
  subst hq
  obtain ⟨T', X', e', st'⟩ := instNo X hx hZ hown w eT E F (g := mkF m pc L (.ref a :: st)) rfl rfl (hb hby hd)
  exact go_st st' (r T' ⟨_, _, _, X', hF, e', h1, h2⟩)
theorem g_instNull (C : Cx p s m meth c Z own bytes ml rt mn) (X : St p l e R s m args below meth c n0 T h k n) {i : Nat} (hd : decode bytes pc = .ok (.instanceof i, 3)) (hq : pc + 3 = q) (r : Goes p e below G (T.setTop (mkF m q L (.int 0 :: st)))) : Goes p e below G (T.setTop (mkF m pc L (.null :: st))) := by
  obtain ⟨hx, hZ, hown, hby, -⟩ := C
  obtain ⟨_, _, _, X, hF, eT, h1, h2⟩ := X
  subst hq
  exact go_st (fun t k => X.instanceofNull hx (g := mkF m pc L (.null :: st)) rfl rfl (hb hby hd) t k) r
theorem g_castNull (C : Cx p s m meth c Z own bytes ml rt mn) (X : St p l e R s m args below meth c n0 T h k n) {i : Nat} (hd : decode bytes pc = .ok (.checkcast i, 3)) (hq : pc + 3 = q) (r : Goes p e below G (T.setTop (mkF m q L (.null :: st)))) : Goes p e below G (T.setTop (mkF m pc L (.null :: st))) := by
  obtain ⟨hx, hZ, hown, hby, -⟩ := C
  obtain ⟨_, _, _, X, hF, eT, h1, h2⟩ := X
  subst hq
  exact go_st (fun t k => X.checkcastNull hx (g := mkF m pc L (.null :: st)) rfl rfl (hb hby hd) t k) r
theorem g_getClass (C : Cx p s m meth c Z own bytes ml rt mn) (X : St p l e R s m args below meth c n0 T h k n) {K : String} {i : Nat} {a mr : Addr} (w1 : (Cond.methodLink own i ⟨"java/lang/Object", "getClass", "()Ljava/lang/Class;"⟩).before a0 Z = true) (w2 : (Cond.declares ⟨"java/lang/Object", "getClass", "()Ljava/lang/Class;"⟩).before a0 Z = true) (w4 : (Cond.selects K ⟨"java/lang/Object", "getClass", "()Ljava/lang/Class;"⟩ ⟨"java/lang/Object", "getClass", "()Ljava/lang/Class;"⟩).before a0 Z = true)
    (w5 : (Cond.instanceMethod ⟨"java/lang/Object", "getClass", "()Ljava/lang/Class;"⟩).before a0 Z = true) (w6 : (Cond.native ⟨"java/lang/Object", "getClass", "()Ljava/lang/Class;"⟩).before a0 Z = true) (E : Exa Z h a K) (M : ∃ c k, Z.vm.findClass K = some c ∧ Z.vm.classes[c]? = some k ∧ k.mirror = some mr) (hsz : L.size = ml) (hd : decode bytes pc = .ok (.invokevirtual i, 3)) (hq : pc + 3 = q) (hf : 1 ≤ R.frames) (hl : (st.map fun v => v.category).sum + (nativeFrameWords "java/lang/Object" "getClass" 1 + 11) ≤ R.locals)
    (r : ∀ T', St p l e R s m args below meth c n0 T' h k n → Goes p e below G (T'.setTop (mkF m q L (.ref mr :: st)))) : Goes p e below G (T.setTop (mkF m pc L (.ref a :: st))) := by
  obtain ⟨hx, hZ, hown, hby, hml, -⟩ := C
  obtain ⟨_, _, _, X, hF, eT, h1, h2⟩ := X
  subst hq
  obtain ⟨cB, kB, i1, i2, i3⟩ := isOf hZ eT E
  obtain ⟨cc, kc, m1, m2, m3⟩ := M
  rw [hZ.alike.findClass] at i1
  cases i1.symm.trans m1
  obtain ⟨k', q, ek⟩ := hZ.alike.2.2 _ _ m2
  obtain ⟨vm', X', st'⟩ := X.getClassOf hx hown (mvT hZ w1) (mvT hZ w2) (notFace_of_selects (args := #[]) (mvT hZ w4)) (mvT hZ w4) (mvT hZ w5) (mvT hZ w6) (by rw [hZ.alike.findClass]; exact m1) i3 q (by rw [ek]; exact m3) (g := mkF m pc L (.ref a :: st)) rfl (hsz.trans hml.symm) rfl (hb hby hd) hf (by show 2 * 0 + _ + _ ≤ _; omega)
  exact go_st st' (r _ ⟨_, _, _, X', hF, eT, h1, h2⟩)
theorem g_callSb (C : Cx p s m meth c Z own bytes ml rt mn) (X : St p l e R s m args below meth c n0 T h k n) {as' : Array Value} {argsL : List Value} {ps : List FieldType} {rt' : Option FieldType} {k' n' W kc ks : Nat} {QL : Option Value → Heap → List Loc → Prop} {y : MethodName} {i : Nat} (hy : y.cls ≠ "java/lang/invoke/MethodHandle" ∧ y.cls ≠ "java/lang/invoke/VarHandle") (w1 : (Cond.methodLink own i y).before a0 Z = true) (w2 : (Cond.static y).before a0 Z = true) {bts : ByteArray} {mxl : Nat} {rty : Option FieldType} (w8 : (Cond.code y bts mxl rty).before a0 Z = true) (w9 : (Cond.initialized y.cls).before a0 Z = true) (bk : Back l R p e below s args y 3 W (fun A a => a = as' ∧ A.U.heap = h ∧ A.cells + kc ≤ R.cells ∧ A.slots + ks ≤ R.slots) (fun A _ v B => ∃ L, QL v B.U.heap L ∧ B.locs = A.locs ++ L ∧ B.cells = A.cells + kc ∧ B.slots = A.slots + ks)) (hk : k + kc = k') (hn : n + ks = n') (hkR : k' ≤ R.cells) (hnR : n' ≤ R.slots) (hsz : L.size = ml) (hdd : parseMethodDescriptor y.desc = some ⟨ps, rt'⟩) (hlen : argsL.length = ps.length) (hst : st = argsL.reverse ++ rest) (has : argsL.toArray = as') (hW : (rest.map fun v => v.category).sum = W) (hd : decode bytes pc = .ok (.invokestatic i, 3)) (hq : pc + 3 = q)
    (r : ∀ v T' h' L', St p l e R s m args below meth c n0 T' h' k' n' ∨ ¬ Fr n0 L' → QL v h' L' → Goes p e below G (T'.setTop (mkF m q L (v.toList ++ rest)))) : Goes p e below G (T.setTop (mkF m pc L st)) := by
  obtain ⟨hx, hZ, hown, hby, hml, -⟩ := C
  obtain ⟨_, cells, slots, X, hF, eT, h1, h2⟩ := X
  subst hq hk hn has hst hW
  obtain ⟨_, _, ⟨T', Lo, kk, nn⟩, -, X', ⟨Lc, hQ, q1, q2, q3⟩, st'⟩ := Jvm.LawKit.callS X hx hown (mvT hZ w1) (mvT hZ w2) (mvT hZ w9) (mvT hZ w8) hy bk (g := mkF m pc L (argsL.reverse ++ rest)) rfl (hsz.trans hml.symm) (argsL := argsL) (rest := rest) (lenOf hdd hlen) rfl (by show 2 * 0 + _ ≤ _; omega) (hb hby hd) (fun _ _ => ⟨rfl, eT, Nat.le_trans (Nat.add_le_add_right h1 _) hkR, Nat.le_trans (Nat.add_le_add_right h2 _) hnR⟩)
  dsimp only [Pt.U, Pt.locs, Pt.cells, Pt.slots] at X' q1 q2 q3 st' hQ
  subst q1 q2 q3
  refine go_st st' (r _ T' _ Lc ?_ hQ)
  by_cases hFr : Fr n0 Lc
  · exact Or.inl ⟨_, _, _, X', Fr.app hF hFr, rfl, Nat.add_le_add_right h1 _, Nat.add_le_add_right h2 _⟩
  · exact Or.inr hFr
theorem g_callS1 (C : Cx p s m meth c Z own bytes ml rt mn) (X : St p l e R s m args below meth c n0 T h k n) {rm : Room} {as' : Array Value} {bts : ByteArray} {mxl : Nat} {rty : Option FieldType} {argsL : List Value} {ps : List FieldType} {rt' : Option FieldType} {k' n' W : Nat} {Q : Value → Heap → Prop} {y : MethodName} {i : Nat} (hy : y.cls ≠ "java/lang/invoke/MethodHandle" ∧ y.cls ≠ "java/lang/invoke/VarHandle") (w1 : (Cond.methodLink own i y).before a0 Z = true) (w2 : (Cond.static y).before a0 Z = true) (w8 : (Cond.code y bts mxl rty).before a0 Z = true) (w9 : (Cond.initialized y.cls).before a0 Z = true) (hM : Met1 l Z y bts mxl rty rm as' h n0 Q) (hf : rm.frames + 1 ≤ R.frames) (hl : W + (mxl + 11) + rm.locals ≤ R.locals) (hk : k + rm.cells = k') (hn : n + rm.slots = n') (hkR : k' ≤ R.cells) (hnR : n' ≤ R.slots) (hsz : L.size = ml) (hdd : parseMethodDescriptor y.desc = some ⟨ps, rt'⟩) (hlen : argsL.length = ps.length) (hst : st = argsL.reverse ++ rest) (has : argsL.toArray = as') (hW : (rest.map fun v => v.category).sum = W) (hd : decode bytes pc = .ok (.invokestatic i, 3)) (hq : pc + 3 = q)
    (r : ∀ w T' h', St p l e R s m args below meth c n0 T' h' k' n' → Q w h' → Goes p e below G (T'.setTop (mkF m q L (w :: rest)))) : Goes p e below G (T.setTop (mkF m pc L st)) := by
  have bk := backOf (Q := fun v h L => Fr n0 L ∧ (∃ w, v = some w ∧ Q w h)) (R := R) (p := p) (e := e) (below := below) (s := s) (args := args) (len := 3) (W := W) (hM []) C.2.1 w8 w9 hf hl
  refine g_callSb C X (QL := fun v h L => Fr n0 L ∧ (∃ w, v = some w ∧ Q w h)) hy w1 w2 w8 w9 bk hk hn hkR hnR hsz hdd hlen hst has hW hd hq ?_
  rintro v T' h' L' hX ⟨hFr, hQ⟩
  obtain ⟨w, rfl, hQ⟩ := hQ
  exact r w T' h' (hX.resolve_right fun z => z hFr) hQ
theorem g_callS0 (C : Cx p s m meth c Z own bytes ml rt mn) (X : St p l e R s m args below meth c n0 T h k n) {rm : Room} {as' : Array Value} {bts : ByteArray} {mxl : Nat} {rty : Option FieldType} {argsL : List Value} {ps : List FieldType} {rt' : Option FieldType} {k' n' W : Nat} {Q : Heap → Prop} {y : MethodName} {i : Nat} (hy : y.cls ≠ "java/lang/invoke/MethodHandle" ∧ y.cls ≠ "java/lang/invoke/VarHandle") (w1 : (Cond.methodLink own i y).before a0 Z = true) (w2 : (Cond.static y).before a0 Z = true) (w8 : (Cond.code y bts mxl rty).before a0 Z = true) (w9 : (Cond.initialized y.cls).before a0 Z = true) (hM : Met0 l Z y bts mxl rty rm as' h n0 Q) (hf : rm.frames + 1 ≤ R.frames) (hl : W + (mxl + 11) + rm.locals ≤ R.locals) (hk : k + rm.cells = k') (hn : n + rm.slots = n') (hkR : k' ≤ R.cells) (hnR : n' ≤ R.slots) (hsz : L.size = ml) (hdd : parseMethodDescriptor y.desc = some ⟨ps, rt'⟩) (hlen : argsL.length = ps.length) (hst : st = argsL.reverse ++ rest) (has : argsL.toArray = as') (hW : (rest.map fun v => v.category).sum = W) (hd : decode bytes pc = .ok (.invokestatic i, 3)) (hq : pc + 3 = q)
    (r : ∀ T' h', St p l e R s m args below meth c n0 T' h' k' n' → Q h' → Goes p e below G (T'.setTop (mkF m q L rest))) : Goes p e below G (T.setTop (mkF m pc L st)) := by
  have bk := backOf (Q := fun v h L => Fr n0 L ∧ (v = none ∧ Q h)) (R := R) (p := p) (e := e) (below := below) (s := s) (args := args) (len := 3) (W := W) (hM []) C.2.1 w8 w9 hf hl
  refine g_callSb C X (QL := fun v h L => Fr n0 L ∧ (v = none ∧ Q h)) hy w1 w2 w8 w9 bk hk hn hkR hnR hsz hdd hlen hst has hW hd hq ?_
  rintro v T' h' L' hX ⟨hFr, hQ⟩
  obtain ⟨rfl, hQ⟩ := hQ
  exact r T' h' (hX.resolve_right fun z => z hFr) hQ
theorem g_callIb (C : Cx p s m meth c Z own bytes ml rt mn) (X : St p l e R s m args below meth c n0 T h k n) {as' : Array Value} {argsL : List Value} {ps : List FieldType} {rt' : Option FieldType} {k' n' W kc ks : Nat} {QL : Option Value → Heap → List Loc → Prop} {y : MethodName} {i : Nat} {a : Addr} (hy : y.cls ≠ "java/lang/invoke/MethodHandle" ∧ y.cls ≠ "java/lang/invoke/VarHandle") (hy1 : y.name = "<init>") (w1 : (Cond.methodLink own i y).before a0 Z = true) (w2 : (Cond.instanceMethod y).before a0 Z = true) {bts : ByteArray} {mxl : Nat} (w8 : (Cond.code y bts mxl none).before a0 Z = true) (bk : Back l R p e below s args y 3 W (fun A a => a = as' ∧ A.U.heap = h ∧ A.cells + kc ≤ R.cells ∧ A.slots + ks ≤ R.slots) (fun A _ v B => ∃ L, QL v B.U.heap L ∧ B.locs = A.locs ++ L ∧ B.cells = A.cells + kc ∧ B.slots = A.slots + ks)) (hk : k + kc = k') (hn : n + ks = n') (hkR : k' ≤ R.cells) (hnR : n' ≤ R.slots) (hsz : L.size = ml) (hdd : parseMethodDescriptor y.desc = some ⟨ps, rt'⟩) (hlen : argsL.length = ps.length) (hst : st = argsL.reverse ++ .ref a :: rest) (has : (.ref a :: argsL).toArray = as') (hW : (rest.map fun v => v.category).sum = W) (hd : decode bytes pc = .ok (.invokespecial i, 3)) (hq : pc + 3 = q)
    (r : ∀ v T' h' L', St p l e R s m args below meth c n0 T' h' k' n' ∨ ¬ Fr n0 L' → QL v h' L' → Goes p e below G (T'.setTop (mkF m q L (v.toList ++ rest)))) : Goes p e below G (T.setTop (mkF m pc L st)) := by
  obtain ⟨hx, hZ, hown, hby, hml, -⟩ := C
  obtain ⟨_, cells, slots, X, hF, eT, h1, h2⟩ := X
  subst hq hk hn has hst hW
  obtain ⟨_, _, ⟨T', Lo, kk, nn⟩, -, X', ⟨Lc, hQ, q1, q2, q3⟩, st'⟩ := X.specialBack hx hy1 hown (mvT hZ w1) (mvT hZ w2) (mvT hZ w8) hy bk (g := mkF m pc L (argsL.reverse ++ .ref a :: rest)) rfl (hsz.trans hml.symm) (Steps.refl _) (a := a) (argsL := argsL) (rest := rest) (lenOf hdd hlen) rfl (by show 2 * 0 + _ ≤ _; omega) (hb hby hd) (fun _ _ => ⟨rfl, eT, Nat.le_trans (Nat.add_le_add_right h1 _) hkR, Nat.le_trans (Nat.add_le_add_right h2 _) hnR⟩)
  dsimp only [Pt.U, Pt.locs, Pt.cells, Pt.slots] at X' q1 q2 q3 st' hQ
  subst q1 q2 q3
  refine go_tr st' (r _ T' _ Lc ?_ hQ)
  by_cases hFr : Fr n0 Lc
  · exact Or.inl ⟨_, _, _, X', Fr.app hF hFr, rfl, Nat.add_le_add_right h1 _, Nat.add_le_add_right h2 _⟩
  · exact Or.inr hFr
theorem g_callI0 (C : Cx p s m meth c Z own bytes ml rt mn) (X : St p l e R s m args below meth c n0 T h k n) {rm : Room} {as' : Array Value} {bts : ByteArray} {mxl : Nat} {argsL : List Value} {ps : List FieldType} {rt' : Option FieldType} {k' n' W : Nat} {Q : Heap → Prop} {y : MethodName} {i : Nat} {a : Addr} (hy : y.cls ≠ "java/lang/invoke/MethodHandle" ∧ y.cls ≠ "java/lang/invoke/VarHandle") (hy1 : y.name = "<init>") (w1 : (Cond.methodLink own i y).before a0 Z = true) (w2 : (Cond.instanceMethod y).before a0 Z = true) (w8 : (Cond.code y bts mxl none).before a0 Z = true) (w9 : (Cond.initialized y.cls).before a0 Z = true) (hM : Met0 l Z y bts mxl none rm as' h n0 Q) (hf : rm.frames + 1 ≤ R.frames) (hl : W + (mxl + 11) + rm.locals ≤ R.locals) (hk : k + rm.cells = k') (hn : n + rm.slots = n') (hkR : k' ≤ R.cells) (hnR : n' ≤ R.slots) (hsz : L.size = ml) (hdd : parseMethodDescriptor y.desc = some ⟨ps, rt'⟩) (hlen : argsL.length = ps.length) (hst : st = argsL.reverse ++ .ref a :: rest) (has : (.ref a :: argsL).toArray = as') (hW : (rest.map fun v => v.category).sum = W) (hd : decode bytes pc = .ok (.invokespecial i, 3)) (hq : pc + 3 = q)
    (r : ∀ T' h', St p l e R s m args below meth c n0 T' h' k' n' → Q h' → Goes p e below G (T'.setTop (mkF m q L rest))) : Goes p e below G (T.setTop (mkF m pc L st)) := by
  have bk := backOf (Q := fun v h L => Fr n0 L ∧ (v = none ∧ Q h)) (R := R) (p := p) (e := e) (below := below) (s := s) (args := args) (len := 3) (W := W) (hM []) C.2.1 w8 w9 hf hl
  refine g_callIb C X (QL := fun v h L => Fr n0 L ∧ (v = none ∧ Q h)) hy hy1 w1 w2 w8 bk hk hn hkR hnR hsz hdd hlen hst has hW hd hq ?_
  rintro v T' h' L' hX ⟨hFr, hQ⟩
  obtain ⟨rfl, hQ⟩ := hQ
  exact r T' h' (hX.resolve_right fun z => z hFr) hQ
theorem g_callVb (C : Cx p s m meth c Z own bytes ml rt mn) (X : St p l e R s m args below meth c n0 T h k n) {as' : Array Value} {argsL : List Value} {ps : List FieldType} {rt' : Option FieldType} {k' n' W kc ks : Nat} {QL : Option Value → Heap → List Loc → Prop} {y z : MethodName} {i : Nat} {a : Addr} {K : String} (hy : y.cls ≠ "java/lang/invoke/MethodHandle" ∧ y.cls ≠ "java/lang/invoke/VarHandle") (w1 : (Cond.methodLink own i y).before a0 Z = true) (w2 : (Cond.declares y).before a0 Z = true) (w3 : (Cond.selects K y z).before a0 Z = true) (w4 : (Cond.instanceMethod z).before a0 Z = true) (hnf : ∀ s' : State, Z.Warmed39 s'.vm → NotFace s' y) (E : Exa Z h a K) (bk : Back l R p e below s args z 3 W (fun A a => a = as' ∧ A.U.heap = h ∧ A.cells + kc ≤ R.cells ∧ A.slots + ks ≤ R.slots) (fun A _ v B => ∃ L, QL v B.U.heap L ∧ B.locs = A.locs ++ L ∧ B.cells = A.cells + kc ∧ B.slots = A.slots + ks)) (hk : k + kc = k') (hn : n + ks = n') (hkR : k' ≤ R.cells) (hnR : n' ≤ R.slots) (hsz : L.size = ml) (hdd : parseMethodDescriptor y.desc = some ⟨ps, rt'⟩) (hlen : argsL.length = ps.length) (hst : st = argsL.reverse ++ .ref a :: rest) (has : (.ref a :: argsL).toArray = as') (hW : (rest.map fun v => v.category).sum = W) (hd : decode bytes pc = .ok (.invokevirtual i, 3)) (hq : pc + 3 = q)
    (r : ∀ v T' h' L', St p l e R s m args below meth c n0 T' h' k' n' ∨ ¬ Fr n0 L' → QL v h' L' → Goes p e below G (T'.setTop (mkF m q L (v.toList ++ rest)))) : Goes p e below G (T.setTop (mkF m pc L st)) := by
  obtain ⟨hx, hZ, hown, hby, hml, -⟩ := C
  obtain ⟨_, cells, slots, X, hF, eT, h1, h2⟩ := X
  subst hq hk hn has hst hW
  obtain ⟨cB, kB, qa, qb, qc⟩ := isOf hZ eT E
  obtain ⟨_, _, ⟨T', Lo, kk, nn⟩, -, X', ⟨Lc, hQ, q1, q2, q3⟩, st'⟩ := X.virtualBack hx hown (mvT hZ w1) (mvT hZ w2) (hnf s hZ) (mvT hZ w3) (mvT hZ w4) hy bk qa qc (g := mkF m pc L (argsL.reverse ++ .ref a :: rest)) rfl (hsz.trans hml.symm) (Steps.refl _) (argsL := argsL) (rest := rest) (lenOf hdd hlen) rfl (by show 2 * 0 + _ ≤ _; omega) (hb hby hd) (fun _ _ => ⟨rfl, eT, Nat.le_trans (Nat.add_le_add_right h1 _) hkR, Nat.le_trans (Nat.add_le_add_right h2 _) hnR⟩)
  dsimp only [Pt.U, Pt.locs, Pt.cells, Pt.slots] at X' q1 q2 q3 st' hQ
  subst q1 q2 q3
  refine go_tr st' (r _ T' _ Lc ?_ hQ)
  by_cases hFr : Fr n0 Lc
  · exact Or.inl ⟨_, _, _, X', Fr.app hF hFr, rfl, Nat.add_le_add_right h1 _, Nat.add_le_add_right h2 _⟩
  · exact Or.inr hFr
theorem g_callV1 (C : Cx p s m meth c Z own bytes ml rt mn) (X : St p l e R s m args below meth c n0 T h k n) {rm : Room} {as' : Array Value} {bts : ByteArray} {mxl : Nat} {rty : Option FieldType} {argsL : List Value} {ps : List FieldType} {rt' : Option FieldType} {k' n' W : Nat} {Q : Value → Heap → Prop} {y z : MethodName} {i : Nat} {a : Addr} {K : String} (hy : y.cls ≠ "java/lang/invoke/MethodHandle" ∧ y.cls ≠ "java/lang/invoke/VarHandle") (w1 : (Cond.methodLink own i y).before a0 Z = true) (w2 : (Cond.declares y).before a0 Z = true) (w3 : (Cond.selects K y z).before a0 Z = true) (w4 : (Cond.instanceMethod z).before a0 Z = true) (hnf : ∀ s' : State, Z.Warmed39 s'.vm → NotFace s' y) (E : Exa Z h a K) (w8 : (Cond.code z bts mxl rty).before a0 Z = true) (w9 : (Cond.initialized z.cls).before a0 Z = true) (hM : Met1 l Z z bts mxl rty rm as' h n0 Q) (hf : rm.frames + 1 ≤ R.frames) (hl : W + (mxl + 11) + rm.locals ≤ R.locals) (hk : k + rm.cells = k') (hn : n + rm.slots = n') (hkR : k' ≤ R.cells) (hnR : n' ≤ R.slots) (hsz : L.size = ml) (hdd : parseMethodDescriptor y.desc = some ⟨ps, rt'⟩) (hlen : argsL.length = ps.length) (hst : st = argsL.reverse ++ .ref a :: rest) (has : (.ref a :: argsL).toArray = as') (hW : (rest.map fun v => v.category).sum = W) (hd : decode bytes pc = .ok (.invokevirtual i, 3)) (hq : pc + 3 = q)
    (r : ∀ w T' h', St p l e R s m args below meth c n0 T' h' k' n' → Q w h' → Goes p e below G (T'.setTop (mkF m q L (w :: rest)))) : Goes p e below G (T.setTop (mkF m pc L st)) := by
  have bk := backOf (Q := fun v h L => Fr n0 L ∧ (∃ w, v = some w ∧ Q w h)) (R := R) (p := p) (e := e) (below := below) (s := s) (args := args) (len := 3) (W := W) (hM []) C.2.1 w8 w9 hf hl
  refine g_callVb C X (QL := fun v h L => Fr n0 L ∧ (∃ w, v = some w ∧ Q w h)) hy w1 w2 w3 w4 hnf E bk hk hn hkR hnR hsz hdd hlen hst has hW hd hq ?_
  rintro v T' h' L' hX ⟨hFr, hQ⟩
  obtain ⟨w, rfl, hQ⟩ := hQ
  exact r w T' h' (hX.resolve_right fun z => z hFr) hQ
theorem g_callV0 (C : Cx p s m meth c Z own bytes ml rt mn) (X : St p l e R s m args below meth c n0 T h k n) {rm : Room} {as' : Array Value} {bts : ByteArray} {mxl : Nat} {rty : Option FieldType} {argsL : List Value} {ps : List FieldType} {rt' : Option FieldType} {k' n' W : Nat} {Q : Heap → Prop} {y z : MethodName} {i : Nat} {a : Addr} {K : String} (hy : y.cls ≠ "java/lang/invoke/MethodHandle" ∧ y.cls ≠ "java/lang/invoke/VarHandle") (w1 : (Cond.methodLink own i y).before a0 Z = true) (w2 : (Cond.declares y).before a0 Z = true) (w3 : (Cond.selects K y z).before a0 Z = true) (w4 : (Cond.instanceMethod z).before a0 Z = true) (hnf : ∀ s' : State, Z.Warmed39 s'.vm → NotFace s' y) (E : Exa Z h a K) (w8 : (Cond.code z bts mxl rty).before a0 Z = true) (w9 : (Cond.initialized z.cls).before a0 Z = true) (hM : Met0 l Z z bts mxl rty rm as' h n0 Q) (hf : rm.frames + 1 ≤ R.frames) (hl : W + (mxl + 11) + rm.locals ≤ R.locals) (hk : k + rm.cells = k') (hn : n + rm.slots = n') (hkR : k' ≤ R.cells) (hnR : n' ≤ R.slots) (hsz : L.size = ml) (hdd : parseMethodDescriptor y.desc = some ⟨ps, rt'⟩) (hlen : argsL.length = ps.length) (hst : st = argsL.reverse ++ .ref a :: rest) (has : (.ref a :: argsL).toArray = as') (hW : (rest.map fun v => v.category).sum = W) (hd : decode bytes pc = .ok (.invokevirtual i, 3)) (hq : pc + 3 = q)
    (r : ∀ T' h', St p l e R s m args below meth c n0 T' h' k' n' → Q h' → Goes p e below G (T'.setTop (mkF m q L rest))) : Goes p e below G (T.setTop (mkF m pc L st)) := by
  have bk := backOf (Q := fun v h L => Fr n0 L ∧ (v = none ∧ Q h)) (R := R) (p := p) (e := e) (below := below) (s := s) (args := args) (len := 3) (W := W) (hM []) C.2.1 w8 w9 hf hl
  refine g_callVb C X (QL := fun v h L => Fr n0 L ∧ (v = none ∧ Q h)) hy w1 w2 w3 w4 hnf E bk hk hn hkR hnR hsz hdd hlen hst has hW hd hq ?_
  rintro v T' h' L' hX ⟨hFr, hQ⟩
  obtain ⟨rfl, hQ⟩ := hQ
  exact r T' h' (hX.resolve_right fun z => z hFr) hQ
theorem g_callUb (C : Cx p s m meth c Z own bytes ml rt mn) (X : St p l e R s m args below meth c n0 T h k n) {as' : Array Value} {argsL : List Value} {ps : List FieldType} {rt' : Option FieldType} {k' n' W kc ks : Nat} {QL : Option Value → Heap → List Loc → Prop} {y z : MethodName} {i : Nat} {a : Addr} {K owner : String} (hy : owner ≠ "java/lang/invoke/MethodHandle" ∧ owner ≠ "java/lang/invoke/VarHandle") (w1 : (Cond.methodLink own i y).before a0 Z = true) (w2 : (Cond.sameMethod y.cls owner y.name y.desc).before a0 Z = true) (w2' : (Cond.declares ⟨owner, y.name, y.desc⟩).before a0 Z = true) (w3 : (Cond.selects K y z).before a0 Z = true) (w4 : (Cond.instanceMethod z).before a0 Z = true) (E : Exa Z h a K) (bk : Back l R p e below s args z 3 W (fun A a => a = as' ∧ A.U.heap = h ∧ A.cells + kc ≤ R.cells ∧ A.slots + ks ≤ R.slots) (fun A _ v B => ∃ L, QL v B.U.heap L ∧ B.locs = A.locs ++ L ∧ B.cells = A.cells + kc ∧ B.slots = A.slots + ks)) (hk : k + kc = k') (hn : n + ks = n') (hkR : k' ≤ R.cells) (hnR : n' ≤ R.slots) (hsz : L.size = ml) (hdd : parseMethodDescriptor y.desc = some ⟨ps, rt'⟩) (hlen : argsL.length = ps.length) (hst : st = argsL.reverse ++ .ref a :: rest) (has : (.ref a :: argsL).toArray = as') (hW : (rest.map fun v => v.category).sum = W) (hd : decode bytes pc = .ok (.invokevirtual i, 3)) (hq : pc + 3 = q)
    (r : ∀ v T' h' L', St p l e R s m args below meth c n0 T' h' k' n' ∨ ¬ Fr n0 L' → QL v h' L' → Goes p e below G (T'.setTop (mkF m q L (v.toList ++ rest)))) : Goes p e below G (T.setTop (mkF m pc L st)) := by
  obtain ⟨hx, hZ, hown, hby, hml, -⟩ := C
  obtain ⟨_, cells, slots, X, hF, eT, h1, h2⟩ := X
  subst hq hk hn has hst hW
  obtain ⟨cB, kB, qa, qb, qc⟩ := isOf hZ eT E
  obtain ⟨_, _, ⟨T', Lo, kk, nn⟩, -, X', ⟨Lc, hQ, q1, q2, q3⟩, st'⟩ := X.virtualBackUp hx hown (mvT hZ w1) (mvT hZ w2) (mvT hZ w2') hy (mvT hZ w3) (mvT hZ w4) bk qa qc (g := mkF m pc L (argsL.reverse ++ .ref a :: rest)) rfl (hsz.trans hml.symm) (Steps.refl _) (argsL := argsL) (rest := rest) (lenOf hdd hlen) rfl (by show 2 * 0 + _ ≤ _; omega) (hb hby hd) (fun _ _ => ⟨rfl, eT, Nat.le_trans (Nat.add_le_add_right h1 _) hkR, Nat.le_trans (Nat.add_le_add_right h2 _) hnR⟩)
  dsimp only [Pt.U, Pt.locs, Pt.cells, Pt.slots] at X' q1 q2 q3 st' hQ
  subst q1 q2 q3
  refine go_tr st' (r _ T' _ Lc ?_ hQ)
  by_cases hFr : Fr n0 Lc
  · exact Or.inl ⟨_, _, _, X', Fr.app hF hFr, rfl, Nat.add_le_add_right h1 _, Nat.add_le_add_right h2 _⟩
  · exact Or.inr hFr
theorem g_callU1 (C : Cx p s m meth c Z own bytes ml rt mn) (X : St p l e R s m args below meth c n0 T h k n) {rm : Room} {as' : Array Value} {bts : ByteArray} {mxl : Nat} {rty : Option FieldType} {argsL : List Value} {ps : List FieldType} {rt' : Option FieldType} {k' n' W : Nat} {Q : Value → Heap → Prop} {y z : MethodName} {i : Nat} {a : Addr} {K owner : String} (hy : owner ≠ "java/lang/invoke/MethodHandle" ∧ owner ≠ "java/lang/invoke/VarHandle") (w1 : (Cond.methodLink own i y).before a0 Z = true) (w2 : (Cond.sameMethod y.cls owner y.name y.desc).before a0 Z = true) (w2' : (Cond.declares ⟨owner, y.name, y.desc⟩).before a0 Z = true) (w3 : (Cond.selects K y z).before a0 Z = true) (w4 : (Cond.instanceMethod z).before a0 Z = true) (E : Exa Z h a K) (w8 : (Cond.code z bts mxl rty).before a0 Z = true) (w9 : (Cond.initialized z.cls).before a0 Z = true) (hM : Met1 l Z z bts mxl rty rm as' h n0 Q) (hf : rm.frames + 1 ≤ R.frames) (hl : W + (mxl + 11) + rm.locals ≤ R.locals) (hk : k + rm.cells = k') (hn : n + rm.slots = n') (hkR : k' ≤ R.cells) (hnR : n' ≤ R.slots) (hsz : L.size = ml) (hdd : parseMethodDescriptor y.desc = some ⟨ps, rt'⟩) (hlen : argsL.length = ps.length) (hst : st = argsL.reverse ++ .ref a :: rest) (has : (.ref a :: argsL).toArray = as') (hW : (rest.map fun v => v.category).sum = W) (hd : decode bytes pc = .ok (.invokevirtual i, 3)) (hq : pc + 3 = q)
    (r : ∀ w T' h', St p l e R s m args below meth c n0 T' h' k' n' → Q w h' → Goes p e below G (T'.setTop (mkF m q L (w :: rest)))) : Goes p e below G (T.setTop (mkF m pc L st)) := by
  have bk := backOf (Q := fun v h L => Fr n0 L ∧ (∃ w, v = some w ∧ Q w h)) (R := R) (p := p) (e := e) (below := below) (s := s) (args := args) (len := 3) (W := W) (hM []) C.2.1 w8 w9 hf hl
  refine g_callUb C X (QL := fun v h L => Fr n0 L ∧ (∃ w, v = some w ∧ Q w h)) hy w1 w2 w2' w3 w4 E bk hk hn hkR hnR hsz hdd hlen hst has hW hd hq ?_
  rintro v T' h' L' hX ⟨hFr, hQ⟩
  obtain ⟨w, rfl, hQ⟩ := hQ
  exact r w T' h' (hX.resolve_right fun z => z hFr) hQ
theorem g_callU0 (C : Cx p s m meth c Z own bytes ml rt mn) (X : St p l e R s m args below meth c n0 T h k n) {rm : Room} {as' : Array Value} {bts : ByteArray} {mxl : Nat} {rty : Option FieldType} {argsL : List Value} {ps : List FieldType} {rt' : Option FieldType} {k' n' W : Nat} {Q : Heap → Prop} {y z : MethodName} {i : Nat} {a : Addr} {K owner : String} (hy : owner ≠ "java/lang/invoke/MethodHandle" ∧ owner ≠ "java/lang/invoke/VarHandle") (w1 : (Cond.methodLink own i y).before a0 Z = true) (w2 : (Cond.sameMethod y.cls owner y.name y.desc).before a0 Z = true) (w2' : (Cond.declares ⟨owner, y.name, y.desc⟩).before a0 Z = true) (w3 : (Cond.selects K y z).before a0 Z = true) (w4 : (Cond.instanceMethod z).before a0 Z = true) (E : Exa Z h a K) (w8 : (Cond.code z bts mxl rty).before a0 Z = true) (w9 : (Cond.initialized z.cls).before a0 Z = true) (hM : Met0 l Z z bts mxl rty rm as' h n0 Q) (hf : rm.frames + 1 ≤ R.frames) (hl : W + (mxl + 11) + rm.locals ≤ R.locals) (hk : k + rm.cells = k') (hn : n + rm.slots = n') (hkR : k' ≤ R.cells) (hnR : n' ≤ R.slots) (hsz : L.size = ml) (hdd : parseMethodDescriptor y.desc = some ⟨ps, rt'⟩) (hlen : argsL.length = ps.length) (hst : st = argsL.reverse ++ .ref a :: rest) (has : (.ref a :: argsL).toArray = as') (hW : (rest.map fun v => v.category).sum = W) (hd : decode bytes pc = .ok (.invokevirtual i, 3)) (hq : pc + 3 = q)
    (r : ∀ T' h', St p l e R s m args below meth c n0 T' h' k' n' → Q h' → Goes p e below G (T'.setTop (mkF m q L rest))) : Goes p e below G (T.setTop (mkF m pc L st)) := by
  have bk := backOf (Q := fun v h L => Fr n0 L ∧ (v = none ∧ Q h)) (R := R) (p := p) (e := e) (below := below) (s := s) (args := args) (len := 3) (W := W) (hM []) C.2.1 w8 w9 hf hl
  refine g_callUb C X (QL := fun v h L => Fr n0 L ∧ (v = none ∧ Q h)) hy w1 w2 w2' w3 w4 E bk hk hn hkR hnR hsz hdd hlen hst has hW hd hq ?_
  rintro v T' h' L' hX ⟨hFr, hQ⟩
  obtain ⟨rfl, hQ⟩ := hQ
  exact r T' h' (hX.resolve_right fun z => z hFr) hQ
theorem g_callPb (C : Cx p s m meth c Z own bytes ml rt mn) (X : St p l e R s m args below meth c n0 T h k n) {as' : Array Value} {argsL : List Value} {ps : List FieldType} {rt' : Option FieldType} {k' n' W kc ks : Nat} {QL : Option Value → Heap → List Loc → Prop} {y : MethodName} {i : Nat} {a : Addr} {K : String} (hy : y.cls ≠ "java/lang/invoke/MethodHandle" ∧ y.cls ≠ "java/lang/invoke/VarHandle") (w1 : (Cond.methodLink own i y).before a0 Z = true) (w3 : (Cond.selects y.cls y y).before a0 Z = true) (w4 : (Cond.instanceMethod y).before a0 Z = true) (w5 : (Cond.privateMethod y).before a0 Z = true) (E : Exa Z h a K) {bts : ByteArray} {mxl : Nat} {rty : Option FieldType} (w8 : (Cond.code y bts mxl rty).before a0 Z = true) (bk : Back l R p e below s args y 3 W (fun A a => a = as' ∧ A.U.heap = h ∧ A.cells + kc ≤ R.cells ∧ A.slots + ks ≤ R.slots) (fun A _ v B => ∃ L, QL v B.U.heap L ∧ B.locs = A.locs ++ L ∧ B.cells = A.cells + kc ∧ B.slots = A.slots + ks)) (hk : k + kc = k') (hn : n + ks = n') (hkR : k' ≤ R.cells) (hnR : n' ≤ R.slots) (hsz : L.size = ml) (hdd : parseMethodDescriptor y.desc = some ⟨ps, rt'⟩) (hlen : argsL.length = ps.length) (hst : st = argsL.reverse ++ .ref a :: rest) (has : (.ref a :: argsL).toArray = as') (hW : (rest.map fun v => v.category).sum = W) (hd : decode bytes pc = .ok (.invokevirtual i, 3)) (hq : pc + 3 = q)
    (r : ∀ v T' h' L', St p l e R s m args below meth c n0 T' h' k' n' ∨ ¬ Fr n0 L' → QL v h' L' → Goes p e below G (T'.setTop (mkF m q L (v.toList ++ rest)))) : Goes p e below G (T.setTop (mkF m pc L st)) := by
  obtain ⟨hx, hZ, hown, hby, hml, -⟩ := C
  obtain ⟨_, cells, slots, X, hF, eT, h1, h2⟩ := X
  subst hq hk hn has hst hW
  obtain ⟨cq, qa, qb⟩ := E.cell
  obtain ⟨_, _, ⟨T', Lo, kk, nn⟩, -, X', ⟨Lc, hQ, q1, q2, q3⟩, st'⟩ := X.privateBack hx hown (mvT hZ w1) (mvT hZ w4) (mvT hZ w3) (Cond.privateMethod_at (mvP hZ w5 (args := #[]))) (mvT hZ w8) hy bk (g := mkF m pc L (argsL.reverse ++ .ref a :: rest)) rfl (hsz.trans hml.symm) (Steps.refl _) (a := a) (by rw [eT]; exact qa) qb (argsL := argsL) (rest := rest) (lenOf hdd hlen) rfl (by show 2 * 0 + _ ≤ _; omega) (hb hby hd) (fun _ _ => ⟨rfl, eT, Nat.le_trans (Nat.add_le_add_right h1 _) hkR, Nat.le_trans (Nat.add_le_add_right h2 _) hnR⟩)
  dsimp only [Pt.U, Pt.locs, Pt.cells, Pt.slots] at X' q1 q2 q3 st' hQ
  subst q1 q2 q3
  refine go_tr st' (r _ T' _ Lc ?_ hQ)
  by_cases hFr : Fr n0 Lc
  · exact Or.inl ⟨_, _, _, X', Fr.app hF hFr, rfl, Nat.add_le_add_right h1 _, Nat.add_le_add_right h2 _⟩
  · exact Or.inr hFr
theorem g_callP1 (C : Cx p s m meth c Z own bytes ml rt mn) (X : St p l e R s m args below meth c n0 T h k n) {rm : Room} {as' : Array Value} {bts : ByteArray} {mxl : Nat} {rty : Option FieldType} {argsL : List Value} {ps : List FieldType} {rt' : Option FieldType} {k' n' W : Nat} {Q : Value → Heap → Prop} {y : MethodName} {i : Nat} {a : Addr} {K : String} (hy : y.cls ≠ "java/lang/invoke/MethodHandle" ∧ y.cls ≠ "java/lang/invoke/VarHandle") (w1 : (Cond.methodLink own i y).before a0 Z = true) (w3 : (Cond.selects y.cls y y).before a0 Z = true) (w4 : (Cond.instanceMethod y).before a0 Z = true) (w5 : (Cond.privateMethod y).before a0 Z = true) (E : Exa Z h a K) (w8 : (Cond.code y bts mxl rty).before a0 Z = true) (w9 : (Cond.initialized y.cls).before a0 Z = true) (hM : Met1 l Z y bts mxl rty rm as' h n0 Q) (hf : rm.frames + 1 ≤ R.frames) (hl : W + (mxl + 11) + rm.locals ≤ R.locals) (hk : k + rm.cells = k') (hn : n + rm.slots = n') (hkR : k' ≤ R.cells) (hnR : n' ≤ R.slots) (hsz : L.size = ml) (hdd : parseMethodDescriptor y.desc = some ⟨ps, rt'⟩) (hlen : argsL.length = ps.length) (hst : st = argsL.reverse ++ .ref a :: rest) (has : (.ref a :: argsL).toArray = as') (hW : (rest.map fun v => v.category).sum = W) (hd : decode bytes pc = .ok (.invokevirtual i, 3)) (hq : pc + 3 = q)
    (r : ∀ w T' h', St p l e R s m args below meth c n0 T' h' k' n' → Q w h' → Goes p e below G (T'.setTop (mkF m q L (w :: rest)))) : Goes p e below G (T.setTop (mkF m pc L st)) := by
  have bk := backOf (Q := fun v h L => Fr n0 L ∧ (∃ w, v = some w ∧ Q w h)) (R := R) (p := p) (e := e) (below := below) (s := s) (args := args) (len := 3) (W := W) (hM []) C.2.1 w8 w9 hf hl
  refine g_callPb C X (QL := fun v h L => Fr n0 L ∧ (∃ w, v = some w ∧ Q w h)) hy w1 w3 w4 w5 E w8 bk hk hn hkR hnR hsz hdd hlen hst has hW hd hq ?_
  rintro v T' h' L' hX ⟨hFr, hQ⟩
  obtain ⟨w, rfl, hQ⟩ := hQ
  exact r w T' h' (hX.resolve_right fun z => z hFr) hQ
theorem g_callP0 (C : Cx p s m meth c Z own bytes ml rt mn) (X : St p l e R s m args below meth c n0 T h k n) {rm : Room} {as' : Array Value} {bts : ByteArray} {mxl : Nat} {rty : Option FieldType} {argsL : List Value} {ps : List FieldType} {rt' : Option FieldType} {k' n' W : Nat} {Q : Heap → Prop} {y : MethodName} {i : Nat} {a : Addr} {K : String} (hy : y.cls ≠ "java/lang/invoke/MethodHandle" ∧ y.cls ≠ "java/lang/invoke/VarHandle") (w1 : (Cond.methodLink own i y).before a0 Z = true) (w3 : (Cond.selects y.cls y y).before a0 Z = true) (w4 : (Cond.instanceMethod y).before a0 Z = true) (w5 : (Cond.privateMethod y).before a0 Z = true) (E : Exa Z h a K) (w8 : (Cond.code y bts mxl rty).before a0 Z = true) (w9 : (Cond.initialized y.cls).before a0 Z = true) (hM : Met0 l Z y bts mxl rty rm as' h n0 Q) (hf : rm.frames + 1 ≤ R.frames) (hl : W + (mxl + 11) + rm.locals ≤ R.locals) (hk : k + rm.cells = k') (hn : n + rm.slots = n') (hkR : k' ≤ R.cells) (hnR : n' ≤ R.slots) (hsz : L.size = ml) (hdd : parseMethodDescriptor y.desc = some ⟨ps, rt'⟩) (hlen : argsL.length = ps.length) (hst : st = argsL.reverse ++ .ref a :: rest) (has : (.ref a :: argsL).toArray = as') (hW : (rest.map fun v => v.category).sum = W) (hd : decode bytes pc = .ok (.invokevirtual i, 3)) (hq : pc + 3 = q)
    (r : ∀ T' h', St p l e R s m args below meth c n0 T' h' k' n' → Q h' → Goes p e below G (T'.setTop (mkF m q L rest))) : Goes p e below G (T.setTop (mkF m pc L st)) := by
  have bk := backOf (Q := fun v h L => Fr n0 L ∧ (v = none ∧ Q h)) (R := R) (p := p) (e := e) (below := below) (s := s) (args := args) (len := 3) (W := W) (hM []) C.2.1 w8 w9 hf hl
  refine g_callPb C X (QL := fun v h L => Fr n0 L ∧ (v = none ∧ Q h)) hy w1 w3 w4 w5 E w8 bk hk hn hkR hnR hsz hdd hlen hst has hW hd hq ?_
  rintro v T' h' L' hX ⟨hFr, hQ⟩
  obtain ⟨rfl, hQ⟩ := hQ
  exact r T' h' (hX.resolve_right fun z => z hFr) hQ
theorem sel_priv {y : MethodName} {kk : Nat} (wi : (Cond.instantiable y.cls kk).before a0 Z = true) (w4 : (Cond.instanceMethod y).before a0 Z = true) (w5 : (Cond.privateMethod y).before a0 Z = true) (hy : y.cls ≠ "java/lang/invoke/MethodHandle" ∧ y.cls ≠ "java/lang/invoke/VarHandle") : (Cond.selects y.cls y y).before a0 Z = true := by
  obtain ⟨c1, k1, i1, i2, -, i4, -⟩ := Cond.instantiable_spec wi
  exact Stand.selects_self_of_private i1 i2 (by simp only [Bool.or_eq_false_iff] at i4; exact i4.1) (Cond.privateMethod_at w5) w4 hy
theorem own_noInst {K O Ko : String} {nn : Nat} (wO : (Cond.noSuperclass O).before a0 Z = true) (wC : (Cond.superclass Ko O).before a0 Z = true) (wK : (Cond.instantiable K nn).before a0 Z = true) (h1 : Ko ≠ K) (h2 : O ≠ K) : ∃ c t, Z.vm.findClass Ko = some c ∧ Z.vm.findClass K = some t ∧ Z.vm.assignable c t = false := by
  obtain ⟨t, kt, g1, g2, g3, g4, -⟩ := Cond.instantiable_spec wK
  obtain ⟨o, ko, o1, o2, o3, -, -⟩ := Cond.noSuperclass_spec wO
  have neO := ids_ne o1 g1 h2
  have nO : NS Z O K := ⟨o, t, o1, g1, fun fuel => by
    cases fuel with
    | zero => rfl
    | succ f => simp [Vm.isSubclassAux, neO, o2, o3]⟩
  obtain ⟨c, t', h0, g0, n3⟩ := NS.step wC nO h1
  cases g1.symm.trans g0
  obtain ⟨p, k, kp, q1, q2, q3, q4, q5, -, q7⟩ := Cond.superclass_spec h0 wC
  have neC := ids_ne h0 g1 h1
  simp only [Bool.or_eq_false_iff] at g4
  refine ⟨c, t, h0, g1, ?_⟩
  show Z.vm.assignableAux (255 + 1) c t = false
  simp [Vm.assignableAux, neC, q2, g2, q5, g3, g4.1, Vm.isSubclass, n3]
theorem own_nb {b : Int32} {t : Bool} (h1 : t = true → b = 0) (h2 : t = false → b = 1) : nar .boolean b = b := by
  cases t
  · rw [h2 rfl]; decide
  · rw [h1 rfl]; decide
theorem nf_sel {y : MethodName} {K : String} (w : (Cond.selects K y y).before a0 Z = true) : ∀ s' : State, Z.Warmed39 s'.vm → NotFace s' y := fun s' hZ => notFace_of_selects (args := #[]) (mvT hZ w)
end OwnKit
theorem own_i32 {x y : Int32} (h : x.toInt = y.toInt) : x = y := Int32.toInt_inj.mp h
theorem own_r1 {u w : Int32} {hi : Int} (h : u.toInt ≤ hi) (hw : hi < w.toInt) : u < w := Int32.lt_iff_toInt_lt.mpr (Int.lt_of_le_of_lt h hw)
theorem own_r2 {u w : Int32} {lo : Int} (h : lo ≤ u.toInt) (hw : w.toInt ≤ lo) : ¬ u < w := fun q => by have := Int32.lt_iff_toInt_lt.mp q; omega
theorem own_r3 {u w : Int32} {lo : Int} (h : lo ≤ w.toInt) (hu : u.toInt < lo) : u < w := Int32.lt_iff_toInt_lt.mpr (by omega)
theorem own_r4 {u w : Int32} {hi : Int} (h : w.toInt ≤ hi) (hu : hi ≤ u.toInt) : ¬ u < w := fun q => by have := Int32.lt_iff_toInt_lt.mp q; omega
theorem own_r5 {u w : Int32} {lo : Int} (h : lo ≤ u.toInt) (hw : w.toInt < lo) : ¬ u = w := fun q => by subst q; omega
theorem own_r6 {u w : Int32} {hi : Int} (h : u.toInt ≤ hi) (hw : hi < w.toInt) : ¬ u = w := fun q => by subst q; omega
theorem own_f0 {u w : Int32} {z : Int} (h1 : z ≤ u.toInt) (h2 : u.toInt ≤ z) (hz : w.toInt = z) : u = w := own_i32 (by omega)
theorem own_f1 {u w : Int32} {z : Int} (h : u < w) (hz : w.toInt = z + 1) : u.toInt ≤ z := by have := Int32.lt_iff_toInt_lt.mp h; omega
theorem own_f2 {u w : Int32} {z : Int} (h : ¬ u < w) (hz : w.toInt = z) : z ≤ u.toInt := by rw [Int32.lt_iff_toInt_lt] at h; omega
theorem own_f3 {u w : Int32} {z : Int} (h : w < u) (hz : w.toInt + 1 = z) : z ≤ u.toInt := by have := Int32.lt_iff_toInt_lt.mp h; omega
theorem own_f4 {u w : Int32} {z : Int} (h : ¬ w < u) (hz : w.toInt = z) : u.toInt ≤ z := by rw [Int32.lt_iff_toInt_lt] at h; omega
theorem own_f5 {u w : Int32} {z lo : Int} (h : ¬ u = w) (hl : lo ≤ u.toInt) (hz : w.toInt = lo ∧ z = lo + 1) : z ≤ u.toInt := by
  have : u.toInt ≠ w.toInt := fun q => h (own_i32 q)
  omega
theorem own_f6 {u w : Int32} {z hi : Int} (h : ¬ u = w) (hl : u.toInt ≤ hi) (hz : w.toInt = hi ∧ z = hi - 1) : u.toInt ≤ z := by
  have : u.toInt ≠ w.toInt := fun q => h (own_i32 q)
  omega
theorem own_i2c {v : Int32} {lo hi : Int} (h1 : lo ≤ v.toInt) (h2 : v.toInt ≤ hi) (h3 : 0 ≤ lo) (h4 : hi ≤ 65535) : v.toUInt32.toUInt16.toUInt32.toInt32 = v := by
  have h := c_i2c v
  apply own_i32
  omega
theorem own_narC {v : Int32} {lo hi : Int} (h1 : lo ≤ v.toInt) (h2 : v.toInt ≤ hi) (h3 : 0 ≤ lo) (h4 : hi ≤ 65535) : nar .char v = v := own_i2c h1 h2 h3 h4
theorem own_ch {v : Int32} {lo hi : Int} (h1 : lo ≤ v.toInt) (h2 : v.toInt ≤ hi) (h3 : 0 ≤ lo) (h4 : hi ≤ 255) : ¬ v < 0 ∧ ¬ (255 : Int32) < v := ⟨own_r2 h1 h3, own_r4 h2 h4⟩
theorem own_rem {x y : Int32} {d : Int} (hy : y.toInt = d + 1) (hd : 0 < d + 1) (hx : 0 ≤ x.toInt) : 0 ≤ (x % y).toInt ∧ (x % y).toInt ≤ d := by
  have h := (c_irem x y (d + 1) hy).1 hx
  rw [h]
  have := Int.emod_nonneg x.toInt (show d + 1 ≠ 0 by omega)
  have := Int.emod_lt_of_pos x.toInt hd
  omega
theorem own_ne {a b : Addr} {h : Heap} (h1 : a < h.size) (h2 : b = h.size) : a ≠ b := fun q => by subst q; subst h2; exact Nat.lt_irrefl _ h1
theorem own_ge {Z : State} {n0 : Nat} {h : Heap} {a : Addr} (O : Old Z n0 h) (g : a = h.size) : n0 ≤ a := by rw [g, ← O.1]; exact O.2.1
theorem own_szO {Z : State} {n0 : Nat} {h : Heap} (O : Old Z n0 h) : n0 ≤ h.size := by rw [← O.1]; exact O.2.1
theorem own_sz {h h' : Heap} {a : Addr} (q : h.size ≤ h'.size) (g : a = h'.size) : h.size ≤ a := g ▸ q
theorem own_neO {Z : State} {n0 : Nat} {h : Heap} {a b : Addr} (q : a < Z.heap.size) (O : Old Z n0 h) (r : n0 ≤ b) : a ≠ b := O.ne q r
theorem own_sta {s : State} {args : Array Value} {C n d K : String} (h : (Jvm.Cond.exactly (.static C n d) K).value args s none s [] = some true) (hi : (Jvm.Cond.initializedFor C n d).before args s = true ∨ ((Jvm.Cond.initialized C).before args s = true ∧ (Jvm.Cond.laysStatic C n d).before args s = true)) : ∃ a, (Term.static C n d).eval args s none [] s = some (.ref a) ∧ Sta s s.heap C n d (.ref a) ∧ Exa s s.heap a K := by
  obtain ⟨a, ev⟩ := exa_v h
  exact ⟨a, ev, Sta.start ev hi, Exa.start ev h⟩
theorem own_fldI {s : State} {args : Array Value} {t : Term} {C n d : String} {v : Int32} {a : Addr} (ev : t.eval args s none [] s = some (.ref a)) (h : (Jvm.Cond.eq (.field t C n d) (.int v)).value args s none s [] = some true) : Fld s s.heap a C n d (.int v) := by
  apply Fld.start
  cases hf : s.fieldOf? a C n d with
  | none => simp [Cond.value, Term.eval, ev, hf] at h
  | some x => cases x <;> simp [Cond.value, Term.eval, ev, hf] at h; subst h; rfl
theorem own_fldN {s : State} {args : Array Value} {t : Term} {C n d : String} {a : Addr} (ev : t.eval args s none [] s = some (.ref a)) (h : (Jvm.Cond.eq (.field t C n d) .null).value args s none s [] = some true) : Fld s s.heap a C n d .null := by
  apply Fld.start
  have := null_v h
  rw [fld_at ev] at this
  exact this
theorem own_fldR {s : State} {args : Array Value} {t : Term} {C n d K : String} {a : Addr} (ev : t.eval args s none [] s = some (.ref a)) (h : (Jvm.Cond.exactly (.field t C n d) K).value args s none s [] = some true) : ∃ b, (Term.field t C n d).eval args s none [] s = some (.ref b) ∧ Fld s s.heap a C n d (.ref b) ∧ Exa s s.heap b K := by
  obtain ⟨b, e2⟩ := exa_v h
  refine ⟨b, e2, Fld.start ?_, Exa.start e2 h⟩
  rw [← fld_at ev]; exact e2
def Wd (Z : State)  : Prop := True
theorem d1_0 : decode jdk_29_method_69_code 0 = .ok (.iload_n 0, 1) := by decide +kernel
theorem d1_1 : decode jdk_29_method_69_code 1 = .ok (.iload_n 1, 1) := by decide +kernel
theorem d1_2 : decode jdk_29_method_69_code 2 = .ok (.if_icmp .gt 7, 3) := by decide +kernel
theorem d1_9 : decode jdk_29_method_69_code 9 = .ok (.iload_n 1, 1) := by decide +kernel
theorem d1_10 : decode jdk_29_method_69_code 10 = .ok (.ireturn, 1) := by decide +kernel
theorem d1_5 : decode jdk_29_method_69_code 5 = .ok (.iload_n 0, 1) := by decide +kernel
theorem d1_6 : decode jdk_29_method_69_code 6 = .ok (.goto 4, 3) := by decide +kernel
theorem d2_0 : decode prog_22_method_3_code 0 = .ok (.ldc2_w 89, 3) := by decide +kernel
theorem w10 {Z : State} {a0 : Array Value} (hw : ∀ d ∈ tables_1, d.before a0 Z = true) : (Jvm.Cond.constantDouble "com/example/versus_search/versussearch/StanceEvaluation" (89 : Nat) (4611686018427387904 : UInt64)).before a0 Z = true := hw _ (List.mem_of_getElem? (i := 10) rfl)
theorem d2_3 : decode prog_22_method_3_code 3 = .ok (.iload_n 0, 1) := by decide +kernel
theorem d2_4 : decode prog_22_method_3_code 4 = .ok (.i2d, 1) := by decide +kernel
theorem d2_5 : decode prog_22_method_3_code 5 = .ok (.dmul, 1) := by decide +kernel
theorem d2_6 : decode prog_22_method_3_code 6 = .ok (.iload_n 1, 1) := by decide +kernel
theorem d2_7 : decode prog_22_method_3_code 7 = .ok (.iload_n 2, 1) := by decide +kernel
theorem d2_8 : decode prog_22_method_3_code 8 = .ok (.iadd, 1) := by decide +kernel
theorem d2_9 : decode prog_22_method_3_code 9 = .ok (.i2d, 1) := by decide +kernel
theorem d2_10 : decode prog_22_method_3_code 10 = .ok (.ddiv, 1) := by decide +kernel
theorem d2_11 : decode prog_22_method_3_code 11 = .ok (.dreturn, 1) := by decide +kernel
theorem pn_17 : plainName "com/example/versus_search/versussearch/StanceEvaluation" = true := by first | (simp [plainName, overriddenIn]; done) | decide +kernel
theorem w0 {Z : State} {a0 : Array Value} (hw : ∀ d ∈ tables_1, d.before a0 Z = true) : (Jvm.Cond.constant "com/example/versus_search/versussearch/StanceEvaluationF1PinLaw" (7 : Nat) (1073741823 : Int32)).before a0 Z = true := hw _ (List.mem_of_getElem? (i := 0) rfl)
theorem w1 {Z : State} {a0 : Array Value} (hw : ∀ d ∈ tables_1, d.before a0 Z = true) : (Jvm.Cond.constant "com/example/versus_search/versussearch/StanceEvaluationF1PinLaw" (8 : Nat) (2147483647 : Int32)).before a0 Z = true := hw _ (List.mem_of_getElem? (i := 1) rfl)
theorem w2 {Z : State} {a0 : Array Value} (hw : ∀ d ∈ tables_1, d.before a0 Z = true) : (Jvm.Cond.methodLink "com/example/versus_search/versussearch/StanceEvaluationF1PinLaw" (9 : Nat) ({ cls := "java/lang/Math", name := "min", desc := "(II)I" } : Jvm.MethodName)).before a0 Z = true := hw _ (List.mem_of_getElem? (i := 2) rfl)
theorem w5 {Z : State} {a0 : Array Value} (hw : ∀ d ∈ tables_1, d.before a0 Z = true) : (Jvm.Cond.code ({ cls := "java/lang/Math", name := "min", desc := "(II)I" } : Jvm.MethodName) jdk_29_method_69_code (2 : Nat) (Option.some Jvm.ClassFile.FieldType.int)).before a0 Z = true := hw _ (List.mem_of_getElem? (i := 5) rfl)
theorem w4 {Z : State} {a0 : Array Value} (hw : ∀ d ∈ tables_1, d.before a0 Z = true) : (Jvm.Cond.initialized "java/lang/Math").before a0 Z = true := hw _ (List.mem_of_getElem? (i := 4) rfl)
theorem pd_18 : parseMethodDescriptor "(II)I" = some ⟨[.int, .int], some .int⟩ := by decide +kernel
theorem w3 {Z : State} {a0 : Array Value} (hw : ∀ d ∈ tables_1, d.before a0 Z = true) : (Jvm.Cond.static ({ cls := "java/lang/Math", name := "min", desc := "(II)I" } : Jvm.MethodName)).before a0 Z = true := hw _ (List.mem_of_getElem? (i := 3) rfl)
theorem w6 {Z : State} {a0 : Array Value} (hw : ∀ d ∈ tables_1, d.before a0 Z = true) : (Jvm.Cond.methodLink "com/example/versus_search/versussearch/StanceEvaluationF1PinLaw" (15 : Nat) ({ cls := "com/example/versus_search/versussearch/StanceEvaluation", name := "f1", desc := "(III)D" } : Jvm.MethodName)).before a0 Z = true := hw _ (List.mem_of_getElem? (i := 6) rfl)
theorem w9 {Z : State} {a0 : Array Value} (hw : ∀ d ∈ tables_1, d.before a0 Z = true) : (Jvm.Cond.code ({ cls := "com/example/versus_search/versussearch/StanceEvaluation", name := "f1", desc := "(III)D" } : Jvm.MethodName) prog_22_method_3_code (3 : Nat) (Option.some Jvm.ClassFile.FieldType.double)).before a0 Z = true := hw _ (List.mem_of_getElem? (i := 9) rfl)
theorem w8 {Z : State} {a0 : Array Value} (hw : ∀ d ∈ tables_1, d.before a0 Z = true) : (Jvm.Cond.initialized "com/example/versus_search/versussearch/StanceEvaluation").before a0 Z = true := hw _ (List.mem_of_getElem? (i := 8) rfl)
theorem pd_19 : parseMethodDescriptor "(III)D" = some ⟨[.int, .int, .int], some .double⟩ := by decide +kernel
theorem w7 {Z : State} {a0 : Array Value} (hw : ∀ d ∈ tables_1, d.before a0 Z = true) : (Jvm.Cond.static ({ cls := "com/example/versus_search/versussearch/StanceEvaluation", name := "f1", desc := "(III)D" } : Jvm.MethodName)).before a0 Z = true := hw _ (List.mem_of_getElem? (i := 7) rfl)
theorem w11 {Z : State} {a0 : Array Value} (hw : ∀ d ∈ tables_1, d.before a0 Z = true) : (Jvm.Cond.constantLong "com/example/versus_search/versussearch/StanceEvaluationF1PinLaw" (21 : Nat) (2 : Int64)).before a0 Z = true := hw _ (List.mem_of_getElem? (i := 11) rfl)
theorem w12 {Z : State} {a0 : Array Value} (hw : ∀ d ∈ tables_1, d.before a0 Z = true) : (Jvm.Cond.constantDouble "com/example/versus_search/versussearch/StanceEvaluationF1PinLaw" (23 : Nat) (4697254411347427328 : UInt64)).before a0 Z = true := hw _ (List.mem_of_getElem? (i := 12) rfl)
theorem pn_20 : plainName "com/example/versus_search/versussearch/StanceEvaluationF1PinLaw" = true := by first | (simp [plainName, overriddenIn]; done) | decide +kernel
/-! doubles: a value by its number of least units (zval), its sign and whether it is finite -/
section OwnFl
open Jvm.FP.Core
def own_z (x : UInt64) : Int := zval b64 (val64 x)
def own_TOP : Nat := zmag b64 (.inf false)
def own_MAX : Nat := zmag b64 (.fin false (2 ^ 53 - 1) b64.qmax)
theorem own_q0 : (b64.qmin - b64.qmin).toNat = 0 := by rw [Int.sub_self]; rfl
theorem own_MT : own_MAX < own_TOP := by decide +kernel
theorem own_zinf : own_z 9218868437227405312 = (own_TOP : Int) := by
  have h : val64 9218868437227405312 = .inf false := by decide +kernel
  unfold own_z; rw [h]; rfl
theorem own_zzero : own_z 0 = 0 := zval64_zero
theorem own_cmp {x y : UInt64} (hx : val64 x ≠ .nan) (hy : val64 y ≠ .nan) (o : CmpOp) : cmpValue (FP.dcmp x y) o = if own_z x < own_z y then -1 else if own_z x = own_z y then 0 else 1 := by
  have h : FP.dcmp x y = some (compare (own_z x) (own_z y)) := dcmp_zval hx hy
  rw [h]
  by_cases h1 : own_z x < own_z y
  · rw [if_pos h1, show compare (own_z x) (own_z y) = .lt from (compare_lt_iff _ _).mpr h1]; rfl
  · rw [if_neg h1]
    by_cases h2 : own_z x = own_z y
    · rw [if_pos h2, show compare (own_z x) (own_z y) = .eq from (compare_eq_iff _ _).mpr h2]; rfl
    · rw [if_neg h2, show compare (own_z x) (own_z y) = .gt from (compare_gt_iff _ _).mpr (by omega)]; rfl
theorem own_nan0 : val64 0 ≠ .nan := by rw [val64_zero]; exact Datum.noConfusion
theorem own_nanI : val64 9218868437227405312 ≠ .nan := by
  have h : val64 9218868437227405312 = .inf false := by decide +kernel
  rw [h]; exact Datum.noConfusion
theorem own_five (x : UInt64) : own_z x < 0 ∨ own_z x = 0 ∨ (0 < own_z x ∧ own_z x < (own_TOP : Int)) ∨ (0 < own_z x ∧ own_z x = (own_TOP : Int)) ∨ (0 < own_z x ∧ (own_TOP : Int) < own_z x) := by omega
theorem own_c0n {x : UInt64} (hn : val64 x ≠ .nan) (h : own_z x < 0) (o : CmpOp) : cmpValue (FP.dcmp x 0) o = -1 := by rw [own_cmp hn own_nan0, own_zzero, if_pos h]
theorem own_c0z {x : UInt64} (hn : val64 x ≠ .nan) (h : own_z x = 0) (o : CmpOp) : cmpValue (FP.dcmp x 0) o = 0 := by rw [own_cmp hn own_nan0, own_zzero, if_neg (by omega), if_pos h]
theorem own_c0p {x : UInt64} (hn : val64 x ≠ .nan) (h : 0 < own_z x) (o : CmpOp) : cmpValue (FP.dcmp x 0) o = 1 := by rw [own_cmp hn own_nan0, own_zzero, if_neg (by omega), if_neg (by omega)]
theorem own_cIl {x : UInt64} (hn : val64 x ≠ .nan) (h : own_z x < (own_TOP : Int)) (o : CmpOp) : cmpValue (FP.dcmp x 9218868437227405312) o = -1 := by rw [own_cmp hn own_nanI, own_zinf, if_pos h]
theorem own_cIe {x : UInt64} (hn : val64 x ≠ .nan) (h : own_z x = (own_TOP : Int)) (o : CmpOp) : cmpValue (FP.dcmp x 9218868437227405312) o = 0 := by rw [own_cmp hn own_nanI, own_zinf, if_neg (by omega), if_pos h]
theorem own_cIg {x : UInt64} (hn : val64 x ≠ .nan) (h : (own_TOP : Int) < own_z x) (o : CmpOp) : cmpValue (FP.dcmp x 9218868437227405312) o = 1 := by rw [own_cmp hn own_nanI, own_zinf, if_neg (by omega), if_neg (by omega)]
theorem own_TOPpos : (0 : Int) < (own_TOP : Int) := Int.natCast_pos.mpr (Nat.lt_of_le_of_lt (Nat.zero_le _) own_MT)
/-- an int as a double: a number of its own sign, c * 2^q = |x| -/
theorem own_i2d (x : Int32) (hx : x.toInt ≠ 0) : ∃ (c : Nat) (q : Int), val64 (FP.i2d x) = .fin (decide (x.toInt < 0)) c q ∧ 0 < c ∧ c * 2 ^ q.toNat = x.toInt.natAbs * 2 ^ (-q).toNat := by
  obtain ⟨s, c, q, hv⟩ := i2d_fin x
  have hw : Whole x.toInt (.fin s c q) := by
    have h := i2d_int x
    unfold DInt at h
    rw [hv] at h
    first | exact h | exact h.1 | exact h.2
  have hs := whole_sign hw hx
  have hz := whole_zero hw
  exact ⟨c, q, by rw [← hs]; exact hv, by omega, (whole_natAbs hw)⟩
theorem own_mulR (x : Int32) (hx : x.toInt ≠ 0) {K : UInt64} {d : Nat} {r : Int} (hK : val64 K = .fin false d r) : val64 (FP.dmul (FP.i2d x) K) = roundRatio b64 (decide (x.toInt < 0)) (x.toInt.natAbs * d) 1 r := by
  obtain ⟨c, q, hv, hc, hw⟩ := own_i2d x hx
  have h : val64 (FP.dmul (FP.i2d x) K) = round b64 (exactProduct (val64 (FP.i2d x)) (val64 K)) := val64_dmul _ _
  rw [h, hv, hK]
  show roundRatio b64 (decide (x.toInt < 0) != false) (c * d) 1 (q + r) = _
  rw [Bool.bne_false]
  refine roundRatio_congr (by decide) (by decide) ?_
  rw [show q + r - r = q by omega, show r - (q + r) = -q by omega, Nat.mul_one, Nat.mul_one]
  calc c * d * 2 ^ q.toNat = (c * 2 ^ q.toNat) * d := by ac_rfl
    _ = (x.toInt.natAbs * 2 ^ (-q).toNat) * d := by rw [hw]
    _ = x.toInt.natAbs * d * 2 ^ (-q).toNat := by ac_rfl
theorem own_divR (x y : Int32) (hx : x.toInt ≠ 0) (hy : y.toInt ≠ 0) : val64 (FP.ddiv (FP.i2d x) (FP.i2d y)) = roundRatio b64 (decide (x.toInt < 0) != decide (y.toInt < 0)) x.toInt.natAbs y.toInt.natAbs 0 := by
  obtain ⟨c, q, hv, hc, hw⟩ := own_i2d x hx
  obtain ⟨d, r, hv2, hd, hw2⟩ := own_i2d y hy
  have h : val64 (FP.ddiv (FP.i2d x) (FP.i2d y)) = quotient b64 (val64 (FP.i2d x)) (val64 (FP.i2d y)) := val64_ddiv _ _
  rw [h, hv, hv2]
  show (if d = 0 then _ else roundRatio b64 (decide (x.toInt < 0) != decide (y.toInt < 0)) c d (q - r)) = _
  rw [if_neg (by omega)]
  refine roundRatio_congr hd (by omega) ?_
  rw [show q - r - 0 = q - r by omega, show 0 - (q - r) = r - q by omega]
  have hp : 2 ^ q.toNat * 2 ^ (-r).toNat * 2 ^ (r - q).toNat = 2 ^ (-q).toNat * 2 ^ r.toNat * 2 ^ (q - r).toNat := by
    rw [← Nat.pow_add, ← Nat.pow_add, ← Nat.pow_add, ← Nat.pow_add]
    congr 1
    omega
  have k1 : 0 < 2 ^ q.toNat * 2 ^ (-r).toNat := Nat.mul_pos (Nat.two_pow_pos _) (Nat.two_pow_pos _)
  refine Nat.eq_of_mul_eq_mul_right k1 ?_
  generalize 2 ^ q.toNat = P at *
  generalize 2 ^ (-r).toNat = S' at *
  generalize 2 ^ (r - q).toNat = U' at *
  generalize 2 ^ (-q).toNat = P' at *
  generalize 2 ^ r.toNat = S at *
  generalize 2 ^ (q - r).toNat = U at *
  generalize x.toInt.natAbs = X at *
  generalize y.toInt.natAbs = Y at *
  calc c * Y * U * (P * S') = (c * P) * (Y * S') * U := by ac_rfl
    _ = (X * P') * (d * S) * U := by rw [hw, ← hw2]
    _ = X * d * (P' * S * U) := by ac_rfl
    _ = X * d * (P * S' * U') := by rw [hp]
    _ = X * d * U' * (P * S') := by ac_rfl
theorem own_zR {x : UInt64} {s : Bool} {A B : Nat} {e : Int} (h : val64 x = roundRatio b64 s A B e) : own_z x = signed s (zmag b64 (roundRatio b64 s A B e)) ∧ val64 x ≠ .nan := by
  unfold own_z zval
  rw [h, sgn_roundRatio]
  exact ⟨rfl, roundRatio_ne_nan _ _ _ _ _⟩
theorem own_lo {s : Bool} {A B : Nat} {e : Int} (hB : 0 < B) (he : b64.qmin ≤ e) (h : B ≤ A * 2 ^ (e - b64.qmin).toNat) : 1 ≤ zmag b64 (roundRatio b64 s A B e) := by
  have z1 : zmag b64 (.fin false 1 b64.qmin) = 1 := by
    show 1 * 2 ^ (b64.qmin - b64.qmin).toNat = 1
    rw [own_q0]
  have k := zmag_roundRatio_ge good_b64 (s := s) (A := A) (B := B) (e := e) (e0 := b64.qmin) (V := .fin false 1 b64.qmin) hB (show 1 < 2 ^ b64.p ∧ b64.qmin ≤ b64.qmin ∧ b64.qmin ≤ b64.qmax ∧ (b64.qmin = b64.qmin ∨ b64.tails ≤ 1) by decide +kernel) (Int.le_refl _) he (by
    rw [z1, own_q0, Nat.pow_zero, Nat.mul_one, Nat.one_mul]; exact h)
  rw [z1] at k
  exact k
theorem own_hi {s : Bool} {A B : Nat} {e : Int} (hB : 0 < B) (he : b64.qmin ≤ e) (h : A * 2 ^ (e - b64.qmin).toNat ≤ own_MAX * B) : zmag b64 (roundRatio b64 s A B e) < own_TOP := by
  have k := zmag_roundRatio_le good_b64 (s := s) (A := A) (B := B) (e := e) (e0 := b64.qmin) (V := .fin false (2 ^ 53 - 1) b64.qmax) hB (show 2 ^ 53 - 1 < 2 ^ b64.p ∧ b64.qmin ≤ b64.qmax ∧ b64.qmax ≤ b64.qmax ∧ (b64.qmax = b64.qmin ∨ b64.tails ≤ 2 ^ 53 - 1) by decide +kernel) Datum.noConfusion (Int.le_refl _) he (by
    rw [own_q0, Nat.pow_zero, Nat.mul_one]; exact h)
  exact Nat.lt_of_le_of_lt k own_MT
theorem own_ov {s : Bool} {A B : Nat} {e : Int} (hB : 0 < B) (he : b64.qmin ≤ e) (h : own_TOP * B ≤ A * 2 ^ (e - b64.qmin).toNat) : own_TOP ≤ zmag b64 (roundRatio b64 s A B e) := zmag_roundRatio_ge good_b64 (s := s) (A := A) (B := B) (e := e) (e0 := b64.qmin) (V := .inf false) hB trivial (Int.le_refl _) he (by
    rw [own_q0, Nat.pow_zero, Nat.mul_one]; exact h)
/-- sign and bounds together -/
theorem own_sg {x : UInt64} {s : Bool} {A B : Nat} {e : Int} (h : val64 x = roundRatio b64 s A B e) (hB : 0 < B) (he : b64.qmin ≤ e) (hl : B ≤ A * 2 ^ (e - b64.qmin).toNat) (hh : A * 2 ^ (e - b64.qmin).toNat ≤ own_MAX * B) : val64 x ≠ .nan ∧ own_z x < (own_TOP : Int) ∧ (s = true → own_z x < 0) ∧ (s = false → 0 < own_z x) := by
  have z := own_zR h
  have a := own_lo (s := s) hB he hl
  have b := own_hi (s := s) hB he hh
  have t := own_TOPpos
  refine ⟨z.2, ?_⟩
  rw [z.1]
  generalize zmag b64 (roundRatio b64 s A B e) = w at *
  cases s
  · refine ⟨?_, fun q => (by cases q), fun _ => ?_⟩ <;> simp only [signed] <;> simp <;> omega
  · refine ⟨?_, fun _ => ?_, fun q => (by cases q)⟩ <;> simp only [signed] <;> simp <;> omega
theorem own_abs (x : Int32) (hx : x.toInt ≠ 0) : 1 ≤ x.toInt.natAbs ∧ x.toInt.natAbs ≤ 2 ^ 31 := by
  have h1 := Int32.le_toInt x
  have h2 := Int32.toInt_lt x
  constructor <;> omega
/-- x * K with K = d * 2^r: sign and bounds, all ints -/
theorem own_mulS (x : Int32) (hx : x.toInt ≠ 0) {K : UInt64} {d : Nat} {r : Int} (hK : val64 K = .fin false d r) (hr : b64.qmin ≤ r) (hd : 0 < d) (hb : 2 ^ 31 * d * 2 ^ (r - b64.qmin).toNat ≤ own_MAX) : val64 (FP.dmul (FP.i2d x) K) ≠ .nan ∧ own_z (FP.dmul (FP.i2d x) K) < (own_TOP : Int) ∧ (x.toInt < 0 → own_z (FP.dmul (FP.i2d x) K) < 0) ∧ (0 < x.toInt → 0 < own_z (FP.dmul (FP.i2d x) K)) := by
  have a := own_abs x hx
  have k := own_sg (own_mulR x hx hK) (by decide) hr (Nat.mul_pos (Nat.mul_pos a.1 hd) (Nat.two_pow_pos _)) (by
    rw [Nat.mul_one]
    exact Nat.le_trans (Nat.mul_le_mul_right _ (Nat.mul_le_mul_right _ a.2)) hb)
  exact ⟨k.1, k.2.1, fun q => k.2.2.1 (decide_eq_true q), fun q => k.2.2.2 (decide_eq_false (by omega))⟩
theorem own_i2dS (x : Int32) (hx : x.toInt ≠ 0) : val64 (FP.i2d x) ≠ .nan ∧ own_z (FP.i2d x) < (own_TOP : Int) ∧ (x.toInt < 0 → own_z (FP.i2d x) < 0) ∧ (0 < x.toInt → 0 < own_z (FP.i2d x)) := by
  have a := own_abs x hx
  have k := own_sg (x := FP.i2d x) (s := decide (x.toInt < 0)) (A := x.toInt.natAbs) (B := 1) (e := 0) (val64_i2d x) (by decide) (by decide) (Nat.mul_pos a.1 (Nat.two_pow_pos _)) (by
    rw [Nat.mul_one]
    exact Nat.le_trans (Nat.mul_le_mul_right _ a.2) (by decide +kernel))
  exact ⟨k.1, k.2.1, fun q => k.2.2.1 (decide_eq_true q), fun q => k.2.2.2 (decide_eq_false (by omega))⟩
end OwnFl
section OwnF1
open Jvm.FP.Core
theorem own_whole {x : UInt64} {i : Int} (h : DInt i x) (hi : i ≠ 0) : ∃ (c : Nat) (q : Int), val64 x = .fin (decide (i < 0)) c q ∧ 0 < c ∧ c * 2 ^ q.toNat = i.natAbs * 2 ^ (-q).toNat := by
  unfold DInt at h
  generalize hv : val64 x = d at h
  cases d with
  | nan => exact absurd h id
  | inf s => exact absurd h id
  | fin s c q =>
    have hs := whole_sign h hi
    have hz := whole_zero h
    exact ⟨c, q, by rw [← hs], by omega, whole_natAbs h⟩
theorem own_divG {x y : UInt64} {i k : Int} (h1 : DInt i x) (h2 : DInt k y) (hi : i ≠ 0) (hk : k ≠ 0) : val64 (FP.ddiv x y) = roundRatio b64 (decide (i < 0) != decide (k < 0)) i.natAbs k.natAbs 0 := by
  obtain ⟨c, q, hv, hc, hw⟩ := own_whole h1 hi
  obtain ⟨d, r, hv2, hd, hw2⟩ := own_whole h2 hk
  have h : val64 (FP.ddiv x y) = quotient b64 (val64 x) (val64 y) := val64_ddiv _ _
  rw [h, hv, hv2]
  show (if d = 0 then _ else roundRatio b64 (decide (i < 0) != decide (k < 0)) c d (q - r)) = _
  rw [if_neg (by omega)]
  refine roundRatio_congr hd (by omega) ?_
  rw [show q - r - 0 = q - r by omega, show 0 - (q - r) = r - q by omega]
  have hp : 2 ^ q.toNat * 2 ^ (-r).toNat * 2 ^ (r - q).toNat = 2 ^ (-q).toNat * 2 ^ r.toNat * 2 ^ (q - r).toNat := by
    rw [← Nat.pow_add, ← Nat.pow_add, ← Nat.pow_add, ← Nat.pow_add]
    congr 1
    omega
  have k1 : 0 < 2 ^ q.toNat * 2 ^ (-r).toNat := Nat.mul_pos (Nat.two_pow_pos _) (Nat.two_pow_pos _)
  refine Nat.eq_of_mul_eq_mul_right k1 ?_
  generalize 2 ^ q.toNat = P at *
  generalize 2 ^ (-r).toNat = S' at *
  generalize 2 ^ (r - q).toNat = U' at *
  generalize 2 ^ (-q).toNat = P' at *
  generalize 2 ^ r.toNat = S at *
  generalize 2 ^ (q - r).toNat = U at *
  generalize i.natAbs = X at *
  generalize k.natAbs = Y at *
  calc c * Y * U * (P * S') = (c * P) * (Y * S') * U := by ac_rfl
    _ = (X * P') * (d * S) * U := by rw [hw, ← hw2]
    _ = X * d * (P' * S * U) := by ac_rfl
    _ = X * d * (P * S' * U') := by rw [hp]
    _ = X * d * U' * (P * S') := by ac_rfl
theorem own_qm : b64.qmin = -1074 := by decide +kernel
theorem own_qx : b64.qmax = 971 := by decide +kernel
theorem own_tl : b64.tails = 2 ^ 52 := by decide +kernel
theorem own_pp : b64.p = 53 := rfl
/-- M * 2^t units, M of at most 53 digits -/
theorem own_V (M t : Nat) (hM : M < 2 ^ 53) (ht1 : 52 ≤ t) (ht2 : t ≤ 2000) : ∃ V : Datum, Jvm.FP.Core.fits b64 V ∧ V ≠ .nan ∧ zmag b64 V = M * 2 ^ t := by
  by_cases hz : M = 0
  · refine ⟨.fin false 0 b64.qmin, zero_fits good_b64 _, Datum.noConfusion, ?_⟩
    show 0 * _ = _
    rw [hz, Nat.zero_mul, Nat.zero_mul]
  · have hl : M.log2 ≤ 52 := by
      have := (Nat.log2_lt hz).mpr hM
      omega
    have h1 : 2 ^ M.log2 ≤ M := Nat.log2_self_le hz
    have h2 : M < 2 ^ (M.log2 + 1) := Nat.lt_log2_self
    generalize M.log2 = L at hl h1 h2
    refine ⟨.fin false (M * 2 ^ (52 - L)) ((t : Int) - ((52 - L : Nat) : Int) - 1074), ⟨?_, ?_, ?_, Or.inr ?_⟩, Datum.noConfusion, ?_⟩
    · rw [own_pp]
      calc M * 2 ^ (52 - L) < 2 ^ (L + 1) * 2 ^ (52 - L) := Nat.mul_lt_mul_of_pos_right h2 (Nat.two_pow_pos _)
        _ = 2 ^ 53 := by rw [← Nat.pow_add]; congr 1; omega
    · rw [own_qm]; omega
    · rw [own_qx]; omega
    · rw [own_tl]
      calc 2 ^ 52 = 2 ^ L * 2 ^ (52 - L) := by rw [← Nat.pow_add]; congr 1; omega
        _ ≤ M * 2 ^ (52 - L) := Nat.mul_le_mul_right _ h1
    · show M * 2 ^ (52 - L) * 2 ^ ((t : Int) - ((52 - L : Nat) : Int) - 1074 - b64.qmin).toNat = _
      rw [own_qm, Nat.mul_assoc, ← Nat.pow_add]
      congr 2
      omega
theorem own_le {A B M t : Nat} (hB : 0 < B) (hM : M < 2 ^ 53) (ht1 : 52 ≤ t) (ht2 : t ≤ 2000) (h : A * 2 ^ 1074 ≤ M * 2 ^ t * B) : zmag b64 (roundRatio b64 false A B 0) ≤ M * 2 ^ t := by
  obtain ⟨V, v1, v2, v3⟩ := own_V M t hM ht1 ht2
  have k := zmag_roundRatio_le good_b64 (s := false) (A := A) (B := B) (e := 0) (e0 := b64.qmin) (V := V) hB v1 v2 (Int.le_refl _) (by decide +kernel) (by
    rw [own_q0, Nat.pow_zero, Nat.mul_one, v3]
    exact h)
  rw [v3] at k
  exact k
theorem own_geq {A B M t : Nat} (hB : 0 < B) (hM : M < 2 ^ 53) (ht1 : 52 ≤ t) (ht2 : t ≤ 2000) (h : M * 2 ^ t * B ≤ A * 2 ^ 1074) : M * 2 ^ t ≤ zmag b64 (roundRatio b64 false A B 0) := by
  obtain ⟨V, v1, v2, v3⟩ := own_V M t hM ht1 ht2
  have k := zmag_roundRatio_ge good_b64 (s := false) (A := A) (B := B) (e := 0) (e0 := b64.qmin) (V := V) hB v1 (Int.le_refl _) (by decide +kernel) (by
    rw [own_q0, Nat.pow_zero, Nat.mul_one, v3]
    exact h)
  rw [v3] at k
  exact k
theorem own_K20 : val64 4697254411347427328 = .fin false (2 ^ 52) (-32) := by decide +kernel
theorem own_scale {r : UInt64} {A B : Nat} (hA : 0 < A) (hAB : A ≤ B) (hB : B ≤ 2 ^ 31) (h : val64 r = roundRatio b64 false A B 0) : val64 (FP.dmul r 4697254411347427328) ≠ .nan ∧ own_z (FP.dmul r 4697254411347427328) = ((zmag b64 (roundRatio b64 false A B 0) * 2 ^ 20 : Nat) : Int) := by
  have hB0 : 0 < B := by omega
  have lo := own_geq (A := A) (B := B) (M := 1) (t := 1043) hB0 (by decide) (by decide) (by decide) (by
    calc 1 * 2 ^ 1043 * B ≤ 1 * 2 ^ 1043 * 2 ^ 31 := Nat.mul_le_mul_left _ hB
      _ = 1 * 2 ^ 1074 := by rw [Nat.mul_assoc, ← Nat.pow_add]
      _ ≤ A * 2 ^ 1074 := Nat.mul_le_mul_right _ hA)
  have up := own_le (A := A) (B := B) (M := 1) (t := 1074) hB0 (by decide) (by decide) (by decide) (by
    rw [Nat.one_mul, Nat.mul_comm]
    exact Nat.mul_le_mul_left _ hAB)
  have hfit := roundRatio_fits good_b64 false A hB0 0
  rcases roundRatio_cases b64 false A B 0 with ⟨c, q, hR⟩ | hR
  · rw [hR] at lo up hfit h ⊢
    obtain ⟨f1, f2, f3, f4⟩ := hfit
    have zc : zmag b64 (.fin false c q) = c * 2 ^ (q - b64.qmin).toNat := rfl
    rw [zc] at lo up ⊢
    rw [own_pp] at f1
    have g1 : b64.tails ≤ c := by
      rcases f4 with f4 | f4
      · exfalso
        rw [f4, own_q0, Nat.pow_zero, Nat.mul_one, Nat.one_mul] at lo
        have : 2 ^ 53 ≤ 2 ^ 1043 := Nat.pow_le_pow_right (by decide) (by decide)
        exact absurd (Nat.lt_of_lt_of_le f1 this) (Nat.not_lt.mpr lo)
      · exact f4
    have g2 : (q - b64.qmin).toNat ≤ 1022 := by
      rw [own_tl] at g1
      have := Nat.le_trans (Nat.mul_le_mul_right (2 ^ (q - b64.qmin).toNat) g1) up
      rw [← Nat.pow_add, Nat.one_mul] at this
      have := (Nat.pow_le_pow_iff_right (by decide)).mp this
      omega
    have e : val64 (FP.dmul r 4697254411347427328) = .fin false c (q + 20) := by
      have e1 : val64 (FP.dmul r 4697254411347427328) = round b64 (exactProduct (val64 r) (val64 4697254411347427328)) := val64_dmul _ _
      rw [e1, h, own_K20]
      show roundRatio b64 (false != false) (c * 2 ^ 52) 1 (q + -32) = _
      refine roundRatio_exact good_b64 (s := false) (by decide) ⟨by rw [own_pp]; exact f1, by rw [own_qm] at f2 ⊢; omega, by rw [own_qx]; rw [own_qm] at g2 f2; omega, Or.inr g1⟩ ?_
      rw [show (q + -32 - (q + 20)).toNat = 0 by omega, show (q + 20 - (q + -32)).toNat = 52 by omega, Nat.pow_zero, Nat.mul_one, Nat.mul_one]
    refine ⟨by rw [e]; exact Datum.noConfusion, ?_⟩
    unfold own_z zval
    rw [e]
    show ((c * 2 ^ (q + 20 - b64.qmin).toNat : Nat) : Int) = _
    rw [show (q + 20 - b64.qmin).toNat = (q - b64.qmin).toNat + 20 by omega, Nat.pow_add, Nat.mul_assoc]
  · exfalso
    rw [hR] at up
    have t1 : zmag b64 (.inf false) ≤ 1 * 2 ^ 1074 := up
    have t2 : ¬ zmag b64 (.inf false) ≤ 1 * 2 ^ 1074 := by decide +kernel
    exact t2 t1
theorem own_zint {x : UInt64} {i : Int} (h : DInt i x) : val64 x ≠ .nan ∧ own_z x = i * ((2 ^ 1074 : Nat) : Int) := by
  have fx := val64_fits x
  unfold DInt at h
  unfold own_z
  generalize val64 x = d at h fx
  cases d with
  | nan => exact absurd h id
  | inf s => exact absurd h id
  | fin s c q =>
    refine ⟨Datum.noConfusion, ?_⟩
    have hq : (-1074 : Int) ≤ q := by have := fx.2.1; rw [own_qm] at this; exact this
    have hw : signed s (c * 2 ^ q.toNat) = i * ((2 ^ (-q).toNat : Nat) : Int) := h
    show signed s (c * 2 ^ (q - b64.qmin).toNat) = _
    rw [own_qm]
    rcases Int.le_total 0 q with h0 | h0
    · rw [show (-q).toNat = 0 by omega, Nat.pow_zero, show ((1 : Nat) : Int) = 1 from rfl, Int.mul_one] at hw
      rw [show (q - -1074).toNat = q.toNat + 1074 by omega, Nat.pow_add, ← Nat.mul_assoc, signed_mul, hw]
    · rw [show q.toNat = 0 by omega, Nat.pow_zero, Nat.mul_one] at hw
      rw [signed_mul, hw, Int.mul_assoc, ← Int.natCast_mul, ← Nat.pow_add, show (-q).toNat + (q - -1074).toNat = 1074 by omega]
end OwnF1
section OwnF2
open Jvm.FP.Core
theorem own_e74 : (2 : Nat) ^ 1074 = 4503599627370496 * 2 ^ 1022 := by rw [show (4503599627370496 : Nat) = 2 ^ 52 by decide, ← Nat.pow_add]
theorem own_e43 : (2 : Nat) ^ 1043 = 2097152 * 2 ^ 1022 := by rw [show (2097152 : Nat) = 2 ^ 21 by decide, ← Nat.pow_add]
theorem own_F {A B n : Nat} (hA : 0 < A) (hB : 0 < B) (hB2 : B ≤ 2147483648) (hn : n ≤ 1048578) :
    (A * 1048576 < n * B → zmag b64 (roundRatio b64 false A B 0) * 1048576 < n * 2 ^ 1074) ∧ (A * 1048576 = n * B → zmag b64 (roundRatio b64 false A B 0) * 1048576 = n * 2 ^ 1074) ∧ (n * B < A * 1048576 → n * 2 ^ 1074 < zmag b64 (roundRatio b64 false A B 0) * 1048576) := by
  have P0 : 0 < 2 ^ 1022 := Nat.two_pow_pos _
  refine ⟨fun h => ?_, fun h => ?_, fun h => ?_⟩
  · have n0 : 0 < n := by
      rcases Nat.eq_zero_or_pos n with z | z
      · subst z; rw [Nat.zero_mul] at h; omega
      · exact z
    have k := own_le (A := A) (B := B) (M := n * 4294967296 - 1) (t := 1022) hB (by omega) (by decide) (by decide) (by
      rw [own_e74, Nat.mul_assoc _ (2 ^ 1022) B, Nat.mul_comm (2 ^ 1022) B, ← Nat.mul_assoc, ← Nat.mul_assoc]
      refine Nat.mul_le_mul_right _ ?_
      rw [Nat.sub_mul, Nat.mul_right_comm, Nat.one_mul]
      omega)
    rw [own_e74]
    generalize zmag b64 (roundRatio b64 false A B 0) = z at k ⊢
    generalize 2 ^ 1022 = P at k P0 ⊢
    have k2 : (n * 4294967296 - 1) * P + P ≤ n * 4294967296 * P := by
      rw [Nat.sub_mul, Nat.one_mul]
      have : P ≤ n * 4294967296 * P := Nat.le_mul_of_pos_left _ (by omega)
      omega
    have e : n * (4503599627370496 * P) = n * 4294967296 * P * 1048576 := by
      rw [show (4503599627370496 : Nat) = 4294967296 * 1048576 by decide]; ac_rfl
    rw [e]
    generalize (n * 4294967296 - 1) * P = X at k k2
    generalize n * 4294967296 * P = Y at k2 ⊢
    clear e
    have zy : z < Y := Nat.lt_of_le_of_lt k (Nat.lt_of_lt_of_le (Nat.lt_add_of_pos_right P0) k2)
    exact Nat.mul_lt_mul_of_pos_right zy (by decide)
  · have k := own_le (A := A) (B := B) (M := n * 4294967296) (t := 1022) hB (by omega) (by decide) (by decide) (by
      rw [own_e74, Nat.mul_assoc _ (2 ^ 1022) B, Nat.mul_comm (2 ^ 1022) B, ← Nat.mul_assoc, ← Nat.mul_assoc]
      refine Nat.mul_le_mul_right _ ?_
      rw [Nat.mul_right_comm]
      omega)
    have k' := own_geq (A := A) (B := B) (M := n * 4294967296) (t := 1022) hB (by omega) (by decide) (by decide) (by
      rw [own_e74, Nat.mul_assoc _ (2 ^ 1022) B, Nat.mul_comm (2 ^ 1022) B, ← Nat.mul_assoc, ← Nat.mul_assoc]
      refine Nat.mul_le_mul_right _ ?_
      rw [Nat.mul_right_comm]
      omega)
    rw [own_e74]
    generalize zmag b64 (roundRatio b64 false A B 0) = z at k k' ⊢
    generalize 2 ^ 1022 = P at k k' P0 ⊢
    have e : n * (4503599627370496 * P) = n * 4294967296 * P * 1048576 := by
      rw [show (4503599627370496 : Nat) = 4294967296 * 1048576 by decide]; ac_rfl
    rw [e, Nat.le_antisymm k k']
  · have k := own_geq (A := A) (B := B) (M := n * 4294967296 + 1) (t := 1022) hB (by omega) (by decide) (by decide) (by
      rw [own_e74, Nat.mul_assoc _ (2 ^ 1022) B, Nat.mul_comm (2 ^ 1022) B, ← Nat.mul_assoc, ← Nat.mul_assoc]
      refine Nat.mul_le_mul_right _ ?_
      rw [Nat.add_mul, Nat.mul_right_comm, Nat.one_mul]
      omega)
    rw [own_e74]
    generalize zmag b64 (roundRatio b64 false A B 0) = z at k ⊢
    generalize 2 ^ 1022 = P at k P0 ⊢
    have e : n * (4503599627370496 * P) = n * 4294967296 * P * 1048576 := by
      rw [show (4503599627370496 : Nat) = 4294967296 * 1048576 by decide]; ac_rfl
    rw [e]
    rw [Nat.add_mul, Nat.one_mul] at k
    omega
/-- f1's number, scaled, against an int -/
theorem own_fin {r dj : UInt64} {A B : Nat} {J : Int} (hA : 0 < A) (hAB : A ≤ B) (hB : B ≤ 2147483648) (hr : val64 r = roundRatio b64 false A B 0) (hj : DInt J dj) (hJ : J ≤ 1048578) (o : CmpOp) :
    cmpValue (FP.dcmp (FP.dmul r 4697254411347427328) dj) o = if (A : Int) * 1048576 < J * B then -1 else if (A : Int) * 1048576 = J * B then 0 else 1 := by
  have s := own_scale hA hAB (by simpa using hB) hr
  have z := own_zint hj
  rw [own_cmp s.1 z.1 o, s.2, z.2]
  have hB0 : 0 < B := by omega
  rw [show (2 : Nat) ^ 20 = 1048576 by decide]
  rcases Int.le_total J 0 with h0 | h0
  · have lo := own_geq (A := A) (B := B) (M := 1) (t := 1043) hB0 (by decide) (by decide) (by decide) (by
      calc 1 * 2 ^ 1043 * B ≤ 1 * 2 ^ 1043 * 2147483648 := Nat.mul_le_mul_left _ hB
        _ = 1 * 2 ^ 1074 := by rw [Nat.mul_assoc, show (2147483648 : Nat) = 2 ^ 31 by decide, ← Nat.pow_add]
        _ ≤ A * 2 ^ 1074 := Nat.mul_le_mul_right _ hA)
    have lp : 0 < zmag b64 (roundRatio b64 false A B 0) := Nat.lt_of_lt_of_le (Nat.mul_pos (by decide) (Nat.two_pow_pos _)) lo
    have j1 : J * ((2 ^ 1074 : Nat) : Int) ≤ 0 := Int.mul_nonpos_of_nonpos_of_nonneg h0 (Int.natCast_nonneg _)
    have j2 : J * (B : Int) ≤ 0 := Int.mul_nonpos_of_nonpos_of_nonneg h0 (Int.natCast_nonneg _)
    generalize J * ((2 ^ 1074 : Nat) : Int) = X at j1 ⊢
    generalize J * (B : Int) = Y at j2 ⊢
    generalize zmag b64 (roundRatio b64 false A B 0) = w at lp ⊢
    rw [if_neg (by omega), if_neg (by omega), if_neg (by omega), if_neg (by omega)]
  · obtain ⟨n, rfl⟩ := Int.eq_ofNat_of_zero_le h0
    have F := own_F (A := A) (B := B) (n := n) hA hB0 hB (by omega)
    rw [show ((n : Int) * ((2 ^ 1074 : Nat) : Int)) = ((n * 2 ^ 1074 : Nat) : Int) from (Int.natCast_mul _ _).symm, show ((n : Int) * (B : Int)) = ((n * B : Nat) : Int) from (Int.natCast_mul _ _).symm]
    generalize n * 2 ^ 1074 = X at F ⊢
    generalize n * B = Y at F ⊢
    generalize zmag b64 (roundRatio b64 false A B 0) = w at F ⊢
    rcases Nat.lt_trichotomy (A * 1048576) Y with h | h | h
    · have q := F.1 h
      rw [if_pos (by omega), if_pos (by omega)]
    · have q := F.2.1 h
      rw [if_neg (by omega), if_pos (by omega), if_neg (by omega), if_pos (by omega)]
    · have q := F.2.2 h
      rw [if_neg (by omega), if_neg (by omega), if_neg (by omega), if_neg (by omega)]
theorem own_rz0 {s : Int32} (hs : 1 ≤ s.toInt) : val64 (FP.ddiv (FP.dmul 4611686018427387904 (FP.i2d 0)) (FP.i2d s)) = .fin false 0 b64.qmin := by
  obtain ⟨d, r, hv2, hd, -⟩ := own_i2d s (by omega)
  have v0 : val64 (FP.dmul 4611686018427387904 (FP.i2d 0)) = .fin false 0 b64.qmin := by decide +kernel
  have e1 : val64 (FP.ddiv (FP.dmul 4611686018427387904 (FP.i2d 0)) (FP.i2d s)) = quotient b64 (val64 (FP.dmul 4611686018427387904 (FP.i2d 0))) (val64 (FP.i2d s)) := val64_ddiv _ _
  rw [e1, v0, hv2, show decide (s.toInt < 0) = false from decide_eq_false (by omega)]
  show (if d = 0 then _ else roundRatio b64 (false != false) 0 d (b64.qmin - r)) = _
  rw [if_neg (by omega)]
  rfl
theorem own_l0 {x : Int64} (h : 1 ≤ x.toInt) (z : x = 0) : False := by subst z; exact absurd h (by decide)
theorem own_rz1 {c s : Int32} (hc : 1 ≤ c.toInt) (hc2 : c.toInt ≤ 1073741824) (hs : 1 ≤ s.toInt) : val64 (FP.ddiv (FP.dmul 4611686018427387904 (FP.i2d c)) (FP.i2d s)) = roundRatio b64 false (2 * c.toInt.toNat) s.toInt.toNat 0 := by
  have e2 : (4611686018427387904 : UInt64) = FP.l2d 2 := by decide +kernel
  have hc64 : c.toInt64.toInt = c.toInt := c_i2l c
  have t2 : (2 : Int64).toInt = 2 := by decide
  have e : FP.dmul 4611686018427387904 (FP.i2d c) = FP.l2d (2 * c.toInt64) := by
    rw [e2, i2d_w]
    exact dmul_w (by constructor <;> rw [t2] <;> decide) (by constructor <;> rw [hc64] <;> omega) (by decide) (fun z => own_l0 (by rw [hc64]; omega) z) (by rw [t2, hc64]; omega) (by rw [t2, hc64]; omega)
  have m : (2 * c.toInt64).toInt = 2 * c.toInt := by
    have := c_lmul 2 c.toInt64
    have h1 := Int64.le_toInt (2 * c.toInt64)
    have h2 := Int64.toInt_lt (2 * c.toInt64)
    rw [t2, hc64] at this
    omega
  rw [e]
  have k := own_divG (x := FP.l2d (2 * c.toInt64)) (y := FP.i2d s) (l2d_int (by rw [m]; omega)) (i2d_int s) (by rw [m]; omega) (by omega)
  rw [k, m, show decide (2 * c.toInt < 0) = false from decide_eq_false (by omega), show decide (s.toInt < 0) = false from decide_eq_false (by omega)]
  rw [show (2 * c.toInt).natAbs = 2 * c.toInt.toNat by omega, show s.toInt.natAbs = s.toInt.toNat by omega]
  rfl
end OwnF2
section OwnF3
open Jvm.FP.Core
theorem own_lc (e : Int64) : lcmpW e 0 = if e.toInt < 0 then -1 else if e.toInt = 0 then 0 else 1 := by
  have z : (0 : Int64).toInt = 0 := by decide
  simp only [lcmpW, Int64.lt_iff_toInt_lt, ← Int64.toInt_inj, z]
  rcases Int.lt_trichotomy e.toInt 0 with h | h | h
  · rw [if_neg (by omega), if_neg (by omega), if_pos h]
  · rw [if_neg (by omega), if_pos h, if_neg (by omega), if_pos h]
  · rw [if_pos h, if_neg (by omega), if_neg (by omega)]
theorem own_x0 {r : UInt64} (h : val64 r = .fin false 0 b64.qmin) : val64 (FP.dmul r 4697254411347427328) ≠ .nan ∧ own_z (FP.dmul r 4697254411347427328) = 0 := by
  have e : val64 (FP.dmul r 4697254411347427328) = .fin false 0 b64.qmin := by
    have e1 : val64 (FP.dmul r 4697254411347427328) = round b64 (exactProduct (val64 r) (val64 4697254411347427328)) := val64_dmul _ _
    rw [e1, h, own_K20]
    show roundRatio b64 (false != false) (0 * 2 ^ 52) 1 (b64.qmin + -32) = _
    rw [Nat.zero_mul]
    rfl
  refine ⟨by rw [e]; exact Datum.noConfusion, ?_⟩
  unfold own_z zval zmag
  rw [e]
  show signed false (0 * _) = 0
  rw [Nat.zero_mul]; rfl
theorem own_sum {pp gg : Int32} (hp1 : 0 ≤ pp.toInt) (hp2 : pp.toInt ≤ 1073741823) (hg1 : 1 ≤ gg.toInt) (hg2 : gg.toInt ≤ 1073741824) : (pp + gg).toInt = pp.toInt + gg.toInt ∧ (pp.toInt64 + gg.toInt64).toInt = pp.toInt + gg.toInt := by
  have a := c_iadd pp gg
  have a1 := Int32.le_toInt (pp + gg)
  have a2 := Int32.toInt_lt (pp + gg)
  have b := c_ladd pp.toInt64 gg.toInt64
  have b1 := Int64.le_toInt (pp.toInt64 + gg.toInt64)
  have b2 := Int64.toInt_lt (pp.toInt64 + gg.toInt64)
  rw [c_i2l, c_i2l] at b
  constructor <;> omega
theorem own_scl {cc : Int32} (h0 : 0 ≤ cc.toInt) (h1 : cc.toInt ≤ 1073741824) : ((cc.toInt64 * (2 : Int64)) <<< ((20 : Int32) &&& 0x3f).toInt64).toInt = cc.toInt * 2097152 := by
  have a := c_lmul cc.toInt64 2
  have a1 := Int64.le_toInt (cc.toInt64 * 2)
  have a2 := Int64.toInt_lt (cc.toInt64 * 2)
  rw [c_i2l, show (2 : Int64).toInt = 2 by decide] at a
  have b := c_lshl (cc.toInt64 * (2 : Int64)) 20 20 (by decide)
  have b1 := Int64.le_toInt ((cc.toInt64 * (2 : Int64)) <<< ((20 : Int32) &&& 0x3f).toInt64)
  have b2 := Int64.toInt_lt ((cc.toInt64 * (2 : Int64)) <<< ((20 : Int32) &&& 0x3f).toInt64)
  rw [show ((2 ^ 20 : Nat) : Int) = 1048576 by decide] at b
  omega
theorem own_main {pp gg cc kk : Int32} (hp1 : 0 ≤ pp.toInt) (hp2 : pp.toInt ≤ 1073741823) (hg1 : 1 ≤ gg.toInt) (hg2 : gg.toInt ≤ 1073741824) (hc0 : 0 ≤ cc.toInt) (hc1 : cc.toInt ≤ pp.toInt) (hc2 : cc.toInt ≤ gg.toInt) (hk1 : 0 ≤ kk.toInt) (hk2 : kk.toInt ≤ 4)
    {s sc j : Int64} (es : pp.toInt64 + gg.toInt64 = s) (esc : (cc.toInt64 * (2 : Int64)) <<< ((20 : Int32) &&& 0x3f).toInt64 = sc) (ej : sc / s + kk.toInt64 - 2 = j) (o : CmpOp) :
    cmpValue (FP.dcmp (FP.dmul (FP.ddiv (FP.dmul 4611686018427387904 (FP.i2d cc)) (FP.i2d (pp + gg))) 4697254411347427328) (FP.i2d j.toInt32)) o = lcmpW (sc - j * s) 0 := by
  obtain ⟨hs32, hs⟩ := own_sum hp1 hp2 hg1 hg2
  rw [es] at hs
  have hsc := own_scl hc0 (by omega)
  rw [esc] at hsc
  have hq := (c_ldiv sc s s.toInt rfl (fun z => by rw [z, show (-1 : Int64).toInt = -1 by decide] at hs; omega)).1 (by omega)
  have q0 : 0 ≤ sc.toInt / s.toInt := Int.ediv_nonneg (by omega) (by omega)
  have q1 : sc.toInt / s.toInt ≤ 1048576 := Int.ediv_le_of_le_mul (by omega) (by omega)
  have hj : j.toInt = sc.toInt / s.toInt + kk.toInt - 2 := by
    have a := c_ladd (sc / s) kk.toInt64
    have a1 := Int64.le_toInt (sc / s + kk.toInt64)
    have a2 := Int64.toInt_lt (sc / s + kk.toInt64)
    rw [c_i2l, hq] at a
    have b := c_lsub (sc / s + kk.toInt64) 2
    have b1 := Int64.le_toInt (sc / s + kk.toInt64 - 2)
    have b2 := Int64.toInt_lt (sc / s + kk.toInt64 - 2)
    rw [show (2 : Int64).toInt = 2 by decide] at b
    rw [← ej]
    omega
  generalize sc.toInt / s.toInt = q at hq q0 q1 hj
  have hj32 : j.toInt32.toInt = j.toInt := by
    have a := c_l2i j
    have a1 := Int32.le_toInt j.toInt32
    have a2 := Int32.toInt_lt j.toInt32
    omega
  have hex : (sc - j * s).toInt = sc.toInt - j.toInt * s.toInt := by
    have m1 : j.toInt * s.toInt ≤ 1048578 * s.toInt := Int.mul_le_mul_of_nonneg_right (by omega) (by omega)
    have m2 : (-2) * s.toInt ≤ j.toInt * s.toInt := Int.mul_le_mul_of_nonneg_right (by omega) (by omega)
    have a := c_lmul j s
    have a1 := Int64.le_toInt (j * s)
    have a2 := Int64.toInt_lt (j * s)
    have b := c_lsub sc (j * s)
    have b1 := Int64.le_toInt (sc - j * s)
    have b2 := Int64.toInt_lt (sc - j * s)
    generalize j.toInt * s.toInt = X at m1 m2 a ⊢
    omega
  have dj : DInt j.toInt (FP.i2d j.toInt32) := by have h := i2d_int j.toInt32; rw [hj32] at h; exact h
  rw [own_lc, hex, hsc]
  by_cases z : cc.toInt = 0
  · have zc : cc = 0 := own_i32 z
    subst zc
    have x0 := own_x0 (own_rz0 (s := pp + gg) (by omega))
    have zj := own_zint dj
    rw [own_cmp x0.1 zj.1 o, x0.2, zj.2, z]
    have P0 : (0 : Int) < ((2 ^ 1074 : Nat) : Int) := Int.natCast_pos.mpr (Nat.two_pow_pos _)
    generalize ((2 ^ 1074 : Nat) : Int) = P at P0 ⊢
    have hs0 : 0 < s.toInt := by omega
    generalize j.toInt = J
    generalize s.toInt = S at hs0
    rcases Int.lt_trichotomy J 0 with h | h | h
    · have u1 := Int.mul_neg_of_neg_of_pos h P0
      have u2 := Int.mul_neg_of_neg_of_pos h hs0
      rw [if_neg (by omega), if_neg (by omega), if_neg (by omega), if_neg (by omega)]
    · subst h
      simp
    · have u1 := Int.mul_pos h P0
      have u2 := Int.mul_pos h hs0
      rw [if_pos (by omega), if_pos (by omega)]
  · have k := own_fin (A := 2 * cc.toInt.toNat) (B := (pp + gg).toInt.toNat) (J := j.toInt) (by omega) (by omega) (by omega) (own_rz1 (c := cc) (s := pp + gg) (by omega) (by omega) (by omega)) dj (by omega) o
    rw [k]
    have e1 : ((2 * cc.toInt.toNat : Nat) : Int) * 1048576 = cc.toInt * 2097152 := by omega
    have e2 : (((pp + gg).toInt.toNat : Nat) : Int) = s.toInt := by omega
    rw [e1, e2]
    generalize j.toInt * s.toInt = X
    generalize cc.toInt * 2097152 = Y
    rcases Int.lt_trichotomy Y X with h | h | h
    · rw [if_pos h, if_pos (by omega)]
    · rw [if_neg (by omega), if_pos h, if_neg (by omega), if_pos (by omega)]
    · rw [if_neg (by omega), if_neg (by omega), if_neg (by omega), if_neg (by omega)]
theorem own_nn1 (cc : Int32) : Jvm.Free.Fl.NoNaN64 (FP.dmul 4611686018427387904 (FP.i2d cc)) := Jvm.Free.Fl.dmul_out (by unfold Jvm.Free.Fl.Fin64; decide) (Jvm.Free.Fl.i2d_fin cc)
theorem own_nn2 (cc : Int32) {s : Int32} (hs : 1 ≤ s.toInt) : Jvm.Free.Fl.NoNaN64 (FP.ddiv (FP.dmul 4611686018427387904 (FP.i2d cc)) (FP.i2d s)) := Jvm.Free.Fl.ddiv_out (own_nn1 cc) (Jvm.Free.Fl.i2d_fin s) ((Jvm.Free.Fl.nz64_iff _).mpr (Jvm.FP.Core.i2d_ne_zero (fun z => by subst z; exact absurd hs (by decide))))
theorem own_nn3 {r : UInt64} (h : Jvm.Free.Fl.NoNaN64 r) : Jvm.Free.Fl.NoNaN64 (FP.dmul r 4697254411347427328) := Jvm.Free.Fl.dmul_outNz h (by unfold Jvm.Free.Fl.Fin64; decide) (by unfold Jvm.Free.Fl.Nz64; decide)
end OwnF3
theorem own_nz1 {m : Int32} (h : 1 ≤ m.toInt) : m ≠ 0 := fun z => by subst z; exact absurd h (by decide)
theorem own_nzS {pp gg : Int32} {s : Int64} (es : pp.toInt64 + gg.toInt64 = s) (hp1 : 0 ≤ pp.toInt) (hp2 : pp.toInt ≤ 1073741823) (hg1 : 1 ≤ gg.toInt) (hg2 : gg.toInt ≤ 1073741824) : s ≠ 0 := fun z => by
  have h := (own_sum hp1 hp2 hg1 hg2).2
  rw [es, z, show (0 : Int64).toInt = 0 by decide] at h
  omega
theorem own_gold {v : Int32} (l : 0 ≤ v.toInt) (u : v.toInt ≤ 1073741823) : 1 ≤ (v + (1 : Int32)).toInt ∧ (v + (1 : Int32)).toInt ≤ 1073741824 := by
  have a := c_iadd v 1
  have a1 := Int32.le_toInt (v + 1)
  have a2 := Int32.toInt_lt (v + 1)
  rw [show (1 : Int32).toInt = 1 by decide] at a
  constructor <;> omega
theorem own_remF {x y : Int32} {u w : Int} (hx : 0 ≤ x.toInt) (hy : 1 ≤ y.toInt) (h1 : y.toInt ≤ u + 1) (h2 : y.toInt ≤ w + 1) : 0 ≤ (x % y).toInt ∧ (x % y).toInt ≤ u ∧ (x % y).toInt ≤ w := by
  have h := (c_iremV x y).1 hx (by omega)
  exact ⟨h.1, by omega, by omega⟩

def own_min (p0 : Int32) (p1 : Int32) : Int32 := (if p1 < p0 then p1 else p0)
set_option maxRecDepth 65536 in
set_option maxHeartbeats 40000000 in
theorem rm_own_min {l : Launch} {Z : State} {a0 : Array Value} (hw : ∀ d ∈ tables_1, d.before a0 Z = true) {p0 : Int32} {p1 : Int32} {h0 : Heap} {n0 : Nat} (O : Old Z n0 h0)  :
    Met1 l Z (⟨"java/lang/Math", "min", "(II)I"⟩ : MethodName) jdk_29_method_69_code 2 (some .int) ({ frames := 0, cells := 0, slots := 0, locals := 0 } : Room) #[(.int p0), (.int p1)] h0 n0 (fun v h => v = .int (own_min p0 p1) ∧ h0 = h) := by
  refine met_of (L := #[.val (.int p0), .val (.int p1)]) (Jvm.Free.JP.mathPlain rfl (by decide +kernel)) (fun m => by first | (simp [entryFrame, mkF, argsToLocals, Value.category]; done) | rfl) ?_
  intro p e s m below meth c T C X
  change Cx p s m meth c Z "java/lang/Math" jdk_29_method_69_code 2 (some .int) "min" at C
  refine g_iloadN C X d1_0 (q := 1) rfl rfl ?_
  refine g_iloadN C X d1_1 (q := 2) rfl rfl ?_
  by_cases hc1 : p1 < p0
  · refine g_icY C X d1_2 (by decide) (q := 9) (by decide) (tlt hc1).2.2.1 ?_
    refine g_iloadN C X d1_9 (q := 10) rfl rfl ?_
    exact g_retI C X d1_10 (by decide) (by decide) ⟨_, rfl, by unfold own_min; rw [if_pos hc1], rfl⟩
  · refine g_icN C X d1_2 (q := 5) rfl (flt hc1).2.2.1 ?_
    refine g_iloadN C X d1_5 (q := 6) rfl rfl ?_
    refine g_goto C X d1_6 (by decide) (q := 10) (by decide) ?_
    exact g_retI C X d1_10 (by decide) (by decide) ⟨_, rfl, by unfold own_min; rw [if_neg hc1], rfl⟩
theorem own_minF {a b : Int32} (a1 : 0 ≤ a.toInt) (a2 : a.toInt ≤ 1073741823) (b1 : 1 ≤ b.toInt) (b2 : b.toInt ≤ 1073741824) : (1 ≤ (own_min a b + (1 : Int32)).toInt ∧ (own_min a b + (1 : Int32)).toInt ≤ 1073741824) ∧ (own_min a b + (1 : Int32)).toInt ≤ a.toInt + 1 ∧ (own_min a b + (1 : Int32)).toInt ≤ b.toInt + 1 := by
  have m : own_min a b = a ∧ a.toInt ≤ b.toInt ∨ own_min a b = b ∧ b.toInt ≤ a.toInt := by
    unfold own_min
    split
    · rename_i h
      have := Int32.lt_iff_toInt_lt.mp h
      exact Or.inr ⟨rfl, by omega⟩
    · rename_i h
      rw [Int32.lt_iff_toInt_lt] at h
      exact Or.inl ⟨rfl, by omega⟩
  have k := c_iadd (own_min a b) 1
  have k1 := Int32.le_toInt (own_min a b + 1)
  have k2 := Int32.toInt_lt (own_min a b + 1)
  rw [show (1 : Int32).toInt = 1 by decide] at k
  rcases m with ⟨m, q⟩ | ⟨m, q⟩ <;> rw [m] at k k1 k2 ⊢ <;> refine ⟨⟨?_, ?_⟩, ?_, ?_⟩ <;> omega

set_option maxRecDepth 65536 in
set_option maxHeartbeats 40000000 in
theorem rm_f1 {l : Launch} {Z : State} {a0 : Array Value} (hw : ∀ d ∈ tables_1, d.before a0 Z = true) {p0 p1 p2 : Int32} {h0 : Heap} {n0 : Nat} (O : Old Z n0 h0) (hs : 1 ≤ (p1 + p2).toInt) :
    Met1 l Z (⟨"com/example/versus_search/versussearch/StanceEvaluation", "f1", "(III)D"⟩ : MethodName) prog_22_method_3_code 3 (some .double) ({ frames := 0, cells := 0, slots := 0, locals := 0 } : Room) #[(.int p0), (.int p1), (.int p2)] h0 n0 (fun v h => v = .double (FP.ddiv (FP.dmul (4611686018427387904 : UInt64) (FP.i2d p0)) (FP.i2d (p1 + p2))) ∧ h0 = h) := by
  refine met_of (L := #[.val (.int p0), .val (.int p1), .val (.int p2)]) (plainFor_of_name pn_17) (fun m => by first | (simp [entryFrame, mkF, argsToLocals, Value.category]; done) | rfl) ?_
  intro p e s m below meth c T C X
  change Cx p s m meth c Z "com/example/versus_search/versussearch/StanceEvaluation" prog_22_method_3_code 3 (some .double) "f1" at C
  refine g_ldcD C X (w10 hw) d2_0 (q := 3) rfl ?_
  refine g_iloadN C X d2_3 (q := 4) rfl rfl ?_
  refine g_i2d C X d2_4 (q := 5) rfl rfl ?_
  refine g_dmul C X d2_5 (q := 6) rfl (own_nn1 p0) rfl ?_
  refine g_iloadN C X d2_6 (q := 7) rfl rfl ?_
  refine g_iloadN C X d2_7 (q := 8) rfl rfl ?_
  refine g_iadd C X d2_8 (q := 9) rfl (z := (p1 + p2)) rfl ?_
  refine g_i2d C X d2_9 (q := 10) rfl rfl ?_
  refine g_ddiv C X d2_10 (q := 11) rfl (own_nn2 p0 hs) rfl ?_
  exact g_retD C X d2_11 (by decide) (by decide) ⟨_, rfl, rfl, rfl⟩
set_option maxRecDepth 65536 in
set_option maxHeartbeats 40000000 in
theorem rmLaw {l : Launch} {Z : State} {a0 : Array Value} (hw : ∀ d ∈ tables_1, d.before a0 Z = true) {p0 p1 p2 p3 : Int32}  {h0 : Heap} {n0 : Nat} (O : Old Z n0 h0) (W : Wd Z ) :
    Met1 l Z x code maxLocals ret room_1 #[(.int p0), (.int p1), (.int p2), (.int p3)] h0 n0 (fun v h => v = .int 1 ∧ True) := by
  refine met_of (L := #[.val (.int p0), .val (.int p1), .val (.int p2), .val (.int p3), .unset, .unset, .unset, .unset, .unset, .unset, .unset, .unset, .unset, .unset, .unset, .unset, .unset, .unset, .unset, .unset, .unset, .unset, .unset]) (plainFor_of_name pn_20) (fun m => by first | (simp [entryFrame, mkF, argsToLocals, Value.category, maxLocals]; done) | rfl) ?_
  intro p e s m below meth c T C X
  change Cx p s m meth c Z "com/example/versus_search/versussearch/StanceEvaluationF1PinLaw" code 23 (some .boolean) "law" at C
  change Goes p e below (FinN _ s n0 0 0) _
  refine g_iloadN C X at_0 (q := 1) rfl rfl ?_
  refine g_ldcI C X (w0 hw) at_1 (q := 3) rfl ?_
  obtain ⟨v1, ev1⟩ : ∃ z, (p2 &&& (1073741823 : Int32)) = z := ⟨_, rfl⟩
  have hl2 : 0 ≤ v1.toInt := by rw [← ev1]; exact (c_and p2 (1073741823 : Int32) (by decide)).1
  have hh3 : v1.toInt ≤ 1073741823 := by rw [← ev1]; exact (c_and p2 (1073741823 : Int32) (by decide)).2
  refine g_iand C X at_3 (q := 4) rfl (z := v1) ev1 ?_
  refine g_iconst C X at_4 (q := 5) rfl (z := (1 : Int32)) rfl ?_
  obtain ⟨v4, ev4⟩ : ∃ z, (v1 + (1 : Int32)) = z := ⟨_, rfl⟩
  have hl5 : 1 ≤ v4.toInt := by rw [← ev4]; exact (own_gold hl2 hh3).1
  have hh6 : v4.toInt ≤ 1073741824 := by rw [← ev4]; exact (own_gold hl2 hh3).2
  refine g_iadd C X at_5 (q := 6) rfl (z := v4) ev4 ?_
  refine g_istore C X at_6 (q := 8) rfl (L' := #[.val (.int p0), .val (.int p1), .val (.int p2), .val (.int p3), .val (.int v4), .unset, .unset, .unset, .unset, .unset, .unset, .unset, .unset, .unset, .unset, .unset, .unset, .unset, .unset, .unset, .unset, .unset, .unset]) rfl ?_
  refine g_iloadN C X at_8 (q := 9) rfl rfl ?_
  refine g_ldcI C X (w0 hw) at_9 (q := 11) rfl ?_
  obtain ⟨v7, ev7⟩ : ∃ z, (p1 &&& (1073741823 : Int32)) = z := ⟨_, rfl⟩
  have hl8 : 0 ≤ v7.toInt := by rw [← ev7]; exact (c_and p1 (1073741823 : Int32) (by decide)).1
  have hh9 : v7.toInt ≤ 1073741823 := by rw [← ev7]; exact (c_and p1 (1073741823 : Int32) (by decide)).2
  refine g_iand C X at_11 (q := 12) rfl (z := v7) ev7 ?_
  refine g_istore C X at_12 (q := 14) rfl (L' := #[.val (.int p0), .val (.int p1), .val (.int p2), .val (.int p3), .val (.int v4), .val (.int v7), .unset, .unset, .unset, .unset, .unset, .unset, .unset, .unset, .unset, .unset, .unset, .unset, .unset, .unset, .unset, .unset, .unset]) rfl ?_
  refine g_iloadN C X at_14 (q := 15) rfl rfl ?_
  refine g_ldcI C X (w1 hw) at_15 (q := 17) rfl ?_
  obtain ⟨v10, ev10⟩ : ∃ z, (p0 &&& (2147483647 : Int32)) = z := ⟨_, rfl⟩
  have hl11 : 0 ≤ v10.toInt := by rw [← ev10]; exact (c_and p0 (2147483647 : Int32) (by decide)).1
  have hh12 : v10.toInt ≤ 2147483647 := by rw [← ev10]; exact (c_and p0 (2147483647 : Int32) (by decide)).2
  refine g_iand C X at_17 (q := 18) rfl (z := v10) ev10 ?_
  refine g_iload C X at_18 (q := 20) rfl rfl ?_
  refine g_iload C X at_20 (q := 22) rfl rfl ?_
  refine g_callS1 C X (y := (⟨"java/lang/Math", "min", "(II)I"⟩ : MethodName)) (by decide) (w2 hw) (w3 hw) (w5 hw) (w4 hw) (rm_own_min hw (p0 := v7) (p1 := v4) O) (W := 1) (by decide) (by decide) (k' := 0) rfl (n' := 0) rfl (by decide) (by decide) rfl pd_18 (argsL := [(.int v7), (.int v4)]) rfl (rest := [(.int v10)]) rfl rfl rfl at_22 (q := 25) rfl ?_
  rintro _ T13 _ X14 ⟨rfl, rfl⟩
  refine g_iconst C X14 at_25 (q := 26) rfl (z := (1 : Int32)) rfl ?_
  obtain ⟨v15, ev15⟩ : ∃ z, ((own_min v7 v4) + (1 : Int32)) = z := ⟨_, rfl⟩
  have hl16 : 1 ≤ v15.toInt := by rw [← ev15]; exact (own_minF hl8 hh9 hl5 hh6).1.1
  have hh17 : v15.toInt ≤ 1073741824 := by rw [← ev15]; exact (own_minF hl8 hh9 hl5 hh6).1.2
  have hm18 : v15.toInt ≤ v7.toInt + 1 := by rw [← ev15]; exact (own_minF hl8 hh9 hl5 hh6).2.1
  have hm19 : v15.toInt ≤ v4.toInt + 1 := by rw [← ev15]; exact (own_minF hl8 hh9 hl5 hh6).2.2
  refine g_iadd C X14 at_26 (q := 27) rfl (z := v15) ev15 ?_
  obtain ⟨v20, ev20⟩ : ∃ z, (v10 % v15) = z := ⟨_, rfl⟩
  have hq0 : 0 ≤ v20.toInt := by rw [← ev20]; exact (own_remF hl11 hl16 hm18 hm19).1
  have hq1 : v20.toInt ≤ v7.toInt := by rw [← ev20]; exact (own_remF hl11 hl16 hm18 hm19).2.1
  have hq2 : v20.toInt ≤ v4.toInt := by rw [← ev20]; exact (own_remF hl11 hl16 hm18 hm19).2.2
  refine g_irem C X14 at_27 (q := 28) rfl (own_nz1 hl16) (z := v20) ev20 ?_
  refine g_istore C X14 at_28 (q := 30) rfl (L' := #[.val (.int p0), .val (.int p1), .val (.int p2), .val (.int p3), .val (.int v4), .val (.int v7), .val (.int v20), .unset, .unset, .unset, .unset, .unset, .unset, .unset, .unset, .unset, .unset, .unset, .unset, .unset, .unset, .unset, .unset]) rfl ?_
  refine g_iload C X14 at_30 (q := 32) rfl rfl ?_
  refine g_iload C X14 at_32 (q := 34) rfl rfl ?_
  refine g_iload C X14 at_34 (q := 36) rfl rfl ?_
  have hs21 : 1 ≤ (v7 + v4).toInt := by rw [(own_sum hl8 hh9 hl5 hh6).1]; omega
  refine g_callS1 C X14 (y := (⟨"com/example/versus_search/versussearch/StanceEvaluation", "f1", "(III)D"⟩ : MethodName)) (by decide) (w6 hw) (w7 hw) (w9 hw) (w8 hw) (rm_f1 hw O hs21) (W := 0) (by decide) (by decide) (k' := 0) rfl (n' := 0) rfl (by decide) (by decide) rfl pd_19 (argsL := [(.int v20), (.int v7), (.int v4)]) rfl (rest := []) rfl rfl rfl at_36 (q := 39) rfl ?_
  rintro _ T22 _ X23 ⟨rfl, rfl⟩
  refine g_dstore C X23 at_39 (q := 41) rfl (L' := #[.val (.int p0), .val (.int p1), .val (.int p2), .val (.int p3), .val (.int v4), .val (.int v7), .val (.int v20), .val (.double (FP.ddiv (FP.dmul (4611686018427387904 : UInt64) (FP.i2d v20)) (FP.i2d (v7 + v4)))), .second, .unset, .unset, .unset, .unset, .unset, .unset, .unset, .unset, .unset, .unset, .unset, .unset, .unset, .unset]) rfl ?_
  refine g_iload C X23 at_41 (q := 43) rfl rfl ?_
  refine g_i2l C X23 at_43 (q := 44) rfl (z := (v7.toInt64)) rfl ?_
  refine g_iload C X23 at_44 (q := 46) rfl rfl ?_
  refine g_i2l C X23 at_46 (q := 47) rfl (z := (v4.toInt64)) rfl ?_
  obtain ⟨sv, esv⟩ : ∃ z, ((v7.toInt64) + (v4.toInt64)) = z := ⟨_, rfl⟩
  refine g_ladd C X23 at_47 (q := 48) rfl (z := sv) esv ?_
  refine g_lstore C X23 at_48 (q := 50) rfl (L' := #[.val (.int p0), .val (.int p1), .val (.int p2), .val (.int p3), .val (.int v4), .val (.int v7), .val (.int v20), .val (.double (FP.ddiv (FP.dmul (4611686018427387904 : UInt64) (FP.i2d v20)) (FP.i2d (v7 + v4)))), .second, .val (.long sv), .second, .unset, .unset, .unset, .unset, .unset, .unset, .unset, .unset, .unset, .unset, .unset, .unset]) rfl ?_
  refine g_iload C X23 at_50 (q := 52) rfl rfl ?_
  refine g_i2l C X23 at_52 (q := 53) rfl (z := (v20.toInt64)) rfl ?_
  refine g_ldcJ C X23 (w11 hw) at_53 (q := 56) rfl ?_
  refine g_lmul C X23 at_56 (q := 57) rfl (z := ((v20.toInt64) * (2 : Int64))) rfl ?_
  refine g_bipush C X23 at_57 (q := 59) rfl (z := (20 : Int32)) rfl ?_
  obtain ⟨scv, escv⟩ : ∃ z, (((v20.toInt64) * (2 : Int64)) <<< ((20 : Int32) &&& 0x3f).toInt64) = z := ⟨_, rfl⟩
  refine g_lshl C X23 at_59 (q := 60) rfl (z := scv) escv ?_
  refine g_lstore C X23 at_60 (q := 62) rfl (L' := #[.val (.int p0), .val (.int p1), .val (.int p2), .val (.int p3), .val (.int v4), .val (.int v7), .val (.int v20), .val (.double (FP.ddiv (FP.dmul (4611686018427387904 : UInt64) (FP.i2d v20)) (FP.i2d (v7 + v4)))), .second, .val (.long sv), .second, .val (.long scv), .second, .unset, .unset, .unset, .unset, .unset, .unset, .unset, .unset, .unset, .unset]) rfl ?_
  refine g_lload C X23 at_62 (q := 64) rfl rfl ?_
  refine g_lload C X23 at_64 (q := 66) rfl rfl ?_
  refine g_ldiv C X23 at_66 (q := 67) rfl (own_nzS esv hl8 hh9 hl5 hh6) (z := (scv / sv)) rfl ?_
  refine g_iloadN C X23 at_67 (q := 68) rfl rfl ?_
  refine g_ldcI C X23 (w1 hw) at_68 (q := 70) rfl ?_
  obtain ⟨v24, ev24⟩ : ∃ z, (p3 &&& (2147483647 : Int32)) = z := ⟨_, rfl⟩
  have hl25 : 0 ≤ v24.toInt := by rw [← ev24]; exact (c_and p3 (2147483647 : Int32) (by decide)).1
  have hh26 : v24.toInt ≤ 2147483647 := by rw [← ev24]; exact (c_and p3 (2147483647 : Int32) (by decide)).2
  refine g_iand C X23 at_70 (q := 71) rfl (z := v24) ev24 ?_
  refine g_iconst C X23 at_71 (q := 72) rfl (z := (5 : Int32)) rfl ?_
  obtain ⟨v27, ev27⟩ : ∃ z, (v24 % (5 : Int32)) = z := ⟨_, rfl⟩
  have hl28 : 0 ≤ v27.toInt := by rw [← ev27]; exact (own_rem (y := (5 : Int32)) (d := 4) (by decide) (by decide) (Int.le_trans (by decide) hl25)).1
  have hh29 : v27.toInt ≤ 4 := by rw [← ev27]; exact (own_rem (y := (5 : Int32)) (d := 4) (by decide) (by decide) (Int.le_trans (by decide) hl25)).2
  refine g_irem C X23 at_72 (q := 73) rfl (by decide) (z := v27) ev27 ?_
  refine g_i2l C X23 at_73 (q := 74) rfl (z := (v27.toInt64)) rfl ?_
  refine g_ladd C X23 at_74 (q := 75) rfl (z := ((scv / sv) + (v27.toInt64))) rfl ?_
  refine g_ldcJ C X23 (w11 hw) at_75 (q := 78) rfl ?_
  obtain ⟨jv, ejv⟩ : ∃ z, (((scv / sv) + (v27.toInt64)) - (2 : Int64)) = z := ⟨_, rfl⟩
  refine g_lsub C X23 at_78 (q := 79) rfl (z := jv) ejv ?_
  refine g_lstore C X23 at_79 (q := 81) rfl (L' := #[.val (.int p0), .val (.int p1), .val (.int p2), .val (.int p3), .val (.int v4), .val (.int v7), .val (.int v20), .val (.double (FP.ddiv (FP.dmul (4611686018427387904 : UInt64) (FP.i2d v20)) (FP.i2d (v7 + v4)))), .second, .val (.long sv), .second, .val (.long scv), .second, .val (.long jv), .second, .unset, .unset, .unset, .unset, .unset, .unset, .unset, .unset]) rfl ?_
  refine g_lload C X23 at_81 (q := 83) rfl rfl ?_
  refine g_lload C X23 at_83 (q := 85) rfl rfl ?_
  refine g_lload C X23 at_85 (q := 87) rfl rfl ?_
  refine g_lmul C X23 at_87 (q := 88) rfl (z := (jv * sv)) rfl ?_
  refine g_lsub C X23 at_88 (q := 89) rfl (z := (scv - (jv * sv))) rfl ?_
  refine g_lstore C X23 at_89 (q := 91) rfl (L' := #[.val (.int p0), .val (.int p1), .val (.int p2), .val (.int p3), .val (.int v4), .val (.int v7), .val (.int v20), .val (.double (FP.ddiv (FP.dmul (4611686018427387904 : UInt64) (FP.i2d v20)) (FP.i2d (v7 + v4)))), .second, .val (.long sv), .second, .val (.long scv), .second, .val (.long jv), .second, .val (.long (scv - (jv * sv))), .second, .unset, .unset, .unset, .unset, .unset, .unset]) rfl ?_
  refine g_dload C X23 at_91 (q := 93) rfl rfl ?_
  refine g_ldcD C X23 (w12 hw) at_93 (q := 96) rfl ?_
  refine g_dmul C X23 at_96 (q := 97) rfl (own_nn3 (own_nn2 _ hs21)) rfl ?_
  refine g_dstore C X23 at_97 (q := 99) rfl (L' := #[.val (.int p0), .val (.int p1), .val (.int p2), .val (.int p3), .val (.int v4), .val (.int v7), .val (.int v20), .val (.double (FP.ddiv (FP.dmul (4611686018427387904 : UInt64) (FP.i2d v20)) (FP.i2d (v7 + v4)))), .second, .val (.long sv), .second, .val (.long scv), .second, .val (.long jv), .second, .val (.long (scv - (jv * sv))), .second, .val (.double (FP.dmul (FP.ddiv (FP.dmul (4611686018427387904 : UInt64) (FP.i2d v20)) (FP.i2d (v7 + v4))) (4697254411347427328 : UInt64))), .second, .unset, .unset, .unset, .unset]) rfl ?_
  refine g_lload C X23 at_99 (q := 101) rfl rfl ?_
  refine g_l2i C X23 at_101 (q := 102) rfl (z := (jv.toInt32)) rfl ?_
  refine g_i2d C X23 at_102 (q := 103) rfl rfl ?_
  refine g_dstore C X23 at_103 (q := 105) rfl (L' := #[.val (.int p0), .val (.int p1), .val (.int p2), .val (.int p3), .val (.int v4), .val (.int v7), .val (.int v20), .val (.double (FP.ddiv (FP.dmul (4611686018427387904 : UInt64) (FP.i2d v20)) (FP.i2d (v7 + v4)))), .second, .val (.long sv), .second, .val (.long scv), .second, .val (.long jv), .second, .val (.long (scv - (jv * sv))), .second, .val (.double (FP.dmul (FP.ddiv (FP.dmul (4611686018427387904 : UInt64) (FP.i2d v20)) (FP.i2d (v7 + v4))) (4697254411347427328 : UInt64))), .second, .val (.double (FP.i2d (jv.toInt32))), .second, .unset, .unset]) rfl ?_
  refine g_dload C X23 at_105 (q := 107) rfl rfl ?_
  refine g_dload C X23 at_107 (q := 109) rfl rfl ?_
  refine g_dcmp C X23 at_109 (q := 110) rfl (z := (lcmpW (scv - (jv * sv)) (0 : Int64))) (own_main hl8 hh9 hl5 hh6 hq0 hq1 hq2 hl28 hh29 esv escv ejv _) ?_
  by_cases hc30 : (lcmpW (scv - (jv * sv)) (0 : Int64)) < (0 : Int32)
  · refine g_ifN C X23 at_110 (q := 113) rfl (tlt hc30).2.1 ?_
    refine g_iconst C X23 at_113 (q := 114) rfl (z := (-1 : Int32)) rfl ?_
    refine g_goto C X23 at_114 (by decide) (q := 130) (by decide) ?_
    refine g_istore C X23 at_130 (q := 132) rfl (L' := #[.val (.int p0), .val (.int p1), .val (.int p2), .val (.int p3), .val (.int v4), .val (.int v7), .val (.int v20), .val (.double (FP.ddiv (FP.dmul (4611686018427387904 : UInt64) (FP.i2d v20)) (FP.i2d (v7 + v4)))), .second, .val (.long sv), .second, .val (.long scv), .second, .val (.long jv), .second, .val (.long (scv - (jv * sv))), .second, .val (.double (FP.dmul (FP.ddiv (FP.dmul (4611686018427387904 : UInt64) (FP.i2d v20)) (FP.i2d (v7 + v4))) (4697254411347427328 : UInt64))), .second, .val (.double (FP.i2d (jv.toInt32))), .second, .val (.int (-1 : Int32)), .unset]) rfl ?_
    refine g_lload C X23 at_132 (q := 134) rfl rfl ?_
    refine g_lconst C X23 at_134 (q := 135) rfl (z := (0 : Int64)) rfl ?_
    refine g_lcmp C X23 at_135 (q := 136) rfl (z := (lcmpW (scv - (jv * sv)) (0 : Int64))) rfl ?_
    refine g_ifN C X23 at_136 (q := 139) rfl (tlt hc30).2.1 ?_
    refine g_iconst C X23 at_139 (q := 140) rfl (z := (-1 : Int32)) rfl ?_
    refine g_goto C X23 at_140 (by decide) (q := 155) (by decide) ?_
    refine g_istore C X23 at_155 (q := 157) rfl (L' := #[.val (.int p0), .val (.int p1), .val (.int p2), .val (.int p3), .val (.int v4), .val (.int v7), .val (.int v20), .val (.double (FP.ddiv (FP.dmul (4611686018427387904 : UInt64) (FP.i2d v20)) (FP.i2d (v7 + v4)))), .second, .val (.long sv), .second, .val (.long scv), .second, .val (.long jv), .second, .val (.long (scv - (jv * sv))), .second, .val (.double (FP.dmul (FP.ddiv (FP.dmul (4611686018427387904 : UInt64) (FP.i2d v20)) (FP.i2d (v7 + v4))) (4697254411347427328 : UInt64))), .second, .val (.double (FP.i2d (jv.toInt32))), .second, .val (.int (-1 : Int32)), .val (.int (-1 : Int32))]) rfl ?_
    refine g_iload C X23 at_157 (q := 159) rfl rfl ?_
    refine g_iload C X23 at_159 (q := 161) rfl rfl ?_
    refine g_icN C X23 at_161 (q := 164) rfl (by decide) ?_
    refine g_iconst C X23 at_164 (q := 165) rfl (z := (1 : Int32)) rfl ?_
    refine g_goto C X23 at_165 (by decide) (q := 169) (by decide) ?_
    exact g_retN C X23 (Or.inl rfl) (z' := 1) (by decide) at_169 (by decide) (by decide) ⟨_, rfl, rfl, trivial⟩
  · refine g_ifY C X23 at_110 (by decide) (q := 117) (by decide) (flt hc30).2.1 ?_
    refine g_dload C X23 at_117 (q := 119) rfl rfl ?_
    refine g_dload C X23 at_119 (q := 121) rfl rfl ?_
    refine g_dcmp C X23 at_121 (q := 122) rfl (z := (lcmpW (scv - (jv * sv)) (0 : Int64))) (own_main hl8 hh9 hl5 hh6 hq0 hq1 hq2 hl28 hh29 esv escv ejv _) ?_
    by_cases hc31 : (lcmpW (scv - (jv * sv)) (0 : Int64)) = (0 : Int32)
    · refine g_ifN C X23 at_122 (q := 125) rfl (teq hc31).2 ?_
      refine g_iconst C X23 at_125 (q := 126) rfl (z := (0 : Int32)) rfl ?_
      refine g_goto C X23 at_126 (by decide) (q := 130) (by decide) ?_
      refine g_istore C X23 at_130 (q := 132) rfl (L' := #[.val (.int p0), .val (.int p1), .val (.int p2), .val (.int p3), .val (.int v4), .val (.int v7), .val (.int v20), .val (.double (FP.ddiv (FP.dmul (4611686018427387904 : UInt64) (FP.i2d v20)) (FP.i2d (v7 + v4)))), .second, .val (.long sv), .second, .val (.long scv), .second, .val (.long jv), .second, .val (.long (scv - (jv * sv))), .second, .val (.double (FP.dmul (FP.ddiv (FP.dmul (4611686018427387904 : UInt64) (FP.i2d v20)) (FP.i2d (v7 + v4))) (4697254411347427328 : UInt64))), .second, .val (.double (FP.i2d (jv.toInt32))), .second, .val (.int (0 : Int32)), .unset]) rfl ?_
      refine g_lload C X23 at_132 (q := 134) rfl rfl ?_
      refine g_lconst C X23 at_134 (q := 135) rfl (z := (0 : Int64)) rfl ?_
      refine g_lcmp C X23 at_135 (q := 136) rfl (z := (lcmpW (scv - (jv * sv)) (0 : Int64))) rfl ?_
      refine g_ifY C X23 at_136 (by decide) (q := 143) (by decide) (flt hc30).2.1 ?_
      refine g_lload C X23 at_143 (q := 145) rfl rfl ?_
      refine g_lconst C X23 at_145 (q := 146) rfl (z := (0 : Int64)) rfl ?_
      refine g_lcmp C X23 at_146 (q := 147) rfl (z := (lcmpW (scv - (jv * sv)) (0 : Int64))) rfl ?_
      refine g_ifN C X23 at_147 (q := 150) rfl (teq hc31).2 ?_
      refine g_iconst C X23 at_150 (q := 151) rfl (z := (0 : Int32)) rfl ?_
      refine g_goto C X23 at_151 (by decide) (q := 155) (by decide) ?_
      refine g_istore C X23 at_155 (q := 157) rfl (L' := #[.val (.int p0), .val (.int p1), .val (.int p2), .val (.int p3), .val (.int v4), .val (.int v7), .val (.int v20), .val (.double (FP.ddiv (FP.dmul (4611686018427387904 : UInt64) (FP.i2d v20)) (FP.i2d (v7 + v4)))), .second, .val (.long sv), .second, .val (.long scv), .second, .val (.long jv), .second, .val (.long (scv - (jv * sv))), .second, .val (.double (FP.dmul (FP.ddiv (FP.dmul (4611686018427387904 : UInt64) (FP.i2d v20)) (FP.i2d (v7 + v4))) (4697254411347427328 : UInt64))), .second, .val (.double (FP.i2d (jv.toInt32))), .second, .val (.int (0 : Int32)), .val (.int (0 : Int32))]) rfl ?_
      refine g_iload C X23 at_157 (q := 159) rfl rfl ?_
      refine g_iload C X23 at_159 (q := 161) rfl rfl ?_
      refine g_icN C X23 at_161 (q := 164) rfl (by decide) ?_
      refine g_iconst C X23 at_164 (q := 165) rfl (z := (1 : Int32)) rfl ?_
      refine g_goto C X23 at_165 (by decide) (q := 169) (by decide) ?_
      exact g_retN C X23 (Or.inl rfl) (z' := 1) (by decide) at_169 (by decide) (by decide) ⟨_, rfl, rfl, trivial⟩
    · refine g_ifY C X23 at_122 (by decide) (q := 129) (by decide) (feq hc31).2 ?_
      refine g_iconst C X23 at_129 (q := 130) rfl (z := (1 : Int32)) rfl ?_
      refine g_istore C X23 at_130 (q := 132) rfl (L' := #[.val (.int p0), .val (.int p1), .val (.int p2), .val (.int p3), .val (.int v4), .val (.int v7), .val (.int v20), .val (.double (FP.ddiv (FP.dmul (4611686018427387904 : UInt64) (FP.i2d v20)) (FP.i2d (v7 + v4)))), .second, .val (.long sv), .second, .val (.long scv), .second, .val (.long jv), .second, .val (.long (scv - (jv * sv))), .second, .val (.double (FP.dmul (FP.ddiv (FP.dmul (4611686018427387904 : UInt64) (FP.i2d v20)) (FP.i2d (v7 + v4))) (4697254411347427328 : UInt64))), .second, .val (.double (FP.i2d (jv.toInt32))), .second, .val (.int (1 : Int32)), .unset]) rfl ?_
      refine g_lload C X23 at_132 (q := 134) rfl rfl ?_
      refine g_lconst C X23 at_134 (q := 135) rfl (z := (0 : Int64)) rfl ?_
      refine g_lcmp C X23 at_135 (q := 136) rfl (z := (lcmpW (scv - (jv * sv)) (0 : Int64))) rfl ?_
      refine g_ifY C X23 at_136 (by decide) (q := 143) (by decide) (flt hc30).2.1 ?_
      refine g_lload C X23 at_143 (q := 145) rfl rfl ?_
      refine g_lconst C X23 at_145 (q := 146) rfl (z := (0 : Int64)) rfl ?_
      refine g_lcmp C X23 at_146 (q := 147) rfl (z := (lcmpW (scv - (jv * sv)) (0 : Int64))) rfl ?_
      refine g_ifY C X23 at_147 (by decide) (q := 154) (by decide) (feq hc31).2 ?_
      refine g_iconst C X23 at_154 (q := 155) rfl (z := (1 : Int32)) rfl ?_
      refine g_istore C X23 at_155 (q := 157) rfl (L' := #[.val (.int p0), .val (.int p1), .val (.int p2), .val (.int p3), .val (.int v4), .val (.int v7), .val (.int v20), .val (.double (FP.ddiv (FP.dmul (4611686018427387904 : UInt64) (FP.i2d v20)) (FP.i2d (v7 + v4)))), .second, .val (.long sv), .second, .val (.long scv), .second, .val (.long jv), .second, .val (.long (scv - (jv * sv))), .second, .val (.double (FP.dmul (FP.ddiv (FP.dmul (4611686018427387904 : UInt64) (FP.i2d v20)) (FP.i2d (v7 + v4))) (4697254411347427328 : UInt64))), .second, .val (.double (FP.i2d (jv.toInt32))), .second, .val (.int (1 : Int32)), .val (.int (1 : Int32))]) rfl ?_
      refine g_iload C X23 at_157 (q := 159) rfl rfl ?_
      refine g_iload C X23 at_159 (q := 161) rfl rfl ?_
      refine g_icN C X23 at_161 (q := 164) rfl (by decide) ?_
      refine g_iconst C X23 at_164 (q := 165) rfl (z := (1 : Int32)) rfl ?_
      refine g_goto C X23 at_165 (by decide) (q := 169) (by decide) ?_
      exact g_retN C X23 (Or.inl rfl) (z' := 1) (by decide) at_169 (by decide) (by decide) ⟨_, rfl, rfl, trivial⟩
set_option maxRecDepth 65536 in
set_option maxHeartbeats 40000000 in
theorem comes_1 {Post : Tables → Env → Array Value → State → Outcome → State → Prop} (hpost : ∀ tb e args s v u, (limb_1_1.after args s (.returned v) u = true ∧ limb_1_2.after args s (.returned v) u = true ∧ True) → FrameEnd s (.returned v) u (Jvm.fieldLocs frame_1_writes args s ++ Jvm.arrayLocs frame_1_arrays args s ++ Jvm.staticLocs frame_1_statics s) 0 0 → Post tb e args s (.returned v) u) :
    ArmFor flags0 classFile x code maxLocals ret World_1 tables_1 room_1 Calls_1 rest_1 Pre_1 Post := by
  intro l hfl _ _ p e ha hc hk s m args below hf hA hF happ hP
  obtain ⟨hcalls, hrest, hpre⟩ := hP
  obtain ⟨-, -, -, hnamed, -, -, -, hat⟩ := (Spec.applies_iff hf).mp happ
  obtain ⟨hg, hn⟩ := and_e (Cond.before_iff.mp (show (Jvm.Cond.and given_1 narrow_1).before args s = true from hpre))
  obtain ⟨y1, y2⟩ := and_e hg
  obtain ⟨y3, y4⟩ := and_e y2
  obtain ⟨y5, y6⟩ := and_e y4
  obtain ⟨y7, y8⟩ := and_e y6
  obtain ⟨u0, u1, u2, u3, rfl⟩ : ∃ u0 u1 u2 u3 : Value, args = #[u0, u1, u2, u3] := by
    have hs : args.size = 4 := by simpa [Cond.value, given_1] using y1
    obtain ⟨L⟩ := args
    match L, hs with
    | [u0, u1, u2, u3], _ => exact ⟨u0, u1, u2, u3, rfl⟩
  have hw := fun d (hd : d ∈ tables_1) => atoms_spec (ws := Jvm.Cond.code x code maxLocals ret :: tables_1) hat d (List.mem_cons_of_mem _ hd)
  have hfit : Fit s := fun {y c} hc i hi => by
    obtain ⟨ha, rfl⟩ := Array.getElem?_eq_some_iff.mp hc
    have q := List.all_eq_true.mp ((Array.all_eq_true_iff_forall_mem.mp hF) _ (Array.getElem_mem ha)) i (List.mem_range.mpr hi)
    simpa [Array.getElem?_eq_getElem hi] using q
  obtain ⟨i0, ei0⟩ := is_v y3
  obtain rfl : u0 = (.int i0) := Option.some.inj ei0
  obtain ⟨i1, ei1⟩ := is_v y5
  obtain rfl : u1 = (.int i1) := Option.some.inj ei1
  obtain ⟨i2, ei2⟩ := is_v y7
  obtain rfl : u2 = (.int i2) := Option.some.inj ei2
  obtain ⟨i3, ei3⟩ := is_v y8
  obtain rfl : u3 = (.int i3) := Option.some.inj ei3
  have hM := rmLaw (l := l) hw (p0 := i0) (p1 := i1) (p2 := i2) (p3 := i3) (Old.start s) (show Wd s  from ⟨⟩)
  obtain ⟨n, o, h1, h2, h3, _, L, rfl, ⟨N, _, rfl, rfl, -⟩, hq⟩ := hM tables_1 p e ha hc hk s m _ below hf ((Spec.applies_iff_loose hf).mp happ).1 ⟨rfl, State.Warmed39.refl s, rfl⟩ trivial
  refine ⟨n, _, h1, h2, h3, hpost _ _ _ _ _ _ ⟨Cond.after_iff.mpr rfl, Cond.after_iff.mpr (eq_i res_at (Term.int_eval (1)) rfl), trivial⟩ ⟨hq.1, hq.2.1, (hq.2.2.sift fun y hy => Or.inr (N y hy)).mono (by decide) (by decide)⟩⟩
theorem main_1_1 : Claimed_1_1 := comes_1 fun _ _ _ _ _ _ h hF => ⟨h.1, hF⟩
theorem main_1_2 : Claimed_1_2 := comes_1 fun _ _ _ _ _ _ h hF => ⟨h.2.1, hF⟩
end Jvm.Pilot.@@N@@
namespace Jvm.Pilot.@@N@@
open Jvm Jvm.ClassFile Sem Op Lib Jvm.Free Jvm.Stand Jvm.Pilot.@@N@@.Jvm.D
/-! MADE BY PROGRAM (witnessworld.py) out of the Statement's table words and the real class files: 10 classes; the members and pool entries that the words name. The judged class is class 1, her method 1. -/
namespace start1
open Jvm.ClassFile
def u (s : String) : CpInfo := .utf8 (stringToUtf16 s)
/-- a pool by its gaps: so many unusable entries, then the entry; so many at the end -/
def gap : Nat → List CpInfo → List CpInfo
  | 0, r => r
  | n + 1, r => .unusable :: gap n r
def poolList (es : List (Nat × CpInfo)) (last : Nat) : List CpInfo := es.foldr (fun e r => gap e.1 (e.2 :: r)) (gap last [])
def pool (es : List (Nat × CpInfo)) (last : Nat) : Array CpInfo := ⟨poolList es last⟩
def fileOf (pool : Array CpInfo) (this : Nat) (attrs : Array Attribute := #[]) (ms : Array MethodInfo := #[]) (fl : Nat := 33) (sup : Nat := 0) (ifs : Array Nat := #[]) (fds : Array FieldInfo := #[]) : ClassFile where
  minorVersion := 0
  majorVersion := 65
  constantPool := pool
  accessFlags := fl
  thisClass := this
  superClass := sup
  interfaces := ifs
  fields := fds
  methods := ms
  attributes := attrs
def plain (name : String) (sup : Option ClassId) : Class where
  name := name
  kind := .ordinary
  loader := none
  accessFlags := 33
  super := sup
  interfaces := #[]
  cf := none
  fields := #[]
  methods := #[]
  instanceTypes := #[]
  staticTypes := #[]
  resolved := #[]
  callSites := []
  init := .initialized
  statics := none
  mirror := none

def pool0 : Array CpInfo := pool [(5, u "<init>"), (0, u "()V"), (1, .class_ 10), (1, u "java/lang/Object")] 113

def k0m0 : Method := { name := "<init>", desc := "()V", sig := { parameters := [], returnType := none }, accessFlags := 1, code := none }
/-- java/lang/Object -/
def k0 : Class := { plain "java/lang/Object" none with
  accessFlags := 33
  interfaces := #[]
  cf := some (fileOf pool0 8 #[] #[{ accessFlags := 1, nameIndex := 5, descriptorIndex := 6, attributes := #[] }] 33 0 #[] #[])
  fields := #[]
  methods := #[k0m0]
  instanceTypes := #[]
  staticTypes := #[]
  resolved := Array.replicate 124 none
  statics := none }

def pool1 : Array CpInfo := pool [(2, .class_ 4), (1, u "java/lang/Object"), (0, u "<init>"), (0, u "()V"), (0, .integer 1073741823), (0, .integer 2147483647), (0, .methodref 10 11), (0, .class_ 12), (0, .nameAndType 13 14), (0, u "java/lang/Math"), (0, u "min"), (0, u "(II)I"), (0, .methodref 16 17), (0, .class_ 18), (0, .nameAndType 19 20), (0, u "com/example/versus_search/versussearch/StanceEvaluation"), (0, u "f1"), (0, u "(III)D"), (0, .long 2), (1, .double 4697254411347427328), (1, .class_ 26), (0, u "com/example/versus_search/versussearch/StanceEvaluationF1PinLaw"), (2, u "law"), (0, u "(IIII)Z")] 3

def k1m0 : Method := { name := "<init>", desc := "()V", sig := { parameters := [], returnType := none }, accessFlags := 2, code := none }
def k1c1 : Code := { maxStack := 6, maxLocals := 23, code := code, exceptionTable := #[], attributes := #[] }
def k1m1 : Method := { name := "law", desc := "(IIII)Z", sig := { parameters := [.int, .int, .int, .int], returnType := some .boolean }, accessFlags := 9, code := some k1c1 }
/-- com/example/versus_search/versussearch/StanceEvaluationF1PinLaw -/
def k1 : Class := { plain "com/example/versus_search/versussearch/StanceEvaluationF1PinLaw" (some 0) with
  accessFlags := 49
  interfaces := #[]
  cf := some (fileOf pool1 25 #[] #[{ accessFlags := 2, nameIndex := 5, descriptorIndex := 6, attributes := #[] }, { accessFlags := 9, nameIndex := 29, descriptorIndex := 30, attributes := #[] }] 49 2 #[] #[])
  fields := #[]
  methods := #[k1m0, k1m1]
  instanceTypes := #[]
  staticTypes := #[]
  resolved := Array.replicate 34 none
  statics := none }

def pool2 : Array CpInfo := pool [(1, .class_ 2), (0, u "java/lang/Math"), (1, .class_ 6), (1, u "java/lang/Object"), (0, u "<init>"), (0, u "()V"), (89, .class_ 100), (1, u "java/lang/Math$RandomNumberGeneratorHolder"), (71, u "negativeZeroFloatBits"), (0, u "J"), (2, u "negativeZeroDoubleBits"), (24, u "min"), (43, u "$assertionsDisabled"), (0, u "Z"), (88, u "(II)I"), (2, u "twoToTheDoubleScaleDown"), (0, u "D"), (4, u "twoToTheDoubleScaleUp"), (9, u "E"), (3, u "PI"), (2, u "TAU"), (2, u "DEGREES_TO_RADIANS"), (0, u "RADIANS_TO_DEGREES")] 94

def k2m0 : Method := { name := "<init>", desc := "()V", sig := { parameters := [], returnType := none }, accessFlags := 2, code := none }
def k2c1 : Code := { maxStack := 2, maxLocals := 2, code := jdk_29_method_69_code, exceptionTable := #[], attributes := #[] }
def k2m1 : Method := { name := "min", desc := "(II)I", sig := { parameters := [.int, .int], returnType := some .int }, accessFlags := 9, code := some k2c1 }
/-- java/lang/Math -/
def k2 : Class := { plain "java/lang/Math" (some 0) with
  accessFlags := 49
  interfaces := #[]
  cf := some (fileOf pool2 1 #[.nestMembers #[98]] #[{ accessFlags := 2, nameIndex := 7, descriptorIndex := 8, attributes := #[] }, { accessFlags := 9, nameIndex := 201, descriptorIndex := 335, attributes := #[] }] 49 4 #[] #[{ accessFlags := 25, nameIndex := 354, descriptorIndex := 339, attributes := #[] }, { accessFlags := 25, nameIndex := 358, descriptorIndex := 339, attributes := #[] }, { accessFlags := 25, nameIndex := 361, descriptorIndex := 339, attributes := #[] }, { accessFlags := 26, nameIndex := 364, descriptorIndex := 339, attributes := #[] }, { accessFlags := 26, nameIndex := 365, descriptorIndex := 339, attributes := #[] }, { accessFlags := 26, nameIndex := 172, descriptorIndex := 173, attributes := #[] }, { accessFlags := 26, nameIndex := 176, descriptorIndex := 173, attributes := #[] }, { accessFlags := 8, nameIndex := 344, descriptorIndex := 339, attributes := #[] }, { accessFlags := 8, nameIndex := 338, descriptorIndex := 339, attributes := #[] }, { accessFlags := 4120, nameIndex := 245, descriptorIndex := 246, attributes := #[] }])
  fields := #[{ name := "E", type := .double, accessFlags := 25, slot := 0, constantValue := 0 }, { name := "PI", type := .double, accessFlags := 25, slot := 1, constantValue := 0 }, { name := "TAU", type := .double, accessFlags := 25, slot := 2, constantValue := 0 }, { name := "DEGREES_TO_RADIANS", type := .double, accessFlags := 26, slot := 3, constantValue := 0 }, { name := "RADIANS_TO_DEGREES", type := .double, accessFlags := 26, slot := 4, constantValue := 0 }, { name := "negativeZeroFloatBits", type := .long, accessFlags := 26, slot := 5, constantValue := 0 }, { name := "negativeZeroDoubleBits", type := .long, accessFlags := 26, slot := 6, constantValue := 0 }, { name := "twoToTheDoubleScaleUp", type := .double, accessFlags := 8, slot := 7, constantValue := 0 }, { name := "twoToTheDoubleScaleDown", type := .double, accessFlags := 8, slot := 8, constantValue := 0 }, { name := "$assertionsDisabled", type := .boolean, accessFlags := 4120, slot := 9, constantValue := 0 }]
  methods := #[k2m0, k2m1]
  instanceTypes := #[]
  staticTypes := #[.double, .double, .double, .double, .double, .long, .long, .double, .double, .boolean]
  resolved := Array.replicate 460 none
  statics := none }

def pool3 : Array CpInfo := pool [(2, .class_ 4), (1, u "java/lang/Object"), (0, u "<init>"), (0, u "()V"), (1, .class_ 10), (1, u "com/example/versus_search/versussearch/StanceEvaluation"), (54, u "f1"), (0, u "(III)D"), (22, .double 4611686018427387904), (83, u "CLASS_MEASURE"), (0, u "Ljava/lang/String;"), (1, u "MEAN_MEASURE"), (0, u "PREDICTION_LINE_KIND")] 57

def k3m0 : Method := { name := "<init>", desc := "()V", sig := { parameters := [], returnType := none }, accessFlags := 2, code := none }
def k3c1 : Code := { maxStack := 4, maxLocals := 3, code := prog_22_method_3_code, exceptionTable := #[], attributes := #[] }
def k3m1 : Method := { name := "f1", desc := "(III)D", sig := { parameters := [.int, .int, .int], returnType := some .double }, accessFlags := 8, code := some k3c1 }
/-- com/example/versus_search/versussearch/StanceEvaluation -/
def k3 : Class := { plain "com/example/versus_search/versussearch/StanceEvaluation" (some 0) with
  accessFlags := 49
  interfaces := #[]
  cf := some (fileOf pool3 8 #[] #[{ accessFlags := 2, nameIndex := 5, descriptorIndex := 6, attributes := #[] }, { accessFlags := 8, nameIndex := 65, descriptorIndex := 66, attributes := #[] }] 49 2 #[] #[{ accessFlags := 26, nameIndex := 173, descriptorIndex := 174, attributes := #[] }, { accessFlags := 26, nameIndex := 176, descriptorIndex := 174, attributes := #[] }, { accessFlags := 26, nameIndex := 177, descriptorIndex := 174, attributes := #[] }])
  fields := #[{ name := "CLASS_MEASURE", type := (.object "java/lang/String"), accessFlags := 26, slot := 0, constantValue := 0 }, { name := "MEAN_MEASURE", type := (.object "java/lang/String"), accessFlags := 26, slot := 1, constantValue := 0 }, { name := "PREDICTION_LINE_KIND", type := (.object "java/lang/String"), accessFlags := 26, slot := 2, constantValue := 0 }]
  methods := #[k3m0, k3m1]
  instanceTypes := #[]
  staticTypes := #[(.object "java/lang/String"), (.object "java/lang/String"), (.object "java/lang/String")]
  resolved := Array.replicate 235 none
  statics := none }

def pool4 : Array CpInfo := pool [(1, u "java/lang/Cloneable"), (0, .class_ 1), (0, u "java/lang/Object"), (0, .class_ 3)] 3

/-- java/lang/Cloneable -/
def k4 : Class := { plain "java/lang/Cloneable" (some 0) with
  accessFlags := 1537
  interfaces := #[]
  cf := some (fileOf pool4 2 #[] #[] 1537 4 #[] #[])
  fields := #[]
  methods := #[]
  instanceTypes := #[]
  staticTypes := #[]
  resolved := Array.replicate 8 none
  statics := none }

def pool5 : Array CpInfo := pool [(1, u "java/io/Serializable"), (0, .class_ 1), (0, u "java/lang/Object"), (0, .class_ 3)] 3

/-- java/io/Serializable -/
def k5 : Class := { plain "java/io/Serializable" (some 0) with
  accessFlags := 1537
  interfaces := #[]
  cf := some (fileOf pool5 2 #[] #[] 1537 4 #[] #[])
  fields := #[]
  methods := #[]
  instanceTypes := #[]
  staticTypes := #[]
  resolved := Array.replicate 8 none
  statics := none }

/-- the primitive byte -/
def k6 : Class := { plain "byte" none with kind := .primitive 'B', accessFlags := 0x411 }
/-- [B -/
def k7 : Class := { plain "[B" (some 0) with kind := .array 6 .byte, interfaces := #[4, 5], accessFlags := 1041 }

/-- the primitive int -/
def k8 : Class := { plain "int" none with kind := .primitive 'I', accessFlags := 0x411 }
/-- [I -/
def k9 : Class := { plain "[I" (some 0) with kind := .array 8 .int, interfaces := #[4, 5], accessFlags := 1041 }

def heap : Heap := #[]
def classes : Array Class := #[k0, k1, k2, k3, k4, k5, k6, k7, k8, k9]
def interned : List (Array UInt16 × Addr) := []
def slotsUsed : Nat := 0
def theMethod : MethodId := ⟨1, 1⟩
def args0 : Array Value := #[.int 5, .int 5, .int 5, .int 5]
def aboutOver (below : List Frame) : State where
  vm := { classes := classes, interned := interned.toArray }
  heap := heap
  slotsUsed := slotsUsed
  threads := #[{ frames := .invoking theMethod args0 :: below }]
def below0 : List Frame := [.native { method := ⟨0, 0⟩, args := #[] }]
def about1 : State := aboutOver below0
def p0 : Program := .bare "" "" ""
def e0 : Env := launch0.env 0 0 0
theorem w_frames : about1.frames = Frame.invoking theMethod args0 :: below0 := rfl
set_option maxRecDepth 65536 in
theorem w_args : argsFit about1.vm theMethod args0 = true := by decide +kernel
set_option maxRecDepth 65536 in
theorem w_heap : heapFits about1 = true := by decide +kernel
set_option maxRecDepth 65536 in
theorem w_runnable : about1.curStatus? = some .runnable := by decide +kernel
set_option maxRecDepth 65536 in
theorem w_alone : about1.alone = true := by decide +kernel
set_option maxRecDepth 65536 in
theorem w_named : about1.methodNamed? x = some theMethod := by decide +kernel
set_option maxRecDepth 65536 in
theorem w_hears : about1.hears theMethod below0 = true := by decide +kernel
set_option maxRecDepth 65536 in
theorem w_ripe : about1.ripe theMethod args0 below0 = true := by decide +kernel
theorem w_running : about1.status = .running := rfl
set_option maxRecDepth 65536 in
theorem w_room : about1.hasRoom e0.platform room_1 = true :=
  launch0.hasRoom_least _ room_1 (by decide +kernel) (by decide +kernel) (by decide +kernel) (by decide +kernel) (by decide +kernel) (by decide +kernel)
theorem allAtoms_all (ts : List Jvm.Cond) (a : Array Jvm.Value) (st : Jvm.State) : (allAtoms ts).before a st = ts.all (fun c => c.before a st) := by
  induction ts with
  | nil => rfl
  | cons c t ih =>
    show (Jvm.Cond.and c (allAtoms t)).before a st = _
    rw [Jvm.Cond.before_and, ih, List.all_cons]
def words1 : List Jvm.Cond := Jvm.Cond.code x code maxLocals ret :: tables_1
/-- a 'code' word, met by the world's own term for the bytes: nothing is compared byte by byte -/
theorem code_word {y : MethodName} {bytes : ByteArray} {mx : Nat} {rt : Option FieldType} {a : Array Value} {s : State} {m : MethodId} {meth : Method} {c : Code} (h1 : s.methodNamed? y = some m) (h2 : s.vm.method? m = some meth) (h3 : meth.code = some c) (h4 : c.code = bytes)
    (h5 : (c.maxLocals == mx && c.exceptionTable.isEmpty && decide (c.maxStack ≤ mostOperands) && decide (meth.sig.returnType = rt) && !meth.locks && decide (parseMethodDescriptor y.desc = some meth.sig)) = true) : (Jvm.Cond.code y bytes mx rt).before a s = true := by
  simp only [Bool.and_eq_true, beq_iff_eq, Bool.not_eq_true', decide_eq_true_eq] at h5
  obtain ⟨⟨⟨⟨⟨g1, g2⟩, g3⟩, g4⟩, g5⟩, g6⟩ := h5
  simp [Cond.before, Cond.holds, Cond.value, h1, h2, h3, h4, g1, g2, g3, g4, g5, g6]
def isCode : Jvm.Cond → Bool
  | .code _ _ _ _ => true
  | _ => false
theorem all_split {L : List Jvm.Cond} {P : Jvm.Cond → Bool} (h1 : L.all (fun c => isCode c || P c) = true) (h2 : ∀ c ∈ L.filter isCode, P c = true) : L.all P = true := by
  refine List.all_eq_true.mpr fun c hc => ?_
  have h := List.all_eq_true.mp h1 c hc
  rcases Bool.eq_false_or_eq_true (isCode c) with hi | hi
  · exact h2 c (List.mem_filter.mpr ⟨hc, hi⟩)
  · simpa [hi] using h
set_option maxRecDepth 65536 in
theorem w_c0 : (Jvm.Cond.code x code maxLocals ret).before args0 about1 = true := code_word (m := ⟨1, 1⟩) (meth := k1m1) (c := k1c1) (by decide +kernel) rfl rfl rfl (by decide +kernel)
set_option maxRecDepth 65536 in
theorem w_c1 : (Jvm.Cond.code ({ cls := "java/lang/Math", name := "min", desc := "(II)I" } : Jvm.MethodName) jdk_29_method_69_code (2 : Nat) (Option.some Jvm.ClassFile.FieldType.int)).before args0 about1 = true := code_word (m := ⟨2, 1⟩) (meth := k2m1) (c := k2c1) (by decide +kernel) rfl rfl rfl (by decide +kernel)
set_option maxRecDepth 65536 in
theorem w_c2 : (Jvm.Cond.code ({ cls := "com/example/versus_search/versussearch/StanceEvaluation", name := "f1", desc := "(III)D" } : Jvm.MethodName) prog_22_method_3_code (3 : Nat) (Option.some Jvm.ClassFile.FieldType.double)).before args0 about1 = true := code_word (m := ⟨3, 1⟩) (meth := k3m1) (c := k3c1) (by decide +kernel) rfl rfl rfl (by decide +kernel)
def codes1 : List Jvm.Cond := [Jvm.Cond.code x code maxLocals ret, Jvm.Cond.code ({ cls := "java/lang/Math", name := "min", desc := "(II)I" } : Jvm.MethodName) jdk_29_method_69_code (2 : Nat) (Option.some Jvm.ClassFile.FieldType.int), Jvm.Cond.code ({ cls := "com/example/versus_search/versussearch/StanceEvaluation", name := "f1", desc := "(III)D" } : Jvm.MethodName) prog_22_method_3_code (3 : Nat) (Option.some Jvm.ClassFile.FieldType.double)]
set_option maxRecDepth 65536 in
theorem codes_eq : words1.filter isCode = codes1 := rfl
theorem w_codes : ∀ c ∈ words1.filter isCode, c.before args0 about1 = true := by
  rw [codes_eq]
  intro c hc
  simp only [codes1, List.mem_cons, List.not_mem_nil, or_false] at hc
  rcases hc with rfl | rfl | rfl
  · exact w_c0
  · exact w_c1
  · exact w_c2
set_option maxRecDepth 65536 in
theorem w_t1 : words1.all (fun c => isCode c || c.before args0 about1) = true := by decide +kernel
theorem w_tables : (allAtoms (Jvm.Cond.code x code maxLocals ret :: tables_1)).before args0 about1 = true := by
  rw [allAtoms_all]
  show words1.all (fun c => c.before args0 about1) = true
  refine all_split ?_ w_codes
  rw [w_t1]
set_option maxRecDepth 65536 in
theorem w_case : (Jvm.Cond.and given_1 narrow_1).before args0 about1 = true := by decide +kernel
theorem w_applies : (headSpec (Jvm.Cond.code x code maxLocals ret :: tables_1) room_1).applies x e0.platform about1 = true :=
  (Spec.applies_iff w_frames).mpr ⟨w_running, w_runnable, w_alone, w_named, w_hears, w_ripe, w_room, w_tables⟩
theorem atStart : AtStart classFile x code maxLocals ret World_1 tables_1 room_1 Calls_1 rest_1 Pre_1 launch0 p0 e0 about1 theMethod args0 below0 :=
  ⟨lists_1, trivial, launch0.admits_env _ _ _, launch0.least_env, fairChoices_fair.cas, fairChoices_fair.clock, w_frames, w_args, w_heap, w_applies, trivial, trivial, w_case⟩
end start1
theorem witness_1 : WitnessClaimed_1 := ⟨start1.p0, start1.e0, start1.about1, start1.theMethod, start1.args0, start1.below0, start1.atStart⟩
end Jvm.Pilot.@@N@@
