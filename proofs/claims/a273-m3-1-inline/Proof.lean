import JvmDerived
import JvmDerived.Pilot.@@N@@Statement
import JvmDerived.Pilot.@@N@@Code
set_option linter.unusedVariables false
set_option linter.unusedSimpArgs false
namespace Jvm.Pilot.@@N@@
open Jvm Jvm.ClassFile Sem Op Lib Jvm.Free Jvm.Stand Jvm.LawKit Jvm.RoadKit Bundle Jvm.Pilot.@@N@@.Jvm.D
section OwnKit
variable {p : Program} {l : Launch} {e : Env} {R : Room} {s : State} {m : MethodId} {args : Array Value} {below : List Frame} {meth : Method} {c : Code} {T : State} {Z : State} {own mn : String} {bytes : ByteArray} {ml n0 k n : Nat} {rt : Option FieldType} {h : Heap} {G : Outcome → State → Prop} {pc q : Nat} {L : Array Slot} {st rest : List Value} {a0 : Array Value}
/-- the run from S comes to an end of which G speaks -/
def Goes (p : Program) (e : Env) (below : List Frame) (G : Outcome → State → Prop) (S : State) : Prop := ∃ s₂ o, Steps p.tables e below S s₂ ∧ s₂.status = .running ∧ Ended s₂ below o ∧ G o s₂
theorem go_st {S S' : State} (f : ∀ t, Steps p.tables e below S' t → Steps p.tables e below S t) (r : Goes p e below G S') : Goes p e below G S := by
  obtain ⟨s₂, o, a, b⟩ := r; exact ⟨s₂, o, f _ a, b⟩
theorem go_tr {S S' : State} (f : Steps p.tables e below S S') (r : Goes p e below G S') : Goes p e below G S := by
  obtain ⟨s₂, o, a, b⟩ := r; exact ⟨s₂, o, f.trans a, b⟩
/-- what a body's walk knows from its start on -/
def Cx (p : Program) (s : State) (m : MethodId) (meth : Method) (c : Code) (Z : State) (own : String) (bytes : ByteArray) (ml : Nat) (rt : Option FieldType) (mn : String) : Prop :=
  p.tables.exec = Jvm.exec ∧ Z.Warmed39 s.vm ∧ s.vm.findClass own = some m.cls ∧ c.code = bytes ∧ c.maxLocals = ml ∧ meth.sig.returnType = rt ∧ meth.locks = false ∧ meth.name = mn
/-- where it stands: the heap is h; all that was written lies at n0 or above; at most k cells and n slots are new -/
def St (p : Program) (l : Launch) (e : Env) (R : Room) (s : State) (m : MethodId) (args : Array Value) (below : List Frame) (meth : Method) (c : Code) (n0 : Nat) (T : State) (h : Heap) (k n : Nat) : Prop :=
  ∃ locs cells slots, Stand p l e R s m args below meth c T locs cells slots ∧ Fr n0 locs ∧ T.heap = h ∧ cells ≤ k ∧ slots ≤ n
def FinN (Q : Option Value → Heap → Prop) (s : State) (n0 k n : Nat) (o : Outcome) (U : State) : Prop := ∃ v L, o = .returned v ∧ (Fr n0 L ∧ Q v U.heap) ∧ FrameEnd s o U L k n
def Met (l : Launch) (Z : State) (y : MethodName) (bytes : ByteArray) (ml : Nat) (rt : Option FieldType) (rm : Room) (as' : Array Value) (h0 : Heap) (n0 : Nat) (Q : Option Value → Heap → Prop) : Prop :=
  ∀ ws : List Jvm.Cond, MetFree l y (head1 (Jvm.Cond.code y bytes ml rt :: ws) rm) (fun a U => a = as' ∧ Z.Warmed39 U.vm ∧ U.heap = h0) (fun _ _ _ _ _ => True) (fun _ U o U' => ∃ v L, o = .returned v ∧ (Fr n0 L ∧ Q v U'.heap) ∧ FrameEnd U o U' L rm.cells rm.slots)
abbrev Met1 (l : Launch) (Z : State) (y : MethodName) (bytes : ByteArray) (ml : Nat) (rt : Option FieldType) (rm : Room) (as' : Array Value) (h0 : Heap) (n0 : Nat) (Q : Value → Heap → Prop) : Prop := Met l Z y bytes ml rt rm as' h0 n0 (fun v h => ∃ w, v = some w ∧ Q w h)
abbrev Met0 (l : Launch) (Z : State) (y : MethodName) (bytes : ByteArray) (ml : Nat) (rt : Option FieldType) (rm : Room) (as' : Array Value) (h0 : Heap) (n0 : Nat) (Q : Heap → Prop) : Prop := Met l Z y bytes ml rt rm as' h0 n0 (fun v h => v = none ∧ Q h)
theorem met_of {y : MethodName} {rm : Room} {as' : Array Value} {Q : Option Value → Heap → Prop} (hp : plainFor y = true) (hef : ∀ m, entryFrame m as' ml = mkF m 0 L [])
    (body : ∀ (p : Program) (e : Env) (s : State) (m : MethodId) (below : List Frame) (meth : Method) (c : Code) (T : State), Cx p s m meth c Z y.cls bytes ml rt y.name → St p l e rm s m as' below meth c n0 T h 0 0 → Goes p e below (FinN Q s n0 rm.cells rm.slots) (T.setTop (mkF m 0 L []))) :
    Met l Z y bytes ml rt rm as' h n0 Q := by
  intro ws
  refine MetFree.of_bodySF hp hisR ?_
  intro p e s m args below meth c s₁ Bd hml hP hK
  obtain ⟨rfl, hZ, hh⟩ := hP
  have e0 : s₁.heap = h := by rw [← hh, Bd.state]; rfl
  have b := body p e s m below meth c s₁ ⟨Bd.exec, hZ, findClass_of_methodNamed Bd.named, Bd.bytes, hml, Bd.returns, BodyLoose.notSynchronized Bd, (name_of_methodNamed Bd.named Bd.method).1⟩ ⟨[], 0, 0, Stand.of_body Bd, Fr.nil _, e0, Nat.le_refl _, Nat.le_refl _⟩
  rw [hef m]
  exact b
theorem St.mono {k' n' : Nat} (X : St p l e R s m args below meth c n0 T h k n) (hk : k ≤ k') (hn : n ≤ n') : St p l e R s m args below meth c n0 T h k' n' := by
  obtain ⟨a, b, d, x, y, z, u, v⟩ := X; exact ⟨a, b, d, x, y, z, Nat.le_trans u hk, Nat.le_trans v hn⟩
theorem g_aloadN (C : Cx p s m meth c Z own bytes ml rt mn) (X : St p l e R s m args below meth c n0 T h k n) {j : Fin 4} {v : Value} (hd : decode bytes pc = .ok (.aload_n j, 1)) (hq : pc + 1 = q) (hl : L[j.val]? = some (.val v)) (hv : v.isRef = true) (r : Goes p e below G (T.setTop (mkF m q L (v :: st)))) : Goes p e below G (T.setTop (mkF m pc L (st))) := by
  obtain ⟨hx, -, -, hby, -⟩ := C
  obtain ⟨_, _, _, X, -⟩ := X
  subst hq 
  exact go_st (fun t k => XS.aloadN X.here hx rfl (hb hby hd) hl hv k) r
theorem g_aload (C : Cx p s m meth c Z own bytes ml rt mn) (X : St p l e R s m args below meth c n0 T h k n) {j : Nat} {v : Value} (hd : decode bytes pc = .ok (.aload j, 2)) (hq : pc + 2 = q) (hl : L[j]? = some (.val v)) (hv : v.isRef = true) (r : Goes p e below G (T.setTop (mkF m q L (v :: st)))) : Goes p e below G (T.setTop (mkF m pc L (st))) := by
  obtain ⟨hx, -, -, hby, -⟩ := C
  obtain ⟨_, _, _, X, -⟩ := X
  subst hq 
  exact go_st (fun t k => XS.aload X.here hx rfl (hb hby hd) hl hv k) r
theorem g_iloadN (C : Cx p s m meth c Z own bytes ml rt mn) (X : St p l e R s m args below meth c n0 T h k n) {j : Fin 4} {v : Int32} (hd : decode bytes pc = .ok (.iload_n j, 1)) (hq : pc + 1 = q) (hl : L[j.val]? = some (.val (.int v))) (r : Goes p e below G (T.setTop (mkF m q L (.int v :: st)))) : Goes p e below G (T.setTop (mkF m pc L (st))) := by
  obtain ⟨hx, -, -, hby, -⟩ := C
  obtain ⟨_, _, _, X, -⟩ := X
  subst hq 
  exact go_st (fun t k => XS.iloadN X.here hx rfl (hb hby hd) hl k) r
theorem g_iload (C : Cx p s m meth c Z own bytes ml rt mn) (X : St p l e R s m args below meth c n0 T h k n) {j : Nat} {v : Int32} (hd : decode bytes pc = .ok (.iload j, 2)) (hq : pc + 2 = q) (hl : L[j]? = some (.val (.int v))) (r : Goes p e below G (T.setTop (mkF m q L (.int v :: st)))) : Goes p e below G (T.setTop (mkF m pc L (st))) := by
  obtain ⟨hx, -, -, hby, -⟩ := C
  obtain ⟨_, _, _, X, -⟩ := X
  subst hq 
  exact go_st (fun t k => XS.iload X.here hx rfl (hb hby hd) hl k) r
theorem g_lloadN (C : Cx p s m meth c Z own bytes ml rt mn) (X : St p l e R s m args below meth c n0 T h k n) {j : Fin 4} {v : Int64} (hd : decode bytes pc = .ok (.lload_n j, 1)) (hq : pc + 1 = q) (hl : L[j.val]? = some (.val (.long v))) (r : Goes p e below G (T.setTop (mkF m q L (.long v :: st)))) : Goes p e below G (T.setTop (mkF m pc L (st))) := by
  obtain ⟨hx, -, -, hby, -⟩ := C
  obtain ⟨_, _, _, X, -⟩ := X
  subst hq 
  exact go_st (fun t k => XS.lloadN X.here hx rfl (hb hby hd) hl k) r
theorem g_lload (C : Cx p s m meth c Z own bytes ml rt mn) (X : St p l e R s m args below meth c n0 T h k n) {j : Nat} {v : Int64} (hd : decode bytes pc = .ok (.lload j, 2)) (hq : pc + 2 = q) (hl : L[j]? = some (.val (.long v))) (r : Goes p e below G (T.setTop (mkF m q L (.long v :: st)))) : Goes p e below G (T.setTop (mkF m pc L (st))) := by
  obtain ⟨hx, -, -, hby, -⟩ := C
  obtain ⟨_, _, _, X, -⟩ := X
  subst hq 
  exact go_st (fun t k => XS.lload X.here hx rfl (hb hby hd) hl k) r
theorem g_iconst (C : Cx p s m meth c Z own bytes ml rt mn) (X : St p l e R s m args below meth c n0 T h k n) {i : Int} {z : Int32} (hd : decode bytes pc = .ok (.iconst i, 1)) (hq : pc + 1 = q) (hz : Int32.ofInt i = z) (r : Goes p e below G (T.setTop (mkF m q L (.int z :: st)))) : Goes p e below G (T.setTop (mkF m pc L (st))) := by
  obtain ⟨hx, -, -, hby, -⟩ := C
  obtain ⟨_, _, _, X, -⟩ := X
  subst hq hz
  exact go_st (fun t k => XS.iconst X.here hx rfl (hb hby hd)  k) r
theorem g_bipush (C : Cx p s m meth c Z own bytes ml rt mn) (X : St p l e R s m args below meth c n0 T h k n) {i : Int} {z : Int32} (hd : decode bytes pc = .ok (.bipush i, 2)) (hq : pc + 2 = q) (hz : (Int8.ofInt i).toInt32 = z) (r : Goes p e below G (T.setTop (mkF m q L (.int z :: st)))) : Goes p e below G (T.setTop (mkF m pc L (st))) := by
  obtain ⟨hx, -, -, hby, -⟩ := C
  obtain ⟨_, _, _, X, -⟩ := X
  subst hq hz
  exact go_st (fun t k => XS.bipush X.here hx rfl (hb hby hd)  k) r
theorem g_sipush (C : Cx p s m meth c Z own bytes ml rt mn) (X : St p l e R s m args below meth c n0 T h k n) {i : Int} {z : Int32} (hd : decode bytes pc = .ok (.sipush i, 3)) (hq : pc + 3 = q) (hz : (Int16.ofInt i).toInt32 = z) (r : Goes p e below G (T.setTop (mkF m q L (.int z :: st)))) : Goes p e below G (T.setTop (mkF m pc L (st))) := by
  obtain ⟨hx, -, -, hby, -⟩ := C
  obtain ⟨_, _, _, X, -⟩ := X
  subst hq hz
  exact go_st (fun t k => XS.sipush X.here hx rfl (hb hby hd)  k) r
theorem g_aconstNull (C : Cx p s m meth c Z own bytes ml rt mn) (X : St p l e R s m args below meth c n0 T h k n)  (hd : decode bytes pc = .ok (.aconst_null, 1)) (hq : pc + 1 = q)  (r : Goes p e below G (T.setTop (mkF m q L (.null :: st)))) : Goes p e below G (T.setTop (mkF m pc L (st))) := by
  obtain ⟨hx, -, -, hby, -⟩ := C
  obtain ⟨_, _, _, X, -⟩ := X
  subst hq 
  exact go_st (fun t k => XS.aconstNull X.here hx rfl (hb hby hd)  k) r
theorem g_iadd (C : Cx p s m meth c Z own bytes ml rt mn) (X : St p l e R s m args below meth c n0 T h k n) {x y z : Int32} (hd : decode bytes pc = .ok (.iadd, 1)) (hq : pc + 1 = q) (hz : x + y = z) (r : Goes p e below G (T.setTop (mkF m q L (.int z :: st)))) : Goes p e below G (T.setTop (mkF m pc L (.int y :: .int x :: st))) := by
  obtain ⟨hx, -, -, hby, -⟩ := C
  obtain ⟨_, _, _, X, -⟩ := X
  subst hq hz
  exact go_st (fun t k => XS.iadd X.here hx rfl (hb hby hd) rfl k) r
theorem g_isub (C : Cx p s m meth c Z own bytes ml rt mn) (X : St p l e R s m args below meth c n0 T h k n) {x y z : Int32} (hd : decode bytes pc = .ok (.isub, 1)) (hq : pc + 1 = q) (hz : x - y = z) (r : Goes p e below G (T.setTop (mkF m q L (.int z :: st)))) : Goes p e below G (T.setTop (mkF m pc L (.int y :: .int x :: st))) := by
  obtain ⟨hx, -, -, hby, -⟩ := C
  obtain ⟨_, _, _, X, -⟩ := X
  subst hq hz
  exact go_st (fun t k => XS.isub X.here hx rfl (hb hby hd) rfl k) r
theorem g_imul (C : Cx p s m meth c Z own bytes ml rt mn) (X : St p l e R s m args below meth c n0 T h k n) {x y z : Int32} (hd : decode bytes pc = .ok (.imul, 1)) (hq : pc + 1 = q) (hz : x * y = z) (r : Goes p e below G (T.setTop (mkF m q L (.int z :: st)))) : Goes p e below G (T.setTop (mkF m pc L (.int y :: .int x :: st))) := by
  obtain ⟨hx, -, -, hby, -⟩ := C
  obtain ⟨_, _, _, X, -⟩ := X
  subst hq hz
  exact go_st (fun t k => XS.imul X.here hx rfl (hb hby hd) rfl k) r
theorem g_iand (C : Cx p s m meth c Z own bytes ml rt mn) (X : St p l e R s m args below meth c n0 T h k n) {x y z : Int32} (hd : decode bytes pc = .ok (.iand, 1)) (hq : pc + 1 = q) (hz : x &&& y = z) (r : Goes p e below G (T.setTop (mkF m q L (.int z :: st)))) : Goes p e below G (T.setTop (mkF m pc L (.int y :: .int x :: st))) := by
  obtain ⟨hx, -, -, hby, -⟩ := C
  obtain ⟨_, _, _, X, -⟩ := X
  subst hq hz
  exact go_st (fun t k => XS.iand X.here hx rfl (hb hby hd) rfl k) r
theorem g_ishl (C : Cx p s m meth c Z own bytes ml rt mn) (X : St p l e R s m args below meth c n0 T h k n) {x y z : Int32} (hd : decode bytes pc = .ok (.ishl, 1)) (hq : pc + 1 = q) (hz : x <<< (y &&& 31) = z) (r : Goes p e below G (T.setTop (mkF m q L (.int z :: st)))) : Goes p e below G (T.setTop (mkF m pc L (.int y :: .int x :: st))) := by
  obtain ⟨hx, -, -, hby, -⟩ := C
  obtain ⟨_, _, _, X, -⟩ := X
  subst hq hz
  exact go_st (fun t k => XS.ishl X.here hx rfl (hb hby hd) rfl k) r
theorem g_ishr (C : Cx p s m meth c Z own bytes ml rt mn) (X : St p l e R s m args below meth c n0 T h k n) {x y z : Int32} (hd : decode bytes pc = .ok (.ishr, 1)) (hq : pc + 1 = q) (hz : x >>> (y &&& 31) = z) (r : Goes p e below G (T.setTop (mkF m q L (.int z :: st)))) : Goes p e below G (T.setTop (mkF m pc L (.int y :: .int x :: st))) := by
  obtain ⟨hx, -, -, hby, -⟩ := C
  obtain ⟨_, _, _, X, -⟩ := X
  subst hq hz
  exact go_st (fun t k => XS.ishr X.here hx rfl (hb hby hd) rfl k) r
theorem g_idiv (C : Cx p s m meth c Z own bytes ml rt mn) (X : St p l e R s m args below meth c n0 T h k n) {x y z : Int32} (hd : decode bytes pc = .ok (.idiv, 1)) (hq : pc + 1 = q) (hy : y ≠ 0) (hz : x / y = z) (r : Goes p e below G (T.setTop (mkF m q L (.int z :: st)))) : Goes p e below G (T.setTop (mkF m pc L (.int y :: .int x :: st))) := by
  obtain ⟨hx, -, -, hby, -⟩ := C
  obtain ⟨_, _, _, X, -⟩ := X
  subst hq hz
  exact go_st (fun t k => XS.idiv X.here hx rfl (hb hby hd) rfl hy k) r
theorem g_ineg (C : Cx p s m meth c Z own bytes ml rt mn) (X : St p l e R s m args below meth c n0 T h k n) {x z : Int32} (hd : decode bytes pc = .ok (.ineg, 1)) (hq : pc + 1 = q) (hz : -x = z) (r : Goes p e below G (T.setTop (mkF m q L (.int z :: st)))) : Goes p e below G (T.setTop (mkF m pc L (.int x :: st))) := by
  obtain ⟨hx, -, -, hby, -⟩ := C
  obtain ⟨_, _, _, X, -⟩ := X
  subst hq hz
  exact go_st (fun t k => XS.ineg X.here hx rfl (hb hby hd) rfl k) r
theorem g_lsub (C : Cx p s m meth c Z own bytes ml rt mn) (X : St p l e R s m args below meth c n0 T h k n) {x y z : Int64} (hd : decode bytes pc = .ok (.lsub, 1)) (hq : pc + 1 = q) (hz : x - y = z) (r : Goes p e below G (T.setTop (mkF m q L (.long z :: st)))) : Goes p e below G (T.setTop (mkF m pc L (.long y :: .long x :: st))) := by
  obtain ⟨hx, -, -, hby, -⟩ := C
  obtain ⟨_, _, _, X, -⟩ := X
  subst hq hz
  exact go_st (fun t k => XS.lsub X.here hx rfl (hb hby hd) rfl k) r
theorem g_lmul (C : Cx p s m meth c Z own bytes ml rt mn) (X : St p l e R s m args below meth c n0 T h k n) {x y z : Int64} (hd : decode bytes pc = .ok (.lmul, 1)) (hq : pc + 1 = q) (hz : x * y = z) (r : Goes p e below G (T.setTop (mkF m q L (.long z :: st)))) : Goes p e below G (T.setTop (mkF m pc L (.long y :: .long x :: st))) := by
  obtain ⟨hx, -, -, hby, -⟩ := C
  obtain ⟨_, _, _, X, -⟩ := X
  subst hq hz
  exact go_st (fun t k => XS.lmul X.here hx rfl (hb hby hd) rfl k) r
theorem g_land (C : Cx p s m meth c Z own bytes ml rt mn) (X : St p l e R s m args below meth c n0 T h k n) {x y z : Int64} (hd : decode bytes pc = .ok (.land, 1)) (hq : pc + 1 = q) (hz : x &&& y = z) (r : Goes p e below G (T.setTop (mkF m q L (.long z :: st)))) : Goes p e below G (T.setTop (mkF m pc L (.long y :: .long x :: st))) := by
  obtain ⟨hx, -, -, hby, -⟩ := C
  obtain ⟨_, _, _, X, -⟩ := X
  subst hq hz
  exact go_st (fun t k => XS.land X.here hx rfl (hb hby hd) rfl k) r
theorem g_ldiv (C : Cx p s m meth c Z own bytes ml rt mn) (X : St p l e R s m args below meth c n0 T h k n) {x y z : Int64} (hd : decode bytes pc = .ok (.ldiv, 1)) (hq : pc + 1 = q) (hy : y ≠ 0) (hz : x / y = z) (r : Goes p e below G (T.setTop (mkF m q L (.long z :: st)))) : Goes p e below G (T.setTop (mkF m pc L (.long y :: .long x :: st))) := by
  obtain ⟨hx, -, -, hby, -⟩ := C
  obtain ⟨_, _, _, X, -⟩ := X
  subst hq hz
  exact go_st (fun t k => XS.ldiv X.here hx rfl (hb hby hd) rfl hy k) r
theorem g_lrem (C : Cx p s m meth c Z own bytes ml rt mn) (X : St p l e R s m args below meth c n0 T h k n) {x y z : Int64} (hd : decode bytes pc = .ok (.lrem, 1)) (hq : pc + 1 = q) (hy : y ≠ 0) (hz : x % y = z) (r : Goes p e below G (T.setTop (mkF m q L (.long z :: st)))) : Goes p e below G (T.setTop (mkF m pc L (.long y :: .long x :: st))) := by
  obtain ⟨hx, -, -, hby, -⟩ := C
  obtain ⟨_, _, _, X, -⟩ := X
  subst hq hz
  have w := lrem_mod x y
  exact go_st (fun t k => XS.lrem X.here hx rfl (hb hby hd) rfl hy (by rw [w]; exact k)) r
theorem g_lneg (C : Cx p s m meth c Z own bytes ml rt mn) (X : St p l e R s m args below meth c n0 T h k n) {x z : Int64} (hd : decode bytes pc = .ok (.lneg, 1)) (hq : pc + 1 = q) (hz : -x = z) (r : Goes p e below G (T.setTop (mkF m q L (.long z :: st)))) : Goes p e below G (T.setTop (mkF m pc L (.long x :: st))) := by
  obtain ⟨hx, -, -, hby, -⟩ := C
  obtain ⟨_, _, _, X, -⟩ := X
  subst hq hz
  exact go_st (fun t k => XS.lneg X.here hx rfl (hb hby hd) rfl k) r
theorem g_l2i (C : Cx p s m meth c Z own bytes ml rt mn) (X : St p l e R s m args below meth c n0 T h k n) {x : Int64} {z : Int32} (hd : decode bytes pc = .ok (.l2i, 1)) (hq : pc + 1 = q) (hz : x.toInt32 = z) (r : Goes p e below G (T.setTop (mkF m q L (.int z :: st)))) : Goes p e below G (T.setTop (mkF m pc L (.long x :: st))) := by
  obtain ⟨hx, -, -, hby, -⟩ := C
  obtain ⟨_, _, _, X, -⟩ := X
  subst hq hz
  exact go_st (fun t k => XS.l2i X.here hx rfl (hb hby hd) rfl k) r
theorem g_i2c (C : Cx p s m meth c Z own bytes ml rt mn) (X : St p l e R s m args below meth c n0 T h k n) {x z : Int32} (hd : decode bytes pc = .ok (.i2c, 1)) (hq : pc + 1 = q) (hz : x.toUInt32.toUInt16.toUInt32.toInt32 = z) (r : Goes p e below G (T.setTop (mkF m q L (.int z :: st)))) : Goes p e below G (T.setTop (mkF m pc L (.int x :: st))) := by
  obtain ⟨hx, -, -, hby, -⟩ := C
  obtain ⟨_, _, _, X, -⟩ := X
  subst hq hz
  exact go_st (fun t k => XS.i2c X.here hx rfl (hb hby hd) rfl k) r
theorem g_lconst (C : Cx p s m meth c Z own bytes ml rt mn) (X : St p l e R s m args below meth c n0 T h k n) {i : Fin 2} {z : Int64} (hd : decode bytes pc = .ok (.lconst i, 1)) (hq : pc + 1 = q) (hz : (i.val.toInt64) = z) (r : Goes p e below G (T.setTop (mkF m q L (.long z :: st)))) : Goes p e below G (T.setTop (mkF m pc L (st))) := by
  obtain ⟨hx, -, -, hby, -⟩ := C
  obtain ⟨_, _, _, X, -⟩ := X
  subst hq hz
  exact go_st (fun t k => XS.lconst X.here hx rfl (hb hby hd) k) r
theorem g_lcmp (C : Cx p s m meth c Z own bytes ml rt mn) (X : St p l e R s m args below meth c n0 T h k n) {x y : Int64} {z : Int32} (hd : decode bytes pc = .ok (.lcmp, 1)) (hq : pc + 1 = q) (hz : lcmpW x y = z) (r : Goes p e below G (T.setTop (mkF m q L (.int z :: st)))) : Goes p e below G (T.setTop (mkF m pc L (.long y :: .long x :: st))) := by
  obtain ⟨hx, -, -, hby, -⟩ := C
  obtain ⟨_, _, _, X, -⟩ := X
  subst hq hz
  exact go_st (fun t k => XS.lcmp X.here hx rfl (hb hby hd) rfl k) r
theorem g_dup (C : Cx p s m meth c Z own bytes ml rt mn) (X : St p l e R s m args below meth c n0 T h k n) {x : Value} (hd : decode bytes pc = .ok (.dup, 1)) (hq : pc + 1 = q) (hc : x.category = 1) (r : Goes p e below G (T.setTop (mkF m q L (x :: x :: st)))) : Goes p e below G (T.setTop (mkF m pc L (x :: st))) := by
  obtain ⟨hx, -, -, hby, -⟩ := C
  obtain ⟨_, _, _, X, -⟩ := X
  subst hq 
  exact go_st (fun t k => XS.dup X.here hx rfl (hb hby hd) rfl hc k) r
theorem g_pop (C : Cx p s m meth c Z own bytes ml rt mn) (X : St p l e R s m args below meth c n0 T h k n) {x : Value} (hd : decode bytes pc = .ok (.pop, 1)) (hq : pc + 1 = q) (hc : x.category = 1) (r : Goes p e below G (T.setTop (mkF m q L (st)))) : Goes p e below G (T.setTop (mkF m pc L (x :: st))) := by
  obtain ⟨hx, -, -, hby, -⟩ := C
  obtain ⟨_, _, _, X, -⟩ := X
  subst hq 
  exact go_st (fun t k => XS.pop X.here hx rfl (hb hby hd) rfl hc k) r
theorem g_istoreN (C : Cx p s m meth c Z own bytes ml rt mn) (X : St p l e R s m args below meth c n0 T h k n) {j : Fin 4} {x : Int32} {L' : Array Slot} (hd : decode bytes pc = .ok (.istore_n j, 1)) (hq : pc + 1 = q) (hl : storeLocals L j.val (.int x) = some L') (r : Goes p e below G (T.setTop (mkF m q L' (st)))) : Goes p e below G (T.setTop (mkF m pc L (.int x :: st))) := by
  obtain ⟨hx, -, -, hby, -⟩ := C
  obtain ⟨_, _, _, X, -⟩ := X
  subst hq 
  exact go_st (fun t k => XS.istoreN X.here hx rfl (hb hby hd) rfl hl k) r
theorem g_istore (C : Cx p s m meth c Z own bytes ml rt mn) (X : St p l e R s m args below meth c n0 T h k n) {j : Nat} {x : Int32} {L' : Array Slot} (hd : decode bytes pc = .ok (.istore j, 2)) (hq : pc + 2 = q) (hl : storeLocals L j (.int x) = some L') (r : Goes p e below G (T.setTop (mkF m q L' (st)))) : Goes p e below G (T.setTop (mkF m pc L (.int x :: st))) := by
  obtain ⟨hx, -, -, hby, -⟩ := C
  obtain ⟨_, _, _, X, -⟩ := X
  subst hq 
  exact go_st (fun t k => XS.istore X.here hx rfl (hb hby hd) rfl hl k) r
theorem g_lstoreN (C : Cx p s m meth c Z own bytes ml rt mn) (X : St p l e R s m args below meth c n0 T h k n) {j : Fin 4} {x : Int64} {L' : Array Slot} (hd : decode bytes pc = .ok (.lstore_n j, 1)) (hq : pc + 1 = q) (hl : storeLocals L j.val (.long x) = some L') (r : Goes p e below G (T.setTop (mkF m q L' (st)))) : Goes p e below G (T.setTop (mkF m pc L (.long x :: st))) := by
  obtain ⟨hx, -, -, hby, -⟩ := C
  obtain ⟨_, _, _, X, -⟩ := X
  subst hq 
  exact go_st (fun t k => XS.lstoreN X.here hx rfl (hb hby hd) rfl hl k) r
theorem g_lstore (C : Cx p s m meth c Z own bytes ml rt mn) (X : St p l e R s m args below meth c n0 T h k n) {j : Nat} {x : Int64} {L' : Array Slot} (hd : decode bytes pc = .ok (.lstore j, 2)) (hq : pc + 2 = q) (hl : storeLocals L j (.long x) = some L') (r : Goes p e below G (T.setTop (mkF m q L' (st)))) : Goes p e below G (T.setTop (mkF m pc L (.long x :: st))) := by
  obtain ⟨hx, -, -, hby, -⟩ := C
  obtain ⟨_, _, _, X, -⟩ := X
  subst hq 
  exact go_st (fun t k => XS.lstore X.here hx rfl (hb hby hd) rfl hl k) r
theorem g_astoreN (C : Cx p s m meth c Z own bytes ml rt mn) (X : St p l e R s m args below meth c n0 T h k n) {j : Fin 4} {x : Value} {L' : Array Slot} (hd : decode bytes pc = .ok (.astore_n j, 1)) (hq : pc + 1 = q) (hv : x.isRef = true) (hl : storeLocals L j.val x = some L') (r : Goes p e below G (T.setTop (mkF m q L' (st)))) : Goes p e below G (T.setTop (mkF m pc L (x :: st))) := by
  obtain ⟨hx, -, -, hby, -⟩ := C
  obtain ⟨_, _, _, X, -⟩ := X
  subst hq 
  exact go_st (fun t k => XS.astoreN X.here hx rfl (hb hby hd) rfl hv hl k) r
theorem g_astore (C : Cx p s m meth c Z own bytes ml rt mn) (X : St p l e R s m args below meth c n0 T h k n) {j : Nat} {x : Value} {L' : Array Slot} (hd : decode bytes pc = .ok (.astore j, 2)) (hq : pc + 2 = q) (hv : x.isRef = true) (hl : storeLocals L j x = some L') (r : Goes p e below G (T.setTop (mkF m q L' (st)))) : Goes p e below G (T.setTop (mkF m pc L (x :: st))) := by
  obtain ⟨hx, -, -, hby, -⟩ := C
  obtain ⟨_, _, _, X, -⟩ := X
  subst hq 
  exact go_st (fun t k => XS.astore X.here hx rfl (hb hby hd) rfl hv hl k) r
theorem g_iinc (C : Cx p s m meth c Z own bytes ml rt mn) (X : St p l e R s m args below meth c n0 T h k n) {j : Nat} {i : Int} {x z : Int32} {L' : Array Slot} (hd : decode bytes pc = .ok (.iinc j i, 3)) (hq : pc + 3 = q) (hl : L[j]? = some (.val (.int x))) (hz : x + Int32.ofInt i = z) (hl' : storeLocals L j (.int z) = some L') (r : Goes p e below G (T.setTop (mkF m q L' (st)))) : Goes p e below G (T.setTop (mkF m pc L (st))) := by
  obtain ⟨hx, -, -, hby, -⟩ := C
  obtain ⟨_, _, _, X, -⟩ := X
  subst hq hz
  exact go_st (fun t k => XS.iinc X.here hx rfl (hb hby hd) hl hl' k) r
theorem g_goto (C : Cx p s m meth c Z own bytes ml rt mn) (X : St p l e R s m args below meth c n0 T h k n)  {o : Int} (hd : decode bytes pc = .ok (.goto o, 3)) (ho : 0 ≤ (pc : Int) + o) (hq : ((pc : Int) + o).toNat = q)  (r : Goes p e below G (T.setTop (mkF m q L st))) : Goes p e below G (T.setTop (mkF m pc L (st))) := by
  obtain ⟨hx, -, -, hby, -⟩ := C
  obtain ⟨_, _, _, X, -⟩ := X
  exact go_st (fun t k => XS.goto X.here hx rfl rfl (hb hby hd) ho hq k) r
theorem g_ifY (C : Cx p s m meth c Z own bytes ml rt mn) (X : St p l e R s m args below meth c n0 T h k n) {cd : ClassFile.Cond} {x : Int32} {o : Int} (hd : decode bytes pc = .ok (.ifCond cd o, 3)) (ho : 0 ≤ (pc : Int) + o) (hq : ((pc : Int) + o).toNat = q) (hc : if_icmp.holds cd x 0 = true) (r : Goes p e below G (T.setTop (mkF m q L st))) : Goes p e below G (T.setTop (mkF m pc L (.int x :: st))) := by
  obtain ⟨hx, -, -, hby, -⟩ := C
  obtain ⟨_, _, _, X, -⟩ := X
  exact go_st (fun t k => XS.ifYes X.here hx rfl rfl (hb hby hd) rfl ((if0 _ _).trans hc) ho hq k) r
theorem g_ifN (C : Cx p s m meth c Z own bytes ml rt mn) (X : St p l e R s m args below meth c n0 T h k n) {cd : ClassFile.Cond} {x : Int32} {o : Int} (hd : decode bytes pc = .ok (.ifCond cd o, 3)) (hq : pc + 3 = q) (hc : if_icmp.holds cd x 0 = false) (r : Goes p e below G (T.setTop (mkF m q L st))) : Goes p e below G (T.setTop (mkF m pc L (.int x :: st))) := by
  obtain ⟨hx, -, -, hby, -⟩ := C
  obtain ⟨_, _, _, X, -⟩ := X
  subst hq
  exact go_st (fun t k => XS.ifNo X.here hx rfl (hb hby hd) rfl ((if0 _ _).trans hc) k) r
theorem g_icY (C : Cx p s m meth c Z own bytes ml rt mn) (X : St p l e R s m args below meth c n0 T h k n) {cd : ClassFile.Cond} {x y : Int32} {o : Int} (hd : decode bytes pc = .ok (.if_icmp cd o, 3)) (ho : 0 ≤ (pc : Int) + o) (hq : ((pc : Int) + o).toNat = q) (hc : if_icmp.holds cd x y = true) (r : Goes p e below G (T.setTop (mkF m q L st))) : Goes p e below G (T.setTop (mkF m pc L (.int y :: .int x :: st))) := by
  obtain ⟨hx, -, -, hby, -⟩ := C
  obtain ⟨_, _, _, X, -⟩ := X
  exact go_st (fun t k => XS.icmpYes X.here hx rfl rfl (hb hby hd) rfl hc ho hq k) r
theorem g_icN (C : Cx p s m meth c Z own bytes ml rt mn) (X : St p l e R s m args below meth c n0 T h k n) {cd : ClassFile.Cond} {x y : Int32} {o : Int} (hd : decode bytes pc = .ok (.if_icmp cd o, 3)) (hq : pc + 3 = q) (hc : if_icmp.holds cd x y = false) (r : Goes p e below G (T.setTop (mkF m q L st))) : Goes p e below G (T.setTop (mkF m pc L (.int y :: .int x :: st))) := by
  obtain ⟨hx, -, -, hby, -⟩ := C
  obtain ⟨_, _, _, X, -⟩ := X
  subst hq
  exact go_st (fun t k => XS.icmpNo X.here hx rfl (hb hby hd) rfl hc k) r
theorem g_nonY (C : Cx p s m meth c Z own bytes ml rt mn) (X : St p l e R s m args below meth c n0 T h k n) {b : Addr} {o : Int} (hd : decode bytes pc = .ok (.ifnonnull o, 3)) (ho : 0 ≤ (pc : Int) + o) (hq : ((pc : Int) + o).toNat = q)  (r : Goes p e below G (T.setTop (mkF m q L st))) : Goes p e below G (T.setTop (mkF m pc L (.ref b :: st))) := by
  obtain ⟨hx, -, -, hby, -⟩ := C
  obtain ⟨_, _, _, X, -⟩ := X
  exact go_st (fun t k => XS.ifnonnullYes X.here hx rfl rfl (hb hby hd) rfl ho hq k) r
theorem g_ldcI (C : Cx p s m meth c Z own bytes ml rt mn) (X : St p l e R s m args below meth c n0 T h k n) {i : Nat} {v : Int32} (w : (Cond.constant own i v).before a0 Z = true) (hd : decode bytes pc = .ok (.ldc i, 2)) (hq : pc + 2 = q) (r : Goes p e below G (T.setTop (mkF m q L (.int v :: st)))) : Goes p e below G (T.setTop (mkF m pc L st)) := by
  obtain ⟨hx, hZ, hown, hby, -⟩ := C
  obtain ⟨_, _, _, X, -⟩ := X
  subst hq
  exact go_st (fun t k => X.ldcInt hx hown (mvT hZ w) (g := mkF m pc L st) rfl (hb hby hd) t k) r
theorem g_ldcJ (C : Cx p s m meth c Z own bytes ml rt mn) (X : St p l e R s m args below meth c n0 T h k n) {i : Nat} {v : Int64} (w : (Cond.constantLong own i v).before a0 Z = true) (hd : decode bytes pc = .ok (.ldc2_w i, 3)) (hq : pc + 3 = q) (r : Goes p e below G (T.setTop (mkF m q L (.long v :: st)))) : Goes p e below G (T.setTop (mkF m pc L st)) := by
  obtain ⟨hx, hZ, hown, hby, -⟩ := C
  obtain ⟨_, _, _, X, -⟩ := X
  subst hq
  exact go_st (fun t k => X.ldc2Long hx hown (mvT hZ w) (g := mkF m pc L st) rfl (hb hby hd) t k) r
theorem own_end (C : Cx p s m meth c Z own bytes ml rt mn) (X : St p l e R s m args below meth c n0 T h k n) {Q : Option Value → Heap → Prop} {K N : Nat} {S : State} {v : Option Value} (hv : rt = none → v = none) (hk : k ≤ K) (hn : n ≤ N) (hQ : Q v h)
    (f : ∀ locs cells slots fs, Stand p l e R s m args below meth c T locs cells slots → (∀ (f : JFrame) (acts : List Action), f.method = m → f.locked = none → f.entered = [] → (doReturn e (T.setTop f) acts v).1 = T.setFrames fs) → Steps p.tables e below S (T.setFrames fs)) : Goes p e below (FinN Q s n0 K N) S := by
  obtain ⟨hx, -, -, hby, -, hret, hlk, -⟩ := C
  obtain ⟨locs, cells, slots, X, hF, rfl, h1, h2⟩ := X
  obtain ⟨fs, hr, hrun, hended, hW, hsame⟩ := X.leave (v := v) (fun h => hv (hret.symm.trans h)) hlk
  exact ⟨_, _, f _ _ _ fs X hr, hrun, hended, _, _, rfl, ⟨hF, hQ⟩, ⟨_, rfl⟩, hW, hsame.mono (Nat.le_trans h1 hk) (Nat.le_trans h2 hn)⟩
theorem g_retI (C : Cx p s m meth c Z own bytes ml (some .int) mn) (X : St p l e R s m args below meth c n0 T h k n) {Q : Option Value → Heap → Prop} {K N : Nat} {z : Int32} (hd : decode bytes pc = .ok (.ireturn, 1)) (hk : k ≤ K) (hn : n ≤ N) (hQ : Q (some (.int z)) h) : Goes p e below (FinN Q s n0 K N) (T.setTop (mkF m pc L (.int z :: st))) := by
  refine own_end C X (by simp) hk hn hQ fun locs cells slots fs X hr => ?_
  obtain ⟨hx, -, -, hby, -, hret, hlk, -⟩ := C
  exact retOut X hx hret rfl (Or.inl ⟨rfl, Or.inl rfl, _, rfl⟩) (hb hby hd) hr
theorem g_retN {t : FieldType} (C : Cx p s m meth c Z own bytes ml (some t) mn) (X : St p l e R s m args below meth c n0 T h k n) {Q : Option Value → Heap → Prop} {K N : Nat} {z z' : Int32} (ht : t = .boolean ∨ t = .byte ∨ t = .char ∨ t = .short) (hz : nar t z = z') (hd : decode bytes pc = .ok (.ireturn, 1)) (hk : k ≤ K) (hn : n ≤ N) (hQ : Q (some (.int z')) h) : Goes p e below (FinN Q s n0 K N) (T.setTop (mkF m pc L (.int z :: st))) := by
  subst hz
  refine own_end C X (by simp) hk hn hQ fun locs cells slots fs X hr => ?_
  obtain ⟨hx, -, -, hby, -, hret, hlk, -⟩ := C
  exact retN X hx hret ht (hb hby hd) hr
theorem g_retA {t : FieldType} (C : Cx p s m meth c Z own bytes ml (some t) mn) (X : St p l e R s m args below meth c n0 T h k n) {Q : Option Value → Heap → Prop} {K N : Nat} {v : Value} (ht : t.isReference = true) (hv : v.isRef = true) (hd : decode bytes pc = .ok (.areturn, 1)) (hk : k ≤ K) (hn : n ≤ N) (hQ : Q (some v) h) : Goes p e below (FinN Q s n0 K N) (T.setTop (mkF m pc L (v :: st))) := by
  refine own_end C X (by simp) hk hn hQ fun locs cells slots fs X hr => ?_
  obtain ⟨hx, -, -, hby, -, hret, hlk, -⟩ := C
  have hn' : narrow t v = v := by rcases ref_cases hv with rfl | ⟨b, rfl⟩ <;> cases t <;> first | rfl | (cases ht)
  exact retOut X hx hret hn' (Or.inr (Or.inr (Or.inr (Or.inr ⟨rfl, ht, hv⟩)))) (hb hby hd) hr
theorem g_retV (C : Cx p s m meth c Z own bytes ml none mn) (X : St p l e R s m args below meth c n0 T h k n) {Q : Option Value → Heap → Prop} {K N : Nat} (hd : decode bytes pc = .ok (.return_, 1)) (hk : k ≤ K) (hn : n ≤ N) (hQ : Q none h) : Goes p e below (FinN Q s n0 K N) (T.setTop (mkF m pc L [])) := by
  refine own_end C X (fun _ => rfl) hk hn hQ fun locs cells slots fs X hr => ?_
  obtain ⟨hx, -, -, hby, -, hret, hlk, -⟩ := C
  exact X.returnOut hx hret (hb hby hd) hr
theorem g_getS (C : Cx p s m meth c Z own bytes ml rt mn) (X : St p l e R s m args below meth c n0 T h k n) {R0 O f d host : String} {i : Nat} {v : Value} (w : (Cond.fieldLink own i R0 f d).before a0 Z = true ∨ (Cond.fieldLinkNest own i R0 f d host).before a0 Z = true) (via : Via Z R0 O f d) (F : Sta Z h O f d v) (hd : decode bytes pc = .ok (.getstatic i, 3)) (hq : pc + 3 = q) (r : ∀ T', St p l e R s m args below meth c n0 T' h k n → Goes p e below G (T'.setTop (mkF m q L (v :: st)))) : Goes p e below G (T.setTop (mkF m pc L st)) := by
  obtain ⟨hx, hZ, hown, hby, -⟩ := C
  obtain ⟨_, _, _, X, hF, eT, h1, h2⟩ := X
  subst hq
  obtain ⟨T', X', e', st'⟩ := getS2 X hx hZ hown w via eT F (g := mkF m pc L st) rfl (hb hby hd)
  exact go_st st' (r T' ⟨_, _, _, X', hF, e', h1, h2⟩)
theorem g_getF (C : Cx p s m meth c Z own bytes ml rt mn) (X : St p l e R s m args below meth c n0 T h k n) {R0 O f d host : String} {i : Nat} {a : Addr} {v : Value} (w : (Cond.fieldLink own i R0 f d).before a0 Z = true ∨ (Cond.fieldLinkNest own i R0 f d host).before a0 Z = true) (via : Via Z R0 O f d) (F : Fld Z h a O f d v) (hd : decode bytes pc = .ok (.getfield i, 3)) (hq : pc + 3 = q) (r : ∀ T', St p l e R s m args below meth c n0 T' h k n → Goes p e below G (T'.setTop (mkF m q L (v :: st)))) : Goes p e below G (T.setTop (mkF m pc L (.ref a :: st))) := by
  obtain ⟨hx, hZ, hown, hby, -⟩ := C
  obtain ⟨_, _, _, X, hF, eT, h1, h2⟩ := X
  subst hq
  obtain ⟨T', X', e', st'⟩ := getF X hx hZ hown w via eT F (g := mkF m pc L (.ref a :: st)) rfl rfl (hb hby hd)
  exact go_st st' (r T' ⟨_, _, _, X', hF, e', h1, h2⟩)
theorem g_putF (C : Cx p s m meth c Z own bytes ml rt mn) (X : St p l e R s m args below meth c n0 T h k n) {R0 O f d host K : String} {i kk : Nat} {ty : FieldType} {a : Addr} {v old : Value} (w : (Cond.fieldLink own i R0 f d).before a0 Z = true ∨ (Cond.fieldLinkNest own i R0 f d host).before a0 Z = true) (via : Via Z R0 O f d) (F : Fld Z h a O f d old) (E : Exa Z h a K) (Ly : (Cond.lays K O f d).before a0 Z = true ∨ ((Cond.laysFinal K O f d).before a0 Z = true ∧ own = O ∧ mn = "<init>")) (wi : (Cond.instantiable K kk).before a0 Z = true)
    (hty : parseFieldDescriptor d = some ty) (hnn : narrow ty v = v) (hff : fits ty v = true) (hd : decode bytes pc = .ok (.putfield i, 3)) (hq : pc + 3 = q) (ha : n0 ≤ a) (r : ∀ T' h', St p l e R s m args below meth c n0 T' h' k n → Wr h h' a (Jvm.RoadKit.slotOf Z O f d) v → Goes p e below G (T'.setTop (mkF m q L st))) : Goes p e below G (T.setTop (mkF m pc L (v :: .ref a :: st))) := by
  obtain ⟨hx, hZ, hown, hby, -, -, -, hnm⟩ := C
  obtain ⟨_, _, _, X, hF, eT, h1, h2⟩ := X
  subst hq
  obtain ⟨T', h', X', e', W', st'⟩ := putF X hx hZ hown w via eT F E (Ly.imp id fun z => ⟨z.1, z.2.1, hnm.trans z.2.2⟩) wi hty hnn hff (g := mkF m pc L (v :: .ref a :: st)) rfl rfl (hb hby hd)
  exact go_st st' (r T' h' ⟨_, _, _, X', Fr.snoc X' hF ha, e', h1, h2⟩ W')
theorem g_new (C : Cx p s m meth c Z own bytes ml rt mn) (X : St p l e R s m args below meth c n0 T h k n) {K : String} {i z k' n' : Nat} (w : (Cond.classLink own i K).before a0 Z = true) (wi : (Cond.instantiable K z).before a0 Z = true) (wz : (Cond.initialized K).before a0 Z = true) (hd : decode bytes pc = .ok (.new i, 3)) (hq : pc + 3 = q) (hk : k + 1 = k') (hn : n + z = n') (hkR : k' ≤ R.cells) (hnR : n' ≤ R.slots)
    (r : ∀ T' h' a, a = h.size → St p l e R s m args below meth c n0 T' h' k' n' → Ext h h' → Exa Z h' a K → (∀ {O nm d : String} {ty : FieldType}, Laid Z a0 K O nm d → parseFieldDescriptor d = some ty → Fld Z h' a O nm d (defaultValue ty)) → Goes p e below G (T'.setTop (mkF m q L (.ref a :: st)))) : Goes p e below G (T.setTop (mkF m pc L st)) := by
  obtain ⟨hx, hZ, hown, hby, -⟩ := C
  obtain ⟨_, _, _, X, hF, eT, h1, h2⟩ := X
  subst hq hk hn
  obtain ⟨T', h', X', e', E', A', D', -, st'⟩ := newO X hx hZ hown w wi wz eT (g := mkF m pc L st) rfl (hb hby hd) (Nat.le_trans (Nat.add_le_add_right h1 1) hkR) (Nat.le_trans (Nat.add_le_add_right h2 z) hnR)
  exact go_st st' (r T' h' _ rfl ⟨_, _, _, X', hF, e', Nat.add_le_add_right h1 1, Nat.add_le_add_right h2 z⟩ E' A' D')
theorem g_initO (C : Cx p s m meth c Z own bytes ml rt mn) (X : St p l e R s m args below meth c n0 T h k n) {i : Nat} {a : Addr} (w1 : (Cond.methodLink own i Lib.objectInit).before a0 Z = true) (w2 : (Cond.instanceMethod Lib.objectInit).before a0 Z = true) (w3 : (Cond.code Lib.objectInit ⟨#[0xb1]⟩ 1 none).before a0 Z = true) (hsz : L.size = ml) (hd : decode bytes pc = .ok (.invokespecial i, 3)) (hq : pc + 3 = q) (hf : 1 ≤ R.frames) (hW : (st.map fun v => v.category).sum + 12 ≤ R.locals)
    (r : ∀ T', St p l e R s m args below meth c n0 T' h k n → Goes p e below G (T'.setTop (mkF m q L st))) : Goes p e below G (T.setTop (mkF m pc L (.ref a :: st))) := by
  obtain ⟨hx, hZ, hown, hby, hml, -⟩ := C
  obtain ⟨_, _, _, X, hF, eT, h1, h2⟩ := X
  subst hq
  obtain ⟨T', X', e', st'⟩ := initO X hx hZ hown w1 w2 w3 eT (g := mkF m pc L (.ref a :: st)) rfl (hsz.trans hml.symm) rfl (hb hby hd) hf (W := (st.map fun v => v.category).sum) (by show 2 * 0 + _ ≤ _; omega) hW
  exact go_st st' (r T' ⟨_, _, _, X', hF, e', h1, h2⟩)
theorem g_bastore (C : Cx p s m meth c Z own bytes ml rt mn) (X : St p l e R s m args below meth c n0 T h k n) {a : Addr} {cA : ClassId} {z j : Int32} {vs vs' : List Value} {dv : Value} {i : Nat} {v : Int32} (V : Arv Z h a cA .byte z vs dv) (hj : ¬ j < 0 ∧ j < z) (hi : j.toNatClampNeg = i) (hlt : i < vs.length) (hvs : vs.set i (.int (nar .byte v)) = vs') (ha : n0 ≤ a) (hd : decode bytes pc = .ok (.bastore, 1)) (hq : pc + 1 = q)
    (r : ∀ T' h', St p l e R s m args below meth c n0 T' h' k n → Wr h h' a i (.int (nar .byte v)) → Arv Z h' a cA .byte z vs' dv → Goes p e below G (T'.setTop (mkF m q L st))) : Goes p e below G (T.setTop (mkF m pc L (.int v :: .int j :: .ref a :: st))) := by
  obtain ⟨hx, hZ, hown, hby, -⟩ := C
  obtain ⟨_, _, _, X, hF, eT, h1, h2⟩ := X
  subst hq hi hvs
  obtain ⟨cl, A, q1, Sz, q3, H, Gf⟩ := V
  obtain ⟨T', h', X', e', W', st'⟩ := stB X hx hZ eT A (j := j) (inb_of Sz hj) (g := mkF m pc L (.int v :: .int j :: .ref a :: st)) rfl rfl (hb hby hd)
  exact go_st st' (r T' h' ⟨_, _, _, X', Fr.snoc X' hF ha, e', h1, h2⟩ W' (Arv.set A q1 Sz q3 H Gf (fits_nar_byte _) W' _ rfl hlt))
theorem g_baload (C : Cx p s m meth c Z own bytes ml rt mn) (X : St p l e R s m args below meth c n0 T h k n) {a : Addr} {cA : ClassId} {z j : Int32} {vs : List Value} {dv w : Value}  (V : Arv Z h a cA .byte z vs dv) (hj : ¬ j < 0 ∧ j < z) (hv : vs.getD j.toNatClampNeg dv = w) (hd : decode bytes pc = .ok (.baload, 1)) (hq : pc + 1 = q) (r : Goes p e below G (T.setTop (mkF m q L (w :: st)))) : Goes p e below G (T.setTop (mkF m pc L (.int j :: .ref a :: st))) := by
  obtain ⟨hx, hZ, hown, hby, -⟩ := C
  obtain ⟨_, _, _, X, hF, eT, h1, h2⟩ := X
  subst hq
  obtain ⟨cl, A, q1, Sz, q3, H, Gf⟩ := V
  exact go_st (fun t k => X.baloadBytes hx (j := j) (v := w) (by rw [eT]; exact A.1) (State.isArrayOf_alike hZ.alike A.2.1) A.2.2 (inb_of Sz hj) (H.at (inb_of Sz hj) hv) (g := mkF m pc L (.int j :: .ref a :: st)) rfl rfl (hb hby hd) t k) r
theorem g_alen (C : Cx p s m meth c Z own bytes ml rt mn) (X : St p l e R s m args below meth c n0 T h k n) {a : Addr} {cA : ClassId} {z : Int32} {vs : List Value} {dv : Value} {ty : FieldType} (V : Arv Z h a cA ty z vs dv) (hd : decode bytes pc = .ok (.arraylength, 1)) (hq : pc + 1 = q) (r : Goes p e below G (T.setTop (mkF m q L (.int z :: st)))) : Goes p e below G (T.setTop (mkF m pc L (.ref a :: st))) := by
  obtain ⟨hx, hZ, hown, hby, -⟩ := C
  obtain ⟨_, _, _, X, hF, eT, h1, h2⟩ := X
  subst hq
  obtain ⟨cl, A, q1, Sz, q3, H, Gf⟩ := V
  exact go_st (fun t k => X.arraylength hx (by rw [eT]; exact A.1) (State.isArrayOf_alike hZ.alike A.2.1) (g := mkF m pc L (.ref a :: st)) rfl rfl (hb hby hd) t (by rw [len_of Sz q3]; exact k)) r
theorem g_castY (C : Cx p s m meth c Z own bytes ml rt mn) (X : St p l e R s m args below meth c n0 T h k n) {K : String} {i : Nat} {a : Addr} (w : (Cond.classLink own i K).before a0 Z = true) (I : Ins Z h a K true) (hd : decode bytes pc = .ok (.checkcast i, 3)) (hq : pc + 3 = q) (r : ∀ T', St p l e R s m args below meth c n0 T' h k n → Goes p e below G (T'.setTop (mkF m q L (.ref a :: st)))) : Goes p e below G (T.setTop (mkF m pc L (.ref a :: st))) := by
  obtain ⟨hx, hZ, hown, hby, -⟩ := C
  obtain ⟨_, _, _, X, hF, eT, h1, h2⟩ := X
  subst hq
  obtain ⟨T', X', e', st'⟩ := castY X hx hZ hown w eT I (g := mkF m pc L (.ref a :: st)) rfl rfl (hb hby hd)
  exact go_st st' (r T' ⟨_, _, _, X', hF, e', h1, h2⟩)
theorem g_callSb (C : Cx p s m meth c Z own bytes ml rt mn) (X : St p l e R s m args below meth c n0 T h k n) {as' : Array Value} {argsL : List Value} {ps : List FieldType} {rt' : Option FieldType} {k' n' W kc ks : Nat} {QL : Option Value → Heap → List Loc → Prop} {y : MethodName} {i : Nat} (hy : y.cls ≠ "java/lang/invoke/MethodHandle" ∧ y.cls ≠ "java/lang/invoke/VarHandle") (w1 : (Cond.methodLink own i y).before a0 Z = true) (w2 : (Cond.static y).before a0 Z = true) {bts : ByteArray} {mxl : Nat} {rty : Option FieldType} (w8 : (Cond.code y bts mxl rty).before a0 Z = true) (w9 : (Cond.initialized y.cls).before a0 Z = true) (bk : Back l R p e below s args y 3 W (fun A a => a = as' ∧ A.U.heap = h ∧ A.cells + kc ≤ R.cells ∧ A.slots + ks ≤ R.slots) (fun A _ v B => ∃ L, QL v B.U.heap L ∧ B.locs = A.locs ++ L ∧ B.cells = A.cells + kc ∧ B.slots = A.slots + ks)) (hk : k + kc = k') (hn : n + ks = n') (hkR : k' ≤ R.cells) (hnR : n' ≤ R.slots) (hsz : L.size = ml) (hdd : parseMethodDescriptor y.desc = some ⟨ps, rt'⟩) (hlen : argsL.length = ps.length) (hst : st = argsL.reverse ++ rest) (has : argsL.toArray = as') (hW : (rest.map fun v => v.category).sum = W) (hd : decode bytes pc = .ok (.invokestatic i, 3)) (hq : pc + 3 = q)
    (r : ∀ v T' h' L', St p l e R s m args below meth c n0 T' h' k' n' ∨ ¬ Fr n0 L' → QL v h' L' → Goes p e below G (T'.setTop (mkF m q L (v.toList ++ rest)))) : Goes p e below G (T.setTop (mkF m pc L st)) := by
  obtain ⟨hx, hZ, hown, hby, hml, -⟩ := C
  obtain ⟨_, cells, slots, X, hF, eT, h1, h2⟩ := X
  subst hq hk hn has hst hW
  obtain ⟨_, _, ⟨T', Lo, kk, nn⟩, -, X', ⟨Lc, hQ, q1, q2, q3⟩, st'⟩ := Jvm.LawKit.callS X hx hown (mvT hZ w1) (mvT hZ w2) (mvT hZ w9) (mvT hZ w8) hy bk (g := mkF m pc L (argsL.reverse ++ rest)) rfl (hsz.trans hml.symm) (argsL := argsL) (rest := rest) (lenOf hdd hlen) rfl (by show 2 * 0 + _ ≤ _; omega) (hb hby hd) (fun _ _ => ⟨rfl, eT, Nat.le_trans (Nat.add_le_add_right h1 _) hkR, Nat.le_trans (Nat.add_le_add_right h2 _) hnR⟩)
  dsimp only [Pt.U, Pt.locs, Pt.cells, Pt.slots] at X' q1 q2 q3 st' hQ
  subst q1 q2 q3
  refine go_st st' (r _ T' _ Lc ?_ hQ)
  by_cases hFr : Fr n0 Lc
  · exact Or.inl ⟨_, _, _, X', Fr.app hF hFr, rfl, Nat.add_le_add_right h1 _, Nat.add_le_add_right h2 _⟩
  · exact Or.inr hFr
theorem g_callS1 (C : Cx p s m meth c Z own bytes ml rt mn) (X : St p l e R s m args below meth c n0 T h k n) {rm : Room} {as' : Array Value} {bts : ByteArray} {mxl : Nat} {rty : Option FieldType} {argsL : List Value} {ps : List FieldType} {rt' : Option FieldType} {k' n' W : Nat} {Q : Value → Heap → Prop} {y : MethodName} {i : Nat} (hy : y.cls ≠ "java/lang/invoke/MethodHandle" ∧ y.cls ≠ "java/lang/invoke/VarHandle") (w1 : (Cond.methodLink own i y).before a0 Z = true) (w2 : (Cond.static y).before a0 Z = true) (w8 : (Cond.code y bts mxl rty).before a0 Z = true) (w9 : (Cond.initialized y.cls).before a0 Z = true) (hM : Met1 l Z y bts mxl rty rm as' h n0 Q) (hf : rm.frames + 1 ≤ R.frames) (hl : W + (mxl + 11) + rm.locals ≤ R.locals) (hk : k + rm.cells = k') (hn : n + rm.slots = n') (hkR : k' ≤ R.cells) (hnR : n' ≤ R.slots) (hsz : L.size = ml) (hdd : parseMethodDescriptor y.desc = some ⟨ps, rt'⟩) (hlen : argsL.length = ps.length) (hst : st = argsL.reverse ++ rest) (has : argsL.toArray = as') (hW : (rest.map fun v => v.category).sum = W) (hd : decode bytes pc = .ok (.invokestatic i, 3)) (hq : pc + 3 = q)
    (r : ∀ w T' h', St p l e R s m args below meth c n0 T' h' k' n' → Q w h' → Goes p e below G (T'.setTop (mkF m q L (w :: rest)))) : Goes p e below G (T.setTop (mkF m pc L st)) := by
  have bk := backOf (Q := fun v h L => Fr n0 L ∧ (∃ w, v = some w ∧ Q w h)) (R := R) (p := p) (e := e) (below := below) (s := s) (args := args) (len := 3) (W := W) (hM []) C.2.1 w8 w9 hf hl
  refine g_callSb C X (QL := fun v h L => Fr n0 L ∧ (∃ w, v = some w ∧ Q w h)) hy w1 w2 w8 w9 bk hk hn hkR hnR hsz hdd hlen hst has hW hd hq ?_
  rintro v T' h' L' hX ⟨hFr, hQ⟩
  obtain ⟨w, rfl, hQ⟩ := hQ
  exact r w T' h' (hX.resolve_right fun z => z hFr) hQ
theorem g_callS0 (C : Cx p s m meth c Z own bytes ml rt mn) (X : St p l e R s m args below meth c n0 T h k n) {rm : Room} {as' : Array Value} {bts : ByteArray} {mxl : Nat} {rty : Option FieldType} {argsL : List Value} {ps : List FieldType} {rt' : Option FieldType} {k' n' W : Nat} {Q : Heap → Prop} {y : MethodName} {i : Nat} (hy : y.cls ≠ "java/lang/invoke/MethodHandle" ∧ y.cls ≠ "java/lang/invoke/VarHandle") (w1 : (Cond.methodLink own i y).before a0 Z = true) (w2 : (Cond.static y).before a0 Z = true) (w8 : (Cond.code y bts mxl rty).before a0 Z = true) (w9 : (Cond.initialized y.cls).before a0 Z = true) (hM : Met0 l Z y bts mxl rty rm as' h n0 Q) (hf : rm.frames + 1 ≤ R.frames) (hl : W + (mxl + 11) + rm.locals ≤ R.locals) (hk : k + rm.cells = k') (hn : n + rm.slots = n') (hkR : k' ≤ R.cells) (hnR : n' ≤ R.slots) (hsz : L.size = ml) (hdd : parseMethodDescriptor y.desc = some ⟨ps, rt'⟩) (hlen : argsL.length = ps.length) (hst : st = argsL.reverse ++ rest) (has : argsL.toArray = as') (hW : (rest.map fun v => v.category).sum = W) (hd : decode bytes pc = .ok (.invokestatic i, 3)) (hq : pc + 3 = q)
    (r : ∀ T' h', St p l e R s m args below meth c n0 T' h' k' n' → Q h' → Goes p e below G (T'.setTop (mkF m q L rest))) : Goes p e below G (T.setTop (mkF m pc L st)) := by
  have bk := backOf (Q := fun v h L => Fr n0 L ∧ (v = none ∧ Q h)) (R := R) (p := p) (e := e) (below := below) (s := s) (args := args) (len := 3) (W := W) (hM []) C.2.1 w8 w9 hf hl
  refine g_callSb C X (QL := fun v h L => Fr n0 L ∧ (v = none ∧ Q h)) hy w1 w2 w8 w9 bk hk hn hkR hnR hsz hdd hlen hst has hW hd hq ?_
  rintro v T' h' L' hX ⟨hFr, hQ⟩
  obtain ⟨rfl, hQ⟩ := hQ
  exact r T' h' (hX.resolve_right fun z => z hFr) hQ
theorem g_callIb (C : Cx p s m meth c Z own bytes ml rt mn) (X : St p l e R s m args below meth c n0 T h k n) {as' : Array Value} {argsL : List Value} {ps : List FieldType} {rt' : Option FieldType} {k' n' W kc ks : Nat} {QL : Option Value → Heap → List Loc → Prop} {y : MethodName} {i : Nat} {a : Addr} (hy : y.cls ≠ "java/lang/invoke/MethodHandle" ∧ y.cls ≠ "java/lang/invoke/VarHandle") (hy1 : y.name = "<init>") (w1 : (Cond.methodLink own i y).before a0 Z = true) (w2 : (Cond.instanceMethod y).before a0 Z = true) {bts : ByteArray} {mxl : Nat} (w8 : (Cond.code y bts mxl none).before a0 Z = true) (bk : Back l R p e below s args y 3 W (fun A a => a = as' ∧ A.U.heap = h ∧ A.cells + kc ≤ R.cells ∧ A.slots + ks ≤ R.slots) (fun A _ v B => ∃ L, QL v B.U.heap L ∧ B.locs = A.locs ++ L ∧ B.cells = A.cells + kc ∧ B.slots = A.slots + ks)) (hk : k + kc = k') (hn : n + ks = n') (hkR : k' ≤ R.cells) (hnR : n' ≤ R.slots) (hsz : L.size = ml) (hdd : parseMethodDescriptor y.desc = some ⟨ps, rt'⟩) (hlen : argsL.length = ps.length) (hst : st = argsL.reverse ++ .ref a :: rest) (has : (.ref a :: argsL).toArray = as') (hW : (rest.map fun v => v.category).sum = W) (hd : decode bytes pc = .ok (.invokespecial i, 3)) (hq : pc + 3 = q)
    (r : ∀ v T' h' L', St p l e R s m args below meth c n0 T' h' k' n' ∨ ¬ Fr n0 L' → QL v h' L' → Goes p e below G (T'.setTop (mkF m q L (v.toList ++ rest)))) : Goes p e below G (T.setTop (mkF m pc L st)) := by
  obtain ⟨hx, hZ, hown, hby, hml, -⟩ := C
  obtain ⟨_, cells, slots, X, hF, eT, h1, h2⟩ := X
  subst hq hk hn has hst hW
  obtain ⟨_, _, ⟨T', Lo, kk, nn⟩, -, X', ⟨Lc, hQ, q1, q2, q3⟩, st'⟩ := X.specialBack hx hy1 hown (mvT hZ w1) (mvT hZ w2) (mvT hZ w8) hy bk (g := mkF m pc L (argsL.reverse ++ .ref a :: rest)) rfl (hsz.trans hml.symm) (Steps.refl _) (a := a) (argsL := argsL) (rest := rest) (lenOf hdd hlen) rfl (by show 2 * 0 + _ ≤ _; omega) (hb hby hd) (fun _ _ => ⟨rfl, eT, Nat.le_trans (Nat.add_le_add_right h1 _) hkR, Nat.le_trans (Nat.add_le_add_right h2 _) hnR⟩)
  dsimp only [Pt.U, Pt.locs, Pt.cells, Pt.slots] at X' q1 q2 q3 st' hQ
  subst q1 q2 q3
  refine go_tr st' (r _ T' _ Lc ?_ hQ)
  by_cases hFr : Fr n0 Lc
  · exact Or.inl ⟨_, _, _, X', Fr.app hF hFr, rfl, Nat.add_le_add_right h1 _, Nat.add_le_add_right h2 _⟩
  · exact Or.inr hFr
theorem g_callI0 (C : Cx p s m meth c Z own bytes ml rt mn) (X : St p l e R s m args below meth c n0 T h k n) {rm : Room} {as' : Array Value} {bts : ByteArray} {mxl : Nat} {argsL : List Value} {ps : List FieldType} {rt' : Option FieldType} {k' n' W : Nat} {Q : Heap → Prop} {y : MethodName} {i : Nat} {a : Addr} (hy : y.cls ≠ "java/lang/invoke/MethodHandle" ∧ y.cls ≠ "java/lang/invoke/VarHandle") (hy1 : y.name = "<init>") (w1 : (Cond.methodLink own i y).before a0 Z = true) (w2 : (Cond.instanceMethod y).before a0 Z = true) (w8 : (Cond.code y bts mxl none).before a0 Z = true) (w9 : (Cond.initialized y.cls).before a0 Z = true) (hM : Met0 l Z y bts mxl none rm as' h n0 Q) (hf : rm.frames + 1 ≤ R.frames) (hl : W + (mxl + 11) + rm.locals ≤ R.locals) (hk : k + rm.cells = k') (hn : n + rm.slots = n') (hkR : k' ≤ R.cells) (hnR : n' ≤ R.slots) (hsz : L.size = ml) (hdd : parseMethodDescriptor y.desc = some ⟨ps, rt'⟩) (hlen : argsL.length = ps.length) (hst : st = argsL.reverse ++ .ref a :: rest) (has : (.ref a :: argsL).toArray = as') (hW : (rest.map fun v => v.category).sum = W) (hd : decode bytes pc = .ok (.invokespecial i, 3)) (hq : pc + 3 = q)
    (r : ∀ T' h', St p l e R s m args below meth c n0 T' h' k' n' → Q h' → Goes p e below G (T'.setTop (mkF m q L rest))) : Goes p e below G (T.setTop (mkF m pc L st)) := by
  have bk := backOf (Q := fun v h L => Fr n0 L ∧ (v = none ∧ Q h)) (R := R) (p := p) (e := e) (below := below) (s := s) (args := args) (len := 3) (W := W) (hM []) C.2.1 w8 w9 hf hl
  refine g_callIb C X (QL := fun v h L => Fr n0 L ∧ (v = none ∧ Q h)) hy hy1 w1 w2 w8 bk hk hn hkR hnR hsz hdd hlen hst has hW hd hq ?_
  rintro v T' h' L' hX ⟨hFr, hQ⟩
  obtain ⟨rfl, hQ⟩ := hQ
  exact r T' h' (hX.resolve_right fun z => z hFr) hQ
theorem g_callVb (C : Cx p s m meth c Z own bytes ml rt mn) (X : St p l e R s m args below meth c n0 T h k n) {as' : Array Value} {argsL : List Value} {ps : List FieldType} {rt' : Option FieldType} {k' n' W kc ks : Nat} {QL : Option Value → Heap → List Loc → Prop} {y z : MethodName} {i : Nat} {a : Addr} {K : String} (hy : y.cls ≠ "java/lang/invoke/MethodHandle" ∧ y.cls ≠ "java/lang/invoke/VarHandle") (w1 : (Cond.methodLink own i y).before a0 Z = true) (w2 : (Cond.declares y).before a0 Z = true) (w3 : (Cond.selects K y z).before a0 Z = true) (w4 : (Cond.instanceMethod z).before a0 Z = true) (hnf : ∀ s' : State, Z.Warmed39 s'.vm → NotFace s' y) (E : Exa Z h a K) (bk : Back l R p e below s args z 3 W (fun A a => a = as' ∧ A.U.heap = h ∧ A.cells + kc ≤ R.cells ∧ A.slots + ks ≤ R.slots) (fun A _ v B => ∃ L, QL v B.U.heap L ∧ B.locs = A.locs ++ L ∧ B.cells = A.cells + kc ∧ B.slots = A.slots + ks)) (hk : k + kc = k') (hn : n + ks = n') (hkR : k' ≤ R.cells) (hnR : n' ≤ R.slots) (hsz : L.size = ml) (hdd : parseMethodDescriptor y.desc = some ⟨ps, rt'⟩) (hlen : argsL.length = ps.length) (hst : st = argsL.reverse ++ .ref a :: rest) (has : (.ref a :: argsL).toArray = as') (hW : (rest.map fun v => v.category).sum = W) (hd : decode bytes pc = .ok (.invokevirtual i, 3)) (hq : pc + 3 = q)
    (r : ∀ v T' h' L', St p l e R s m args below meth c n0 T' h' k' n' ∨ ¬ Fr n0 L' → QL v h' L' → Goes p e below G (T'.setTop (mkF m q L (v.toList ++ rest)))) : Goes p e below G (T.setTop (mkF m pc L st)) := by
  obtain ⟨hx, hZ, hown, hby, hml, -⟩ := C
  obtain ⟨_, cells, slots, X, hF, eT, h1, h2⟩ := X
  subst hq hk hn has hst hW
  obtain ⟨cB, kB, qa, qb, qc⟩ := isOf hZ eT E
  obtain ⟨_, _, ⟨T', Lo, kk, nn⟩, -, X', ⟨Lc, hQ, q1, q2, q3⟩, st'⟩ := X.virtualBack hx hown (mvT hZ w1) (mvT hZ w2) (hnf s hZ) (mvT hZ w3) (mvT hZ w4) hy bk qa qc (g := mkF m pc L (argsL.reverse ++ .ref a :: rest)) rfl (hsz.trans hml.symm) (Steps.refl _) (argsL := argsL) (rest := rest) (lenOf hdd hlen) rfl (by show 2 * 0 + _ ≤ _; omega) (hb hby hd) (fun _ _ => ⟨rfl, eT, Nat.le_trans (Nat.add_le_add_right h1 _) hkR, Nat.le_trans (Nat.add_le_add_right h2 _) hnR⟩)
  dsimp only [Pt.U, Pt.locs, Pt.cells, Pt.slots] at X' q1 q2 q3 st' hQ
  subst q1 q2 q3
  refine go_tr st' (r _ T' _ Lc ?_ hQ)
  by_cases hFr : Fr n0 Lc
  · exact Or.inl ⟨_, _, _, X', Fr.app hF hFr, rfl, Nat.add_le_add_right h1 _, Nat.add_le_add_right h2 _⟩
  · exact Or.inr hFr
theorem g_callV1 (C : Cx p s m meth c Z own bytes ml rt mn) (X : St p l e R s m args below meth c n0 T h k n) {rm : Room} {as' : Array Value} {bts : ByteArray} {mxl : Nat} {rty : Option FieldType} {argsL : List Value} {ps : List FieldType} {rt' : Option FieldType} {k' n' W : Nat} {Q : Value → Heap → Prop} {y z : MethodName} {i : Nat} {a : Addr} {K : String} (hy : y.cls ≠ "java/lang/invoke/MethodHandle" ∧ y.cls ≠ "java/lang/invoke/VarHandle") (w1 : (Cond.methodLink own i y).before a0 Z = true) (w2 : (Cond.declares y).before a0 Z = true) (w3 : (Cond.selects K y z).before a0 Z = true) (w4 : (Cond.instanceMethod z).before a0 Z = true) (hnf : ∀ s' : State, Z.Warmed39 s'.vm → NotFace s' y) (E : Exa Z h a K) (w8 : (Cond.code z bts mxl rty).before a0 Z = true) (w9 : (Cond.initialized z.cls).before a0 Z = true) (hM : Met1 l Z z bts mxl rty rm as' h n0 Q) (hf : rm.frames + 1 ≤ R.frames) (hl : W + (mxl + 11) + rm.locals ≤ R.locals) (hk : k + rm.cells = k') (hn : n + rm.slots = n') (hkR : k' ≤ R.cells) (hnR : n' ≤ R.slots) (hsz : L.size = ml) (hdd : parseMethodDescriptor y.desc = some ⟨ps, rt'⟩) (hlen : argsL.length = ps.length) (hst : st = argsL.reverse ++ .ref a :: rest) (has : (.ref a :: argsL).toArray = as') (hW : (rest.map fun v => v.category).sum = W) (hd : decode bytes pc = .ok (.invokevirtual i, 3)) (hq : pc + 3 = q)
    (r : ∀ w T' h', St p l e R s m args below meth c n0 T' h' k' n' → Q w h' → Goes p e below G (T'.setTop (mkF m q L (w :: rest)))) : Goes p e below G (T.setTop (mkF m pc L st)) := by
  have bk := backOf (Q := fun v h L => Fr n0 L ∧ (∃ w, v = some w ∧ Q w h)) (R := R) (p := p) (e := e) (below := below) (s := s) (args := args) (len := 3) (W := W) (hM []) C.2.1 w8 w9 hf hl
  refine g_callVb C X (QL := fun v h L => Fr n0 L ∧ (∃ w, v = some w ∧ Q w h)) hy w1 w2 w3 w4 hnf E bk hk hn hkR hnR hsz hdd hlen hst has hW hd hq ?_
  rintro v T' h' L' hX ⟨hFr, hQ⟩
  obtain ⟨w, rfl, hQ⟩ := hQ
  exact r w T' h' (hX.resolve_right fun z => z hFr) hQ
theorem g_callV0 (C : Cx p s m meth c Z own bytes ml rt mn) (X : St p l e R s m args below meth c n0 T h k n) {rm : Room} {as' : Array Value} {bts : ByteArray} {mxl : Nat} {rty : Option FieldType} {argsL : List Value} {ps : List FieldType} {rt' : Option FieldType} {k' n' W : Nat} {Q : Heap → Prop} {y z : MethodName} {i : Nat} {a : Addr} {K : String} (hy : y.cls ≠ "java/lang/invoke/MethodHandle" ∧ y.cls ≠ "java/lang/invoke/VarHandle") (w1 : (Cond.methodLink own i y).before a0 Z = true) (w2 : (Cond.declares y).before a0 Z = true) (w3 : (Cond.selects K y z).before a0 Z = true) (w4 : (Cond.instanceMethod z).before a0 Z = true) (hnf : ∀ s' : State, Z.Warmed39 s'.vm → NotFace s' y) (E : Exa Z h a K) (w8 : (Cond.code z bts mxl rty).before a0 Z = true) (w9 : (Cond.initialized z.cls).before a0 Z = true) (hM : Met0 l Z z bts mxl rty rm as' h n0 Q) (hf : rm.frames + 1 ≤ R.frames) (hl : W + (mxl + 11) + rm.locals ≤ R.locals) (hk : k + rm.cells = k') (hn : n + rm.slots = n') (hkR : k' ≤ R.cells) (hnR : n' ≤ R.slots) (hsz : L.size = ml) (hdd : parseMethodDescriptor y.desc = some ⟨ps, rt'⟩) (hlen : argsL.length = ps.length) (hst : st = argsL.reverse ++ .ref a :: rest) (has : (.ref a :: argsL).toArray = as') (hW : (rest.map fun v => v.category).sum = W) (hd : decode bytes pc = .ok (.invokevirtual i, 3)) (hq : pc + 3 = q)
    (r : ∀ T' h', St p l e R s m args below meth c n0 T' h' k' n' → Q h' → Goes p e below G (T'.setTop (mkF m q L rest))) : Goes p e below G (T.setTop (mkF m pc L st)) := by
  have bk := backOf (Q := fun v h L => Fr n0 L ∧ (v = none ∧ Q h)) (R := R) (p := p) (e := e) (below := below) (s := s) (args := args) (len := 3) (W := W) (hM []) C.2.1 w8 w9 hf hl
  refine g_callVb C X (QL := fun v h L => Fr n0 L ∧ (v = none ∧ Q h)) hy w1 w2 w3 w4 hnf E bk hk hn hkR hnR hsz hdd hlen hst has hW hd hq ?_
  rintro v T' h' L' hX ⟨hFr, hQ⟩
  obtain ⟨rfl, hQ⟩ := hQ
  exact r T' h' (hX.resolve_right fun z => z hFr) hQ
theorem g_callPb (C : Cx p s m meth c Z own bytes ml rt mn) (X : St p l e R s m args below meth c n0 T h k n) {as' : Array Value} {argsL : List Value} {ps : List FieldType} {rt' : Option FieldType} {k' n' W kc ks : Nat} {QL : Option Value → Heap → List Loc → Prop} {y : MethodName} {i : Nat} {a : Addr} {K : String} (hy : y.cls ≠ "java/lang/invoke/MethodHandle" ∧ y.cls ≠ "java/lang/invoke/VarHandle") (w1 : (Cond.methodLink own i y).before a0 Z = true) (w3 : (Cond.selects y.cls y y).before a0 Z = true) (w4 : (Cond.instanceMethod y).before a0 Z = true) (w5 : (Cond.privateMethod y).before a0 Z = true) (E : Exa Z h a K) {bts : ByteArray} {mxl : Nat} {rty : Option FieldType} (w8 : (Cond.code y bts mxl rty).before a0 Z = true) (bk : Back l R p e below s args y 3 W (fun A a => a = as' ∧ A.U.heap = h ∧ A.cells + kc ≤ R.cells ∧ A.slots + ks ≤ R.slots) (fun A _ v B => ∃ L, QL v B.U.heap L ∧ B.locs = A.locs ++ L ∧ B.cells = A.cells + kc ∧ B.slots = A.slots + ks)) (hk : k + kc = k') (hn : n + ks = n') (hkR : k' ≤ R.cells) (hnR : n' ≤ R.slots) (hsz : L.size = ml) (hdd : parseMethodDescriptor y.desc = some ⟨ps, rt'⟩) (hlen : argsL.length = ps.length) (hst : st = argsL.reverse ++ .ref a :: rest) (has : (.ref a :: argsL).toArray = as') (hW : (rest.map fun v => v.category).sum = W) (hd : decode bytes pc = .ok (.invokevirtual i, 3)) (hq : pc + 3 = q)
    (r : ∀ v T' h' L', St p l e R s m args below meth c n0 T' h' k' n' ∨ ¬ Fr n0 L' → QL v h' L' → Goes p e below G (T'.setTop (mkF m q L (v.toList ++ rest)))) : Goes p e below G (T.setTop (mkF m pc L st)) := by
  obtain ⟨hx, hZ, hown, hby, hml, -⟩ := C
  obtain ⟨_, cells, slots, X, hF, eT, h1, h2⟩ := X
  subst hq hk hn has hst hW
  obtain ⟨cq, qa, qb⟩ := E.cell
  obtain ⟨_, _, ⟨T', Lo, kk, nn⟩, -, X', ⟨Lc, hQ, q1, q2, q3⟩, st'⟩ := X.privateBack hx hown (mvT hZ w1) (mvT hZ w4) (mvT hZ w3) (Cond.privateMethod_at (mvP hZ w5 (args := #[]))) (mvT hZ w8) hy bk (g := mkF m pc L (argsL.reverse ++ .ref a :: rest)) rfl (hsz.trans hml.symm) (Steps.refl _) (a := a) (by rw [eT]; exact qa) qb (argsL := argsL) (rest := rest) (lenOf hdd hlen) rfl (by show 2 * 0 + _ ≤ _; omega) (hb hby hd) (fun _ _ => ⟨rfl, eT, Nat.le_trans (Nat.add_le_add_right h1 _) hkR, Nat.le_trans (Nat.add_le_add_right h2 _) hnR⟩)
  dsimp only [Pt.U, Pt.locs, Pt.cells, Pt.slots] at X' q1 q2 q3 st' hQ
  subst q1 q2 q3
  refine go_tr st' (r _ T' _ Lc ?_ hQ)
  by_cases hFr : Fr n0 Lc
  · exact Or.inl ⟨_, _, _, X', Fr.app hF hFr, rfl, Nat.add_le_add_right h1 _, Nat.add_le_add_right h2 _⟩
  · exact Or.inr hFr
theorem g_callP1 (C : Cx p s m meth c Z own bytes ml rt mn) (X : St p l e R s m args below meth c n0 T h k n) {rm : Room} {as' : Array Value} {bts : ByteArray} {mxl : Nat} {rty : Option FieldType} {argsL : List Value} {ps : List FieldType} {rt' : Option FieldType} {k' n' W : Nat} {Q : Value → Heap → Prop} {y : MethodName} {i : Nat} {a : Addr} {K : String} (hy : y.cls ≠ "java/lang/invoke/MethodHandle" ∧ y.cls ≠ "java/lang/invoke/VarHandle") (w1 : (Cond.methodLink own i y).before a0 Z = true) (w3 : (Cond.selects y.cls y y).before a0 Z = true) (w4 : (Cond.instanceMethod y).before a0 Z = true) (w5 : (Cond.privateMethod y).before a0 Z = true) (E : Exa Z h a K) (w8 : (Cond.code y bts mxl rty).before a0 Z = true) (w9 : (Cond.initialized y.cls).before a0 Z = true) (hM : Met1 l Z y bts mxl rty rm as' h n0 Q) (hf : rm.frames + 1 ≤ R.frames) (hl : W + (mxl + 11) + rm.locals ≤ R.locals) (hk : k + rm.cells = k') (hn : n + rm.slots = n') (hkR : k' ≤ R.cells) (hnR : n' ≤ R.slots) (hsz : L.size = ml) (hdd : parseMethodDescriptor y.desc = some ⟨ps, rt'⟩) (hlen : argsL.length = ps.length) (hst : st = argsL.reverse ++ .ref a :: rest) (has : (.ref a :: argsL).toArray = as') (hW : (rest.map fun v => v.category).sum = W) (hd : decode bytes pc = .ok (.invokevirtual i, 3)) (hq : pc + 3 = q)
    (r : ∀ w T' h', St p l e R s m args below meth c n0 T' h' k' n' → Q w h' → Goes p e below G (T'.setTop (mkF m q L (w :: rest)))) : Goes p e below G (T.setTop (mkF m pc L st)) := by
  have bk := backOf (Q := fun v h L => Fr n0 L ∧ (∃ w, v = some w ∧ Q w h)) (R := R) (p := p) (e := e) (below := below) (s := s) (args := args) (len := 3) (W := W) (hM []) C.2.1 w8 w9 hf hl
  refine g_callPb C X (QL := fun v h L => Fr n0 L ∧ (∃ w, v = some w ∧ Q w h)) hy w1 w3 w4 w5 E w8 bk hk hn hkR hnR hsz hdd hlen hst has hW hd hq ?_
  rintro v T' h' L' hX ⟨hFr, hQ⟩
  obtain ⟨w, rfl, hQ⟩ := hQ
  exact r w T' h' (hX.resolve_right fun z => z hFr) hQ
theorem g_callP0 (C : Cx p s m meth c Z own bytes ml rt mn) (X : St p l e R s m args below meth c n0 T h k n) {rm : Room} {as' : Array Value} {bts : ByteArray} {mxl : Nat} {rty : Option FieldType} {argsL : List Value} {ps : List FieldType} {rt' : Option FieldType} {k' n' W : Nat} {Q : Heap → Prop} {y : MethodName} {i : Nat} {a : Addr} {K : String} (hy : y.cls ≠ "java/lang/invoke/MethodHandle" ∧ y.cls ≠ "java/lang/invoke/VarHandle") (w1 : (Cond.methodLink own i y).before a0 Z = true) (w3 : (Cond.selects y.cls y y).before a0 Z = true) (w4 : (Cond.instanceMethod y).before a0 Z = true) (w5 : (Cond.privateMethod y).before a0 Z = true) (E : Exa Z h a K) (w8 : (Cond.code y bts mxl rty).before a0 Z = true) (w9 : (Cond.initialized y.cls).before a0 Z = true) (hM : Met0 l Z y bts mxl rty rm as' h n0 Q) (hf : rm.frames + 1 ≤ R.frames) (hl : W + (mxl + 11) + rm.locals ≤ R.locals) (hk : k + rm.cells = k') (hn : n + rm.slots = n') (hkR : k' ≤ R.cells) (hnR : n' ≤ R.slots) (hsz : L.size = ml) (hdd : parseMethodDescriptor y.desc = some ⟨ps, rt'⟩) (hlen : argsL.length = ps.length) (hst : st = argsL.reverse ++ .ref a :: rest) (has : (.ref a :: argsL).toArray = as') (hW : (rest.map fun v => v.category).sum = W) (hd : decode bytes pc = .ok (.invokevirtual i, 3)) (hq : pc + 3 = q)
    (r : ∀ T' h', St p l e R s m args below meth c n0 T' h' k' n' → Q h' → Goes p e below G (T'.setTop (mkF m q L rest))) : Goes p e below G (T.setTop (mkF m pc L st)) := by
  have bk := backOf (Q := fun v h L => Fr n0 L ∧ (v = none ∧ Q h)) (R := R) (p := p) (e := e) (below := below) (s := s) (args := args) (len := 3) (W := W) (hM []) C.2.1 w8 w9 hf hl
  refine g_callPb C X (QL := fun v h L => Fr n0 L ∧ (v = none ∧ Q h)) hy w1 w3 w4 w5 E w8 bk hk hn hkR hnR hsz hdd hlen hst has hW hd hq ?_
  rintro v T' h' L' hX ⟨hFr, hQ⟩
  obtain ⟨rfl, hQ⟩ := hQ
  exact r T' h' (hX.resolve_right fun z => z hFr) hQ
theorem nf_sel {y : MethodName} {K : String} (w : (Cond.selects K y y).before a0 Z = true) : ∀ s' : State, Z.Warmed39 s'.vm → NotFace s' y := fun s' hZ => notFace_of_selects (args := #[]) (mvT hZ w)
end OwnKit
theorem own_i32 {x y : Int32} (h : x.toInt = y.toInt) : x = y := Int32.toInt_inj.mp h
theorem own_i2c {v : Int32} {lo hi : Int} (h1 : lo ≤ v.toInt) (h2 : v.toInt ≤ hi) (h3 : 0 ≤ lo) (h4 : hi ≤ 65535) : v.toUInt32.toUInt16.toUInt32.toInt32 = v := by
  have h := c_i2c v
  apply own_i32
  omega
theorem own_narC {v : Int32} {lo hi : Int} (h1 : lo ≤ v.toInt) (h2 : v.toInt ≤ hi) (h3 : 0 ≤ lo) (h4 : hi ≤ 65535) : nar .char v = v := own_i2c h1 h2 h3 h4
theorem own_ne {a b : Addr} {h : Heap} (h1 : a < h.size) (h2 : b = h.size) : a ≠ b := fun q => by subst q; subst h2; exact Nat.lt_irrefl _ h1
theorem own_ge {Z : State} {n0 : Nat} {h : Heap} {a : Addr} (O : Old Z n0 h) (g : a = h.size) : n0 ≤ a := by rw [g, ← O.1]; exact O.2.1
theorem own_szO {Z : State} {n0 : Nat} {h : Heap} (O : Old Z n0 h) : n0 ≤ h.size := by rw [← O.1]; exact O.2.1
theorem own_sz {h h' : Heap} {a : Addr} (q : h.size ≤ h'.size) (g : a = h'.size) : h.size ≤ a := g ▸ q
section OwnWide
variable {p : Program} {l : Launch} {e : Env} {R : Room} {s : State} {m : MethodId} {args : Array Value} {below : List Frame} {meth : Method} {c : Code} {T : State} {Z : State} {own mn : String} {bytes : ByteArray} {ml n0 k n : Nat} {rt : Option FieldType} {h h' : Heap} {G : Outcome → State → Prop} {pc q : Nat} {L : Array Slot} {st rest : List Value} {a0 : Array Value} {EL : List (String × Nat)} {vm : Vm}
def FinW (Z : State) (EL : List (String × Nat)) (Q : Option Value → Heap → Prop) (s : State) (n0 k n : Nat) (o : Outcome) (U : State) : Prop := ∃ v L, o = .returned v ∧ (Fr n0 L ∧ Q v U.heap) ∧ CHr Z EL s.vm s.heap U.vm U.heap ∧ ReturnedEndW s o U L k n
def MetW (l : Launch) (Z : State) (EL : List (String × Nat)) (y : MethodName) (bytes : ByteArray) (ml : Nat) (rt : Option FieldType) (rm : Room) (as' : Array Value) (h0 : Heap) (n0 : Nat) (Q : Option Value → Heap → Prop) : Prop :=
  ∀ ws : List Jvm.Cond, MetFree l y (head1 (Jvm.Cond.code y bytes ml rt :: ws) rm) (fun a U => a = as' ∧ Z.Warmed39 U.vm ∧ U.heap = h0 ∧ CHv Z EL U.vm h0) (fun _ _ _ _ _ => True) (fun _ U o U' => ∃ v L, o = .returned v ∧ (Fr n0 L ∧ Q v U'.heap) ∧ CHr Z EL U.vm U.heap U'.vm U'.heap ∧ ReturnedEndW U o U' L rm.cells rm.slots)
abbrev MetW1 (l : Launch) (Z : State) (EL : List (String × Nat)) (y : MethodName) (bytes : ByteArray) (ml : Nat) (rt : Option FieldType) (rm : Room) (as' : Array Value) (h0 : Heap) (n0 : Nat) (Q : Value → Heap → Prop) : Prop := MetW l Z EL y bytes ml rt rm as' h0 n0 (fun v h => ∃ w, v = some w ∧ Q w h)
abbrev MetW0 (l : Launch) (Z : State) (EL : List (String × Nat)) (y : MethodName) (bytes : ByteArray) (ml : Nat) (rt : Option FieldType) (rm : Room) (as' : Array Value) (h0 : Heap) (n0 : Nat) (Q : Heap → Prop) : Prop := MetW l Z EL y bytes ml rt rm as' h0 n0 (fun v h => v = none ∧ Q h)
/-- what a wide walk bears besides: its tables come of the start's, and what they book is said -/
def Wx (Z : State) (EL : List (String × Nat)) (s : State) (vm : Vm) (h : Heap) : Prop := (∃ k0, s.Since vm k0 ∧ k0 ≤ h.size) ∧ CHr Z EL s.vm s.heap vm h
theorem Wx.ext (Y : Wx Z EL s vm h) (E : Ext h h') : Wx Z EL s vm h' := by
  obtain ⟨⟨k0, h1, h2⟩, h3⟩ := Y
  exact ⟨⟨k0, h1, Nat.le_trans h2 E.1⟩, h3.trans (CHr.ext E h3.1)⟩
theorem Wx.wr (Y : Wx Z EL s vm h) {a : Addr} {sl : Nat} {v : Value} (W : Wr h h' a sl v) (S : Safe Z EL vm h a) : Wx Z EL s vm h' := by
  obtain ⟨⟨k0, h1, h2⟩, h3⟩ := Y
  exact ⟨⟨k0, h1, by rw [W.size]; exact h2⟩, h3.trans (CHr.wr W S h3.1)⟩
theorem Wx.keep (Y : Wx Z EL s vm h) {ws : List Addr} (K : Keep h h' ws) (S : ∀ x ∈ ws, Safe Z EL vm h x) : Wx Z EL s vm h' := by
  obtain ⟨⟨k0, h1, h2⟩, h3⟩ := Y
  exact ⟨⟨k0, h1, Nat.le_trans h2 K.1⟩, h3.trans (CHr.keep K S h3.1)⟩
theorem Wx.safe0 (Y : Wx Z EL s vm h) {x : Addr} (hx : h.size ≤ x) : Safe Z EL vm h x := Safe.new hx
theorem Wx.safeE (Y : Wx Z EL s vm h) {x : Addr} (S : Safe Z EL vm h x) (E : Ext h h') : Safe Z EL vm h' x := Safe.ext E Y.2.1 S
theorem Wx.safeK (Y : Wx Z EL s vm h) {x : Addr} {ws : List Addr} (S : Safe Z EL vm h x) (K : Keep h h' ws) (Sa : ∀ x ∈ ws, Safe Z EL vm h x) : Safe Z EL vm h' x := Safe.keep K Sa Y.2.1 S
theorem Cx.alike (C : Cx p (s.setVm vm) m meth c Z own bytes ml rt mn) : Z.vm.Alike vm := C.2.1.alike
theorem metW_of {y : MethodName} {rm : Room} {as' : Array Value} {Q : Option Value → Heap → Prop} (hp : plainFor y = true) (hef : ∀ m, entryFrame m as' ml = mkF m 0 L [])
    (body : ∀ (p : Program) (e : Env) (s : State) (m : MethodId) (below : List Frame) (meth : Method) (c : Code) (T : State) (vm : Vm), Cx p (s.setVm vm) m meth c Z y.cls bytes ml rt y.name → St p l e rm (s.setVm vm) m as' below meth c n0 T h 0 0 → Wx Z EL s vm h → Goes p e below (FinW Z EL Q s n0 rm.cells rm.slots) (T.setTop (mkF m 0 L []))) :
    MetW l Z EL y bytes ml rt rm as' h n0 Q := by
  intro ws
  refine MetFree.of_bodySF hp hisR ?_
  intro p e s m args below meth c s₁ Bd hml hP hK
  obtain ⟨rfl, hZ, hh, hCH⟩ := hP
  have e0 : s₁.heap = h := by rw [← hh, Bd.state]; rfl
  have b := body p e s m below meth c s₁ s.vm ⟨Bd.exec, hZ, findClass_of_methodNamed Bd.named, Bd.bytes, hml, Bd.returns, BodyLoose.notSynchronized Bd, (name_of_methodNamed Bd.named Bd.method).1⟩ ⟨[], 0, 0, Stand.of_body Bd, Fr.nil _, e0, Nat.le_refl _, Nat.le_refl _⟩
    ⟨⟨0, (State.WarmedH.refl s).since 0, Nat.zero_le _⟩, by rw [hh]; exact CHr.refl hCH⟩
  rw [hef m]
  exact b
theorem own_endW (C : Cx p (s.setVm vm) m meth c Z own bytes ml rt mn) (X : St p l e R (s.setVm vm) m args below meth c n0 T h k n) (Y : Wx Z EL s vm h) (hEL : EW Z a0 EL) {Q : Option Value → Heap → Prop} {K N : Nat} {S : State} {v : Option Value} (hv : rt = none → v = none) (hk : k ≤ K) (hn : n ≤ N) (hQ : Q v h)
    (f : ∀ locs cells slots fs, Stand p l e R (s.setVm vm) m args below meth c T locs cells slots → (∀ (f : JFrame) (acts : List Action), f.method = m → f.locked = none → f.entered = [] → (doReturn e (T.setTop f) acts v).1 = T.setFrames fs) → Steps p.tables e below S (T.setFrames fs)) : Goes p e below (FinW Z EL Q s n0 K N) S := by
  obtain ⟨hx, hZ, -, hby, -, hret, hlk, -⟩ := C
  obtain ⟨locs, cells, slots, X, hF, rfl, h1, h2⟩ := X
  obtain ⟨⟨k0, hS, hk0⟩, hC⟩ := Y
  have hA := CHv.at X hZ hEL hC.1
  obtain ⟨fs, hr, hrun, hended, hW, hsame⟩ := X.leave (v := v) (fun h => hv (hret.symm.trans h)) hlk
  have hS2 : s.Since (T.setFrames fs).vm T.heap.size := hS.trans (hW.since _) hk0
  refine ⟨_, _, f _ _ _ fs X hr, hrun, hended, _, _, rfl, ⟨hF, hQ⟩, hC.trans hA, ⟨_, rfl⟩, hS2.1, ?_, ?_⟩
  · intro j pp hj hp
    exact hS2.2 j pp hj hp
  · exact (hsame.setVm s.vm).mono (Nat.le_trans h1 hk) (Nat.le_trans h2 hn)
theorem gW_retN {t : FieldType} (C : Cx p (s.setVm vm) m meth c Z own bytes ml (some t) mn) (X : St p l e R (s.setVm vm) m args below meth c n0 T h k n) (Y : Wx Z EL s vm h) (hEL : EW Z a0 EL) {Q : Option Value → Heap → Prop} {K N : Nat} {z z' : Int32} (ht : t = .boolean ∨ t = .byte ∨ t = .char ∨ t = .short) (hz : nar t z = z') (hd : decode bytes pc = .ok (.ireturn, 1)) (hk : k ≤ K) (hn : n ≤ N) (hQ : Q (some (.int z')) h) : Goes p e below (FinW Z EL Q s n0 K N) (T.setTop (mkF m pc L (.int z :: st))) := by
  subst hz
  refine own_endW C X Y hEL (by simp) hk hn hQ fun locs cells slots fs X hr => ?_
  obtain ⟨hx, -, -, hby, -, hret, hlk, -⟩ := C
  exact retN X hx hret ht (hb hby hd) hr
theorem gW_retA {t : FieldType} (C : Cx p (s.setVm vm) m meth c Z own bytes ml (some t) mn) (X : St p l e R (s.setVm vm) m args below meth c n0 T h k n) (Y : Wx Z EL s vm h) (hEL : EW Z a0 EL) {Q : Option Value → Heap → Prop} {K N : Nat} {v : Value} (ht : t.isReference = true) (hv : v.isRef = true) (hd : decode bytes pc = .ok (.areturn, 1)) (hk : k ≤ K) (hn : n ≤ N) (hQ : Q (some v) h) : Goes p e below (FinW Z EL Q s n0 K N) (T.setTop (mkF m pc L (v :: st))) := by
  refine own_endW C X Y hEL (by simp) hk hn hQ fun locs cells slots fs X hr => ?_
  obtain ⟨hx, -, -, hby, -, hret, hlk, -⟩ := C
  have hn' : narrow t v = v := by rcases ref_cases hv with rfl | ⟨b, rfl⟩ <;> cases t <;> first | rfl | (cases ht)
  exact retOut X hx hret hn' (Or.inr (Or.inr (Or.inr (Or.inr ⟨rfl, ht, hv⟩)))) (hb hby hd) hr
theorem gW_ldcC (C : Cx p (s.setVm vm) m meth c Z own bytes ml rt mn) (X : St p l e R (s.setVm vm) m args below meth c n0 T h k n) (Y : Wx Z EL s vm h) (hEL : EW Z a0 EL) {text : String} {i nn k' n' : Nat} {vs : List Value} {z : Int32} (w : (Cond.stringLink own i text).before a0 Z = true) (wS : ∀ a ∈ Bundle.stringAtoms, a.before a0 Z = true) (hmem : (own, i) ∈ EL) (ht : (∀ c ∈ text.toList, c.toNat < 256) ∧ text.toList.map (fun c => Value.int (Jvm.Lit.byteI c.toNat.toUInt16)) = vs) (hz : ¬ z < 0) (hl : z.toNatClampNeg = vs.length) (hd : decode bytes pc = .ok (.ldc i, 2)) (hq : pc + 2 = q) (hnn : 4 * text.toList.length ≤ nn) (hbig : nn ≤ 536870912) (hk : k + 2 = k') (hn : n + (nn + 4) = n') (hkR : k' ≤ R.cells) (hnR : n' ≤ R.slots)
    (r : ∀ a b kk T' h' vm', Cx p (s.setVm vm') m meth c Z own bytes ml rt mn → St p l e R (s.setVm vm') m args below meth c n0 T' h' k' n' → Wx Z EL s vm' h' → Ext h h' → CHr Z EL vm h vm' h' → Exa Z h' a "java/lang/String" → Fld Z h' a "java/lang/String" "coder" "B" (.int 0) → Fld Z h' a "java/lang/String" "value" "[B" (.ref b) → Arv Z h' b kk .byte z vs (.int 0) → (∀ x, Safe Z EL vm' h' x → x ≠ a ∧ x ≠ b) → Goes p e below G (T'.setTop (mkF m q L (.ref a :: st)))) : Goes p e below G (T.setTop (mkF m pc L st)) := by
  obtain ⟨hx, hZ, hown, hby, hml, hret, hlk, hnm⟩ := C
  obtain ⟨locs, cells, slots, X, hF, eT, h1, h2⟩ := X
  obtain ⟨⟨k0, hS, hk0⟩, hC⟩ := Y
  subst hq hk hn
  obtain ⟨a, T', h', k1, b, kk, X', e', E', hS', hk1, hZ', hown', f1, f2, f3, f4, -, -, hC', -, hsf, st'⟩ := ldcCH X hx hZ hown w wS eT hS hk0 hEL hmem hC.1 ht hz hl (g := mkF m pc L st) rfl (hb hby hd) hnn hbig (Nat.le_trans (Nat.add_le_add_right h1 2) hkR) (Nat.le_trans (Nat.add_le_add_right h2 _) hnR)
  exact go_st st' (r a b kk T' h' T'.vm ⟨hx, hZ', hown', hby, hml, hret, hlk, hnm⟩ ⟨_, _, _, X', hF, e', Nat.add_le_add_right h1 2, Nat.add_le_add_right h2 _⟩ ⟨⟨k1, hS', hk1⟩, hC.trans hC'⟩ E' hC' f1 f2 f3 f4 hsf)
theorem gW_callV1 (C : Cx p (s.setVm vm) m meth c Z own bytes ml rt mn) (X : St p l e R (s.setVm vm) m args below meth c n0 T h k n) (Y : Wx Z EL s vm h) (hEL : EW Z a0 EL) {rm : Room} {as' : Array Value} {bts : ByteArray} {mxl : Nat} {rty : Option FieldType} {argsL : List Value} {ps : List FieldType} {rt' : Option FieldType} {k' n' W : Nat} {Q : Value → Heap → Prop} {y z : MethodName} {i : Nat} {a : Addr} {K : String} (hy : y.cls ≠ "java/lang/invoke/MethodHandle" ∧ y.cls ≠ "java/lang/invoke/VarHandle") (w1 : (Cond.methodLink own i y).before a0 Z = true) (w2 : (Cond.declares y).before a0 Z = true) (w3 : (Cond.selects K y z).before a0 Z = true) (w4 : (Cond.instanceMethod z).before a0 Z = true) (hnf : ∀ s' : State, Z.Warmed39 s'.vm → NotFace s' y) (E : Exa Z h a K) (w8 : (Cond.code z bts mxl rty).before a0 Z = true) (w9 : (Cond.initialized z.cls).before a0 Z = true) (hM : MetW1 l Z EL z bts mxl rty rm as' h n0 Q) (hf : rm.frames + 1 ≤ R.frames) (hl : W + (mxl + 11) + rm.locals ≤ R.locals) (hk : k + rm.cells = k') (hn : n + rm.slots = n') (hkR : k' ≤ R.cells) (hnR : n' ≤ R.slots) (hsz : L.size = ml) (hdd : parseMethodDescriptor y.desc = some ⟨ps, rt'⟩) (hlen : argsL.length = ps.length) (hst : st = argsL.reverse ++ .ref a :: rest) (has : (.ref a :: argsL).toArray = as') (hW : (rest.map fun v => v.category).sum = W) (hd : decode bytes pc = .ok (.invokevirtual i, 3)) (hq : pc + 3 = q)
    (r : ∀ w T' h' vm', Cx p (s.setVm vm') m meth c Z own bytes ml rt mn → St p l e R (s.setVm vm') m args below meth c n0 T' h' k' n' → Wx Z EL s vm' h' → CHr Z EL vm h vm' h' → Q w h' → Goes p e below G (T'.setTop (mkF m q L (w :: rest)))) : Goes p e below G (T.setTop (mkF m pc L st)) := by
  obtain ⟨hx, hZ, hown, hby, hml, hret, hlk, hnm⟩ := C
  obtain ⟨_, cells, slots, X, hF, eT, h1, h2⟩ := X
  obtain ⟨⟨k0, hS, hk0⟩, hC⟩ := Y
  subst hq hk hn has hst hW
  have bk := backOfSH (Q := fun v h L => Fr n0 L ∧ (∃ w, v = some w ∧ Q w h)) (R := R) (p := p) (e := e) (below := below) (s := s) (args := args) (len := 3) (W := (rest.map fun v => v.category).sum) (hM []) hZ w8 w9 hf hl hEL hC.1
  obtain ⟨cB, kB, qa, qb, qc⟩ := isOf hZ eT E
  obtain ⟨_, _, ⟨T', Lo, kk, nn⟩, -, X', hS', hg', ⟨Lc, hQ, q1, q2, q3, hC'⟩, st'⟩ := X.virtualBackS hx hown (mvT hZ w1) (mvT hZ w2) (hnf _ hZ) (mvT hZ w3) (mvT hZ w4) hy bk qa qc (g := mkF m pc L (argsL.reverse ++ .ref a :: rest)) rfl (hsz.trans hml.symm) (Steps.refl _) (argsL := argsL) (rest := rest) (lenOf hdd hlen) rfl (by show 2 * 0 + _ ≤ _; omega) (hb hby hd) (fun _ _ => ⟨rfl, eT, Nat.le_trans (Nat.add_le_add_right h1 _) hkR, Nat.le_trans (Nat.add_le_add_right h2 _) hnR⟩)
  dsimp only [Pt.U, Pt.locs, Pt.cells, Pt.slots] at X' hS' hg' q1 q2 q3 st' hQ hC'
  subst q1 q2 q3
  obtain ⟨hFr, hQ'⟩ := hQ
  obtain ⟨w, rfl, hQ'⟩ := hQ'
  rw [eT] at hg'
  obtain ⟨X2, hS2, hZ2, hown2⟩ := rebS hS hk0 X' hS' hg' hZ hown
  exact go_tr st' (r w T' _ T'.vm ⟨hx, hZ2, hown2, hby, hml, hret, hlk, hnm⟩ ⟨_, _, _, X2, Fr.app hF hFr, rfl, Nat.add_le_add_right h1 _, Nat.add_le_add_right h2 _⟩ ⟨⟨_, hS2, Nat.le_refl _⟩, hC.trans hC'⟩ hC' hQ')
end OwnWide
def Str (Z : State) (h : Heap) (x : Addr) (cs : List Int32) : Prop := ∃ (t : Addr) (kb : ClassId), Exa Z h x "java/lang/String" ∧ Fld Z h x "java/lang/String" "value" "[B" (.ref t) ∧ Fld Z h x "java/lang/String" "coder" "B" (.int 0) ∧ Arv Z h t kb .byte (Int32.ofNat cs.length) ((cs.map (fun c => c.toInt8.toInt32)).map Value.int) (.int 0) ∧ (∀ c ∈ cs, ¬ c < 0 ∧ ¬ (255 : Int32) < c) ∧ cs.length ≤ 4000
section OwnYar
variable {Z : State} {h h' : Heap} {o x : Addr} {ty : FieldType} {ws : List Addr} {sl : Nat} {v : Value}
def Yar (Z : State) (h : Heap) (a : Addr) (ty : FieldType) : Prop := ∃ c : Cell, Arr Z h a c ty
theorem Yar.of {cA : ClassId} {z : Int32} {vs : List Value} {dv : Value} (V : Arv Z h o cA ty z vs dv) : Yar Z h o ty := by obtain ⟨c, A, -⟩ := V; exact ⟨c, A⟩
theorem Yar.ext (Y : Yar Z h o ty) (E : Ext h h') : Yar Z h' o ty := by obtain ⟨c, A⟩ := Y; exact ⟨c, A.ext E⟩
theorem Yar.wr (Y : Yar Z h o ty) (W : Wr h h' x sl v) : Yar Z h' o ty := by
  obtain ⟨c, A⟩ := Y
  by_cases q : o = x
  · subst q; exact ⟨_, A.same W⟩
  · exact ⟨_, A.other W q⟩
theorem Yar.keep (Y : Yar Z h o ty) (K : Keep h h' ws) : Yar Z h' o ty := by
  obtain ⟨c, A1, ⟨A2, kc, A3, comp, A4⟩, A5⟩ := Y
  obtain ⟨c', q1, q2, q3, -⟩ := K.2.2 _ _ A1
  exact ⟨c', q1, ⟨fun r z => A2 r (by rw [← q3]; exact z), kc, by rw [q2]; exact A3, comp, A4⟩, by rw [q3]; exact A5⟩
end OwnYar
section OwnSb
variable {p : Program} {l : Launch} {e : Env} {R : Room} {s : State} {m : MethodId} {args : Array Value} {below : List Frame} {meth : Method} {c : Code} {T : State} {Z : State} {own mn : String} {bytes : ByteArray} {ml n0 k n : Nat} {rt : Option FieldType} {h : Heap} {G : Outcome → State → Prop} {pc q : Nat} {L : Array Slot} {st rest : List Value} {a0 : Array Value}
/-- a private method is its own choice, by a subclass's word -/
theorem own_selP {y : MethodName} {K : String} (ws : (Cond.selects K y y).before a0 Z = true) (w4 : (Cond.instanceMethod y).before a0 Z = true) (w5 : (Cond.privateMethod y).before a0 Z = true) (hy : y.cls ≠ "java/lang/invoke/MethodHandle" ∧ y.cls ≠ "java/lang/invoke/VarHandle") : (Cond.selects y.cls y y).before a0 Z = true := by
  obtain ⟨_, _, m1, -, -, q3, -, kP, hk, hi⟩ := Cond.selects_spec (show (Cond.selects K y y).holds a0 Z none Z [] = true from ws)
  exact Stand.selects_self_of_private (findClass_of_methodNamed q3) hk hi (Cond.privateMethod_at w5) w4 hy
theorem own_same {y : MethodName} {r0 : MethodId} {kp : Class} (hn : s.methodNamed? y = some r0) (hk : s.vm.classes[r0.cls]? = some kp) (hi : kp.isInterface = false) (hy : y.cls ≠ "java/lang/invoke/MethodHandle" ∧ y.cls ≠ "java/lang/invoke/VarHandle") : (Cond.sameMethod y.cls y.cls y.name y.desc).before args s = true := by
  have h1 := findClass_of_methodNamed hn
  have h2 := State.methodFound?_of_named hn hy
  have h3 : s.methodNamed? ⟨y.cls, y.name, y.desc⟩ = some r0 := hn
  simp [Cond.before, Cond.holds, Cond.value, h1, h2, h3, hk, hi]
/-- invokespecial of the direct superclass's own method -/
theorem g_callUp1 (C : Cx p s m meth c Z own bytes ml rt mn) (X : St p l e R s m args below meth c n0 T h k n) {rm : Room} {as' : Array Value} {bts : ByteArray} {mxl : Nat} {rty : Option FieldType} {argsL : List Value} {ps : List FieldType} {rt' : Option FieldType} {k' n' W : Nat} {Q : Value → Heap → Prop} {x' y : MethodName} {i : Nat} {a : Addr} {K : String} (hy : y.cls ≠ "java/lang/invoke/MethodHandle" ∧ y.cls ≠ "java/lang/invoke/VarHandle") (hy1 : y.name ≠ "<init>") (w1 : (Cond.methodLink own i y).before a0 Z = true) (w2 : (Cond.instanceMethod y).before a0 Z = true) (w3 : (Cond.superclass own y.cls).before a0 Z = true) {z' : MethodName} {K' : String} (w7 : (Cond.selects K' x' z').before a0 Z = true) (hz : z'.cls = y.cls) (E : Exa Z h a K) (w8 : (Cond.code y bts mxl rty).before a0 Z = true) (w9 : (Cond.initialized y.cls).before a0 Z = true) (hM : Met1 l Z y bts mxl rty rm as' h n0 Q) (hf : rm.frames + 1 ≤ R.frames) (hl : W + (mxl + 11) + rm.locals ≤ R.locals) (hk : k + rm.cells = k') (hn : n + rm.slots = n') (hkR : k' ≤ R.cells) (hnR : n' ≤ R.slots) (hsz : L.size = ml) (hdd : parseMethodDescriptor y.desc = some ⟨ps, rt'⟩) (hlen : argsL.length = ps.length) (hst : st = argsL.reverse ++ .ref a :: rest) (has : (.ref a :: argsL).toArray = as') (hW : (rest.map fun v => v.category).sum = W) (hd : decode bytes pc = .ok (.invokespecial i, 3)) (hq : pc + 3 = q)
    (r : ∀ w T' h', St p l e R s m args below meth c n0 T' h' k' n' → Q w h' → Goes p e below G (T'.setTop (mkF m q L (w :: rest)))) : Goes p e below G (T.setTop (mkF m pc L st)) := by
  obtain ⟨hx, hZ, hown, hby, hml, -⟩ := C
  obtain ⟨_, cells, slots, X, hF, eT, h1, h2⟩ := X
  subst hq hk hn has hst hW
  have bk := backOf (Q := fun v h L => Fr n0 L ∧ (∃ w, v = some w ∧ Q w h)) (R := R) (p := p) (e := e) (below := below) (s := s) (args := args) (len := 3) (W := (rest.map fun v => v.category).sum) (hM []) hZ w8 w9 hf hl
  obtain ⟨r0, my, y1, y2, y3, y4⟩ := Cond.instanceMethod_spec (show (Cond.instanceMethod y).holds args s none s [] = true from mvT hZ w2)
  obtain ⟨my', cy, y5, -, -, -, -, -, -, y6⟩ := Cond.code_spec (args := args) (first := s) (o := none) (idx := []) y1 (mvT hZ w8)
  cases y2.symm.trans y5
  obtain ⟨cn, dk, kp, z1, z2, z3, z4, -, -, z7⟩ := Cond.superclass_spec (args := args) (first := s) (o := none) (idx := []) (sup := y.cls) hown (mvT hZ w3)
  cases z1.symm.trans (findClass_of_methodNamed y1)
  obtain ⟨_, _, m1, -, -, u3, -, kP, u4, u5⟩ := Cond.selects_spec (show (Cond.selects K' x' z').holds args s none s [] = true from mvT hZ w7)
  have u6 := findClass_of_methodNamed u3
  rw [hz, z1] at u6
  rw [← Option.some.inj u6] at u4
  have sm : (Cond.sameMethod y.cls y.cls y.name y.desc).before args s = true := own_same y1 u4 u5 hy
  obtain ⟨cell, kc, E1, E2, E3, E4, -⟩ := E
  obtain ⟨kc', E6, -⟩ := hZ.alike.2.2 _ _ E3
  have hsub : s.vm.isSubclass r0.cls r0.cls = true := Jvm.Free.SB.SBLen.isSubclass_self _ _ _ z3
  obtain ⟨_, _, ⟨T', Lo, kk, nn⟩, -, X', ⟨Lc, hQ, q1, q2, q3⟩, st'⟩ := X.specialUpBack hx (owner := y.cls) (x := y) hown (mvT hZ w1) sm y1 y2 y3 y4 hy1 z2 z7 z1 z4 hsub (a := a) (cell := cell) (by rw [eT]; exact E1) (fun q z => by rw [z] at E4; cases E4) E6 bk (g := mkF m pc L (argsL.reverse ++ .ref a :: rest)) rfl (hsz.trans hml.symm) (Steps.refl _) (argsL := argsL) (rest := rest) (by rw [hdd] at y6; rw [← Option.some.inj y6]; exact hlen) rfl (by show 2 * 0 + _ ≤ _; omega) (hb hby hd) (fun _ _ => ⟨rfl, eT, Nat.le_trans (Nat.add_le_add_right h1 _) hkR, Nat.le_trans (Nat.add_le_add_right h2 _) hnR⟩)
  dsimp only [Pt.U, Pt.locs, Pt.cells, Pt.slots] at X' q1 q2 q3 st' hQ
  subst q1 q2 q3
  obtain ⟨hFr, w, rfl, hQ⟩ := hQ
  exact go_tr st' (r w T' _ ⟨_, _, _, X', Fr.app hF hFr, rfl, Nat.add_le_add_right h1 _, Nat.add_le_add_right h2 _⟩ hQ)
theorem own_nf2 {y x' z' : MethodName} {K : String} (w : (Cond.selects K x' z').before a0 Z = true) (hz : z'.cls = y.cls) : ∀ s' : State, Z.Warmed39 s'.vm → NotFace s' y := fun s' hZ r0 h0 => by
  obtain ⟨_, _, m1, -, -, q3, -, kP, hk, hi⟩ := Cond.selects_spec (show (Cond.selects K x' z').holds #[] s' none s' [] = true from mvT hZ w)
  have e1 := findClass_of_methodNamed h0
  have e2 := findClass_of_methodNamed q3
  rw [hz, e1] at e2
  rw [← Option.some.inj e2] at hk
  exact ⟨kP, hk, hi⟩
end OwnSb
section OwnBytes
variable {p : Program} {l : Launch} {e : Env} {R : Room} {s : State} {m : MethodId} {args : Array Value} {below : List Frame} {meth : Method} {c : Code} {T : State} {Z : State} {own mn : String} {bytes : ByteArray} {ml n0 k n : Nat} {rt : Option FieldType} {h : Heap} {G : Outcome → State → Prop} {pc q : Nat} {L : Array Slot} {st rest : List Value} {a0 : Array Value}
abbrev o32 (n : Nat) : Int32 := Int32.ofNat n
def bV (cs : List Int32) : List Value := cs.map Value.int
def Gd (cs : List Int32) : Prop := ∀ x ∈ cs, 0 ≤ x.toInt ∧ x.toInt ≤ 127
theorem oI {n : Nat} (h : n < 1000) : (o32 n).toInt = n := by
  rw [show (o32 n).toInt = (n : Int).bmod (2 ^ 32) from Int32.toInt_ofNat' .., Int.bmod_eq_of_le] <;> omega
theorem oE {x : Int32} {n : Nat} (h : n < 1000) (e : x.toInt = n) : x = o32 n := Int32.toInt_inj.mp (e.trans (oI h).symm)
theorem i0 : (0 : Int32).toInt = 0 := rfl
theorem i1 : (1 : Int32).toInt = 1 := rfl
theorem r_add (n : Nat) (hn : n < 1000) (m : Nat) (hm : m < 1000) : o32 n + o32 m = o32 (n + m) := (Int32.ofNat_add n m).symm
theorem r_sub (n : Nat) (hn : n < 1000) (m : Nat) (hm : m < n + 1) : o32 n - o32 m = o32 (n - m) := by
  apply oE (by omega)
  rw [Int32.toInt_sub, oI hn, oI (by omega), Int.bmod_eq_of_le] <;> omega
theorem r_n16 (n : Nat) (hn : n < 1000) : ¬ o32 n < 0 ∧ (o32 n).toNatClampNeg = n ∧ (0 < n → 0 < o32 n ∧ o32 n - 1 = o32 (n - 1) ∧ o32 n + (-1) = o32 (n - 1)) ∧ (¬ 0 < n → ¬ 0 < o32 n) := by
  refine ⟨?_, ?_, fun q => ⟨?_, ?_, ?_⟩, fun q => ?_⟩
  · rw [Int32.lt_iff_toInt_lt, oI hn, i0]; omega
  · show (o32 n).toInt.toNat = n; rw [oI hn]; rfl
  · rw [Int32.lt_iff_toInt_lt, oI hn, i0]; omega
  · exact r_sub n hn 1 (by omega)
  · rw [← r_sub n hn 1 (by omega), Int32.sub_eq_add_neg]; rfl
  · rw [Int32.lt_iff_toInt_lt, oI hn, i0]; omega
theorem r_lt (n : Nat) (hn : n < 1000) (m : Nat) (hm : m < 1000) : (o32 n < o32 m → n < m) ∧ (¬ o32 n < o32 m → ¬ n < m) ∧ (o32 n = o32 m → n = m) := by
  refine ⟨fun q => ?_, fun q => ?_, fun q => ?_⟩
  · rw [Int32.lt_iff_toInt_lt, oI hn, oI hm] at q; omega
  · rw [Int32.lt_iff_toInt_lt, oI hn, oI hm] at q; omega
  · have := congrArg Int32.toInt q; rw [oI hn, oI hm] at this; omega
theorem own_bl {a b : Nat} (h : a < b) (hb : b < 1000) : o32 a < o32 b := by rw [Int32.lt_iff_toInt_lt, oI (by omega), oI hb]; omega
theorem r_min16 (n : Nat) (hn : n < 1000) (m : Nat) (hm : m < 1000) : (if o32 m < o32 n then o32 m else o32 n) = o32 (min n m) := by
  split
  · rename_i q; have := (r_lt m hm n hn).1 q; rw [Nat.min_eq_right (by omega)]
  · rename_i q; have := (r_lt m hm n hn).2.1 q; rw [Nat.min_eq_left (by omega)]
theorem r_max16 (n : Nat) (hn : n < 1000) (m : Nat) (hm : m < 1000) : (if o32 n < o32 m then o32 m else o32 n) = o32 (max n m) := by
  split
  · rename_i q; have := (r_lt n hn m hm).1 q; rw [Nat.max_eq_right (by omega)]
  · rename_i q; have := (r_lt n hn m hm).2.1 q; rw [Nat.max_eq_left (by omega)]
theorem r_shr (x : Int32) : x >>> ((0 : Int32) &&& 31) = x := by
  apply Int32.toInt_inj.mp
  have : (x >>> ((0 : Int32) &&& 31)).toBitVec = x.toBitVec := by
    show x.toBitVec.sshiftRight _ = _
    rw [show ((((0 : Int32) &&& 31).toBitVec.smod 32).toNat) = 0 from rfl]; simp
  exact congrArg BitVec.toInt this
theorem r_shl (x : Int32) : x <<< ((0 : Int32) &&& 31) = x := by
  apply Int32.toInt_inj.mp
  have : (x <<< ((0 : Int32) &&& 31)).toBitVec = x.toBitVec := by
    show x.toBitVec <<< (((0 : Int32) &&& 31).toBitVec.smod 32) = _
    rw [show ((0 : Int32) &&& 31).toBitVec.smod 32 = 0#32 from rfl]; simp
  exact congrArg BitVec.toInt this
def BA (Z : State) (h : Heap) (a : Addr) (k : ClassId) (cs : List Int32) : Prop := Exa Z h a "[B" ∧ Arv Z h a k .byte (o32 cs.length) (bV cs) (.int 0)
theorem g_newPE (C : Cx p s m meth c Z own bytes ml rt mn) (X : St p l e R s m args below meth c n0 T h k n) {aty : ArrayType} {ty : FieldType} {z : Int32} {cap k' n' : Nat} {ad : String} (w : (Cond.arrayClass ty).before a0 Z = true) (hty : newarray.typeOf aty = ty) (had : "[" ++ ty.toString = ad) (hd : decode bytes pc = .ok (.newarray aty, 2)) (hq : pc + 2 = q) (hz : ¬ z < 0) (hcap : z.toNatClampNeg ≤ cap) (hcb : cap * 8 ≤ 536870912) (hk : k + 1 = k') (hn : n + cap = n') (hkR : k' ≤ R.cells) (hnR : n' ≤ R.slots)
    (r : ∀ T' h' cA a, a = h.size → St p l e R s m args below meth c n0 T' h' k' n' → Ext h h' → Arv Z h' a cA ty z [] (defaultValue ty) → Exa Z h' a ad → Goes p e below G (T'.setTop (mkF m q L (.ref a :: st)))) : Goes p e below G (T.setTop (mkF m pc L (.int z :: st))) := by
  obtain ⟨hx, hZ, hown, hby, -⟩ := C
  obtain ⟨_, _, _, X, hF, eT, h1, h2⟩ := X
  subst hq hk hn hty
  obtain ⟨T', h', cA, X', e', E', A', D', st'⟩ := newPE X hx hZ w eT (g := mkF m pc L (.int z :: st)) rfl (hb hby hd) rfl hz (cap := cap) hcap hcb (Nat.le_trans (Nat.add_le_add_right h1 1) hkR) (Nat.le_trans (Nat.add_le_add_right h2 cap) hnR) had
  exact go_st st' (r T' h' cA _ rfl ⟨_, _, _, X', hF, e', Nat.add_le_add_right h1 1, Nat.add_le_add_right h2 cap⟩ E' (Arv.new A' hz) D')
theorem g_cpB (C : Cx p s m meth c Z own bytes ml rt mn) (X : St p l e R s m args below meth c n0 T h k n) {i W : Nat} (w1 : (Cond.methodLink own i Jvm.Stand.acN).before a0 Z = true) (w2 : (Cond.native Jvm.Stand.acN).before a0 Z = true) (w3 : (Cond.static Jvm.Stand.acN).before a0 Z = true) (w4 : (Cond.initialized "java/lang/System").before a0 Z = true)
    {a b : Addr} {ka kb : ClassId} {z z' sp dp nn : Int32} {vs vd vd' : List Value} (A : Arv Z h a ka .byte z vs (.int 0)) (B : Arv Z h b kb .byte z' vd (.int 0))
    (h1 : ¬ sp < 0) (h2 : ¬ dp < 0) (h3 : ¬ nn < 0) (h4 : sp.toNatClampNeg + nn.toNatClampNeg ≤ z.toNatClampNeg) (h5 : dp.toNatClampNeg + nn.toNatClampNeg ≤ z'.toNatClampNeg) (hl : dp.toNatClampNeg + nn.toNatClampNeg ≤ vd.length)
    (hv : vd.take dp.toNatClampNeg ++ ((List.range nn.toNatClampNeg).map fun i => vs.getD (sp.toNatClampNeg + i) (.int 0)) ++ vd.drop (dp.toNatClampNeg + nn.toNatClampNeg) = vd') (ge : n0 ≤ b) (hsz : L.size = ml) (hd : decode bytes pc = .ok (.invokestatic i, 3)) (hq : pc + 3 = q) (hf : 1 ≤ R.frames) (hW : (rest.map fun v => v.category).sum = W) (hlo : W + 18 ≤ R.locals)
    (r : ∀ T' h', St p l e R s m args below meth c n0 T' h' k n → Keep h h' [b] → Arv Z h' b kb .byte z' vd' (.int 0) → Goes p e below G (T'.setTop (mkF m q L rest))) : Goes p e below G (T.setTop (mkF m pc L (.int nn :: .int dp :: .ref b :: .int sp :: .ref a :: rest))) := by
  obtain ⟨hx, hZ, hown, hby, hml, -⟩ := C
  obtain ⟨_, _, _, X, hF, eT, u1, u2⟩ := X
  subst hq hv hW
  obtain ⟨T', h', L', X', e', N', K', V', st'⟩ := cpA X hx hZ hown w1 w2 w3 w4 eT A B (Or.inl ⟨rfl, rfl⟩) h1 h2 h3 h4 h5 rfl hl hF ge (g := mkF m pc L (.int nn :: .int dp :: .ref b :: .int sp :: .ref a :: rest)) rfl (hsz.trans hml.symm) rfl (hb hby hd) hf (W := (rest.map fun v => v.category).sum) (by show 2 * 0 + _ ≤ _; omega) hlo
  exact go_st st' (r T' h' ⟨_, _, _, X', N', e', u1, u2⟩ K' V')
theorem own_i8 {x : Int32} (h1 : 0 ≤ x.toInt) (h2 : x.toInt ≤ 127) : x.toInt8.toInt32 = x := by
  apply Int32.toInt_inj.mp
  rw [Int8.toInt_toInt32, Int32.toInt_toInt8]
  rw [Int.bmod_eq_of_le] <;> omega
theorem bV_getD (cs : List Int32) (i : Nat) : (bV cs).getD i (.int 0) = .int (cs.getD i 0) := by
  simp only [bV, List.getD_eq_getElem?_getD, List.getElem?_map]; cases cs[i]? <;> rfl
theorem bV_rep (n : Nat) (i : Nat) : (bV (List.replicate n 0)).getD i (.int 0) = ([] : List Value).getD i (.int 0) := by
  rw [bV_getD]; simp only [List.getD_eq_getElem?_getD, List.getElem?_replicate]; split <;> rfl
theorem r_ff0 : ∀ n, n < 128 → o32 n &&& 255 = o32 n := by decide +kernel
theorem own_o32 {x : Int32} (h1 : 0 ≤ x.toInt) (h2 : x.toInt ≤ 127) : x = o32 x.toInt.toNat := by
  apply Int32.toInt_inj.mp
  rw [show (o32 x.toInt.toNat).toInt = (x.toInt.toNat : Int).bmod (2 ^ 32) from Int32.toInt_ofNat' .., Int.bmod_eq_of_le] <;> omega
theorem r_ff {x : Int32} (h1 : 0 ≤ x.toInt) (h2 : x.toInt ≤ 127) : x &&& 255 = x := by rw [own_o32 h1 h2]; exact r_ff0 _ (by omega)
def Sx (Z : State) (h : Heap) (x t : Addr) (kb : ClassId) (cs : List Int32) : Prop := Exa Z h x "java/lang/String" ∧ Fld Z h x "java/lang/String" "value" "[B" (.ref t) ∧ Fld Z h x "java/lang/String" "coder" "B" (.int 0) ∧ Arv Z h t kb .byte (o32 cs.length) (bV cs) (.int 0)
theorem own_geA {h0 : Heap} {A A' : Addr} (O : Old Z n0 h0) (g : n0 ≤ A) (q : A' = A ∨ h0.size ≤ A') : n0 ≤ A' := by
  rcases q with rfl | q
  · exact g
  · exact Nat.le_trans (own_szO O) q
theorem own_neA {h0 : Heap} {A A' x : Addr} (g : x ≠ A) (lt : x < h0.size) (q : A' = A ∨ h0.size ≤ A') : x ≠ A' := by
  rcases q with rfl | q
  · exact g
  · exact Nat.ne_of_lt (Nat.lt_of_lt_of_le lt q)
theorem own_gd {bl : List Int32} (h : Gd bl) (i : Nat) : 0 ≤ (bl.getD i 0).toInt ∧ (bl.getD i 0).toInt ≤ 127 := by
  rw [List.getD_eq_getElem?_getD]
  cases q : bl[i]? with
  | none => decide
  | some w => exact h w (List.mem_of_getElem? q)
theorem own_set2 {cs ls : List Int32} {n k : Nat} (hk : ls.length = k) (h : n + k ≤ cs.length) (hn : n < 1000) (hk2 : k < 1000) : (bV cs).take (o32 n).toNatClampNeg ++ ((List.range (o32 k).toNatClampNeg).map fun i => (bV ls).getD ((0 : Int32).toNatClampNeg + i) (.int 0)) ++ (bV cs).drop ((o32 n).toNatClampNeg + (o32 k).toNatClampNeg) = bV (cs.take n ++ ls ++ cs.drop (n + k)) := by
  rw [(r_n16 n hn).2.1, (r_n16 k hk2).2.1]
  have e : ((List.range k).map fun i => (bV ls).getD ((0 : Int32).toNatClampNeg + i) (.int 0)) = bV ls := by
    subst hk
    apply List.ext_getElem?
    intro i
    simp only [List.getElem?_map]
    by_cases hi : i < ls.length
    · rw [List.getElem?_range hi]
      show some ((bV ls).getD (0 + i) (.int 0)) = _
      rw [Nat.zero_add, bV_getD]
      simp [bV, List.getD_eq_getElem?_getD, List.getElem?_eq_getElem hi]
    · rw [List.getElem?_eq_none (by simpa using hi), List.getElem?_eq_none (by simpa [bV] using hi)]; rfl
  rw [e]; simp [bV, List.map_take, List.map_drop]
theorem own_b2 {n k m : Nat} (h : n + k ≤ m) (hm : m < 1000) : (o32 n).toNatClampNeg + (o32 k).toNatClampNeg ≤ (o32 m).toNatClampNeg := by rw [(r_n16 n (by omega)).2.1, (r_n16 k (by omega)).2.1, (r_n16 m hm).2.1]; exact h
theorem own_b3 {n k : Nat} {cs : List Int32} (h : n + k ≤ cs.length) (hm : cs.length < 1000) : (o32 n).toNatClampNeg + (o32 k).toNatClampNeg ≤ (bV cs).length := by rw [(r_n16 n (by omega)).2.1, (r_n16 k (by omega)).2.1, show (bV cs).length = cs.length from List.length_map ..]; exact h
theorem own_set3 {cs ls : List Int32} {n k : Nat} (hk : k ≤ ls.length) (h : n + k ≤ cs.length) (hn : n < 1000) (hk2 : k < 1000) : (bV cs).take (o32 n).toNatClampNeg ++ ((List.range (o32 k).toNatClampNeg).map fun i => (bV ls).getD ((0 : Int32).toNatClampNeg + i) (.int 0)) ++ (bV cs).drop ((o32 n).toNatClampNeg + (o32 k).toNatClampNeg) = bV (cs.take n ++ ls.take k ++ cs.drop (n + k)) := by
  rw [← own_set2 (ls := ls.take k) (List.length_take_of_le hk) h hn hk2]
  have e : ((List.range (o32 k).toNatClampNeg).map fun i => (bV ls).getD ((0 : Int32).toNatClampNeg + i) (.int 0)) = ((List.range (o32 k).toNatClampNeg).map fun i => (bV (ls.take k)).getD ((0 : Int32).toNatClampNeg + i) (.int 0)) := by
    rw [(r_n16 k hk2).2.1]
    apply List.map_congr_left
    intro i hi
    have hi := List.mem_range.mp hi
    show (bV ls).getD (0 + i) (.int 0) = (bV (ls.take k)).getD (0 + i) (.int 0)
    rw [Nat.zero_add, bV_getD, bV_getD]
    simp [List.getD_eq_getElem?_getD, List.getElem?_take, hi]
  rw [e]
theorem own_cr {cs : List Int32} {n : Nat} : ((List.replicate n (0 : Int32)).take 0 ++ cs.take n ++ (List.replicate n 0).drop (0 + n)) = cs.take n := by simp
end OwnBytes
section OwnNum
abbrev nx (y : Nat) : Int64 := Int64.ofInt (-(y : Int))
abbrev ni (y : Nat) : Int32 := Int32.ofInt (-(y : Int))
theorem nxI {y : Nat} (h : y ≤ 9223372036854775808) : (nx y).toInt = -(y : Int) := by
  rw [show (nx y).toInt = (-(y : Int)).bmod (2 ^ 64) from Int64.toInt_ofInt .., Int.bmod_eq_of_le] <;> omega
theorem niI {y : Nat} (h : y ≤ 2147483648) : (ni y).toInt = -(y : Int) := by
  rw [show (ni y).toInt = (-(y : Int)).bmod (2 ^ 32) from Int32.toInt_ofInt .., Int.bmod_eq_of_le] <;> omega
theorem lcP {a b : Int64} : (0 < lcmpW a b ↔ b.toInt < a.toInt) ∧ (lcmpW a b < 0 ↔ a.toInt < b.toInt) := by
  unfold lcmpW
  by_cases h : a > b
  · rw [if_pos h]; have := Int64.lt_iff_toInt_lt.mp h
    exact ⟨⟨fun _ => this, fun _ => by decide⟩, ⟨fun z => absurd z (by decide), fun z => by omega⟩⟩
  · rw [if_neg h]
    have h' : ¬ b.toInt < a.toInt := fun z => h (Int64.lt_iff_toInt_lt.mpr z)
    by_cases e : a = b
    · rw [if_pos e]; subst e
      exact ⟨⟨fun z => absurd z (by decide), fun z => absurd z h'⟩, ⟨fun z => absurd z (by decide), fun z => absurd z (by omega)⟩⟩
    · rw [if_neg e]
      have e' : a.toInt ≠ b.toInt := fun z => e (Int64.toInt_inj.mp z)
      exact ⟨⟨fun z => absurd z (by decide), fun z => absurd z h'⟩, ⟨fun _ => by omega, fun _ => by decide⟩⟩
theorem lcN {x P : Nat} {p : Int64} (hx : x ≤ 9223372036854775808) (hp : p.toInt = -(P : Int)) : (0 < lcmpW (nx x) p → x < P) ∧ (¬ 0 < lcmpW (nx x) p → P ≤ x) := by
  rw [lcP.1, nxI hx, hp]; exact ⟨fun q => by omega, fun q => by omega⟩
theorem lcY {x P : Nat} {p : Int64} (hx : x ≤ 9223372036854775808) (hp : p.toInt = -(P : Int)) (h : x < P) : 0 < lcmpW (nx x) p := by
  rw [lcP.1, nxI hx, hp]; omega
/-- a long by its magnitude and its sign -/
def NV (v : Int64) (x sg : Nat) : Prop := x ≤ 9223372036854775808 ∧ ((lcmpW v 0 < 0 ∧ v = nx x ∧ sg = 1) ∨ (¬ lcmpW v 0 < 0 ∧ -v = nx x ∧ sg = 0))
theorem NV.of (v : Int64) : ∃ x sg, NV v x sg := by
  have h1 := v.le_toInt; have h2 := v.toInt_lt
  by_cases h : lcmpW v 0 < 0
  · refine ⟨v.toInt.natAbs, 1, ?_, Or.inl ⟨h, ?_, rfl⟩⟩
    · omega
    · rw [lcP.2] at h
      have z : (0 : Int64).toInt = 0 := rfl
      apply Int64.toInt_inj.mp; rw [nxI (by omega)]; omega
  · refine ⟨v.toInt.natAbs, 0, ?_, Or.inr ⟨h, ?_, rfl⟩⟩
    · omega
    · rw [lcP.2] at h
      have z : (0 : Int64).toInt = 0 := rfl
      apply Int64.toInt_inj.mp; rw [nxI (by omega), Int64.toInt_neg, Int.bmod_eq_of_le] <;> omega
theorem NV.sg {v : Int64} {x sg : Nat} (h : NV v x sg) : sg = 0 ∨ sg = 1 := h.2.elim (fun z => Or.inr z.2.2) fun z => Or.inl z.2.2
theorem nxdiv {x P : Nat} {p : Int64} (hx : x ≤ 9223372036854775808) (hp : p.toInt = (P : Int)) : nx x / p = nx (x / P) := by
  have hd : x / P ≤ x := Nat.div_le_self ..
  apply Int64.toInt_inj.mp
  rw [Int64.toInt_div, nxI hx, hp, nxI (by omega), Int.neg_tdiv, ← Int.ofNat_tdiv]
  generalize x / P = q at *
  rw [Int.bmod_eq_of_le] <;> omega
theorem nidiv {x P : Nat} {p : Int32} (hx : x ≤ 2147483648) (hp : p.toInt = (P : Int)) : ni x / p = ni (x / P) := by
  have hd : x / P ≤ x := Nat.div_le_self ..
  apply Int32.toInt_inj.mp
  by_cases h1 : P = 0
  · subst h1
    have e : p = 0 := Int32.toInt_inj.mp hp
    subst e
    rw [Int32.div_zero, Nat.div_zero]; rfl
  rw [Int32.toInt_div, niI hx, hp, niI (by omega), Int.neg_tdiv, ← Int.ofNat_tdiv]
  generalize x / P = q at *
  rw [Int.bmod_eq_of_le] <;> omega
theorem dgE {y : Nat} (hy : y ≤ 9223372036854775808) : (48 : Int32) - ((nx y % (10 : Int64)).toInt32) = o32 (48 + y % 10) := by
  have e1 : (nx y % (10 : Int64)).toInt = -((y % 10 : Nat) : Int) := by
    rw [Int64.toInt_mod, nxI hy, show (10 : Int64).toInt = ((10 : Nat) : Int) from rfl, Int.neg_tmod, ← Int.ofNat_tmod]
  have e2 : ((nx y % (10 : Int64)).toInt32).toInt = -((y % 10 : Nat) : Int) := by
    rw [Int64.toInt_toInt32, e1, Int.bmod_eq_of_le] <;> omega
  apply oE (by omega)
  rw [Int32.toInt_sub, e2, show (48 : Int32).toInt = 48 from rfl, Int.bmod_eq_of_le] <;> omega
theorem gcJ {y : Nat} (hy : y ≤ 9223372036854775808) : ((nx (y / 100) * (100 : Int64)) - nx y).toInt32 = o32 (y % 100) := by
  apply oE (by omega)
  rw [Int64.toInt_toInt32, Int64.toInt_sub, Int64.toInt_mul, nxI hy, nxI (by omega), show (100 : Int64).toInt = 100 from rfl]
  rw [Int.bmod_eq_of_le (n := -((y / 100 : Nat) : Int) * 100) (by omega) (by omega)]
  rw [Int.bmod_eq_of_le (n := -((y / 100 : Nat) : Int) * 100 - -(y : Int)) (by omega) (by omega)]
  rw [Int.bmod_eq_of_le (by omega) (by omega)]; omega
theorem gcI {y : Nat} (hy : y ≤ 2147483648) : (ni (y / 100) * (100 : Int32)) - ni y = o32 (y % 100) := by
  apply oE (by omega)
  rw [Int32.toInt_sub, Int32.toInt_mul, niI hy, niI (by omega), show (100 : Int32).toInt = 100 from rfl]
  rw [Int.bmod_eq_of_le (n := -((y / 100 : Nat) : Int) * 100) (by omega) (by omega)]
  rw [Int.bmod_eq_of_le (by omega) (by omega)]; omega
theorem nx32 {y : Nat} (hy : y ≤ 2147483648) : (nx y).toInt32 = ni y := by
  apply Int32.toInt_inj.mp
  rw [Int64.toInt_toInt32, nxI (by omega), niI hy, Int.bmod_eq_of_le] <;> omega
theorem nineg {y : Nat} (hy : y < 100) : - ni y = o32 y := by
  apply oE (by omega)
  rw [Int32.toInt_neg, niI (by omega), Int.bmod_eq_of_le] <;> omega
theorem niA {y : Nat} (hy : y ≤ 2147483648) : ((-100 : Int32) < ni y → y < 100) ∧ (¬ (-100 : Int32) < ni y → 100 ≤ y) ∧ (ni y < (-9 : Int32) → 10 ≤ y) ∧ (¬ ni y < (-9 : Int32) → y < 10) := by
  have e1 : (-100 : Int32).toInt = -100 := rfl
  have e2 : (-9 : Int32).toInt = -9 := rfl
  rw [Int32.lt_iff_toInt_lt, Int32.lt_iff_toInt_lt, niI hy, e1, e2]
  refine ⟨fun q => ?_, fun q => ?_, fun q => ?_, fun q => ?_⟩ <;> omega
/-- the decimal digits -/
def DG (x : Nat) : List Int32 := if h : x < 10 then [o32 (48 + x % 10)] else DG (x / 10) ++ [o32 (48 + x % 10)]
termination_by x
decreasing_by omega
theorem DG_s {x : Nat} (h : x < 10) : DG x = [o32 (48 + x % 10)] := by rw [DG, dif_pos h]
theorem DG_b {x : Nat} (h : ¬ x < 10) : DG x = DG (x / 10) ++ [o32 (48 + x % 10)] := by rw [DG, dif_neg h]
theorem DG_100 {x : Nat} (h : 100 ≤ x) : DG x = DG (x / 100) ++ [o32 (48 + x % 100 / 10), o32 (48 + x % 100 % 10)] := by
  rw [DG_b (by omega), DG_b (x := x / 10) (by omega), show x / 10 / 10 = x / 100 by omega, show x / 10 % 10 = x % 100 / 10 by omega, show x % 100 % 10 = x % 10 by omega]; simp
theorem DG_10 {x : Nat} (h : 10 ≤ x) (h' : x < 100) : DG x = [o32 (48 + x / 10), o32 (48 + x % 10)] := by
  rw [DG_b (by omega), DG_s (x := x / 10) (by omega), show x / 10 % 10 = x / 10 by omega]; rfl
theorem DG_pos (x : Nat) : 0 < (DG x).length := by
  by_cases h : x < 10
  · rw [DG_s h]; exact Nat.one_pos
  · rw [DG_b h]; simp
theorem DG_len : ∀ (k : Nat) {x : Nat}, x < 10 ^ (k + 1) → (k = 0 ∨ 10 ^ k ≤ x) → (DG x).length = k + 1
  | 0, x, h, _ => by rw [DG_s (by simpa using h)]; rfl
  | k + 1, x, h, q => by
    have q : 10 ^ (k + 1) ≤ x := q.elim (fun z => absurd z (by omega)) id
    have e1 : (10 : Nat) ^ (k + 1) = 10 ^ k * 10 := Nat.pow_succ ..
    have e2 : (10 : Nat) ^ (k + 1 + 1) = 10 ^ (k + 1) * 10 := Nat.pow_succ ..
    have e3 : 0 < (10 : Nat) ^ k := Nat.pos_of_ne_zero (by simp)
    rw [DG_b (by omega), List.length_append, DG_len k (x := x / 10) (by omega) (Or.inr (by omega))]; rfl
theorem DG_19 {x : Nat} (h : x ≤ 9223372036854775808) : (DG x).length ≤ 19 := by
  have : ∀ k, x < 10 ^ (k + 1) → (DG x).length ≤ k + 1 := by
    intro k
    induction k generalizing x with
    | zero => intro q; rw [DG_s (by simpa using q)]; exact Nat.le_refl _
    | succ k ih =>
      intro q
      have e2 : (10 : Nat) ^ (k + 1 + 1) = 10 ^ (k + 1) * 10 := Nat.pow_succ ..
      by_cases z : x < 10
      · rw [DG_s z]; simp
      · rw [DG_b z, List.length_append]
        have := ih (x := x / 10) (by omega) (by omega)
        simp only [List.length_singleton]; omega
  exact this 18 (by omega)
theorem DG_at : ∀ (i : Nat) {x : Nat}, i < (DG x).length → (DG x).getD ((DG x).length - 1 - i) 0 = o32 (48 + x / 10 ^ i % 10)
  | 0, x, h => by
    by_cases z : x < 10
    · rw [DG_s z]; simp
    · rw [DG_b z]; simp [List.getD_eq_getElem?_getD]
  | i + 1, x, h => by
    by_cases z : x < 10
    · rw [DG_s z] at h; simp at h
    · rw [DG_b z] at h ⊢
      rw [List.length_append, List.length_singleton] at h ⊢
      have hp := DG_pos (x / 10)
      have e := DG_at i (x := x / 10) (by omega)
      rw [Nat.div_div_eq_div_mul, show 10 * 10 ^ i = 10 ^ (i + 1) by rw [Nat.pow_succ]; omega] at e
      rw [← e, List.getD_eq_getElem?_getD, List.getD_eq_getElem?_getD, List.getElem?_append_left (by omega)]
      congr 2; omega
theorem o32_gd {n : Nat} (h : n < 128) : 0 ≤ (o32 n).toInt ∧ (o32 n).toInt ≤ 127 := by rw [oI (by omega)]; omega
theorem DG_gd (x : Nat) : Gd (DG x) := by
  induction x using Nat.strongRecOn with
  | _ x ih =>
    have g : 0 ≤ (o32 (48 + x % 10)).toInt ∧ (o32 (48 + x % 10)).toInt ≤ 127 := o32_gd (by omega)
    by_cases z : x < 10
    · rw [DG_s z]; intro w hw; rw [List.mem_singleton.mp hw]; exact g
    · rw [DG_b z]; intro w hw
      rcases List.mem_append.mp hw with q | q
      · exact ih _ (by omega) w q
      · rw [List.mem_singleton.mp q]; exact g
def NB (x sg : Nat) : List Int32 := List.replicate sg 45 ++ DG x
theorem NB_len (x sg : Nat) : (NB x sg).length = sg + (DG x).length := by simp [NB]
theorem NB_gd (x sg : Nat) : Gd (NB x sg) := fun w hw => by
  rcases List.mem_append.mp hw with q | q
  · rw [(List.mem_replicate.mp q).2]; decide
  · exact DG_gd x w q
/-- a buffer with tl laid at n -/
def bf (cs tl : List Int32) (n : Nat) : List Int32 := cs.take n ++ tl ++ cs.drop (n + tl.length)
theorem bf_len {cs tl : List Int32} {n : Nat} (h : n + tl.length ≤ cs.length) : (bf cs tl n).length = cs.length := by simp [bf]; omega
theorem bf_nil {cs : List Int32} {n : Nat} : bf cs [] n = cs := by simp [bf]
theorem bf_set {cs tl : List Int32} {n : Nat} {d : Int32} (h1 : 1 ≤ n) (h : n + tl.length ≤ cs.length) (g1 : 0 ≤ d.toInt) (g2 : d.toInt ≤ 127) : (bV (bf cs tl n)).set (n - 1) (.int (nar .byte d)) = bV (bf cs (d :: tl) (n - 1)) := by
  rw [show nar .byte d = d from own_i8 g1 g2, show (bV (bf cs tl n)).set (n - 1) (.int d) = bV ((bf cs tl n).set (n - 1) d) by simp [bV, List.map_set]]
  congr 1
  obtain ⟨k, rfl⟩ : ∃ k, n = k + 1 := ⟨n - 1, by omega⟩
  simp only [Nat.add_sub_cancel]
  unfold bf
  have e : cs.take (k + 1) = cs.take k ++ [cs.getD k 0] := by
    rw [List.take_add_one]
    have : k < cs.length := by omega
    simp [List.getD_eq_getElem?_getD, List.getElem?_eq_getElem this]
  rw [e, List.append_assoc, List.append_assoc, List.set_append_right _ _ (by simp; omega)]
  rw [List.length_take_of_le (by omega), Nat.sub_self]
  simp only [List.singleton_append, List.cons_append, List.set_cons_zero, List.append_assoc, List.length_cons]
  rw [show k + (tl.length + 1) = k + 1 + tl.length by omega, List.nil_append]
theorem bf_lt {cs tl : List Int32} {n j : Nat} (h : n + tl.length ≤ cs.length) (hj : j < cs.length) : j < (bV (bf cs tl n)).length := by
  rw [show (bV (bf cs tl n)).length = (bf cs tl n).length from List.length_map .., bf_len h]; exact hj
def dOL : List Int32 := (List.range 100).map fun r => o32 (48 + r % 10)
def dTL : List Int32 := (List.range 100).map fun r => o32 (48 + r / 10)
theorem dO_at {r : Nat} (h : r < 100) : dOL.getD r 0 = o32 (48 + r % 10) := by simp [dOL, List.getD_eq_getElem?_getD, h]
theorem dT_at {r : Nat} (h : r < 100) : dTL.getD r 0 = o32 (48 + r / 10) := by simp [dTL, List.getD_eq_getElem?_getD, h]
end OwnNum
section OwnTab
theorem own_hasL {c : Cell} : ∀ (vs : List Value) (i : Nat), (∀ j, j < vs.length → c.slots[i + j]? = vs[j]?) → HasL c i vs
  | [], _, _ => trivial
  | v :: r, i, H => ⟨H 0 (by simp), own_hasL r (i + 1) fun j hj => by
      have := H (j + 1) (by simpa using hj)
      rw [List.getElem?_cons_succ] at this
      rw [← this, show i + 1 + j = i + (j + 1) by omega]⟩
theorem own_tab {s : State} {args : Array Value} {nm : String} {rhs : Term} {F : Nat → Int32} (hf : Fit s) (h1 : (Jvm.Cond.exactly (Jvm.Term.static "java/lang/Integer" nm "[B") "[B").before args s = true) (h2 : (Jvm.Cond.eq (Jvm.Term.length (Jvm.Term.static "java/lang/Integer" nm "[B")) (Jvm.Term.int (100 : Int32))).before args s = true)
    (h3 : (Jvm.Cond.all (Jvm.Term.static "java/lang/Integer" nm "[B") (Jvm.Cond.eq (Jvm.Term.elem (Jvm.Term.static "java/lang/Integer" nm "[B") (Jvm.Term.index (0 : Nat))) rhs)).before args s = true) (h4 : (Jvm.Cond.arrayClass Jvm.ClassFile.FieldType.byte).before args s = true) (h5 : (Jvm.Cond.initializedFor "java/lang/Integer" nm "[B").before args s = true)
    (hr : ∀ r, r < 100 → rhs.eval args s none [r] s = some (.int (F r))) : ∃ d k, Sta s s.heap "java/lang/Integer" nm "[B" (.ref d) ∧ Arv s s.heap d k .byte 100 (bV ((List.range 100).map F)) (.int 0) := by
  obtain ⟨d, cB, D, kB, hev, hfcB, hcellD, hkB, hstatD, hclsD, -⟩ := Cond.exactly_spec h1
  have hevAll : ∀ idx, (Jvm.Term.static "java/lang/Integer" nm "[B").eval args s none idx s = some (.ref d) := fun idx => by
    have : (Jvm.Term.static "java/lang/Integer" nm "[B").eval args s none idx s = (Jvm.Term.static "java/lang/Integer" nm "[B").eval args s none [] s := by simp only [Term.eval]
    rw [this]; exact hev
  have hl := Cond.eq_int h2 rfl
  obtain ⟨d', D', hev', harrAt, hlen⟩ := Term.length_spec hl
  cases hev.symm.trans hev'
  obtain ⟨hcellD', hknD, -, -⟩ := State.arrayAt?_spec harrAt
  cases hcellD.symm.trans hcellD'
  have h31 := Jvm.Free.SBG.length_lt hev harrAt hl
  have hsz : D.slots.size = 100 := by
    have h2 : Int32.ofNat D.slots.size = Int32.ofNat 100 := (Value.int.inj hlen).symm
    have := congrArg Int32.toInt h2
    rw [Int32.toInt_ofNat_small h31, Int32.toInt_ofNat_small (by omega)] at this; omega
  obtain ⟨cB', kB', comp, hnameB, hkB', hkindB⟩ := Cond.arrayClass_spec h4
  have eBA : ("[" ++ FieldType.toString .byte) = "[B" := by decide
  rw [eBA] at hnameB
  cases hfcB.symm.trans hnameB
  cases hkB.symm.trans hkB'
  have A : Arr s s.heap d D .byte := ⟨hcellD, ⟨(fun q h => by rw [h] at hstatD; cases hstatD), kB, (by rw [hclsD]; exact hkB), comp, hkindB⟩, hknD⟩
  have el : ∀ r, r < 100 → D.slots[r]? = some (.int (F r)) := fun r hr' => by
    have h := Cond.all_elim (hevAll []) harrAt (Cond.before_iff.mp h3) r (by omega)
    have eL : (Jvm.Term.elem (Jvm.Term.static "java/lang/Integer" nm "[B") (Jvm.Term.index (0 : Nat))).eval args s none [r] s = D.slots[r]? := Jvm.Free.SBG.elem_at (ix := .index 0) (hevAll [r]) harrAt (by omega) (by omega) rfl
    have hx : D.slots[r]? = some D.slots[r] := Array.getElem?_eq_getElem (by omega)
    rw [hx] at eL ⊢
    generalize D.slots[r] = w at *
    simp only [Cond.value, eL, hr r hr'] at h
    cases w <;> simp at h
    rw [h]
  refine ⟨d, _, Sta.start hev (Or.inl h5), Arv.start hf A h31 (by rw [hsz]; rfl) (by decide) (by simp [bV]) (own_hasL _ 0 fun j hj => ?_)⟩
  have hj : j < 100 := by simpa [bV] using hj
  rw [Nat.zero_add, el j hj]; simp [bV, hj]
end OwnTab
section OwnSum
theorem own_szA {n m v v' : Nat} (h1 : n ≤ v) (h2 : n ≤ m) (q : v' = v ∨ m ≤ v') : n ≤ v' := by
  rcases q with rfl | q
  · exact h1
  · exact Nat.le_trans h2 q
theorem own_sfA {Z : State} {EL : List (String × Nat)} {s : State} {vm : Vm} {h : Heap} {v v' : Addr} (Y : Wx Z EL s vm h) (S : Safe Z EL vm h v) (q : v' = v ∨ h.size ≤ v') : Safe Z EL vm h v' := by
  rcases q with rfl | q
  · exact S
  · exact Wx.safe0 Y q
theorem own_gA {a b : List Int32} (ha : Gd a) (hb : Gd b) : Gd (a ++ b) := fun w hw => by
  rcases List.mem_append.mp hw with q | q
  · exact ha w q
  · exact hb w q
theorem own_seg {C A B R : List Int32} {n : Nat} (e : C = A ++ B ++ R) (hn : A.length = n) : n + B.length ≤ C.length ∧ ∀ i, i < B.length → C.getD (n + i) 0 = B.getD i 0 := by
  subst hn e
  refine ⟨by simp only [List.length_append]; omega, fun i hi => ?_⟩
  simp only [List.getD_eq_getElem?_getD]
  rw [List.append_assoc, List.getElem?_append_right (by omega), List.getElem?_append_left (by omega)]
  congr 2; omega
theorem own_numS {C : List Int32} {n x sg eN : Nat} (hs : sg = 0 ∨ sg = 1) (h : ∀ i, i < (NB x sg).length → C.getD (n + i) 0 = (NB x sg).getD i 0) (he : n + (NB x sg).length = eN) :
    (∀ i, i < (DG x).length → C.getD (eN - 1 - i) 0 = o32 (48 + x / 10 ^ i % 10)) ∧ (sg = 1 → C.getD (eN - 1 - (DG x).length) 0 = 45) := by
  have hl := NB_len x sg
  refine ⟨fun i hi => ?_, fun q => ?_⟩
  · rw [← DG_at i hi, show eN - 1 - i = n + (sg + (DG x).length - 1 - i) by omega, h _ (by omega)]
    unfold NB
    simp only [List.getD_eq_getElem?_getD]
    rw [List.getElem?_append_right (by simp; omega)]
    congr 2; simp; omega
  · subst q
    rw [show eN - 1 - (DG x).length = n + 0 by omega, h 0 (by omega)]; rfl
theorem own_pos63 (a : Int64) : ¬ lcmpW (a &&& 9223372036854775807) 0 < 0 := by
  rw [lcP.2]
  have z : (0 : Int64).toInt = 0 := rfl
  have e : (a &&& 9223372036854775807).toInt = (a.toBitVec &&& (9223372036854775807 : Int64).toBitVec).toInt := rfl
  rw [z, e]
  have m : (a.toBitVec &&& (9223372036854775807 : Int64).toBitVec).msb = false := by
    rw [BitVec.msb_and, show (9223372036854775807 : Int64).toBitVec.msb = false from rfl, Bool.and_false]
  rw [BitVec.toInt_eq_msb_cond, m]; simp
end OwnSum
def SBf (Z : State) (h : Heap) (b v : Addr) (ni : Int32) : Prop := Exa Z h b "java/lang/StringBuilder" ∧ Fld Z h b "java/lang/AbstractStringBuilder" "value" "[B" (.ref v) ∧ Fld Z h b "java/lang/AbstractStringBuilder" "coder" "B" (.int 0) ∧ Fld Z h b "java/lang/AbstractStringBuilder" "count" "I" (.int ni)
def LH : List Int32 := [77, 111, 100, 105, 102, 105, 101, 100, 32, 97, 116, 32, 108, 101, 97, 115, 116, 32]
theorem LH_gd : Gd LH := by unfold Gd; decide
def LM : List Int32 := [32, 114, 111, 119, 40, 115, 41, 32, 105, 110, 32]
theorem LM_gd : Gd LM := by unfold Gd; decide
def LT : List Int32 := [32, 112, 97, 114, 116, 105, 116, 105, 111, 110, 40, 115, 41]
theorem LT_gd : Gd LT := by unfold Gd; decide
def LB : List Int32 := [32, 98, 101, 102, 111, 114, 101, 32, 115, 116, 111, 112, 112, 105, 110, 103, 46]
theorem LB_gd : Gd LB := by unfold Gd; decide
def LD : List Int32 := [46]
theorem LD_gd : Gd LD := by unfold Gd; decide
def RRf (Z : State) (h : Heap) (o : Addr) (r q : Int64) (f : Int32) : Prop := Exa Z h o "com/example/large_table_updates/largetableupdates/RunResult" ∧ Fld Z h o "com/example/large_table_updates/largetableupdates/RunResult" "rowsModifiedAtLeast" "J" (.long r) ∧ Fld Z h o "com/example/large_table_updates/largetableupdates/RunResult" "partitions" "J" (.long q) ∧ Fld Z h o "com/example/large_table_updates/largetableupdates/RunResult" "stoppedEarly" "Z" (.int f)
def SM (x1 s1 x2 s2 : Nat) (le : List Int32) : List Int32 := ((((LH ++ NB x1 s1) ++ LM) ++ NB x2 s2) ++ LT) ++ le
section OwnClone
variable {p : Program} {l : Launch} {e : Env} {R : Room} {s : State} {m : MethodId} {args : Array Value} {below : List Frame} {meth : Method} {c : Code} {T : State} {Z : State} {own mn : String} {bytes : ByteArray} {ml n0 k n : Nat} {rt : Option FieldType} {h : Heap} {G : Outcome → State → Prop} {pc q : Nat} {L : Array Slot} {st rest : List Value} {a0 : Array Value}
theorem g_clone (C : Cx p s m meth c Z own bytes ml rt mn) (X : St p l e R s m args below meth c n0 T h k n) {ad : String} {i cap k' n' W : Nat} (w1 : (Cond.methodLink own i ⟨ad, "clone", "()Ljava/lang/Object;"⟩).before a0 Z = true) (w2 : (Cond.sameMethod ad "java/lang/Object" "clone" "()Ljava/lang/Object;").before a0 Z = true) (w3 : (Cond.native ⟨"java/lang/Object", "clone", "()Ljava/lang/Object;"⟩).before a0 Z = true)
    (w4 : (Cond.instanceMethod ⟨"java/lang/Object", "clone", "()Ljava/lang/Object;"⟩).before a0 Z = true) (w5 : (Cond.selects ad ⟨ad, "clone", "()Ljava/lang/Object;"⟩ ⟨"java/lang/Object", "clone", "()Ljava/lang/Object;"⟩).before a0 Z = true) (w6 : (Cond.castable ad "java/lang/Cloneable").before a0 Z = true)
    {a : Addr} {kA : ClassId} {ty : FieldType} {z : Int32} {vs : List Value} {dv : Value} (F : Arv Z h a kA ty z vs dv) (E : Exa Z h a ad) (hcap : z.toNatClampNeg ≤ cap) (hf : 1 ≤ R.frames) (hl : W + 14 ≤ R.locals) (hk : k + 1 = k') (hn : n + cap = n') (hkR : k' ≤ R.cells) (hnR : n' ≤ R.slots) (hsz : L.size = ml) (hW : (rest.map fun v => v.category).sum = W) (hd : decode bytes pc = .ok (.invokevirtual i, 3)) (hq : pc + 3 = q)
    (r : ∀ T' h' b, b = h.size → St p l e R s m args below meth c n0 T' h' k' n' → Ext h h' → Arv Z h' b kA ty z vs dv → Exa Z h' b ad → Goes p e below G (T'.setTop (mkF m q L (.ref b :: rest)))) : Goes p e below G (T.setTop (mkF m pc L (.ref a :: rest))) := by
  obtain ⟨hx, hZ, hown, hby, hml, -⟩ := C
  obtain ⟨_, cells, slots, X, hF, eT, h1, h2⟩ := X
  subst hq hk hn hW
  obtain ⟨T', h', X', e', E', A', D', st'⟩ := cloneH X hx hZ hown w1 w2 w3 w4 w5 w6 eT F.arh E (g := mkF m pc L (.ref a :: rest)) rfl (hsz.trans hml.symm) (rest := rest) rfl (hb hby hd) hf (W := (rest.map fun v => v.category).sum) (cap := cap) (by show 2 * 0 + _ ≤ _; omega) hl hcap (Nat.le_trans (Nat.add_le_add_right h1 1) hkR) (Nat.le_trans (Nat.add_le_add_right h2 cap) hnR)
  exact go_st st' (r T' h' _ rfl ⟨_, _, _, X', hF, e', Nat.add_le_add_right h1 1, Nat.add_le_add_right h2 cap⟩ E' A' D')
end OwnClone
def Wd (Z : State) (cz : Int32) (fm : Value) (dO : Addr) (kO : ClassId) (dT : Addr) (kT : ClassId) : Prop := Sta Z Z.heap "java/lang/String" "COMPACT_STRINGS" "Z" (.int cz) ∧ ¬ cz = 0 ∧ Sta Z Z.heap "jdk/internal/util/Preconditions" "SIOOBE_FORMATTER" "Ljava/util/function/BiFunction;" fm ∧ fm.isRef = true ∧ Sta Z Z.heap "java/lang/Integer" "DigitOnes" "[B" (.ref dO) ∧ Arv Z Z.heap dO kO .byte 100 (bV dOL) (.int 0) ∧ Sta Z Z.heap "java/lang/Integer" "DigitTens" "[B" (.ref dT) ∧ Arv Z Z.heap dT kT .byte 100 (bV dTL) (.int 0)
theorem w29 {Z : State} {a0 : Array Value} (hw : ∀ d ∈ tables_1, d.before a0 Z = true) : (Jvm.Cond.arrayClass Jvm.ClassFile.FieldType.byte).before a0 Z = true := hw _ (List.mem_of_getElem? (i := 29) rfl)
theorem d14_0 : decode jdk_29_method_65_code 0 = .ok (.iload_n 0, 1) := by decide +kernel
theorem d14_1 : decode jdk_29_method_65_code 1 = .ok (.iload_n 1, 1) := by decide +kernel
theorem d14_2 : decode jdk_29_method_65_code 2 = .ok (.if_icmp .lt 7, 3) := by decide +kernel
theorem d14_9 : decode jdk_29_method_65_code 9 = .ok (.iload_n 1, 1) := by decide +kernel
theorem d14_10 : decode jdk_29_method_65_code 10 = .ok (.ireturn, 1) := by decide +kernel
theorem d14_5 : decode jdk_29_method_65_code 5 = .ok (.iload_n 0, 1) := by decide +kernel
theorem d14_6 : decode jdk_29_method_65_code 6 = .ok (.goto 4, 3) := by decide +kernel
theorem d16_0 : decode jdk_29_method_69_code 0 = .ok (.iload_n 0, 1) := by decide +kernel
theorem d16_1 : decode jdk_29_method_69_code 1 = .ok (.iload_n 1, 1) := by decide +kernel
theorem d16_2 : decode jdk_29_method_69_code 2 = .ok (.if_icmp .gt 7, 3) := by decide +kernel
theorem d16_9 : decode jdk_29_method_69_code 9 = .ok (.iload_n 1, 1) := by decide +kernel
theorem d16_10 : decode jdk_29_method_69_code 10 = .ok (.ireturn, 1) := by decide +kernel
theorem d16_5 : decode jdk_29_method_69_code 5 = .ok (.iload_n 0, 1) := by decide +kernel
theorem d16_6 : decode jdk_29_method_69_code 6 = .ok (.goto 4, 3) := by decide +kernel
theorem d13_0 : decode jdk_48_method_27_code 0 = .ok (.iload_n 0, 1) := by decide +kernel
theorem d13_1 : decode jdk_48_method_27_code 1 = .ok (.iload_n 1, 1) := by decide +kernel
theorem d13_2 : decode jdk_48_method_27_code 2 = .ok (.iload_n 2, 1) := by decide +kernel
theorem d13_3 : decode jdk_48_method_27_code 3 = .ok (.invokestatic 194, 3) := by decide +kernel
theorem w92 {Z : State} {a0 : Array Value} (hw : ∀ d ∈ tables_1, d.before a0 Z = true) : (Jvm.Cond.methodLink "jdk/internal/util/ArraysSupport" (194 : Nat) ({ cls := "java/lang/Math", name := "max", desc := "(II)I" } : Jvm.MethodName)).before a0 Z = true := hw _ (List.mem_of_getElem? (i := 92) rfl)
theorem w95 {Z : State} {a0 : Array Value} (hw : ∀ d ∈ tables_1, d.before a0 Z = true) : (Jvm.Cond.code ({ cls := "java/lang/Math", name := "max", desc := "(II)I" } : Jvm.MethodName) jdk_29_method_65_code (2 : Nat) (Option.some Jvm.ClassFile.FieldType.int)).before a0 Z = true := hw _ (List.mem_of_getElem? (i := 95) rfl)
theorem w94 {Z : State} {a0 : Array Value} (hw : ∀ d ∈ tables_1, d.before a0 Z = true) : (Jvm.Cond.initialized "java/lang/Math").before a0 Z = true := hw _ (List.mem_of_getElem? (i := 94) rfl)
theorem pd_18 : parseMethodDescriptor "(II)I" = some ⟨[.int, .int], some .int⟩ := by decide +kernel
theorem w93 {Z : State} {a0 : Array Value} (hw : ∀ d ∈ tables_1, d.before a0 Z = true) : (Jvm.Cond.static ({ cls := "java/lang/Math", name := "max", desc := "(II)I" } : Jvm.MethodName)).before a0 Z = true := hw _ (List.mem_of_getElem? (i := 93) rfl)
theorem d13_6 : decode jdk_48_method_27_code 6 = .ok (.iadd, 1) := by decide +kernel
theorem d13_7 : decode jdk_48_method_27_code 7 = .ok (.istore_n 3, 1) := by decide +kernel
theorem d13_8 : decode jdk_48_method_27_code 8 = .ok (.iconst 0, 1) := by decide +kernel
theorem d13_9 : decode jdk_48_method_27_code 9 = .ok (.iload_n 3, 1) := by decide +kernel
theorem d13_10 : decode jdk_48_method_27_code 10 = .ok (.if_icmp .ge 11, 3) := by decide +kernel
theorem d13_13 : decode jdk_48_method_27_code 13 = .ok (.iload_n 3, 1) := by decide +kernel
theorem d13_14 : decode jdk_48_method_27_code 14 = .ok (.ldc 200, 2) := by decide +kernel
theorem w96 {Z : State} {a0 : Array Value} (hw : ∀ d ∈ tables_1, d.before a0 Z = true) : (Jvm.Cond.constant "jdk/internal/util/ArraysSupport" (200 : Nat) (2147483639 : Int32)).before a0 Z = true := hw _ (List.mem_of_getElem? (i := 96) rfl)
theorem d13_16 : decode jdk_48_method_27_code 16 = .ok (.if_icmp .gt 5, 3) := by decide +kernel
theorem d13_19 : decode jdk_48_method_27_code 19 = .ok (.iload_n 3, 1) := by decide +kernel
theorem d13_20 : decode jdk_48_method_27_code 20 = .ok (.ireturn, 1) := by decide +kernel
theorem pn_29 : plainName "jdk/internal/util/ArraysSupport" = true := by first | (simp [plainName, overriddenIn]; done) | decide +kernel
theorem own_big {n : Nat} (h : n < 1000) : ¬ (2147483639 : Int32) < o32 n := by
  rw [Int32.lt_iff_toInt_lt, oI h]; have : (2147483639 : Int32).toInt = 2147483639 := rfl; omega
theorem own_big2 {n : Nat} (h : n < 1000) : ¬ o32 n = 2147483647 := fun q => by
  have := congrArg Int32.toInt q; rw [oI h] at this; have e : (2147483647 : Int32).toInt = 2147483647 := rfl; omega
theorem own_slt {n m : Nat} (hn : n < 1000) (hm : m < 1000) : (0 < o32 n - o32 m → m < n) ∧ (¬ 0 < o32 n - o32 m → ¬ m < n) := by
  have e : (o32 n - o32 m).toInt = (n : Int) - m := by rw [Int32.toInt_sub, oI hn, oI hm, Int.bmod_eq_of_le] <;> omega
  refine ⟨fun q => ?_, fun q => ?_⟩ <;> (rw [Int32.lt_iff_toInt_lt, e, i0] at q; omega)
theorem d12_0 : decode jdk_68_method_10_code 0 = .ok (.aload_n 0, 1) := by decide +kernel
theorem d12_1 : decode jdk_68_method_10_code 1 = .ok (.getfield 15, 3) := by decide +kernel
theorem w48 {Z : State} {a0 : Array Value} (hw : ∀ d ∈ tables_1, d.before a0 Z = true) : (Jvm.Cond.fieldLink "java/lang/AbstractStringBuilder" (15 : Nat) "java/lang/AbstractStringBuilder" "value" "[B").before a0 Z = true := hw _ (List.mem_of_getElem? (i := 48) rfl)
theorem d12_4 : decode jdk_68_method_10_code 4 = .ok (.arraylength, 1) := by decide +kernel
theorem d12_5 : decode jdk_68_method_10_code 5 = .ok (.istore_n 2, 1) := by decide +kernel
theorem d12_6 : decode jdk_68_method_10_code 6 = .ok (.iload_n 1, 1) := by decide +kernel
theorem d12_7 : decode jdk_68_method_10_code 7 = .ok (.aload_n 0, 1) := by decide +kernel
theorem d12_8 : decode jdk_68_method_10_code 8 = .ok (.getfield 22, 3) := by decide +kernel
theorem w50 {Z : State} {a0 : Array Value} (hw : ∀ d ∈ tables_1, d.before a0 Z = true) : (Jvm.Cond.fieldLink "java/lang/AbstractStringBuilder" (22 : Nat) "java/lang/AbstractStringBuilder" "coder" "B").before a0 Z = true := hw _ (List.mem_of_getElem? (i := 50) rfl)
theorem d12_11 : decode jdk_68_method_10_code 11 = .ok (.ishl, 1) := by decide +kernel
theorem d12_12 : decode jdk_68_method_10_code 12 = .ok (.istore_n 3, 1) := by decide +kernel
theorem d12_13 : decode jdk_68_method_10_code 13 = .ok (.iload_n 3, 1) := by decide +kernel
theorem d12_14 : decode jdk_68_method_10_code 14 = .ok (.iload_n 2, 1) := by decide +kernel
theorem d12_15 : decode jdk_68_method_10_code 15 = .ok (.isub, 1) := by decide +kernel
theorem d12_16 : decode jdk_68_method_10_code 16 = .ok (.istore 4, 2) := by decide +kernel
theorem d12_18 : decode jdk_68_method_10_code 18 = .ok (.iload_n 2, 1) := by decide +kernel
theorem d12_19 : decode jdk_68_method_10_code 19 = .ok (.iload 4, 2) := by decide +kernel
theorem d12_21 : decode jdk_68_method_10_code 21 = .ok (.iload_n 2, 1) := by decide +kernel
theorem d12_22 : decode jdk_68_method_10_code 22 = .ok (.iconst 2, 1) := by decide +kernel
theorem d12_23 : decode jdk_68_method_10_code 23 = .ok (.aload_n 0, 1) := by decide +kernel
theorem d12_24 : decode jdk_68_method_10_code 24 = .ok (.getfield 22, 3) := by decide +kernel
theorem d12_27 : decode jdk_68_method_10_code 27 = .ok (.ishl, 1) := by decide +kernel
theorem d12_28 : decode jdk_68_method_10_code 28 = .ok (.iadd, 1) := by decide +kernel
theorem d12_29 : decode jdk_68_method_10_code 29 = .ok (.invokestatic 114, 3) := by decide +kernel
theorem w88 {Z : State} {a0 : Array Value} (hw : ∀ d ∈ tables_1, d.before a0 Z = true) : (Jvm.Cond.methodLink "java/lang/AbstractStringBuilder" (114 : Nat) ({ cls := "jdk/internal/util/ArraysSupport", name := "newLength", desc := "(III)I" } : Jvm.MethodName)).before a0 Z = true := hw _ (List.mem_of_getElem? (i := 88) rfl)
theorem w91 {Z : State} {a0 : Array Value} (hw : ∀ d ∈ tables_1, d.before a0 Z = true) : (Jvm.Cond.code ({ cls := "jdk/internal/util/ArraysSupport", name := "newLength", desc := "(III)I" } : Jvm.MethodName) jdk_48_method_27_code (4 : Nat) (Option.some Jvm.ClassFile.FieldType.int)).before a0 Z = true := hw _ (List.mem_of_getElem? (i := 91) rfl)
theorem w90 {Z : State} {a0 : Array Value} (hw : ∀ d ∈ tables_1, d.before a0 Z = true) : (Jvm.Cond.initialized "jdk/internal/util/ArraysSupport").before a0 Z = true := hw _ (List.mem_of_getElem? (i := 90) rfl)
theorem pd_52 : parseMethodDescriptor "(III)I" = some ⟨[.int, .int, .int], some .int⟩ := by decide +kernel
theorem w89 {Z : State} {a0 : Array Value} (hw : ∀ d ∈ tables_1, d.before a0 Z = true) : (Jvm.Cond.static ({ cls := "jdk/internal/util/ArraysSupport", name := "newLength", desc := "(III)I" } : Jvm.MethodName)).before a0 Z = true := hw _ (List.mem_of_getElem? (i := 89) rfl)
theorem d12_32 : decode jdk_68_method_10_code 32 = .ok (.istore 5, 2) := by decide +kernel
theorem d12_34 : decode jdk_68_method_10_code 34 = .ok (.iload 5, 2) := by decide +kernel
theorem d12_36 : decode jdk_68_method_10_code 36 = .ok (.ldc 39, 2) := by decide +kernel
theorem w97 {Z : State} {a0 : Array Value} (hw : ∀ d ∈ tables_1, d.before a0 Z = true) : (Jvm.Cond.constant "java/lang/AbstractStringBuilder" (39 : Nat) (2147483647 : Int32)).before a0 Z = true := hw _ (List.mem_of_getElem? (i := 97) rfl)
theorem d12_38 : decode jdk_68_method_10_code 38 = .ok (.if_icmp .ne 13, 3) := by decide +kernel
theorem d12_51 : decode jdk_68_method_10_code 51 = .ok (.iload 5, 2) := by decide +kernel
theorem d12_53 : decode jdk_68_method_10_code 53 = .ok (.aload_n 0, 1) := by decide +kernel
theorem d12_54 : decode jdk_68_method_10_code 54 = .ok (.getfield 22, 3) := by decide +kernel
theorem d12_57 : decode jdk_68_method_10_code 57 = .ok (.ishr, 1) := by decide +kernel
theorem d12_58 : decode jdk_68_method_10_code 58 = .ok (.ireturn, 1) := by decide +kernel
theorem pn_62 : plainName "java/lang/AbstractStringBuilder" = true := by first | (simp [plainName, overriddenIn]; done) | decide +kernel
theorem d15_0 : decode jdk_65_method_121_code 0 = .ok (.iload_n 1, 1) := by decide +kernel
theorem d15_1 : decode jdk_65_method_121_code 1 = .ok (.aload_n 0, 1) := by decide +kernel
theorem d15_2 : decode jdk_65_method_121_code 2 = .ok (.arraylength, 1) := by decide +kernel
theorem d15_3 : decode jdk_65_method_121_code 3 = .ok (.if_icmp .ne 11, 3) := by decide +kernel
theorem d15_14 : decode jdk_65_method_121_code 14 = .ok (.iload_n 1, 1) := by decide +kernel
theorem d15_15 : decode jdk_65_method_121_code 15 = .ok (.newarray .byte, 2) := by decide +kernel
theorem d15_17 : decode jdk_65_method_121_code 17 = .ok (.astore_n 2, 1) := by decide +kernel
theorem d15_18 : decode jdk_65_method_121_code 18 = .ok (.aload_n 0, 1) := by decide +kernel
theorem d15_19 : decode jdk_65_method_121_code 19 = .ok (.iconst 0, 1) := by decide +kernel
theorem d15_20 : decode jdk_65_method_121_code 20 = .ok (.aload_n 2, 1) := by decide +kernel
theorem d15_21 : decode jdk_65_method_121_code 21 = .ok (.iconst 0, 1) := by decide +kernel
theorem d15_22 : decode jdk_65_method_121_code 22 = .ok (.aload_n 0, 1) := by decide +kernel
theorem d15_23 : decode jdk_65_method_121_code 23 = .ok (.arraylength, 1) := by decide +kernel
theorem d15_24 : decode jdk_65_method_121_code 24 = .ok (.iload_n 1, 1) := by decide +kernel
theorem d15_25 : decode jdk_65_method_121_code 25 = .ok (.invokestatic 304, 3) := by decide +kernel
theorem w102 {Z : State} {a0 : Array Value} (hw : ∀ d ∈ tables_1, d.before a0 Z = true) : (Jvm.Cond.methodLink "java/util/Arrays" (304 : Nat) ({ cls := "java/lang/Math", name := "min", desc := "(II)I" } : Jvm.MethodName)).before a0 Z = true := hw _ (List.mem_of_getElem? (i := 102) rfl)
theorem w104 {Z : State} {a0 : Array Value} (hw : ∀ d ∈ tables_1, d.before a0 Z = true) : (Jvm.Cond.code ({ cls := "java/lang/Math", name := "min", desc := "(II)I" } : Jvm.MethodName) jdk_29_method_69_code (2 : Nat) (Option.some Jvm.ClassFile.FieldType.int)).before a0 Z = true := hw _ (List.mem_of_getElem? (i := 104) rfl)
theorem w103 {Z : State} {a0 : Array Value} (hw : ∀ d ∈ tables_1, d.before a0 Z = true) : (Jvm.Cond.static ({ cls := "java/lang/Math", name := "min", desc := "(II)I" } : Jvm.MethodName)).before a0 Z = true := hw _ (List.mem_of_getElem? (i := 103) rfl)
theorem d15_28 : decode jdk_65_method_121_code 28 = .ok (.invokestatic 150, 3) := by decide +kernel
theorem w105 {Z : State} {a0 : Array Value} (hw : ∀ d ∈ tables_1, d.before a0 Z = true) : (Jvm.Cond.methodLink "java/util/Arrays" (150 : Nat) ({ cls := "java/lang/System", name := "arraycopy", desc := "(Ljava/lang/Object;ILjava/lang/Object;II)V" } : Jvm.MethodName)).before a0 Z = true := hw _ (List.mem_of_getElem? (i := 105) rfl)
theorem w108 {Z : State} {a0 : Array Value} (hw : ∀ d ∈ tables_1, d.before a0 Z = true) : (Jvm.Cond.native ({ cls := "java/lang/System", name := "arraycopy", desc := "(Ljava/lang/Object;ILjava/lang/Object;II)V" } : Jvm.MethodName)).before a0 Z = true := hw _ (List.mem_of_getElem? (i := 108) rfl)
theorem w106 {Z : State} {a0 : Array Value} (hw : ∀ d ∈ tables_1, d.before a0 Z = true) : (Jvm.Cond.static ({ cls := "java/lang/System", name := "arraycopy", desc := "(Ljava/lang/Object;ILjava/lang/Object;II)V" } : Jvm.MethodName)).before a0 Z = true := hw _ (List.mem_of_getElem? (i := 106) rfl)
theorem w107 {Z : State} {a0 : Array Value} (hw : ∀ d ∈ tables_1, d.before a0 Z = true) : (Jvm.Cond.initialized "java/lang/System").before a0 Z = true := hw _ (List.mem_of_getElem? (i := 107) rfl)
theorem d15_31 : decode jdk_65_method_121_code 31 = .ok (.aload_n 2, 1) := by decide +kernel
theorem d15_32 : decode jdk_65_method_121_code 32 = .ok (.areturn, 1) := by decide +kernel
theorem pn_81 : plainName "java/util/Arrays" = true := by first | (simp [plainName, overriddenIn]; done) | decide +kernel
theorem own_grow {cs : List Int32} {k n : Nat} (h : cs.length < k) (hn : n ≤ cs.length) : ((List.replicate k (0 : Int32)).take 0 ++ cs ++ (List.replicate k 0).drop (0 + cs.length)).length = k ∧ ((List.replicate k (0 : Int32)).take 0 ++ cs ++ (List.replicate k 0).drop (0 + cs.length)).take n = cs.take n := by
  refine ⟨by simp; omega, ?_⟩
  rw [List.take_zero, List.nil_append, List.take_append_of_le_length hn]
theorem d11_0 : decode jdk_68_method_9_code 0 = .ok (.aload_n 0, 1) := by decide +kernel
theorem d11_1 : decode jdk_68_method_9_code 1 = .ok (.getfield 15, 3) := by decide +kernel
theorem d11_4 : decode jdk_68_method_9_code 4 = .ok (.arraylength, 1) := by decide +kernel
theorem d11_5 : decode jdk_68_method_9_code 5 = .ok (.aload_n 0, 1) := by decide +kernel
theorem d11_6 : decode jdk_68_method_9_code 6 = .ok (.getfield 22, 3) := by decide +kernel
theorem d11_9 : decode jdk_68_method_9_code 9 = .ok (.ishr, 1) := by decide +kernel
theorem d11_10 : decode jdk_68_method_9_code 10 = .ok (.istore_n 2, 1) := by decide +kernel
theorem d11_11 : decode jdk_68_method_9_code 11 = .ok (.iload_n 1, 1) := by decide +kernel
theorem d11_12 : decode jdk_68_method_9_code 12 = .ok (.iload_n 2, 1) := by decide +kernel
theorem d11_13 : decode jdk_68_method_9_code 13 = .ok (.isub, 1) := by decide +kernel
theorem d11_14 : decode jdk_68_method_9_code 14 = .ok (.ifCond .le 24, 3) := by decide +kernel
theorem d11_17 : decode jdk_68_method_9_code 17 = .ok (.aload_n 0, 1) := by decide +kernel
theorem d11_18 : decode jdk_68_method_9_code 18 = .ok (.aload_n 0, 1) := by decide +kernel
theorem d11_19 : decode jdk_68_method_9_code 19 = .ok (.getfield 15, 3) := by decide +kernel
theorem d11_22 : decode jdk_68_method_9_code 22 = .ok (.aload_n 0, 1) := by decide +kernel
theorem d11_23 : decode jdk_68_method_9_code 23 = .ok (.iload_n 1, 1) := by decide +kernel
theorem d11_24 : decode jdk_68_method_9_code 24 = .ok (.invokevirtual 104, 3) := by decide +kernel
theorem w83 {Z : State} {a0 : Array Value} (hw : ∀ d ∈ tables_1, d.before a0 Z = true) : (Jvm.Cond.methodLink "java/lang/AbstractStringBuilder" (104 : Nat) ({ cls := "java/lang/AbstractStringBuilder", name := "newCapacity", desc := "(I)I" } : Jvm.MethodName)).before a0 Z = true := hw _ (List.mem_of_getElem? (i := 83) rfl)
theorem w87 {Z : State} {a0 : Array Value} (hw : ∀ d ∈ tables_1, d.before a0 Z = true) : (Jvm.Cond.code ({ cls := "java/lang/AbstractStringBuilder", name := "newCapacity", desc := "(I)I" } : Jvm.MethodName) jdk_68_method_10_code (6 : Nat) (Option.some Jvm.ClassFile.FieldType.int)).before a0 Z = true := hw _ (List.mem_of_getElem? (i := 87) rfl)
theorem w44 {Z : State} {a0 : Array Value} (hw : ∀ d ∈ tables_1, d.before a0 Z = true) : (Jvm.Cond.initialized "java/lang/AbstractStringBuilder").before a0 Z = true := hw _ (List.mem_of_getElem? (i := 44) rfl)
theorem pd_99 : parseMethodDescriptor "(I)I" = some ⟨[.int], some .int⟩ := by decide +kernel
theorem w86 {Z : State} {a0 : Array Value} (hw : ∀ d ∈ tables_1, d.before a0 Z = true) : (Jvm.Cond.selects "java/lang/StringBuilder" ({ cls := "java/lang/AbstractStringBuilder", name := "newCapacity", desc := "(I)I" } : Jvm.MethodName) ({ cls := "java/lang/AbstractStringBuilder", name := "newCapacity", desc := "(I)I" } : Jvm.MethodName)).before a0 Z = true := hw _ (List.mem_of_getElem? (i := 86) rfl)
theorem w84 {Z : State} {a0 : Array Value} (hw : ∀ d ∈ tables_1, d.before a0 Z = true) : (Jvm.Cond.instanceMethod ({ cls := "java/lang/AbstractStringBuilder", name := "newCapacity", desc := "(I)I" } : Jvm.MethodName)).before a0 Z = true := hw _ (List.mem_of_getElem? (i := 84) rfl)
theorem w85 {Z : State} {a0 : Array Value} (hw : ∀ d ∈ tables_1, d.before a0 Z = true) : (Jvm.Cond.privateMethod ({ cls := "java/lang/AbstractStringBuilder", name := "newCapacity", desc := "(I)I" } : Jvm.MethodName)).before a0 Z = true := hw _ (List.mem_of_getElem? (i := 85) rfl)
theorem d11_27 : decode jdk_68_method_9_code 27 = .ok (.aload_n 0, 1) := by decide +kernel
theorem d11_28 : decode jdk_68_method_9_code 28 = .ok (.getfield 22, 3) := by decide +kernel
theorem d11_31 : decode jdk_68_method_9_code 31 = .ok (.ishl, 1) := by decide +kernel
theorem d11_32 : decode jdk_68_method_9_code 32 = .ok (.invokestatic 108, 3) := by decide +kernel
theorem w98 {Z : State} {a0 : Array Value} (hw : ∀ d ∈ tables_1, d.before a0 Z = true) : (Jvm.Cond.methodLink "java/lang/AbstractStringBuilder" (108 : Nat) ({ cls := "java/util/Arrays", name := "copyOf", desc := "([BI)[B" } : Jvm.MethodName)).before a0 Z = true := hw _ (List.mem_of_getElem? (i := 98) rfl)
theorem w101 {Z : State} {a0 : Array Value} (hw : ∀ d ∈ tables_1, d.before a0 Z = true) : (Jvm.Cond.code ({ cls := "java/util/Arrays", name := "copyOf", desc := "([BI)[B" } : Jvm.MethodName) jdk_65_method_121_code (3 : Nat) (Option.some (Jvm.ClassFile.FieldType.array Jvm.ClassFile.FieldType.byte))).before a0 Z = true := hw _ (List.mem_of_getElem? (i := 101) rfl)
theorem w100 {Z : State} {a0 : Array Value} (hw : ∀ d ∈ tables_1, d.before a0 Z = true) : (Jvm.Cond.initialized "java/util/Arrays").before a0 Z = true := hw _ (List.mem_of_getElem? (i := 100) rfl)
theorem pd_104 : parseMethodDescriptor "([BI)[B" = some ⟨[(.array .byte), .int], some (.array .byte)⟩ := by decide +kernel
theorem w99 {Z : State} {a0 : Array Value} (hw : ∀ d ∈ tables_1, d.before a0 Z = true) : (Jvm.Cond.static ({ cls := "java/util/Arrays", name := "copyOf", desc := "([BI)[B" } : Jvm.MethodName)).before a0 Z = true := hw _ (List.mem_of_getElem? (i := 99) rfl)
theorem d11_35 : decode jdk_68_method_9_code 35 = .ok (.putfield 15, 3) := by decide +kernel
theorem w49 {Z : State} {a0 : Array Value} (hw : ∀ d ∈ tables_1, d.before a0 Z = true) : (Jvm.Cond.lays "java/lang/StringBuilder" "java/lang/AbstractStringBuilder" "value" "[B").before a0 Z = true := hw _ (List.mem_of_getElem? (i := 49) rfl)
theorem w35 {Z : State} {a0 : Array Value} (hw : ∀ d ∈ tables_1, d.before a0 Z = true) : (Jvm.Cond.instantiable "java/lang/StringBuilder" (4 : Nat)).before a0 Z = true := hw _ (List.mem_of_getElem? (i := 35) rfl)
theorem d11_38 : decode jdk_68_method_9_code 38 = .ok (.return_, 1) := by decide +kernel
theorem w51 {Z : State} {a0 : Array Value} (hw : ∀ d ∈ tables_1, d.before a0 Z = true) : (Jvm.Cond.lays "java/lang/StringBuilder" "java/lang/AbstractStringBuilder" "coder" "B").before a0 Z = true := hw _ (List.mem_of_getElem? (i := 51) rfl)
theorem w77 {Z : State} {a0 : Array Value} (hw : ∀ d ∈ tables_1, d.before a0 Z = true) : (Jvm.Cond.lays "java/lang/StringBuilder" "java/lang/AbstractStringBuilder" "count" "I").before a0 Z = true := hw _ (List.mem_of_getElem? (i := 77) rfl)
theorem d10_0 : decode jdk_42_method_152_code 0 = .ok (.getstatic 38, 3) := by decide +kernel
theorem w74 {Z : State} {a0 : Array Value} (hw : ∀ d ∈ tables_1, d.before a0 Z = true) : (Jvm.Cond.fieldLink "java/lang/String" (38 : Nat) "java/lang/String" "COMPACT_STRINGS" "Z").before a0 Z = true := hw _ (List.mem_of_getElem? (i := 74) rfl)
theorem d10_3 : decode jdk_42_method_152_code 3 = .ok (.ifCond .eq 10, 3) := by decide +kernel
theorem d10_6 : decode jdk_42_method_152_code 6 = .ok (.aload_n 0, 1) := by decide +kernel
theorem d10_7 : decode jdk_42_method_152_code 7 = .ok (.getfield 15, 3) := by decide +kernel
theorem w75 {Z : State} {a0 : Array Value} (hw : ∀ d ∈ tables_1, d.before a0 Z = true) : (Jvm.Cond.fieldLink "java/lang/String" (15 : Nat) "java/lang/String" "coder" "B").before a0 Z = true := hw _ (List.mem_of_getElem? (i := 75) rfl)
theorem d10_10 : decode jdk_42_method_152_code 10 = .ok (.goto 4, 3) := by decide +kernel
theorem d10_14 : decode jdk_42_method_152_code 14 = .ok (.ireturn, 1) := by decide +kernel
theorem pn_113 : plainName "java/lang/String" = true := by first | (simp [plainName, overriddenIn]; done) | decide +kernel
theorem d9_0 : decode jdk_42_method_54_code 0 = .ok (.aload_n 0, 1) := by decide +kernel
theorem d9_1 : decode jdk_42_method_54_code 1 = .ok (.getfield 9, 3) := by decide +kernel
theorem w68 {Z : State} {a0 : Array Value} (hw : ∀ d ∈ tables_1, d.before a0 Z = true) : (Jvm.Cond.fieldLink "java/lang/String" (9 : Nat) "java/lang/String" "value" "[B").before a0 Z = true := hw _ (List.mem_of_getElem? (i := 68) rfl)
theorem d9_4 : decode jdk_42_method_54_code 4 = .ok (.arraylength, 1) := by decide +kernel
theorem d9_5 : decode jdk_42_method_54_code 5 = .ok (.aload_n 0, 1) := by decide +kernel
theorem d9_6 : decode jdk_42_method_54_code 6 = .ok (.invokevirtual 335, 3) := by decide +kernel
theorem w69 {Z : State} {a0 : Array Value} (hw : ∀ d ∈ tables_1, d.before a0 Z = true) : (Jvm.Cond.methodLink "java/lang/String" (335 : Nat) ({ cls := "java/lang/String", name := "coder", desc := "()B" } : Jvm.MethodName)).before a0 Z = true := hw _ (List.mem_of_getElem? (i := 69) rfl)
theorem w73 {Z : State} {a0 : Array Value} (hw : ∀ d ∈ tables_1, d.before a0 Z = true) : (Jvm.Cond.code ({ cls := "java/lang/String", name := "coder", desc := "()B" } : Jvm.MethodName) jdk_42_method_152_code (1 : Nat) (Option.some Jvm.ClassFile.FieldType.byte)).before a0 Z = true := hw _ (List.mem_of_getElem? (i := 73) rfl)
theorem w27 {Z : State} {a0 : Array Value} (hw : ∀ d ∈ tables_1, d.before a0 Z = true) : (Jvm.Cond.initialized "java/lang/String").before a0 Z = true := hw _ (List.mem_of_getElem? (i := 27) rfl)
theorem pd_119 : parseMethodDescriptor "()B" = some ⟨[], some .byte⟩ := by decide +kernel
theorem w70 {Z : State} {a0 : Array Value} (hw : ∀ d ∈ tables_1, d.before a0 Z = true) : (Jvm.Cond.declares ({ cls := "java/lang/String", name := "coder", desc := "()B" } : Jvm.MethodName)).before a0 Z = true := hw _ (List.mem_of_getElem? (i := 70) rfl)
theorem w72 {Z : State} {a0 : Array Value} (hw : ∀ d ∈ tables_1, d.before a0 Z = true) : (Jvm.Cond.selects "java/lang/String" ({ cls := "java/lang/String", name := "coder", desc := "()B" } : Jvm.MethodName) ({ cls := "java/lang/String", name := "coder", desc := "()B" } : Jvm.MethodName)).before a0 Z = true := hw _ (List.mem_of_getElem? (i := 72) rfl)
theorem w71 {Z : State} {a0 : Array Value} (hw : ∀ d ∈ tables_1, d.before a0 Z = true) : (Jvm.Cond.instanceMethod ({ cls := "java/lang/String", name := "coder", desc := "()B" } : Jvm.MethodName)).before a0 Z = true := hw _ (List.mem_of_getElem? (i := 71) rfl)
theorem d9_9 : decode jdk_42_method_54_code 9 = .ok (.ishr, 1) := by decide +kernel
theorem d9_10 : decode jdk_42_method_54_code 10 = .ok (.ireturn, 1) := by decide +kernel
theorem d18_0 : decode jdk_68_method_71_code 0 = .ok (.getstatic 18, 3) := by decide +kernel
theorem w47 {Z : State} {a0 : Array Value} (hw : ∀ d ∈ tables_1, d.before a0 Z = true) : (Jvm.Cond.fieldLink "java/lang/AbstractStringBuilder" (18 : Nat) "java/lang/String" "COMPACT_STRINGS" "Z").before a0 Z = true := hw _ (List.mem_of_getElem? (i := 47) rfl)
theorem d18_3 : decode jdk_68_method_71_code 3 = .ok (.ifCond .eq 18, 3) := by decide +kernel
theorem d18_6 : decode jdk_68_method_71_code 6 = .ok (.aload_n 0, 1) := by decide +kernel
theorem d18_7 : decode jdk_68_method_71_code 7 = .ok (.getfield 22, 3) := by decide +kernel
theorem d18_10 : decode jdk_68_method_71_code 10 = .ok (.aload_n 1, 1) := by decide +kernel
theorem d18_11 : decode jdk_68_method_71_code 11 = .ok (.invokevirtual 40, 3) := by decide +kernel
theorem w119 {Z : State} {a0 : Array Value} (hw : ∀ d ∈ tables_1, d.before a0 Z = true) : (Jvm.Cond.methodLink "java/lang/AbstractStringBuilder" (40 : Nat) ({ cls := "java/lang/String", name := "coder", desc := "()B" } : Jvm.MethodName)).before a0 Z = true := hw _ (List.mem_of_getElem? (i := 119) rfl)
theorem d18_14 : decode jdk_68_method_71_code 14 = .ok (.if_icmp .eq 7, 3) := by decide +kernel
theorem d18_21 : decode jdk_68_method_71_code 21 = .ok (.return_, 1) := by decide +kernel
theorem d19_0 : decode jdk_42_method_147_code 0 = .ok (.aload_n 0, 1) := by decide +kernel
theorem d19_1 : decode jdk_42_method_147_code 1 = .ok (.invokevirtual 335, 3) := by decide +kernel
theorem d19_4 : decode jdk_42_method_147_code 4 = .ok (.iload_n 3, 1) := by decide +kernel
theorem d19_5 : decode jdk_42_method_147_code 5 = .ok (.if_icmp .ne 23, 3) := by decide +kernel
theorem d19_8 : decode jdk_42_method_147_code 8 = .ok (.aload_n 0, 1) := by decide +kernel
theorem d19_9 : decode jdk_42_method_147_code 9 = .ok (.getfield 9, 3) := by decide +kernel
theorem d19_12 : decode jdk_42_method_147_code 12 = .ok (.iconst 0, 1) := by decide +kernel
theorem d19_13 : decode jdk_42_method_147_code 13 = .ok (.aload_n 1, 1) := by decide +kernel
theorem d19_14 : decode jdk_42_method_147_code 14 = .ok (.iload_n 2, 1) := by decide +kernel
theorem d19_15 : decode jdk_42_method_147_code 15 = .ok (.iload_n 3, 1) := by decide +kernel
theorem d19_16 : decode jdk_42_method_147_code 16 = .ok (.ishl, 1) := by decide +kernel
theorem d19_17 : decode jdk_42_method_147_code 17 = .ok (.aload_n 0, 1) := by decide +kernel
theorem d19_18 : decode jdk_42_method_147_code 18 = .ok (.getfield 9, 3) := by decide +kernel
theorem d19_21 : decode jdk_42_method_147_code 21 = .ok (.arraylength, 1) := by decide +kernel
theorem d19_22 : decode jdk_42_method_147_code 22 = .ok (.invokestatic 212, 3) := by decide +kernel
theorem w125 {Z : State} {a0 : Array Value} (hw : ∀ d ∈ tables_1, d.before a0 Z = true) : (Jvm.Cond.methodLink "java/lang/String" (212 : Nat) ({ cls := "java/lang/System", name := "arraycopy", desc := "(Ljava/lang/Object;ILjava/lang/Object;II)V" } : Jvm.MethodName)).before a0 Z = true := hw _ (List.mem_of_getElem? (i := 125) rfl)
theorem d19_25 : decode jdk_42_method_147_code 25 = .ok (.goto 18, 3) := by decide +kernel
theorem d19_43 : decode jdk_42_method_147_code 43 = .ok (.return_, 1) := by decide +kernel
theorem d17_0 : decode jdk_68_method_73_code 0 = .ok (.aload_n 0, 1) := by decide +kernel
theorem d17_1 : decode jdk_68_method_73_code 1 = .ok (.aload_n 2, 1) := by decide +kernel
theorem d17_2 : decode jdk_68_method_73_code 2 = .ok (.invokevirtual 397, 3) := by decide +kernel
theorem w114 {Z : State} {a0 : Array Value} (hw : ∀ d ∈ tables_1, d.before a0 Z = true) : (Jvm.Cond.methodLink "java/lang/AbstractStringBuilder" (397 : Nat) ({ cls := "java/lang/AbstractStringBuilder", name := "inflateIfNeededFor", desc := "(Ljava/lang/String;)V" } : Jvm.MethodName)).before a0 Z = true := hw _ (List.mem_of_getElem? (i := 114) rfl)
theorem w118 {Z : State} {a0 : Array Value} (hw : ∀ d ∈ tables_1, d.before a0 Z = true) : (Jvm.Cond.code ({ cls := "java/lang/AbstractStringBuilder", name := "inflateIfNeededFor", desc := "(Ljava/lang/String;)V" } : Jvm.MethodName) jdk_68_method_71_code (2 : Nat) (Option.none : Option Jvm.ClassFile.FieldType)).before a0 Z = true := hw _ (List.mem_of_getElem? (i := 118) rfl)
theorem pd_150 : parseMethodDescriptor "(Ljava/lang/String;)V" = some ⟨[(.object "java/lang/String")], none⟩ := by decide +kernel
theorem w117 {Z : State} {a0 : Array Value} (hw : ∀ d ∈ tables_1, d.before a0 Z = true) : (Jvm.Cond.selects "java/lang/StringBuilder" ({ cls := "java/lang/AbstractStringBuilder", name := "inflateIfNeededFor", desc := "(Ljava/lang/String;)V" } : Jvm.MethodName) ({ cls := "java/lang/AbstractStringBuilder", name := "inflateIfNeededFor", desc := "(Ljava/lang/String;)V" } : Jvm.MethodName)).before a0 Z = true := hw _ (List.mem_of_getElem? (i := 117) rfl)
theorem w115 {Z : State} {a0 : Array Value} (hw : ∀ d ∈ tables_1, d.before a0 Z = true) : (Jvm.Cond.instanceMethod ({ cls := "java/lang/AbstractStringBuilder", name := "inflateIfNeededFor", desc := "(Ljava/lang/String;)V" } : Jvm.MethodName)).before a0 Z = true := hw _ (List.mem_of_getElem? (i := 115) rfl)
theorem w116 {Z : State} {a0 : Array Value} (hw : ∀ d ∈ tables_1, d.before a0 Z = true) : (Jvm.Cond.privateMethod ({ cls := "java/lang/AbstractStringBuilder", name := "inflateIfNeededFor", desc := "(Ljava/lang/String;)V" } : Jvm.MethodName)).before a0 Z = true := hw _ (List.mem_of_getElem? (i := 116) rfl)
theorem d17_5 : decode jdk_68_method_73_code 5 = .ok (.aload_n 2, 1) := by decide +kernel
theorem d17_6 : decode jdk_68_method_73_code 6 = .ok (.aload_n 0, 1) := by decide +kernel
theorem d17_7 : decode jdk_68_method_73_code 7 = .ok (.getfield 15, 3) := by decide +kernel
theorem d17_10 : decode jdk_68_method_73_code 10 = .ok (.iload_n 1, 1) := by decide +kernel
theorem d17_11 : decode jdk_68_method_73_code 11 = .ok (.aload_n 0, 1) := by decide +kernel
theorem d17_12 : decode jdk_68_method_73_code 12 = .ok (.getfield 22, 3) := by decide +kernel
theorem d17_15 : decode jdk_68_method_73_code 15 = .ok (.invokevirtual 399, 3) := by decide +kernel
theorem w120 {Z : State} {a0 : Array Value} (hw : ∀ d ∈ tables_1, d.before a0 Z = true) : (Jvm.Cond.methodLink "java/lang/AbstractStringBuilder" (399 : Nat) ({ cls := "java/lang/String", name := "getBytes", desc := "([BIB)V" } : Jvm.MethodName)).before a0 Z = true := hw _ (List.mem_of_getElem? (i := 120) rfl)
theorem w124 {Z : State} {a0 : Array Value} (hw : ∀ d ∈ tables_1, d.before a0 Z = true) : (Jvm.Cond.code ({ cls := "java/lang/String", name := "getBytes", desc := "([BIB)V" } : Jvm.MethodName) jdk_42_method_147_code (4 : Nat) (Option.none : Option Jvm.ClassFile.FieldType)).before a0 Z = true := hw _ (List.mem_of_getElem? (i := 124) rfl)
theorem pd_158 : parseMethodDescriptor "([BIB)V" = some ⟨[(.array .byte), .int, .byte], none⟩ := by decide +kernel
theorem w121 {Z : State} {a0 : Array Value} (hw : ∀ d ∈ tables_1, d.before a0 Z = true) : (Jvm.Cond.declares ({ cls := "java/lang/String", name := "getBytes", desc := "([BIB)V" } : Jvm.MethodName)).before a0 Z = true := hw _ (List.mem_of_getElem? (i := 121) rfl)
theorem w123 {Z : State} {a0 : Array Value} (hw : ∀ d ∈ tables_1, d.before a0 Z = true) : (Jvm.Cond.selects "java/lang/String" ({ cls := "java/lang/String", name := "getBytes", desc := "([BIB)V" } : Jvm.MethodName) ({ cls := "java/lang/String", name := "getBytes", desc := "([BIB)V" } : Jvm.MethodName)).before a0 Z = true := hw _ (List.mem_of_getElem? (i := 123) rfl)
theorem w122 {Z : State} {a0 : Array Value} (hw : ∀ d ∈ tables_1, d.before a0 Z = true) : (Jvm.Cond.instanceMethod ({ cls := "java/lang/String", name := "getBytes", desc := "([BIB)V" } : Jvm.MethodName)).before a0 Z = true := hw _ (List.mem_of_getElem? (i := 122) rfl)
theorem d17_18 : decode jdk_68_method_73_code 18 = .ok (.return_, 1) := by decide +kernel
theorem own_put {cs ls : List Int32} {n : Nat} (h : n + ls.length ≤ cs.length) : (cs.take n ++ ls ++ cs.drop (n + ls.length)).length = cs.length ∧ (cs.take n ++ ls ++ cs.drop (n + ls.length)).take (n + ls.length) = cs.take n ++ ls := by
  refine ⟨by simp; omega, ?_⟩
  rw [List.take_append_of_le_length (by simp; omega), List.take_of_length_le (by simp; omega)]
theorem own_kp {h0 h : Heap} {b v v0 : Addr} (K : Keep h0 h [b, v]) (q : v = v0 ∨ h0.size ≤ v) : Keep h0 h [b, v0] := by
  rcases q with rfl | q
  · exact K
  · refine ⟨K.1, fun x c hx hn => K.2.1 x c hx fun z => ?_, K.2.2⟩
    rcases List.mem_cons.mp z with z | z
    · exact hn (by rw [z]; exact List.mem_cons_self ..)
    · rw [List.mem_singleton.mp z] at hx
      exact absurd (Array.getElem?_eq_some_iff.mp hx).1 (Nat.not_lt.mpr q)
theorem d8_0 : decode jdk_68_method_22_code 0 = .ok (.aload_n 1, 1) := by decide +kernel
theorem d8_1 : decode jdk_68_method_22_code 1 = .ok (.ifnonnull 8, 3) := by decide +kernel
theorem d8_9 : decode jdk_68_method_22_code 9 = .ok (.aload_n 1, 1) := by decide +kernel
theorem d8_10 : decode jdk_68_method_22_code 10 = .ok (.invokevirtual 32, 3) := by decide +kernel
theorem w63 {Z : State} {a0 : Array Value} (hw : ∀ d ∈ tables_1, d.before a0 Z = true) : (Jvm.Cond.methodLink "java/lang/AbstractStringBuilder" (32 : Nat) ({ cls := "java/lang/String", name := "length", desc := "()I" } : Jvm.MethodName)).before a0 Z = true := hw _ (List.mem_of_getElem? (i := 63) rfl)
theorem w67 {Z : State} {a0 : Array Value} (hw : ∀ d ∈ tables_1, d.before a0 Z = true) : (Jvm.Cond.code ({ cls := "java/lang/String", name := "length", desc := "()I" } : Jvm.MethodName) jdk_42_method_54_code (1 : Nat) (Option.some Jvm.ClassFile.FieldType.int)).before a0 Z = true := hw _ (List.mem_of_getElem? (i := 67) rfl)
theorem pd_164 : parseMethodDescriptor "()I" = some ⟨[], some .int⟩ := by decide +kernel
theorem w64 {Z : State} {a0 : Array Value} (hw : ∀ d ∈ tables_1, d.before a0 Z = true) : (Jvm.Cond.declares ({ cls := "java/lang/String", name := "length", desc := "()I" } : Jvm.MethodName)).before a0 Z = true := hw _ (List.mem_of_getElem? (i := 64) rfl)
theorem w66 {Z : State} {a0 : Array Value} (hw : ∀ d ∈ tables_1, d.before a0 Z = true) : (Jvm.Cond.selects "java/lang/String" ({ cls := "java/lang/String", name := "length", desc := "()I" } : Jvm.MethodName) ({ cls := "java/lang/String", name := "length", desc := "()I" } : Jvm.MethodName)).before a0 Z = true := hw _ (List.mem_of_getElem? (i := 66) rfl)
theorem w65 {Z : State} {a0 : Array Value} (hw : ∀ d ∈ tables_1, d.before a0 Z = true) : (Jvm.Cond.instanceMethod ({ cls := "java/lang/String", name := "length", desc := "()I" } : Jvm.MethodName)).before a0 Z = true := hw _ (List.mem_of_getElem? (i := 65) rfl)
theorem d8_13 : decode jdk_68_method_22_code 13 = .ok (.istore_n 2, 1) := by decide +kernel
theorem d8_14 : decode jdk_68_method_22_code 14 = .ok (.aload_n 0, 1) := by decide +kernel
theorem d8_15 : decode jdk_68_method_22_code 15 = .ok (.aload_n 0, 1) := by decide +kernel
theorem d8_16 : decode jdk_68_method_22_code 16 = .ok (.getfield 79, 3) := by decide +kernel
theorem w76 {Z : State} {a0 : Array Value} (hw : ∀ d ∈ tables_1, d.before a0 Z = true) : (Jvm.Cond.fieldLink "java/lang/AbstractStringBuilder" (79 : Nat) "java/lang/AbstractStringBuilder" "count" "I").before a0 Z = true := hw _ (List.mem_of_getElem? (i := 76) rfl)
theorem d8_19 : decode jdk_68_method_22_code 19 = .ok (.iload_n 2, 1) := by decide +kernel
theorem d8_20 : decode jdk_68_method_22_code 20 = .ok (.iadd, 1) := by decide +kernel
theorem d8_21 : decode jdk_68_method_22_code 21 = .ok (.invokevirtual 100, 3) := by decide +kernel
theorem w78 {Z : State} {a0 : Array Value} (hw : ∀ d ∈ tables_1, d.before a0 Z = true) : (Jvm.Cond.methodLink "java/lang/AbstractStringBuilder" (100 : Nat) ({ cls := "java/lang/AbstractStringBuilder", name := "ensureCapacityInternal", desc := "(I)V" } : Jvm.MethodName)).before a0 Z = true := hw _ (List.mem_of_getElem? (i := 78) rfl)
theorem w82 {Z : State} {a0 : Array Value} (hw : ∀ d ∈ tables_1, d.before a0 Z = true) : (Jvm.Cond.code ({ cls := "java/lang/AbstractStringBuilder", name := "ensureCapacityInternal", desc := "(I)V" } : Jvm.MethodName) jdk_68_method_9_code (3 : Nat) (Option.none : Option Jvm.ClassFile.FieldType)).before a0 Z = true := hw _ (List.mem_of_getElem? (i := 82) rfl)
theorem pd_172 : parseMethodDescriptor "(I)V" = some ⟨[.int], none⟩ := by decide +kernel
theorem w81 {Z : State} {a0 : Array Value} (hw : ∀ d ∈ tables_1, d.before a0 Z = true) : (Jvm.Cond.selects "java/lang/StringBuilder" ({ cls := "java/lang/AbstractStringBuilder", name := "ensureCapacityInternal", desc := "(I)V" } : Jvm.MethodName) ({ cls := "java/lang/AbstractStringBuilder", name := "ensureCapacityInternal", desc := "(I)V" } : Jvm.MethodName)).before a0 Z = true := hw _ (List.mem_of_getElem? (i := 81) rfl)
theorem w79 {Z : State} {a0 : Array Value} (hw : ∀ d ∈ tables_1, d.before a0 Z = true) : (Jvm.Cond.instanceMethod ({ cls := "java/lang/AbstractStringBuilder", name := "ensureCapacityInternal", desc := "(I)V" } : Jvm.MethodName)).before a0 Z = true := hw _ (List.mem_of_getElem? (i := 79) rfl)
theorem w80 {Z : State} {a0 : Array Value} (hw : ∀ d ∈ tables_1, d.before a0 Z = true) : (Jvm.Cond.privateMethod ({ cls := "java/lang/AbstractStringBuilder", name := "ensureCapacityInternal", desc := "(I)V" } : Jvm.MethodName)).before a0 Z = true := hw _ (List.mem_of_getElem? (i := 80) rfl)
theorem d8_24 : decode jdk_68_method_22_code 24 = .ok (.aload_n 0, 1) := by decide +kernel
theorem d8_25 : decode jdk_68_method_22_code 25 = .ok (.aload_n 0, 1) := by decide +kernel
theorem d8_26 : decode jdk_68_method_22_code 26 = .ok (.getfield 79, 3) := by decide +kernel
theorem d8_29 : decode jdk_68_method_22_code 29 = .ok (.aload_n 1, 1) := by decide +kernel
theorem d8_30 : decode jdk_68_method_22_code 30 = .ok (.invokevirtual 208, 3) := by decide +kernel
theorem w109 {Z : State} {a0 : Array Value} (hw : ∀ d ∈ tables_1, d.before a0 Z = true) : (Jvm.Cond.methodLink "java/lang/AbstractStringBuilder" (208 : Nat) ({ cls := "java/lang/AbstractStringBuilder", name := "putStringAt", desc := "(ILjava/lang/String;)V" } : Jvm.MethodName)).before a0 Z = true := hw _ (List.mem_of_getElem? (i := 109) rfl)
theorem w113 {Z : State} {a0 : Array Value} (hw : ∀ d ∈ tables_1, d.before a0 Z = true) : (Jvm.Cond.code ({ cls := "java/lang/AbstractStringBuilder", name := "putStringAt", desc := "(ILjava/lang/String;)V" } : Jvm.MethodName) jdk_68_method_73_code (3 : Nat) (Option.none : Option Jvm.ClassFile.FieldType)).before a0 Z = true := hw _ (List.mem_of_getElem? (i := 113) rfl)
theorem pd_178 : parseMethodDescriptor "(ILjava/lang/String;)V" = some ⟨[.int, (.object "java/lang/String")], none⟩ := by decide +kernel
theorem w112 {Z : State} {a0 : Array Value} (hw : ∀ d ∈ tables_1, d.before a0 Z = true) : (Jvm.Cond.selects "java/lang/StringBuilder" ({ cls := "java/lang/AbstractStringBuilder", name := "putStringAt", desc := "(ILjava/lang/String;)V" } : Jvm.MethodName) ({ cls := "java/lang/AbstractStringBuilder", name := "putStringAt", desc := "(ILjava/lang/String;)V" } : Jvm.MethodName)).before a0 Z = true := hw _ (List.mem_of_getElem? (i := 112) rfl)
theorem w110 {Z : State} {a0 : Array Value} (hw : ∀ d ∈ tables_1, d.before a0 Z = true) : (Jvm.Cond.instanceMethod ({ cls := "java/lang/AbstractStringBuilder", name := "putStringAt", desc := "(ILjava/lang/String;)V" } : Jvm.MethodName)).before a0 Z = true := hw _ (List.mem_of_getElem? (i := 110) rfl)
theorem w111 {Z : State} {a0 : Array Value} (hw : ∀ d ∈ tables_1, d.before a0 Z = true) : (Jvm.Cond.privateMethod ({ cls := "java/lang/AbstractStringBuilder", name := "putStringAt", desc := "(ILjava/lang/String;)V" } : Jvm.MethodName)).before a0 Z = true := hw _ (List.mem_of_getElem? (i := 111) rfl)
theorem d8_33 : decode jdk_68_method_22_code 33 = .ok (.aload_n 0, 1) := by decide +kernel
theorem d8_34 : decode jdk_68_method_22_code 34 = .ok (.dup, 1) := by decide +kernel
theorem d8_35 : decode jdk_68_method_22_code 35 = .ok (.getfield 79, 3) := by decide +kernel
theorem d8_38 : decode jdk_68_method_22_code 38 = .ok (.iload_n 2, 1) := by decide +kernel
theorem d8_39 : decode jdk_68_method_22_code 39 = .ok (.iadd, 1) := by decide +kernel
theorem d8_40 : decode jdk_68_method_22_code 40 = .ok (.putfield 79, 3) := by decide +kernel
theorem d8_43 : decode jdk_68_method_22_code 43 = .ok (.aload_n 0, 1) := by decide +kernel
theorem d8_44 : decode jdk_68_method_22_code 44 = .ok (.areturn, 1) := by decide +kernel
theorem d7_0 : decode jdk_67_method_7_code 0 = .ok (.aload_n 0, 1) := by decide +kernel
theorem d7_1 : decode jdk_67_method_7_code 1 = .ok (.aload_n 1, 1) := by decide +kernel
theorem d7_2 : decode jdk_67_method_7_code 2 = .ok (.invokespecial 29, 3) := by decide +kernel
theorem w58 {Z : State} {a0 : Array Value} (hw : ∀ d ∈ tables_1, d.before a0 Z = true) : (Jvm.Cond.methodLink "java/lang/StringBuilder" (29 : Nat) ({ cls := "java/lang/AbstractStringBuilder", name := "append", desc := "(Ljava/lang/String;)Ljava/lang/AbstractStringBuilder;" } : Jvm.MethodName)).before a0 Z = true := hw _ (List.mem_of_getElem? (i := 58) rfl)
theorem w59 {Z : State} {a0 : Array Value} (hw : ∀ d ∈ tables_1, d.before a0 Z = true) : (Jvm.Cond.instanceMethod ({ cls := "java/lang/AbstractStringBuilder", name := "append", desc := "(Ljava/lang/String;)Ljava/lang/AbstractStringBuilder;" } : Jvm.MethodName)).before a0 Z = true := hw _ (List.mem_of_getElem? (i := 59) rfl)
theorem w60 {Z : State} {a0 : Array Value} (hw : ∀ d ∈ tables_1, d.before a0 Z = true) : (Jvm.Cond.superclass "java/lang/StringBuilder" "java/lang/AbstractStringBuilder").before a0 Z = true := hw _ (List.mem_of_getElem? (i := 60) rfl)
theorem w143 {Z : State} {a0 : Array Value} (hw : ∀ d ∈ tables_1, d.before a0 Z = true) : (Jvm.Cond.selects "java/lang/StringBuilder" ({ cls := "java/lang/AbstractStringBuilder", name := "isLatin1", desc := "()Z" } : Jvm.MethodName) ({ cls := "java/lang/AbstractStringBuilder", name := "isLatin1", desc := "()Z" } : Jvm.MethodName)).before a0 Z = true := hw _ (List.mem_of_getElem? (i := 143) rfl)
theorem w62 {Z : State} {a0 : Array Value} (hw : ∀ d ∈ tables_1, d.before a0 Z = true) : (Jvm.Cond.code ({ cls := "java/lang/AbstractStringBuilder", name := "append", desc := "(Ljava/lang/String;)Ljava/lang/AbstractStringBuilder;" } : Jvm.MethodName) jdk_68_method_22_code (3 : Nat) (Option.some (Jvm.ClassFile.FieldType.object "java/lang/AbstractStringBuilder"))).before a0 Z = true := hw _ (List.mem_of_getElem? (i := 62) rfl)
theorem pd_190 : parseMethodDescriptor "(Ljava/lang/String;)Ljava/lang/AbstractStringBuilder;" = some ⟨[(.object "java/lang/String")], some (.object "java/lang/AbstractStringBuilder")⟩ := by decide +kernel
theorem d7_5 : decode jdk_67_method_7_code 5 = .ok (.pop, 1) := by decide +kernel
theorem d7_6 : decode jdk_67_method_7_code 6 = .ok (.aload_n 0, 1) := by decide +kernel
theorem d7_7 : decode jdk_67_method_7_code 7 = .ok (.areturn, 1) := by decide +kernel
theorem pn_194 : plainName "java/lang/StringBuilder" = true := by first | (simp [plainName, overriddenIn]; done) | decide +kernel
theorem d6_0 : decode jdk_68_method_2_code 0 = .ok (.aload_n 0, 1) := by decide +kernel
theorem d6_1 : decode jdk_68_method_2_code 1 = .ok (.invokespecial 3, 3) := by decide +kernel
theorem w46 {Z : State} {a0 : Array Value} (hw : ∀ d ∈ tables_1, d.before a0 Z = true) : (Jvm.Cond.methodLink "java/lang/AbstractStringBuilder" (3 : Nat) ({ cls := "java/lang/Object", name := "<init>", desc := "()V" } : Jvm.MethodName)).before a0 Z = true := hw _ (List.mem_of_getElem? (i := 46) rfl)
theorem w13 {Z : State} {a0 : Array Value} (hw : ∀ d ∈ tables_1, d.before a0 Z = true) : (Jvm.Cond.instanceMethod ({ cls := "java/lang/Object", name := "<init>", desc := "()V" } : Jvm.MethodName)).before a0 Z = true := hw _ (List.mem_of_getElem? (i := 13) rfl)
theorem w14 {Z : State} {a0 : Array Value} (hw : ∀ d ∈ tables_1, d.before a0 Z = true) : (Jvm.Cond.code ({ cls := "java/lang/Object", name := "<init>", desc := "()V" } : Jvm.MethodName) object_method_1_code (1 : Nat) (Option.none : Option Jvm.ClassFile.FieldType)).before a0 Z = true := hw _ (List.mem_of_getElem? (i := 14) rfl)
theorem d6_4 : decode jdk_68_method_2_code 4 = .ok (.getstatic 18, 3) := by decide +kernel
theorem d6_7 : decode jdk_68_method_2_code 7 = .ok (.ifCond .eq 18, 3) := by decide +kernel
theorem d6_10 : decode jdk_68_method_2_code 10 = .ok (.aload_n 0, 1) := by decide +kernel
theorem d6_11 : decode jdk_68_method_2_code 11 = .ok (.iload_n 1, 1) := by decide +kernel
theorem d6_12 : decode jdk_68_method_2_code 12 = .ok (.newarray .byte, 2) := by decide +kernel
theorem d6_14 : decode jdk_68_method_2_code 14 = .ok (.putfield 15, 3) := by decide +kernel
theorem d6_17 : decode jdk_68_method_2_code 17 = .ok (.aload_n 0, 1) := by decide +kernel
theorem d6_18 : decode jdk_68_method_2_code 18 = .ok (.iconst 0, 1) := by decide +kernel
theorem d6_19 : decode jdk_68_method_2_code 19 = .ok (.putfield 22, 3) := by decide +kernel
theorem d6_22 : decode jdk_68_method_2_code 22 = .ok (.goto 16, 3) := by decide +kernel
theorem d6_38 : decode jdk_68_method_2_code 38 = .ok (.return_, 1) := by decide +kernel
theorem d5_0 : decode jdk_67_method_1_code 0 = .ok (.aload_n 0, 1) := by decide +kernel
theorem d5_1 : decode jdk_67_method_1_code 1 = .ok (.bipush 16, 2) := by decide +kernel
theorem d5_3 : decode jdk_67_method_1_code 3 = .ok (.invokespecial 1, 3) := by decide +kernel
theorem w40 {Z : State} {a0 : Array Value} (hw : ∀ d ∈ tables_1, d.before a0 Z = true) : (Jvm.Cond.methodLink "java/lang/StringBuilder" (1 : Nat) ({ cls := "java/lang/AbstractStringBuilder", name := "<init>", desc := "(I)V" } : Jvm.MethodName)).before a0 Z = true := hw _ (List.mem_of_getElem? (i := 40) rfl)
theorem w45 {Z : State} {a0 : Array Value} (hw : ∀ d ∈ tables_1, d.before a0 Z = true) : (Jvm.Cond.code ({ cls := "java/lang/AbstractStringBuilder", name := "<init>", desc := "(I)V" } : Jvm.MethodName) jdk_68_method_2_code (2 : Nat) (Option.none : Option Jvm.ClassFile.FieldType)).before a0 Z = true := hw _ (List.mem_of_getElem? (i := 45) rfl)
theorem w41 {Z : State} {a0 : Array Value} (hw : ∀ d ∈ tables_1, d.before a0 Z = true) : (Jvm.Cond.instanceMethod ({ cls := "java/lang/AbstractStringBuilder", name := "<init>", desc := "(I)V" } : Jvm.MethodName)).before a0 Z = true := hw _ (List.mem_of_getElem? (i := 41) rfl)
theorem d5_6 : decode jdk_67_method_1_code 6 = .ok (.return_, 1) := by decide +kernel
theorem d23_0 : decode jdk_68_method_68_code 0 = .ok (.getstatic 18, 3) := by decide +kernel
theorem d23_3 : decode jdk_68_method_68_code 3 = .ok (.ifCond .eq 14, 3) := by decide +kernel
theorem d23_6 : decode jdk_68_method_68_code 6 = .ok (.aload_n 0, 1) := by decide +kernel
theorem d23_7 : decode jdk_68_method_68_code 7 = .ok (.getfield 22, 3) := by decide +kernel
theorem d23_10 : decode jdk_68_method_68_code 10 = .ok (.ifCond .ne 7, 3) := by decide +kernel
theorem d23_13 : decode jdk_68_method_68_code 13 = .ok (.iconst 1, 1) := by decide +kernel
theorem d23_14 : decode jdk_68_method_68_code 14 = .ok (.goto 4, 3) := by decide +kernel
theorem d23_18 : decode jdk_68_method_68_code 18 = .ok (.ireturn, 1) := by decide +kernel
theorem d28_0 : decode jdk_68_method_64_code 0 = .ok (.aload_n 0, 1) := by decide +kernel
theorem d28_1 : decode jdk_68_method_64_code 1 = .ok (.getfield 15, 3) := by decide +kernel
theorem d28_4 : decode jdk_68_method_64_code 4 = .ok (.areturn, 1) := by decide +kernel
theorem d30_0 : decode jdk_68_method_6_code 0 = .ok (.aload_n 0, 1) := by decide +kernel
theorem d30_1 : decode jdk_68_method_6_code 1 = .ok (.getfield 79, 3) := by decide +kernel
theorem d30_4 : decode jdk_68_method_6_code 4 = .ok (.ireturn, 1) := by decide +kernel
theorem d29_0 : decode jdk_67_method_93_code 0 = .ok (.aload_n 0, 1) := by decide +kernel
theorem d29_1 : decode jdk_67_method_93_code 1 = .ok (.invokespecial 343, 3) := by decide +kernel
theorem w178 {Z : State} {a0 : Array Value} (hw : ∀ d ∈ tables_1, d.before a0 Z = true) : (Jvm.Cond.methodLink "java/lang/StringBuilder" (343 : Nat) ({ cls := "java/lang/AbstractStringBuilder", name := "length", desc := "()I" } : Jvm.MethodName)).before a0 Z = true := hw _ (List.mem_of_getElem? (i := 178) rfl)
theorem w174 {Z : State} {a0 : Array Value} (hw : ∀ d ∈ tables_1, d.before a0 Z = true) : (Jvm.Cond.instanceMethod ({ cls := "java/lang/AbstractStringBuilder", name := "length", desc := "()I" } : Jvm.MethodName)).before a0 Z = true := hw _ (List.mem_of_getElem? (i := 174) rfl)
theorem w179 {Z : State} {a0 : Array Value} (hw : ∀ d ∈ tables_1, d.before a0 Z = true) : (Jvm.Cond.code ({ cls := "java/lang/AbstractStringBuilder", name := "length", desc := "()I" } : Jvm.MethodName) jdk_68_method_6_code (1 : Nat) (Option.some Jvm.ClassFile.FieldType.int)).before a0 Z = true := hw _ (List.mem_of_getElem? (i := 179) rfl)
theorem d29_4 : decode jdk_67_method_93_code 4 = .ok (.ireturn, 1) := by decide +kernel
theorem d33_0 : decode jdk_65_method_131_code 0 = .ok (.iload_n 1, 1) := by decide +kernel
theorem d33_1 : decode jdk_65_method_131_code 1 = .ok (.iload_n 0, 1) := by decide +kernel
theorem d33_2 : decode jdk_65_method_131_code 2 = .ok (.if_icmp .ge 35, 3) := by decide +kernel
theorem d33_37 : decode jdk_65_method_131_code 37 = .ok (.return_, 1) := by decide +kernel
theorem d32_0 : decode jdk_65_method_133_code 0 = .ok (.iload_n 1, 1) := by decide +kernel
theorem d32_1 : decode jdk_65_method_133_code 1 = .ok (.iload_n 2, 1) := by decide +kernel
theorem d32_2 : decode jdk_65_method_133_code 2 = .ok (.invokestatic 343, 3) := by decide +kernel
theorem w187 {Z : State} {a0 : Array Value} (hw : ∀ d ∈ tables_1, d.before a0 Z = true) : (Jvm.Cond.methodLink "java/util/Arrays" (343 : Nat) ({ cls := "java/util/Arrays", name := "checkLength", desc := "(II)V" } : Jvm.MethodName)).before a0 Z = true := hw _ (List.mem_of_getElem? (i := 187) rfl)
theorem w189 {Z : State} {a0 : Array Value} (hw : ∀ d ∈ tables_1, d.before a0 Z = true) : (Jvm.Cond.code ({ cls := "java/util/Arrays", name := "checkLength", desc := "(II)V" } : Jvm.MethodName) jdk_65_method_131_code (2 : Nat) (Option.none : Option Jvm.ClassFile.FieldType)).before a0 Z = true := hw _ (List.mem_of_getElem? (i := 189) rfl)
theorem pd_236 : parseMethodDescriptor "(II)V" = some ⟨[.int, .int], none⟩ := by decide +kernel
theorem w188 {Z : State} {a0 : Array Value} (hw : ∀ d ∈ tables_1, d.before a0 Z = true) : (Jvm.Cond.static ({ cls := "java/util/Arrays", name := "checkLength", desc := "(II)V" } : Jvm.MethodName)).before a0 Z = true := hw _ (List.mem_of_getElem? (i := 188) rfl)
theorem d32_5 : decode jdk_65_method_133_code 5 = .ok (.iload_n 2, 1) := by decide +kernel
theorem d32_6 : decode jdk_65_method_133_code 6 = .ok (.iload_n 1, 1) := by decide +kernel
theorem d32_7 : decode jdk_65_method_133_code 7 = .ok (.isub, 1) := by decide +kernel
theorem d32_8 : decode jdk_65_method_133_code 8 = .ok (.istore_n 3, 1) := by decide +kernel
theorem d32_9 : decode jdk_65_method_133_code 9 = .ok (.iload_n 3, 1) := by decide +kernel
theorem d32_10 : decode jdk_65_method_133_code 10 = .ok (.newarray .byte, 2) := by decide +kernel
theorem d32_12 : decode jdk_65_method_133_code 12 = .ok (.astore 4, 2) := by decide +kernel
theorem d32_14 : decode jdk_65_method_133_code 14 = .ok (.aload_n 0, 1) := by decide +kernel
theorem d32_15 : decode jdk_65_method_133_code 15 = .ok (.iload_n 1, 1) := by decide +kernel
theorem d32_16 : decode jdk_65_method_133_code 16 = .ok (.aload 4, 2) := by decide +kernel
theorem d32_18 : decode jdk_65_method_133_code 18 = .ok (.iconst 0, 1) := by decide +kernel
theorem d32_19 : decode jdk_65_method_133_code 19 = .ok (.aload_n 0, 1) := by decide +kernel
theorem d32_20 : decode jdk_65_method_133_code 20 = .ok (.arraylength, 1) := by decide +kernel
theorem d32_21 : decode jdk_65_method_133_code 21 = .ok (.iload_n 1, 1) := by decide +kernel
theorem d32_22 : decode jdk_65_method_133_code 22 = .ok (.isub, 1) := by decide +kernel
theorem d32_23 : decode jdk_65_method_133_code 23 = .ok (.iload_n 3, 1) := by decide +kernel
theorem d32_24 : decode jdk_65_method_133_code 24 = .ok (.invokestatic 304, 3) := by decide +kernel
theorem d32_27 : decode jdk_65_method_133_code 27 = .ok (.invokestatic 150, 3) := by decide +kernel
theorem d32_30 : decode jdk_65_method_133_code 30 = .ok (.aload 4, 2) := by decide +kernel
theorem d32_32 : decode jdk_65_method_133_code 32 = .ok (.areturn, 1) := by decide +kernel
theorem d31_0 : decode jdk_65_method_132_code 0 = .ok (.iload_n 1, 1) := by decide +kernel
theorem d31_1 : decode jdk_65_method_132_code 1 = .ok (.ifCond .ne 9, 3) := by decide +kernel
theorem d31_4 : decode jdk_65_method_132_code 4 = .ok (.iload_n 2, 1) := by decide +kernel
theorem d31_5 : decode jdk_65_method_132_code 5 = .ok (.aload_n 0, 1) := by decide +kernel
theorem d31_6 : decode jdk_65_method_132_code 6 = .ok (.arraylength, 1) := by decide +kernel
theorem d31_7 : decode jdk_65_method_132_code 7 = .ok (.if_icmp .eq 10, 3) := by decide +kernel
theorem d31_17 : decode jdk_65_method_132_code 17 = .ok (.aload_n 0, 1) := by decide +kernel
theorem d31_18 : decode jdk_65_method_132_code 18 = .ok (.invokevirtual 310, 3) := by decide +kernel
theorem w277 {Z : State} {a0 : Array Value} (hw : ∀ d ∈ tables_1, d.before a0 Z = true) : (Jvm.Cond.methodLink "java/util/Arrays" (310 : Nat) ({ cls := "[B", name := "clone", desc := "()Ljava/lang/Object;" } : Jvm.MethodName)).before a0 Z = true := hw _ (List.mem_of_getElem? (i := 277) rfl)
theorem w278 {Z : State} {a0 : Array Value} (hw : ∀ d ∈ tables_1, d.before a0 Z = true) : (Jvm.Cond.sameMethod "[B" "java/lang/Object" "clone" "()Ljava/lang/Object;").before a0 Z = true := hw _ (List.mem_of_getElem? (i := 278) rfl)
theorem w282 {Z : State} {a0 : Array Value} (hw : ∀ d ∈ tables_1, d.before a0 Z = true) : (Jvm.Cond.native ({ cls := "java/lang/Object", name := "clone", desc := "()Ljava/lang/Object;" } : Jvm.MethodName)).before a0 Z = true := hw _ (List.mem_of_getElem? (i := 282) rfl)
theorem w280 {Z : State} {a0 : Array Value} (hw : ∀ d ∈ tables_1, d.before a0 Z = true) : (Jvm.Cond.instanceMethod ({ cls := "java/lang/Object", name := "clone", desc := "()Ljava/lang/Object;" } : Jvm.MethodName)).before a0 Z = true := hw _ (List.mem_of_getElem? (i := 280) rfl)
theorem w281 {Z : State} {a0 : Array Value} (hw : ∀ d ∈ tables_1, d.before a0 Z = true) : (Jvm.Cond.selects "[B" ({ cls := "[B", name := "clone", desc := "()Ljava/lang/Object;" } : Jvm.MethodName) ({ cls := "java/lang/Object", name := "clone", desc := "()Ljava/lang/Object;" } : Jvm.MethodName)).before a0 Z = true := hw _ (List.mem_of_getElem? (i := 281) rfl)
theorem w283 {Z : State} {a0 : Array Value} (hw : ∀ d ∈ tables_1, d.before a0 Z = true) : (Jvm.Cond.castable "[B" "java/lang/Cloneable").before a0 Z = true := hw _ (List.mem_of_getElem? (i := 283) rfl)
theorem d31_21 : decode jdk_65_method_132_code 21 = .ok (.checkcast 311, 3) := by decide +kernel
theorem w284 {Z : State} {a0 : Array Value} (hw : ∀ d ∈ tables_1, d.before a0 Z = true) : (Jvm.Cond.classLink "java/util/Arrays" (311 : Nat) "[B").before a0 Z = true := hw _ (List.mem_of_getElem? (i := 284) rfl)
theorem d31_24 : decode jdk_65_method_132_code 24 = .ok (.areturn, 1) := by decide +kernel
theorem d31_10 : decode jdk_65_method_132_code 10 = .ok (.aload_n 0, 1) := by decide +kernel
theorem d31_11 : decode jdk_65_method_132_code 11 = .ok (.iload_n 1, 1) := by decide +kernel
theorem d31_12 : decode jdk_65_method_132_code 12 = .ok (.iload_n 2, 1) := by decide +kernel
theorem d31_13 : decode jdk_65_method_132_code 13 = .ok (.invokestatic 339, 3) := by decide +kernel
theorem w184 {Z : State} {a0 : Array Value} (hw : ∀ d ∈ tables_1, d.before a0 Z = true) : (Jvm.Cond.methodLink "java/util/Arrays" (339 : Nat) ({ cls := "java/util/Arrays", name := "copyOfRangeByte", desc := "([BII)[B" } : Jvm.MethodName)).before a0 Z = true := hw _ (List.mem_of_getElem? (i := 184) rfl)
theorem w186 {Z : State} {a0 : Array Value} (hw : ∀ d ∈ tables_1, d.before a0 Z = true) : (Jvm.Cond.code ({ cls := "java/util/Arrays", name := "copyOfRangeByte", desc := "([BII)[B" } : Jvm.MethodName) jdk_65_method_133_code (5 : Nat) (Option.some (Jvm.ClassFile.FieldType.array Jvm.ClassFile.FieldType.byte))).before a0 Z = true := hw _ (List.mem_of_getElem? (i := 186) rfl)
theorem pd_271 : parseMethodDescriptor "([BII)[B" = some ⟨[(.array .byte), .int, .int], some (.array .byte)⟩ := by decide +kernel
theorem w185 {Z : State} {a0 : Array Value} (hw : ∀ d ∈ tables_1, d.before a0 Z = true) : (Jvm.Cond.static ({ cls := "java/util/Arrays", name := "copyOfRangeByte", desc := "([BII)[B" } : Jvm.MethodName)).before a0 Z = true := hw _ (List.mem_of_getElem? (i := 185) rfl)
theorem d31_16 : decode jdk_65_method_132_code 16 = .ok (.areturn, 1) := by decide +kernel
theorem d27_0 : decode jdk_42_method_150_code 0 = .ok (.aload_n 0, 1) := by decide +kernel
theorem d27_1 : decode jdk_42_method_150_code 1 = .ok (.invokespecial 1, 3) := by decide +kernel
theorem w166 {Z : State} {a0 : Array Value} (hw : ∀ d ∈ tables_1, d.before a0 Z = true) : (Jvm.Cond.methodLink "java/lang/String" (1 : Nat) ({ cls := "java/lang/Object", name := "<init>", desc := "()V" } : Jvm.MethodName)).before a0 Z = true := hw _ (List.mem_of_getElem? (i := 166) rfl)
theorem d27_4 : decode jdk_42_method_150_code 4 = .ok (.aload_n 1, 1) := by decide +kernel
theorem d27_5 : decode jdk_42_method_150_code 5 = .ok (.invokevirtual 552, 3) := by decide +kernel
theorem w167 {Z : State} {a0 : Array Value} (hw : ∀ d ∈ tables_1, d.before a0 Z = true) : (Jvm.Cond.methodLink "java/lang/String" (552 : Nat) ({ cls := "java/lang/AbstractStringBuilder", name := "getValue", desc := "()[B" } : Jvm.MethodName)).before a0 Z = true := hw _ (List.mem_of_getElem? (i := 167) rfl)
theorem w171 {Z : State} {a0 : Array Value} (hw : ∀ d ∈ tables_1, d.before a0 Z = true) : (Jvm.Cond.code ({ cls := "java/lang/AbstractStringBuilder", name := "getValue", desc := "()[B" } : Jvm.MethodName) jdk_68_method_64_code (1 : Nat) (Option.some (Jvm.ClassFile.FieldType.array Jvm.ClassFile.FieldType.byte))).before a0 Z = true := hw _ (List.mem_of_getElem? (i := 171) rfl)
theorem pd_277 : parseMethodDescriptor "()[B" = some ⟨[], some (.array .byte)⟩ := by decide +kernel
theorem w168 {Z : State} {a0 : Array Value} (hw : ∀ d ∈ tables_1, d.before a0 Z = true) : (Jvm.Cond.declares ({ cls := "java/lang/AbstractStringBuilder", name := "getValue", desc := "()[B" } : Jvm.MethodName)).before a0 Z = true := hw _ (List.mem_of_getElem? (i := 168) rfl)
theorem w170 {Z : State} {a0 : Array Value} (hw : ∀ d ∈ tables_1, d.before a0 Z = true) : (Jvm.Cond.selects "java/lang/StringBuilder" ({ cls := "java/lang/AbstractStringBuilder", name := "getValue", desc := "()[B" } : Jvm.MethodName) ({ cls := "java/lang/AbstractStringBuilder", name := "getValue", desc := "()[B" } : Jvm.MethodName)).before a0 Z = true := hw _ (List.mem_of_getElem? (i := 170) rfl)
theorem w169 {Z : State} {a0 : Array Value} (hw : ∀ d ∈ tables_1, d.before a0 Z = true) : (Jvm.Cond.instanceMethod ({ cls := "java/lang/AbstractStringBuilder", name := "getValue", desc := "()[B" } : Jvm.MethodName)).before a0 Z = true := hw _ (List.mem_of_getElem? (i := 169) rfl)
theorem d27_8 : decode jdk_42_method_150_code 8 = .ok (.astore_n 3, 1) := by decide +kernel
theorem d27_9 : decode jdk_42_method_150_code 9 = .ok (.aload_n 1, 1) := by decide +kernel
theorem d27_10 : decode jdk_42_method_150_code 10 = .ok (.invokevirtual 549, 3) := by decide +kernel
theorem w172 {Z : State} {a0 : Array Value} (hw : ∀ d ∈ tables_1, d.before a0 Z = true) : (Jvm.Cond.methodLink "java/lang/String" (549 : Nat) ({ cls := "java/lang/AbstractStringBuilder", name := "length", desc := "()I" } : Jvm.MethodName)).before a0 Z = true := hw _ (List.mem_of_getElem? (i := 172) rfl)
theorem w177 {Z : State} {a0 : Array Value} (hw : ∀ d ∈ tables_1, d.before a0 Z = true) : (Jvm.Cond.code ({ cls := "java/lang/StringBuilder", name := "length", desc := "()I" } : Jvm.MethodName) jdk_67_method_93_code (1 : Nat) (Option.some Jvm.ClassFile.FieldType.int)).before a0 Z = true := hw _ (List.mem_of_getElem? (i := 177) rfl)
theorem w36 {Z : State} {a0 : Array Value} (hw : ∀ d ∈ tables_1, d.before a0 Z = true) : (Jvm.Cond.initialized "java/lang/StringBuilder").before a0 Z = true := hw _ (List.mem_of_getElem? (i := 36) rfl)
theorem w173 {Z : State} {a0 : Array Value} (hw : ∀ d ∈ tables_1, d.before a0 Z = true) : (Jvm.Cond.declares ({ cls := "java/lang/AbstractStringBuilder", name := "length", desc := "()I" } : Jvm.MethodName)).before a0 Z = true := hw _ (List.mem_of_getElem? (i := 173) rfl)
theorem w175 {Z : State} {a0 : Array Value} (hw : ∀ d ∈ tables_1, d.before a0 Z = true) : (Jvm.Cond.selects "java/lang/StringBuilder" ({ cls := "java/lang/AbstractStringBuilder", name := "length", desc := "()I" } : Jvm.MethodName) ({ cls := "java/lang/StringBuilder", name := "length", desc := "()I" } : Jvm.MethodName)).before a0 Z = true := hw _ (List.mem_of_getElem? (i := 175) rfl)
theorem w176 {Z : State} {a0 : Array Value} (hw : ∀ d ∈ tables_1, d.before a0 Z = true) : (Jvm.Cond.instanceMethod ({ cls := "java/lang/StringBuilder", name := "length", desc := "()I" } : Jvm.MethodName)).before a0 Z = true := hw _ (List.mem_of_getElem? (i := 176) rfl)
theorem d27_13 : decode jdk_42_method_150_code 13 = .ok (.istore 4, 2) := by decide +kernel
theorem d27_15 : decode jdk_42_method_150_code 15 = .ok (.aload_n 1, 1) := by decide +kernel
theorem d27_16 : decode jdk_42_method_150_code 16 = .ok (.invokevirtual 1047, 3) := by decide +kernel
theorem w180 {Z : State} {a0 : Array Value} (hw : ∀ d ∈ tables_1, d.before a0 Z = true) : (Jvm.Cond.methodLink "java/lang/String" (1047 : Nat) ({ cls := "java/lang/AbstractStringBuilder", name := "isLatin1", desc := "()Z" } : Jvm.MethodName)).before a0 Z = true := hw _ (List.mem_of_getElem? (i := 180) rfl)
theorem w144 {Z : State} {a0 : Array Value} (hw : ∀ d ∈ tables_1, d.before a0 Z = true) : (Jvm.Cond.code ({ cls := "java/lang/AbstractStringBuilder", name := "isLatin1", desc := "()Z" } : Jvm.MethodName) jdk_68_method_68_code (1 : Nat) (Option.some Jvm.ClassFile.FieldType.boolean)).before a0 Z = true := hw _ (List.mem_of_getElem? (i := 144) rfl)
theorem pd_284 : parseMethodDescriptor "()Z" = some ⟨[], some .boolean⟩ := by decide +kernel
theorem w141 {Z : State} {a0 : Array Value} (hw : ∀ d ∈ tables_1, d.before a0 Z = true) : (Jvm.Cond.declares ({ cls := "java/lang/AbstractStringBuilder", name := "isLatin1", desc := "()Z" } : Jvm.MethodName)).before a0 Z = true := hw _ (List.mem_of_getElem? (i := 141) rfl)
theorem w142 {Z : State} {a0 : Array Value} (hw : ∀ d ∈ tables_1, d.before a0 Z = true) : (Jvm.Cond.instanceMethod ({ cls := "java/lang/AbstractStringBuilder", name := "isLatin1", desc := "()Z" } : Jvm.MethodName)).before a0 Z = true := hw _ (List.mem_of_getElem? (i := 142) rfl)
theorem d27_19 : decode jdk_42_method_150_code 19 = .ok (.ifCond .eq 22, 3) := by decide +kernel
theorem d27_22 : decode jdk_42_method_150_code 22 = .ok (.aload_n 0, 1) := by decide +kernel
theorem d27_23 : decode jdk_42_method_150_code 23 = .ok (.iconst 0, 1) := by decide +kernel
theorem d27_24 : decode jdk_42_method_150_code 24 = .ok (.putfield 15, 3) := by decide +kernel
theorem w31 {Z : State} {a0 : Array Value} (hw : ∀ d ∈ tables_1, d.before a0 Z = true) : (Jvm.Cond.laysFinal "java/lang/String" "java/lang/String" "coder" "B").before a0 Z = true := hw _ (List.mem_of_getElem? (i := 31) rfl)
theorem w28 {Z : State} {a0 : Array Value} (hw : ∀ d ∈ tables_1, d.before a0 Z = true) : (Jvm.Cond.instantiable "java/lang/String" (4 : Nat)).before a0 Z = true := hw _ (List.mem_of_getElem? (i := 28) rfl)
theorem d27_27 : decode jdk_42_method_150_code 27 = .ok (.aload_n 0, 1) := by decide +kernel
theorem d27_28 : decode jdk_42_method_150_code 28 = .ok (.aload_n 3, 1) := by decide +kernel
theorem d27_29 : decode jdk_42_method_150_code 29 = .ok (.iconst 0, 1) := by decide +kernel
theorem d27_30 : decode jdk_42_method_150_code 30 = .ok (.iload 4, 2) := by decide +kernel
theorem d27_32 : decode jdk_42_method_150_code 32 = .ok (.invokestatic 54, 3) := by decide +kernel
theorem w181 {Z : State} {a0 : Array Value} (hw : ∀ d ∈ tables_1, d.before a0 Z = true) : (Jvm.Cond.methodLink "java/lang/String" (54 : Nat) ({ cls := "java/util/Arrays", name := "copyOfRange", desc := "([BII)[B" } : Jvm.MethodName)).before a0 Z = true := hw _ (List.mem_of_getElem? (i := 181) rfl)
theorem w183 {Z : State} {a0 : Array Value} (hw : ∀ d ∈ tables_1, d.before a0 Z = true) : (Jvm.Cond.code ({ cls := "java/util/Arrays", name := "copyOfRange", desc := "([BII)[B" } : Jvm.MethodName) jdk_65_method_132_code (3 : Nat) (Option.some (Jvm.ClassFile.FieldType.array Jvm.ClassFile.FieldType.byte))).before a0 Z = true := hw _ (List.mem_of_getElem? (i := 183) rfl)
theorem w182 {Z : State} {a0 : Array Value} (hw : ∀ d ∈ tables_1, d.before a0 Z = true) : (Jvm.Cond.static ({ cls := "java/util/Arrays", name := "copyOfRange", desc := "([BII)[B" } : Jvm.MethodName)).before a0 Z = true := hw _ (List.mem_of_getElem? (i := 182) rfl)
theorem d27_35 : decode jdk_42_method_150_code 35 = .ok (.putfield 9, 3) := by decide +kernel
theorem w30 {Z : State} {a0 : Array Value} (hw : ∀ d ∈ tables_1, d.before a0 Z = true) : (Jvm.Cond.laysFinal "java/lang/String" "java/lang/String" "value" "[B").before a0 Z = true := hw _ (List.mem_of_getElem? (i := 30) rfl)
theorem d27_38 : decode jdk_42_method_150_code 38 = .ok (.goto 59, 3) := by decide +kernel
theorem d27_97 : decode jdk_42_method_150_code 97 = .ok (.return_, 1) := by decide +kernel
theorem d26_0 : decode jdk_42_method_53_code 0 = .ok (.aload_n 0, 1) := by decide +kernel
theorem d26_1 : decode jdk_42_method_53_code 1 = .ok (.aload_n 1, 1) := by decide +kernel
theorem d26_2 : decode jdk_42_method_53_code 2 = .ok (.aconst_null, 1) := by decide +kernel
theorem d26_3 : decode jdk_42_method_53_code 3 = .ok (.invokespecial 489, 3) := by decide +kernel
theorem w163 {Z : State} {a0 : Array Value} (hw : ∀ d ∈ tables_1, d.before a0 Z = true) : (Jvm.Cond.methodLink "java/lang/String" (489 : Nat) ({ cls := "java/lang/String", name := "<init>", desc := "(Ljava/lang/AbstractStringBuilder;Ljava/lang/Void;)V" } : Jvm.MethodName)).before a0 Z = true := hw _ (List.mem_of_getElem? (i := 163) rfl)
theorem w165 {Z : State} {a0 : Array Value} (hw : ∀ d ∈ tables_1, d.before a0 Z = true) : (Jvm.Cond.code ({ cls := "java/lang/String", name := "<init>", desc := "(Ljava/lang/AbstractStringBuilder;Ljava/lang/Void;)V" } : Jvm.MethodName) jdk_42_method_150_code (5 : Nat) (Option.none : Option Jvm.ClassFile.FieldType)).before a0 Z = true := hw _ (List.mem_of_getElem? (i := 165) rfl)
theorem pd_301 : parseMethodDescriptor "(Ljava/lang/AbstractStringBuilder;Ljava/lang/Void;)V" = some ⟨[(.object "java/lang/AbstractStringBuilder"), (.object "java/lang/Void")], none⟩ := by decide +kernel
theorem w164 {Z : State} {a0 : Array Value} (hw : ∀ d ∈ tables_1, d.before a0 Z = true) : (Jvm.Cond.instanceMethod ({ cls := "java/lang/String", name := "<init>", desc := "(Ljava/lang/AbstractStringBuilder;Ljava/lang/Void;)V" } : Jvm.MethodName)).before a0 Z = true := hw _ (List.mem_of_getElem? (i := 164) rfl)
theorem d26_6 : decode jdk_42_method_53_code 6 = .ok (.return_, 1) := by decide +kernel
theorem d25_0 : decode jdk_67_method_42_code 0 = .ok (.new 18, 3) := by decide +kernel
theorem w158 {Z : State} {a0 : Array Value} (hw : ∀ d ∈ tables_1, d.before a0 Z = true) : (Jvm.Cond.classLink "java/lang/StringBuilder" (18 : Nat) "java/lang/String").before a0 Z = true := hw _ (List.mem_of_getElem? (i := 158) rfl)
theorem d25_3 : decode jdk_67_method_42_code 3 = .ok (.dup, 1) := by decide +kernel
theorem d25_4 : decode jdk_67_method_42_code 4 = .ok (.aload_n 0, 1) := by decide +kernel
theorem d25_5 : decode jdk_67_method_42_code 5 = .ok (.invokespecial 137, 3) := by decide +kernel
theorem w159 {Z : State} {a0 : Array Value} (hw : ∀ d ∈ tables_1, d.before a0 Z = true) : (Jvm.Cond.methodLink "java/lang/StringBuilder" (137 : Nat) ({ cls := "java/lang/String", name := "<init>", desc := "(Ljava/lang/StringBuilder;)V" } : Jvm.MethodName)).before a0 Z = true := hw _ (List.mem_of_getElem? (i := 159) rfl)
theorem w162 {Z : State} {a0 : Array Value} (hw : ∀ d ∈ tables_1, d.before a0 Z = true) : (Jvm.Cond.code ({ cls := "java/lang/String", name := "<init>", desc := "(Ljava/lang/StringBuilder;)V" } : Jvm.MethodName) jdk_42_method_53_code (2 : Nat) (Option.none : Option Jvm.ClassFile.FieldType)).before a0 Z = true := hw _ (List.mem_of_getElem? (i := 162) rfl)
theorem pd_307 : parseMethodDescriptor "(Ljava/lang/StringBuilder;)V" = some ⟨[(.object "java/lang/StringBuilder")], none⟩ := by decide +kernel
theorem w160 {Z : State} {a0 : Array Value} (hw : ∀ d ∈ tables_1, d.before a0 Z = true) : (Jvm.Cond.instanceMethod ({ cls := "java/lang/String", name := "<init>", desc := "(Ljava/lang/StringBuilder;)V" } : Jvm.MethodName)).before a0 Z = true := hw _ (List.mem_of_getElem? (i := 160) rfl)
theorem d25_8 : decode jdk_67_method_42_code 8 = .ok (.areturn, 1) := by decide +kernel
theorem own_nlt {i j n : Nat} (hij : i ≤ j) (hj : j < 1000) (h : ¬ o32 i < o32 n) (hn : n < 1000) : ¬ o32 j < o32 n := fun q => by
  have a := (r_lt j hj n hn).1 q
  have b := (r_lt i (by omega) n hn).2.1 h
  omega
theorem d22_13 : decode jdk_35_method_15_code 13 = .ok (.ldc2_w 140, 3) := by decide +kernel
theorem w139 {Z : State} {a0 : Array Value} (hw : ∀ d ∈ tables_1, d.before a0 Z = true) : (Jvm.Cond.constantLong "java/lang/Long" (140 : Nat) (-10 : Int64)).before a0 Z = true := hw _ (List.mem_of_getElem? (i := 139) rfl)
theorem d22_16 : decode jdk_35_method_15_code 16 = .ok (.lstore_n 3, 1) := by decide +kernel
theorem d22_17 : decode jdk_35_method_15_code 17 = .ok (.iconst 1, 1) := by decide +kernel
theorem d22_18 : decode jdk_35_method_15_code 18 = .ok (.istore 5, 2) := by decide +kernel
theorem d22_20 : decode jdk_35_method_15_code 20 = .ok (.iload 5, 2) := by decide +kernel
theorem d22_22 : decode jdk_35_method_15_code 22 = .ok (.bipush 19, 2) := by decide +kernel
theorem d22_24 : decode jdk_35_method_15_code 24 = .ok (.if_icmp .ge 26, 3) := by decide +kernel
theorem d22_27 : decode jdk_35_method_15_code 27 = .ok (.lload_n 0, 1) := by decide +kernel
theorem d22_28 : decode jdk_35_method_15_code 28 = .ok (.lload_n 3, 1) := by decide +kernel
theorem d22_29 : decode jdk_35_method_15_code 29 = .ok (.lcmp, 1) := by decide +kernel
theorem d22_30 : decode jdk_35_method_15_code 30 = .ok (.ifCond .le 8, 3) := by decide +kernel
theorem d22_33 : decode jdk_35_method_15_code 33 = .ok (.iload 5, 2) := by decide +kernel
theorem d22_35 : decode jdk_35_method_15_code 35 = .ok (.iload_n 2, 1) := by decide +kernel
theorem d22_36 : decode jdk_35_method_15_code 36 = .ok (.iadd, 1) := by decide +kernel
theorem d22_37 : decode jdk_35_method_15_code 37 = .ok (.ireturn, 1) := by decide +kernel
theorem d22_38 : decode jdk_35_method_15_code 38 = .ok (.ldc2_w 53, 3) := by decide +kernel
theorem w256 {Z : State} {a0 : Array Value} (hw : ∀ d ∈ tables_1, d.before a0 Z = true) : (Jvm.Cond.constantLong "java/lang/Long" (53 : Nat) (10 : Int64)).before a0 Z = true := hw _ (List.mem_of_getElem? (i := 256) rfl)
theorem d22_41 : decode jdk_35_method_15_code 41 = .ok (.lload_n 3, 1) := by decide +kernel
theorem d22_42 : decode jdk_35_method_15_code 42 = .ok (.lmul, 1) := by decide +kernel
theorem d22_43 : decode jdk_35_method_15_code 43 = .ok (.lstore_n 3, 1) := by decide +kernel
theorem d22_44 : decode jdk_35_method_15_code 44 = .ok (.iinc 5 1, 3) := by decide +kernel
theorem d22_47 : decode jdk_35_method_15_code 47 = .ok (.goto (-27), 3) := by decide +kernel
theorem d22_50 : decode jdk_35_method_15_code 50 = .ok (.bipush 19, 2) := by decide +kernel
theorem d22_52 : decode jdk_35_method_15_code 52 = .ok (.iload_n 2, 1) := by decide +kernel
theorem d22_53 : decode jdk_35_method_15_code 53 = .ok (.iadd, 1) := by decide +kernel
theorem d22_54 : decode jdk_35_method_15_code 54 = .ok (.ireturn, 1) := by decide +kernel
theorem d22_0 : decode jdk_35_method_15_code 0 = .ok (.iconst 1, 1) := by decide +kernel
theorem d22_1 : decode jdk_35_method_15_code 1 = .ok (.istore_n 2, 1) := by decide +kernel
theorem d22_2 : decode jdk_35_method_15_code 2 = .ok (.lload_n 0, 1) := by decide +kernel
theorem d22_3 : decode jdk_35_method_15_code 3 = .ok (.lconst 0, 1) := by decide +kernel
theorem d22_4 : decode jdk_35_method_15_code 4 = .ok (.lcmp, 1) := by decide +kernel
theorem d22_5 : decode jdk_35_method_15_code 5 = .ok (.ifCond .lt 8, 3) := by decide +kernel
theorem d22_8 : decode jdk_35_method_15_code 8 = .ok (.iconst 0, 1) := by decide +kernel
theorem d22_9 : decode jdk_35_method_15_code 9 = .ok (.istore_n 2, 1) := by decide +kernel
theorem d22_10 : decode jdk_35_method_15_code 10 = .ok (.lload_n 0, 1) := by decide +kernel
theorem d22_11 : decode jdk_35_method_15_code 11 = .ok (.lneg, 1) := by decide +kernel
theorem d22_12 : decode jdk_35_method_15_code 12 = .ok (.lstore_n 0, 1) := by decide +kernel
theorem pn_345 : plainName "java/lang/Long" = true := by first | (simp [plainName, overriddenIn]; done) | decide +kernel
theorem d35_0 : decode method_3_code 0 = .ok (.iconst 1, 1) := by decide +kernel
theorem d35_1 : decode method_3_code 1 = .ok (.istore_n 2, 1) := by decide +kernel
theorem d35_2 : decode method_3_code 2 = .ok (.lload_n 0, 1) := by decide +kernel
theorem d35_3 : decode method_3_code 3 = .ok (.ldc2_w 50, 3) := by decide +kernel
theorem w202 {Z : State} {a0 : Array Value} (hw : ∀ d ∈ tables_1, d.before a0 Z = true) : (Jvm.Cond.constantLong "com/example/large_table_updates/largetableupdates/RunResultSummaryPinLaw" (50 : Nat) (-10 : Int64)).before a0 Z = true := hw _ (List.mem_of_getElem? (i := 202) rfl)
theorem d35_6 : decode method_3_code 6 = .ok (.lcmp, 1) := by decide +kernel
theorem d35_7 : decode method_3_code 7 = .ok (.ifCond .gt 5, 3) := by decide +kernel
theorem d35_12 : decode method_3_code 12 = .ok (.lload_n 0, 1) := by decide +kernel
theorem d35_13 : decode method_3_code 13 = .ok (.ldc2_w 52, 3) := by decide +kernel
theorem w203 {Z : State} {a0 : Array Value} (hw : ∀ d ∈ tables_1, d.before a0 Z = true) : (Jvm.Cond.constantLong "com/example/large_table_updates/largetableupdates/RunResultSummaryPinLaw" (52 : Nat) (-100 : Int64)).before a0 Z = true := hw _ (List.mem_of_getElem? (i := 203) rfl)
theorem d35_16 : decode method_3_code 16 = .ok (.lcmp, 1) := by decide +kernel
theorem d35_17 : decode method_3_code 17 = .ok (.ifCond .gt 5, 3) := by decide +kernel
theorem d35_22 : decode method_3_code 22 = .ok (.lload_n 0, 1) := by decide +kernel
theorem d35_23 : decode method_3_code 23 = .ok (.ldc2_w 54, 3) := by decide +kernel
theorem w204 {Z : State} {a0 : Array Value} (hw : ∀ d ∈ tables_1, d.before a0 Z = true) : (Jvm.Cond.constantLong "com/example/large_table_updates/largetableupdates/RunResultSummaryPinLaw" (54 : Nat) (-1000 : Int64)).before a0 Z = true := hw _ (List.mem_of_getElem? (i := 204) rfl)
theorem d35_26 : decode method_3_code 26 = .ok (.lcmp, 1) := by decide +kernel
theorem d35_27 : decode method_3_code 27 = .ok (.ifCond .gt 5, 3) := by decide +kernel
theorem d35_32 : decode method_3_code 32 = .ok (.lload_n 0, 1) := by decide +kernel
theorem d35_33 : decode method_3_code 33 = .ok (.ldc2_w 56, 3) := by decide +kernel
theorem w205 {Z : State} {a0 : Array Value} (hw : ∀ d ∈ tables_1, d.before a0 Z = true) : (Jvm.Cond.constantLong "com/example/large_table_updates/largetableupdates/RunResultSummaryPinLaw" (56 : Nat) (-10000 : Int64)).before a0 Z = true := hw _ (List.mem_of_getElem? (i := 205) rfl)
theorem d35_36 : decode method_3_code 36 = .ok (.lcmp, 1) := by decide +kernel
theorem d35_37 : decode method_3_code 37 = .ok (.ifCond .gt 5, 3) := by decide +kernel
theorem d35_42 : decode method_3_code 42 = .ok (.lload_n 0, 1) := by decide +kernel
theorem d35_43 : decode method_3_code 43 = .ok (.ldc2_w 58, 3) := by decide +kernel
theorem w206 {Z : State} {a0 : Array Value} (hw : ∀ d ∈ tables_1, d.before a0 Z = true) : (Jvm.Cond.constantLong "com/example/large_table_updates/largetableupdates/RunResultSummaryPinLaw" (58 : Nat) (-100000 : Int64)).before a0 Z = true := hw _ (List.mem_of_getElem? (i := 206) rfl)
theorem d35_46 : decode method_3_code 46 = .ok (.lcmp, 1) := by decide +kernel
theorem d35_47 : decode method_3_code 47 = .ok (.ifCond .gt 6, 3) := by decide +kernel
theorem d35_53 : decode method_3_code 53 = .ok (.lload_n 0, 1) := by decide +kernel
theorem d35_54 : decode method_3_code 54 = .ok (.ldc2_w 60, 3) := by decide +kernel
theorem w207 {Z : State} {a0 : Array Value} (hw : ∀ d ∈ tables_1, d.before a0 Z = true) : (Jvm.Cond.constantLong "com/example/large_table_updates/largetableupdates/RunResultSummaryPinLaw" (60 : Nat) (-1000000 : Int64)).before a0 Z = true := hw _ (List.mem_of_getElem? (i := 207) rfl)
theorem d35_57 : decode method_3_code 57 = .ok (.lcmp, 1) := by decide +kernel
theorem d35_58 : decode method_3_code 58 = .ok (.ifCond .gt 6, 3) := by decide +kernel
theorem d35_64 : decode method_3_code 64 = .ok (.lload_n 0, 1) := by decide +kernel
theorem d35_65 : decode method_3_code 65 = .ok (.ldc2_w 62, 3) := by decide +kernel
theorem w208 {Z : State} {a0 : Array Value} (hw : ∀ d ∈ tables_1, d.before a0 Z = true) : (Jvm.Cond.constantLong "com/example/large_table_updates/largetableupdates/RunResultSummaryPinLaw" (62 : Nat) (-10000000 : Int64)).before a0 Z = true := hw _ (List.mem_of_getElem? (i := 208) rfl)
theorem d35_68 : decode method_3_code 68 = .ok (.lcmp, 1) := by decide +kernel
theorem d35_69 : decode method_3_code 69 = .ok (.ifCond .gt 6, 3) := by decide +kernel
theorem d35_75 : decode method_3_code 75 = .ok (.lload_n 0, 1) := by decide +kernel
theorem d35_76 : decode method_3_code 76 = .ok (.ldc2_w 64, 3) := by decide +kernel
theorem w209 {Z : State} {a0 : Array Value} (hw : ∀ d ∈ tables_1, d.before a0 Z = true) : (Jvm.Cond.constantLong "com/example/large_table_updates/largetableupdates/RunResultSummaryPinLaw" (64 : Nat) (-100000000 : Int64)).before a0 Z = true := hw _ (List.mem_of_getElem? (i := 209) rfl)
theorem d35_79 : decode method_3_code 79 = .ok (.lcmp, 1) := by decide +kernel
theorem d35_80 : decode method_3_code 80 = .ok (.ifCond .gt 6, 3) := by decide +kernel
theorem d35_86 : decode method_3_code 86 = .ok (.lload_n 0, 1) := by decide +kernel
theorem d35_87 : decode method_3_code 87 = .ok (.ldc2_w 66, 3) := by decide +kernel
theorem w210 {Z : State} {a0 : Array Value} (hw : ∀ d ∈ tables_1, d.before a0 Z = true) : (Jvm.Cond.constantLong "com/example/large_table_updates/largetableupdates/RunResultSummaryPinLaw" (66 : Nat) (-1000000000 : Int64)).before a0 Z = true := hw _ (List.mem_of_getElem? (i := 210) rfl)
theorem d35_90 : decode method_3_code 90 = .ok (.lcmp, 1) := by decide +kernel
theorem d35_91 : decode method_3_code 91 = .ok (.ifCond .gt 6, 3) := by decide +kernel
theorem d35_97 : decode method_3_code 97 = .ok (.lload_n 0, 1) := by decide +kernel
theorem d35_98 : decode method_3_code 98 = .ok (.ldc2_w 68, 3) := by decide +kernel
theorem w211 {Z : State} {a0 : Array Value} (hw : ∀ d ∈ tables_1, d.before a0 Z = true) : (Jvm.Cond.constantLong "com/example/large_table_updates/largetableupdates/RunResultSummaryPinLaw" (68 : Nat) (-10000000000 : Int64)).before a0 Z = true := hw _ (List.mem_of_getElem? (i := 211) rfl)
theorem d35_101 : decode method_3_code 101 = .ok (.lcmp, 1) := by decide +kernel
theorem d35_102 : decode method_3_code 102 = .ok (.ifCond .gt 6, 3) := by decide +kernel
theorem d35_108 : decode method_3_code 108 = .ok (.lload_n 0, 1) := by decide +kernel
theorem d35_109 : decode method_3_code 109 = .ok (.ldc2_w 70, 3) := by decide +kernel
theorem w212 {Z : State} {a0 : Array Value} (hw : ∀ d ∈ tables_1, d.before a0 Z = true) : (Jvm.Cond.constantLong "com/example/large_table_updates/largetableupdates/RunResultSummaryPinLaw" (70 : Nat) (-100000000000 : Int64)).before a0 Z = true := hw _ (List.mem_of_getElem? (i := 212) rfl)
theorem d35_112 : decode method_3_code 112 = .ok (.lcmp, 1) := by decide +kernel
theorem d35_113 : decode method_3_code 113 = .ok (.ifCond .gt 6, 3) := by decide +kernel
theorem d35_119 : decode method_3_code 119 = .ok (.lload_n 0, 1) := by decide +kernel
theorem d35_120 : decode method_3_code 120 = .ok (.ldc2_w 72, 3) := by decide +kernel
theorem w213 {Z : State} {a0 : Array Value} (hw : ∀ d ∈ tables_1, d.before a0 Z = true) : (Jvm.Cond.constantLong "com/example/large_table_updates/largetableupdates/RunResultSummaryPinLaw" (72 : Nat) (-1000000000000 : Int64)).before a0 Z = true := hw _ (List.mem_of_getElem? (i := 213) rfl)
theorem d35_123 : decode method_3_code 123 = .ok (.lcmp, 1) := by decide +kernel
theorem d35_124 : decode method_3_code 124 = .ok (.ifCond .gt 6, 3) := by decide +kernel
theorem d35_130 : decode method_3_code 130 = .ok (.lload_n 0, 1) := by decide +kernel
theorem d35_131 : decode method_3_code 131 = .ok (.ldc2_w 74, 3) := by decide +kernel
theorem w214 {Z : State} {a0 : Array Value} (hw : ∀ d ∈ tables_1, d.before a0 Z = true) : (Jvm.Cond.constantLong "com/example/large_table_updates/largetableupdates/RunResultSummaryPinLaw" (74 : Nat) (-10000000000000 : Int64)).before a0 Z = true := hw _ (List.mem_of_getElem? (i := 214) rfl)
theorem d35_134 : decode method_3_code 134 = .ok (.lcmp, 1) := by decide +kernel
theorem d35_135 : decode method_3_code 135 = .ok (.ifCond .gt 6, 3) := by decide +kernel
theorem d35_141 : decode method_3_code 141 = .ok (.lload_n 0, 1) := by decide +kernel
theorem d35_142 : decode method_3_code 142 = .ok (.ldc2_w 76, 3) := by decide +kernel
theorem w215 {Z : State} {a0 : Array Value} (hw : ∀ d ∈ tables_1, d.before a0 Z = true) : (Jvm.Cond.constantLong "com/example/large_table_updates/largetableupdates/RunResultSummaryPinLaw" (76 : Nat) (-100000000000000 : Int64)).before a0 Z = true := hw _ (List.mem_of_getElem? (i := 215) rfl)
theorem d35_145 : decode method_3_code 145 = .ok (.lcmp, 1) := by decide +kernel
theorem d35_146 : decode method_3_code 146 = .ok (.ifCond .gt 6, 3) := by decide +kernel
theorem d35_152 : decode method_3_code 152 = .ok (.lload_n 0, 1) := by decide +kernel
theorem d35_153 : decode method_3_code 153 = .ok (.ldc2_w 78, 3) := by decide +kernel
theorem w216 {Z : State} {a0 : Array Value} (hw : ∀ d ∈ tables_1, d.before a0 Z = true) : (Jvm.Cond.constantLong "com/example/large_table_updates/largetableupdates/RunResultSummaryPinLaw" (78 : Nat) (-1000000000000000 : Int64)).before a0 Z = true := hw _ (List.mem_of_getElem? (i := 216) rfl)
theorem d35_156 : decode method_3_code 156 = .ok (.lcmp, 1) := by decide +kernel
theorem d35_157 : decode method_3_code 157 = .ok (.ifCond .gt 6, 3) := by decide +kernel
theorem d35_163 : decode method_3_code 163 = .ok (.lload_n 0, 1) := by decide +kernel
theorem d35_164 : decode method_3_code 164 = .ok (.ldc2_w 80, 3) := by decide +kernel
theorem w217 {Z : State} {a0 : Array Value} (hw : ∀ d ∈ tables_1, d.before a0 Z = true) : (Jvm.Cond.constantLong "com/example/large_table_updates/largetableupdates/RunResultSummaryPinLaw" (80 : Nat) (-10000000000000000 : Int64)).before a0 Z = true := hw _ (List.mem_of_getElem? (i := 217) rfl)
theorem d35_167 : decode method_3_code 167 = .ok (.lcmp, 1) := by decide +kernel
theorem d35_168 : decode method_3_code 168 = .ok (.ifCond .gt 6, 3) := by decide +kernel
theorem d35_174 : decode method_3_code 174 = .ok (.lload_n 0, 1) := by decide +kernel
theorem d35_175 : decode method_3_code 175 = .ok (.ldc2_w 82, 3) := by decide +kernel
theorem w218 {Z : State} {a0 : Array Value} (hw : ∀ d ∈ tables_1, d.before a0 Z = true) : (Jvm.Cond.constantLong "com/example/large_table_updates/largetableupdates/RunResultSummaryPinLaw" (82 : Nat) (-100000000000000000 : Int64)).before a0 Z = true := hw _ (List.mem_of_getElem? (i := 218) rfl)
theorem d35_178 : decode method_3_code 178 = .ok (.lcmp, 1) := by decide +kernel
theorem d35_179 : decode method_3_code 179 = .ok (.ifCond .gt 6, 3) := by decide +kernel
theorem d35_185 : decode method_3_code 185 = .ok (.lload_n 0, 1) := by decide +kernel
theorem d35_186 : decode method_3_code 186 = .ok (.ldc2_w 84, 3) := by decide +kernel
theorem w219 {Z : State} {a0 : Array Value} (hw : ∀ d ∈ tables_1, d.before a0 Z = true) : (Jvm.Cond.constantLong "com/example/large_table_updates/largetableupdates/RunResultSummaryPinLaw" (84 : Nat) (-1000000000000000000 : Int64)).before a0 Z = true := hw _ (List.mem_of_getElem? (i := 219) rfl)
theorem d35_189 : decode method_3_code 189 = .ok (.lcmp, 1) := by decide +kernel
theorem d35_190 : decode method_3_code 190 = .ok (.ifCond .gt 6, 3) := by decide +kernel
theorem d35_196 : decode method_3_code 196 = .ok (.iload_n 2, 1) := by decide +kernel
theorem d35_197 : decode method_3_code 197 = .ok (.ireturn, 1) := by decide +kernel
theorem d35_10 : decode method_3_code 10 = .ok (.iconst 2, 1) := by decide +kernel
theorem d35_11 : decode method_3_code 11 = .ok (.istore_n 2, 1) := by decide +kernel
theorem d35_20 : decode method_3_code 20 = .ok (.iconst 3, 1) := by decide +kernel
theorem d35_21 : decode method_3_code 21 = .ok (.istore_n 2, 1) := by decide +kernel
theorem d35_30 : decode method_3_code 30 = .ok (.iconst 4, 1) := by decide +kernel
theorem d35_31 : decode method_3_code 31 = .ok (.istore_n 2, 1) := by decide +kernel
theorem d35_40 : decode method_3_code 40 = .ok (.iconst 5, 1) := by decide +kernel
theorem d35_41 : decode method_3_code 41 = .ok (.istore_n 2, 1) := by decide +kernel
theorem d35_50 : decode method_3_code 50 = .ok (.bipush 6, 2) := by decide +kernel
theorem d35_52 : decode method_3_code 52 = .ok (.istore_n 2, 1) := by decide +kernel
theorem d35_61 : decode method_3_code 61 = .ok (.bipush 7, 2) := by decide +kernel
theorem d35_63 : decode method_3_code 63 = .ok (.istore_n 2, 1) := by decide +kernel
theorem d35_72 : decode method_3_code 72 = .ok (.bipush 8, 2) := by decide +kernel
theorem d35_74 : decode method_3_code 74 = .ok (.istore_n 2, 1) := by decide +kernel
theorem d35_83 : decode method_3_code 83 = .ok (.bipush 9, 2) := by decide +kernel
theorem d35_85 : decode method_3_code 85 = .ok (.istore_n 2, 1) := by decide +kernel
theorem d35_94 : decode method_3_code 94 = .ok (.bipush 10, 2) := by decide +kernel
theorem d35_96 : decode method_3_code 96 = .ok (.istore_n 2, 1) := by decide +kernel
theorem d35_105 : decode method_3_code 105 = .ok (.bipush 11, 2) := by decide +kernel
theorem d35_107 : decode method_3_code 107 = .ok (.istore_n 2, 1) := by decide +kernel
theorem d35_116 : decode method_3_code 116 = .ok (.bipush 12, 2) := by decide +kernel
theorem d35_118 : decode method_3_code 118 = .ok (.istore_n 2, 1) := by decide +kernel
theorem d35_127 : decode method_3_code 127 = .ok (.bipush 13, 2) := by decide +kernel
theorem d35_129 : decode method_3_code 129 = .ok (.istore_n 2, 1) := by decide +kernel
theorem d35_138 : decode method_3_code 138 = .ok (.bipush 14, 2) := by decide +kernel
theorem d35_140 : decode method_3_code 140 = .ok (.istore_n 2, 1) := by decide +kernel
theorem d35_149 : decode method_3_code 149 = .ok (.bipush 15, 2) := by decide +kernel
theorem d35_151 : decode method_3_code 151 = .ok (.istore_n 2, 1) := by decide +kernel
theorem d35_160 : decode method_3_code 160 = .ok (.bipush 16, 2) := by decide +kernel
theorem d35_162 : decode method_3_code 162 = .ok (.istore_n 2, 1) := by decide +kernel
theorem d35_171 : decode method_3_code 171 = .ok (.bipush 17, 2) := by decide +kernel
theorem d35_173 : decode method_3_code 173 = .ok (.istore_n 2, 1) := by decide +kernel
theorem d35_182 : decode method_3_code 182 = .ok (.bipush 18, 2) := by decide +kernel
theorem d35_184 : decode method_3_code 184 = .ok (.istore_n 2, 1) := by decide +kernel
theorem d35_193 : decode method_3_code 193 = .ok (.bipush 19, 2) := by decide +kernel
theorem d35_195 : decode method_3_code 195 = .ok (.istore_n 2, 1) := by decide +kernel
theorem pn_458 : plainName "com/example/large_table_updates/largetableupdates/RunResultSummaryPinLaw" = true := by first | (simp [plainName, overriddenIn]; done) | decide +kernel
theorem d34_0 : decode method_4_code 0 = .ok (.lload_n 0, 1) := by decide +kernel
theorem d34_1 : decode method_4_code 1 = .ok (.lconst 0, 1) := by decide +kernel
theorem d34_2 : decode method_4_code 2 = .ok (.lcmp, 1) := by decide +kernel
theorem d34_3 : decode method_4_code 3 = .ok (.ifCond .ge 10, 3) := by decide +kernel
theorem d34_6 : decode method_4_code 6 = .ok (.lload_n 0, 1) := by decide +kernel
theorem d34_7 : decode method_4_code 7 = .ok (.invokestatic 86, 3) := by decide +kernel
theorem w199 {Z : State} {a0 : Array Value} (hw : ∀ d ∈ tables_1, d.before a0 Z = true) : (Jvm.Cond.methodLink "com/example/large_table_updates/largetableupdates/RunResultSummaryPinLaw" (86 : Nat) ({ cls := "com/example/large_table_updates/largetableupdates/RunResultSummaryPinLaw", name := "digits", desc := "(J)I" } : Jvm.MethodName)).before a0 Z = true := hw _ (List.mem_of_getElem? (i := 199) rfl)
theorem w201 {Z : State} {a0 : Array Value} (hw : ∀ d ∈ tables_1, d.before a0 Z = true) : (Jvm.Cond.code ({ cls := "com/example/large_table_updates/largetableupdates/RunResultSummaryPinLaw", name := "digits", desc := "(J)I" } : Jvm.MethodName) method_3_code (3 : Nat) (Option.some Jvm.ClassFile.FieldType.int)).before a0 Z = true := hw _ (List.mem_of_getElem? (i := 201) rfl)
theorem w197 {Z : State} {a0 : Array Value} (hw : ∀ d ∈ tables_1, d.before a0 Z = true) : (Jvm.Cond.initialized "com/example/large_table_updates/largetableupdates/RunResultSummaryPinLaw").before a0 Z = true := hw _ (List.mem_of_getElem? (i := 197) rfl)
theorem pd_465 : parseMethodDescriptor "(J)I" = some ⟨[.long], some .int⟩ := by decide +kernel
theorem w200 {Z : State} {a0 : Array Value} (hw : ∀ d ∈ tables_1, d.before a0 Z = true) : (Jvm.Cond.static ({ cls := "com/example/large_table_updates/largetableupdates/RunResultSummaryPinLaw", name := "digits", desc := "(J)I" } : Jvm.MethodName)).before a0 Z = true := hw _ (List.mem_of_getElem? (i := 200) rfl)
theorem d34_10 : decode method_4_code 10 = .ok (.iconst 1, 1) := by decide +kernel
theorem d34_11 : decode method_4_code 11 = .ok (.iadd, 1) := by decide +kernel
theorem d34_12 : decode method_4_code 12 = .ok (.ireturn, 1) := by decide +kernel
theorem d34_13 : decode method_4_code 13 = .ok (.lload_n 0, 1) := by decide +kernel
theorem d34_14 : decode method_4_code 14 = .ok (.lneg, 1) := by decide +kernel
theorem d34_15 : decode method_4_code 15 = .ok (.invokestatic 86, 3) := by decide +kernel
theorem d34_18 : decode method_4_code 18 = .ok (.ireturn, 1) := by decide +kernel
theorem d39_0 : decode jdk_42_method_154_code 0 = .ok (.getstatic 38, 3) := by decide +kernel
theorem d39_3 : decode jdk_42_method_154_code 3 = .ok (.ifCond .eq 14, 3) := by decide +kernel
theorem d39_6 : decode jdk_42_method_154_code 6 = .ok (.aload_n 0, 1) := by decide +kernel
theorem d39_7 : decode jdk_42_method_154_code 7 = .ok (.getfield 15, 3) := by decide +kernel
theorem d39_10 : decode jdk_42_method_154_code 10 = .ok (.ifCond .ne 7, 3) := by decide +kernel
theorem d39_13 : decode jdk_42_method_154_code 13 = .ok (.iconst 1, 1) := by decide +kernel
theorem d39_14 : decode jdk_42_method_154_code 14 = .ok (.goto 4, 3) := by decide +kernel
theorem d39_18 : decode jdk_42_method_154_code 18 = .ok (.ireturn, 1) := by decide +kernel
theorem d42_0 : decode jdk_41_method_11_code 0 = .ok (.iload_n 0, 1) := by decide +kernel
theorem d42_1 : decode jdk_41_method_11_code 1 = .ok (.ifCond .lt 8, 3) := by decide +kernel
theorem d42_4 : decode jdk_41_method_11_code 4 = .ok (.iload_n 0, 1) := by decide +kernel
theorem d42_5 : decode jdk_41_method_11_code 5 = .ok (.iload_n 1, 1) := by decide +kernel
theorem d42_6 : decode jdk_41_method_11_code 6 = .ok (.if_icmp .lt 10, 3) := by decide +kernel
theorem d42_16 : decode jdk_41_method_11_code 16 = .ok (.iload_n 0, 1) := by decide +kernel
theorem d42_17 : decode jdk_41_method_11_code 17 = .ok (.ireturn, 1) := by decide +kernel
theorem pn_488 : plainName "jdk/internal/util/Preconditions" = true := by first | (simp [plainName, overriddenIn]; done) | decide +kernel
theorem d41_0 : decode jdk_42_method_155_code 0 = .ok (.iload_n 0, 1) := by decide +kernel
theorem d41_1 : decode jdk_42_method_155_code 1 = .ok (.iload_n 1, 1) := by decide +kernel
theorem d41_2 : decode jdk_42_method_155_code 2 = .ok (.getstatic 1053, 3) := by decide +kernel
theorem w243 {Z : State} {a0 : Array Value} (hw : ∀ d ∈ tables_1, d.before a0 Z = true) : (Jvm.Cond.fieldLink "java/lang/String" (1053 : Nat) "jdk/internal/util/Preconditions" "SIOOBE_FORMATTER" "Ljava/util/function/BiFunction;").before a0 Z = true := hw _ (List.mem_of_getElem? (i := 243) rfl)
theorem d41_5 : decode jdk_42_method_155_code 5 = .ok (.invokestatic 1059, 3) := by decide +kernel
theorem w245 {Z : State} {a0 : Array Value} (hw : ∀ d ∈ tables_1, d.before a0 Z = true) : (Jvm.Cond.methodLink "java/lang/String" (1059 : Nat) ({ cls := "jdk/internal/util/Preconditions", name := "checkIndex", desc := "(IILjava/util/function/BiFunction;)I" } : Jvm.MethodName)).before a0 Z = true := hw _ (List.mem_of_getElem? (i := 245) rfl)
theorem w247 {Z : State} {a0 : Array Value} (hw : ∀ d ∈ tables_1, d.before a0 Z = true) : (Jvm.Cond.code ({ cls := "jdk/internal/util/Preconditions", name := "checkIndex", desc := "(IILjava/util/function/BiFunction;)I" } : Jvm.MethodName) jdk_41_method_11_code (3 : Nat) (Option.some Jvm.ClassFile.FieldType.int)).before a0 Z = true := hw _ (List.mem_of_getElem? (i := 247) rfl)
theorem w244 {Z : State} {a0 : Array Value} (hw : ∀ d ∈ tables_1, d.before a0 Z = true) : (Jvm.Cond.initialized "jdk/internal/util/Preconditions").before a0 Z = true := hw _ (List.mem_of_getElem? (i := 244) rfl)
theorem pd_493 : parseMethodDescriptor "(IILjava/util/function/BiFunction;)I" = some ⟨[.int, .int, (.object "java/util/function/BiFunction")], some .int⟩ := by decide +kernel
theorem w246 {Z : State} {a0 : Array Value} (hw : ∀ d ∈ tables_1, d.before a0 Z = true) : (Jvm.Cond.static ({ cls := "jdk/internal/util/Preconditions", name := "checkIndex", desc := "(IILjava/util/function/BiFunction;)I" } : Jvm.MethodName)).before a0 Z = true := hw _ (List.mem_of_getElem? (i := 246) rfl)
theorem d41_8 : decode jdk_42_method_155_code 8 = .ok (.pop, 1) := by decide +kernel
theorem d41_9 : decode jdk_42_method_155_code 9 = .ok (.return_, 1) := by decide +kernel
theorem d40_0 : decode jdk_43_method_2_code 0 = .ok (.iload_n 1, 1) := by decide +kernel
theorem d40_1 : decode jdk_43_method_2_code 1 = .ok (.aload_n 0, 1) := by decide +kernel
theorem d40_2 : decode jdk_43_method_2_code 2 = .ok (.arraylength, 1) := by decide +kernel
theorem d40_3 : decode jdk_43_method_2_code 3 = .ok (.invokestatic 9, 3) := by decide +kernel
theorem w240 {Z : State} {a0 : Array Value} (hw : ∀ d ∈ tables_1, d.before a0 Z = true) : (Jvm.Cond.methodLink "java/lang/StringLatin1" (9 : Nat) ({ cls := "java/lang/String", name := "checkIndex", desc := "(II)V" } : Jvm.MethodName)).before a0 Z = true := hw _ (List.mem_of_getElem? (i := 240) rfl)
theorem w242 {Z : State} {a0 : Array Value} (hw : ∀ d ∈ tables_1, d.before a0 Z = true) : (Jvm.Cond.code ({ cls := "java/lang/String", name := "checkIndex", desc := "(II)V" } : Jvm.MethodName) jdk_42_method_155_code (2 : Nat) (Option.none : Option Jvm.ClassFile.FieldType)).before a0 Z = true := hw _ (List.mem_of_getElem? (i := 242) rfl)
theorem w241 {Z : State} {a0 : Array Value} (hw : ∀ d ∈ tables_1, d.before a0 Z = true) : (Jvm.Cond.static ({ cls := "java/lang/String", name := "checkIndex", desc := "(II)V" } : Jvm.MethodName)).before a0 Z = true := hw _ (List.mem_of_getElem? (i := 241) rfl)
theorem d40_6 : decode jdk_43_method_2_code 6 = .ok (.aload_n 0, 1) := by decide +kernel
theorem d40_7 : decode jdk_43_method_2_code 7 = .ok (.iload_n 1, 1) := by decide +kernel
theorem d40_8 : decode jdk_43_method_2_code 8 = .ok (.baload, 1) := by decide +kernel
theorem d40_9 : decode jdk_43_method_2_code 9 = .ok (.sipush 255, 3) := by decide +kernel
theorem d40_12 : decode jdk_43_method_2_code 12 = .ok (.iand, 1) := by decide +kernel
theorem d40_13 : decode jdk_43_method_2_code 13 = .ok (.i2c, 1) := by decide +kernel
theorem d40_14 : decode jdk_43_method_2_code 14 = .ok (.ireturn, 1) := by decide +kernel
theorem pn_507 : plainName "java/lang/StringLatin1" = true := by first | (simp [plainName, overriddenIn]; done) | decide +kernel
theorem d38_0 : decode jdk_42_method_56_code 0 = .ok (.aload_n 0, 1) := by decide +kernel
theorem d38_1 : decode jdk_42_method_56_code 1 = .ok (.invokevirtual 492, 3) := by decide +kernel
theorem w231 {Z : State} {a0 : Array Value} (hw : ∀ d ∈ tables_1, d.before a0 Z = true) : (Jvm.Cond.methodLink "java/lang/String" (492 : Nat) ({ cls := "java/lang/String", name := "isLatin1", desc := "()Z" } : Jvm.MethodName)).before a0 Z = true := hw _ (List.mem_of_getElem? (i := 231) rfl)
theorem w235 {Z : State} {a0 : Array Value} (hw : ∀ d ∈ tables_1, d.before a0 Z = true) : (Jvm.Cond.code ({ cls := "java/lang/String", name := "isLatin1", desc := "()Z" } : Jvm.MethodName) jdk_42_method_154_code (1 : Nat) (Option.some Jvm.ClassFile.FieldType.boolean)).before a0 Z = true := hw _ (List.mem_of_getElem? (i := 235) rfl)
theorem w232 {Z : State} {a0 : Array Value} (hw : ∀ d ∈ tables_1, d.before a0 Z = true) : (Jvm.Cond.declares ({ cls := "java/lang/String", name := "isLatin1", desc := "()Z" } : Jvm.MethodName)).before a0 Z = true := hw _ (List.mem_of_getElem? (i := 232) rfl)
theorem w234 {Z : State} {a0 : Array Value} (hw : ∀ d ∈ tables_1, d.before a0 Z = true) : (Jvm.Cond.selects "java/lang/String" ({ cls := "java/lang/String", name := "isLatin1", desc := "()Z" } : Jvm.MethodName) ({ cls := "java/lang/String", name := "isLatin1", desc := "()Z" } : Jvm.MethodName)).before a0 Z = true := hw _ (List.mem_of_getElem? (i := 234) rfl)
theorem w233 {Z : State} {a0 : Array Value} (hw : ∀ d ∈ tables_1, d.before a0 Z = true) : (Jvm.Cond.instanceMethod ({ cls := "java/lang/String", name := "isLatin1", desc := "()Z" } : Jvm.MethodName)).before a0 Z = true := hw _ (List.mem_of_getElem? (i := 233) rfl)
theorem d38_4 : decode jdk_42_method_56_code 4 = .ok (.ifCond .eq 12, 3) := by decide +kernel
theorem d38_7 : decode jdk_42_method_56_code 7 = .ok (.aload_n 0, 1) := by decide +kernel
theorem d38_8 : decode jdk_42_method_56_code 8 = .ok (.getfield 9, 3) := by decide +kernel
theorem d38_11 : decode jdk_42_method_56_code 11 = .ok (.iload_n 1, 1) := by decide +kernel
theorem d38_12 : decode jdk_42_method_56_code 12 = .ok (.invokestatic 495, 3) := by decide +kernel
theorem w236 {Z : State} {a0 : Array Value} (hw : ∀ d ∈ tables_1, d.before a0 Z = true) : (Jvm.Cond.methodLink "java/lang/String" (495 : Nat) ({ cls := "java/lang/StringLatin1", name := "charAt", desc := "([BI)C" } : Jvm.MethodName)).before a0 Z = true := hw _ (List.mem_of_getElem? (i := 236) rfl)
theorem w239 {Z : State} {a0 : Array Value} (hw : ∀ d ∈ tables_1, d.before a0 Z = true) : (Jvm.Cond.code ({ cls := "java/lang/StringLatin1", name := "charAt", desc := "([BI)C" } : Jvm.MethodName) jdk_43_method_2_code (2 : Nat) (Option.some Jvm.ClassFile.FieldType.char)).before a0 Z = true := hw _ (List.mem_of_getElem? (i := 239) rfl)
theorem w238 {Z : State} {a0 : Array Value} (hw : ∀ d ∈ tables_1, d.before a0 Z = true) : (Jvm.Cond.initialized "java/lang/StringLatin1").before a0 Z = true := hw _ (List.mem_of_getElem? (i := 238) rfl)
theorem pd_515 : parseMethodDescriptor "([BI)C" = some ⟨[(.array .byte), .int], some .char⟩ := by decide +kernel
theorem w237 {Z : State} {a0 : Array Value} (hw : ∀ d ∈ tables_1, d.before a0 Z = true) : (Jvm.Cond.static ({ cls := "java/lang/StringLatin1", name := "charAt", desc := "([BI)C" } : Jvm.MethodName)).before a0 Z = true := hw _ (List.mem_of_getElem? (i := 237) rfl)
theorem d38_15 : decode jdk_42_method_56_code 15 = .ok (.ireturn, 1) := by decide +kernel
theorem d44_0 : decode method_5_code 0 = .ok (.aload_n 0, 1) := by decide +kernel
theorem d44_1 : decode method_5_code 1 = .ok (.iload_n 1, 1) := by decide +kernel
theorem d44_2 : decode method_5_code 2 = .ok (.invokevirtual 89, 3) := by decide +kernel
theorem w226 {Z : State} {a0 : Array Value} (hw : ∀ d ∈ tables_1, d.before a0 Z = true) : (Jvm.Cond.methodLink "com/example/large_table_updates/largetableupdates/RunResultSummaryPinLaw" (89 : Nat) ({ cls := "java/lang/String", name := "charAt", desc := "(I)C" } : Jvm.MethodName)).before a0 Z = true := hw _ (List.mem_of_getElem? (i := 226) rfl)
theorem w230 {Z : State} {a0 : Array Value} (hw : ∀ d ∈ tables_1, d.before a0 Z = true) : (Jvm.Cond.code ({ cls := "java/lang/String", name := "charAt", desc := "(I)C" } : Jvm.MethodName) jdk_42_method_56_code (2 : Nat) (Option.some Jvm.ClassFile.FieldType.char)).before a0 Z = true := hw _ (List.mem_of_getElem? (i := 230) rfl)
theorem pd_520 : parseMethodDescriptor "(I)C" = some ⟨[.int], some .char⟩ := by decide +kernel
theorem w227 {Z : State} {a0 : Array Value} (hw : ∀ d ∈ tables_1, d.before a0 Z = true) : (Jvm.Cond.declares ({ cls := "java/lang/String", name := "charAt", desc := "(I)C" } : Jvm.MethodName)).before a0 Z = true := hw _ (List.mem_of_getElem? (i := 227) rfl)
theorem w229 {Z : State} {a0 : Array Value} (hw : ∀ d ∈ tables_1, d.before a0 Z = true) : (Jvm.Cond.selects "java/lang/String" ({ cls := "java/lang/String", name := "charAt", desc := "(I)C" } : Jvm.MethodName) ({ cls := "java/lang/String", name := "charAt", desc := "(I)C" } : Jvm.MethodName)).before a0 Z = true := hw _ (List.mem_of_getElem? (i := 229) rfl)
theorem w228 {Z : State} {a0 : Array Value} (hw : ∀ d ∈ tables_1, d.before a0 Z = true) : (Jvm.Cond.instanceMethod ({ cls := "java/lang/String", name := "charAt", desc := "(I)C" } : Jvm.MethodName)).before a0 Z = true := hw _ (List.mem_of_getElem? (i := 228) rfl)
theorem d44_5 : decode method_5_code 5 = .ok (.bipush 48, 2) := by decide +kernel
theorem d44_7 : decode method_5_code 7 = .ok (.lload_n 2, 1) := by decide +kernel
theorem d44_8 : decode method_5_code 8 = .ok (.ldc2_w 93, 3) := by decide +kernel
theorem w254 {Z : State} {a0 : Array Value} (hw : ∀ d ∈ tables_1, d.before a0 Z = true) : (Jvm.Cond.constantLong "com/example/large_table_updates/largetableupdates/RunResultSummaryPinLaw" (93 : Nat) (10 : Int64)).before a0 Z = true := hw _ (List.mem_of_getElem? (i := 254) rfl)
theorem d44_11 : decode method_5_code 11 = .ok (.lrem, 1) := by decide +kernel
theorem d44_12 : decode method_5_code 12 = .ok (.l2i, 1) := by decide +kernel
theorem d44_13 : decode method_5_code 13 = .ok (.isub, 1) := by decide +kernel
theorem d44_14 : decode method_5_code 14 = .ok (.i2c, 1) := by decide +kernel
theorem d44_15 : decode method_5_code 15 = .ok (.if_icmp .ne 7, 3) := by decide +kernel
theorem d44_18 : decode method_5_code 18 = .ok (.iconst 1, 1) := by decide +kernel
theorem d44_19 : decode method_5_code 19 = .ok (.goto 4, 3) := by decide +kernel
theorem d44_23 : decode method_5_code 23 = .ok (.ireturn, 1) := by decide +kernel
theorem d43_26 : decode method_6_code 26 = .ok (.lload 5, 2) := by decide +kernel
theorem d43_28 : decode method_6_code 28 = .ok (.invokestatic 86, 3) := by decide +kernel
theorem d43_31 : decode method_6_code 31 = .ok (.istore 7, 2) := by decide +kernel
theorem d43_33 : decode method_6_code 33 = .ok (.iload_n 1, 1) := by decide +kernel
theorem d43_34 : decode method_6_code 34 = .ok (.iconst 1, 1) := by decide +kernel
theorem d43_35 : decode method_6_code 35 = .ok (.isub, 1) := by decide +kernel
theorem d43_36 : decode method_6_code 36 = .ok (.istore 8, 2) := by decide +kernel
theorem d43_38 : decode method_6_code 38 = .ok (.aload_n 0, 1) := by decide +kernel
theorem d43_39 : decode method_6_code 39 = .ok (.iload 8, 2) := by decide +kernel
theorem d43_41 : decode method_6_code 41 = .ok (.lload 5, 2) := by decide +kernel
theorem d43_43 : decode method_6_code 43 = .ok (.invokestatic 95, 3) := by decide +kernel
theorem w251 {Z : State} {a0 : Array Value} (hw : ∀ d ∈ tables_1, d.before a0 Z = true) : (Jvm.Cond.methodLink "com/example/large_table_updates/largetableupdates/RunResultSummaryPinLaw" (95 : Nat) ({ cls := "com/example/large_table_updates/largetableupdates/RunResultSummaryPinLaw", name := "dig", desc := "(Ljava/lang/String;IJ)Z" } : Jvm.MethodName)).before a0 Z = true := hw _ (List.mem_of_getElem? (i := 251) rfl)
theorem w253 {Z : State} {a0 : Array Value} (hw : ∀ d ∈ tables_1, d.before a0 Z = true) : (Jvm.Cond.code ({ cls := "com/example/large_table_updates/largetableupdates/RunResultSummaryPinLaw", name := "dig", desc := "(Ljava/lang/String;IJ)Z" } : Jvm.MethodName) method_5_code (4 : Nat) (Option.some Jvm.ClassFile.FieldType.boolean)).before a0 Z = true := hw _ (List.mem_of_getElem? (i := 253) rfl)
theorem pd_543 : parseMethodDescriptor "(Ljava/lang/String;IJ)Z" = some ⟨[(.object "java/lang/String"), .int, .long], some .boolean⟩ := by decide +kernel
theorem w252 {Z : State} {a0 : Array Value} (hw : ∀ d ∈ tables_1, d.before a0 Z = true) : (Jvm.Cond.static ({ cls := "com/example/large_table_updates/largetableupdates/RunResultSummaryPinLaw", name := "dig", desc := "(Ljava/lang/String;IJ)Z" } : Jvm.MethodName)).before a0 Z = true := hw _ (List.mem_of_getElem? (i := 252) rfl)
theorem d43_46 : decode method_6_code 46 = .ok (.istore 9, 2) := by decide +kernel
theorem d43_48 : decode method_6_code 48 = .ok (.iload 7, 2) := by decide +kernel
theorem d43_50 : decode method_6_code 50 = .ok (.iconst 1, 1) := by decide +kernel
theorem d43_51 : decode method_6_code 51 = .ok (.if_icmp .le 32, 3) := by decide +kernel
theorem d43_83 : decode method_6_code 83 = .ok (.iload 7, 2) := by decide +kernel
theorem d43_85 : decode method_6_code 85 = .ok (.iconst 2, 1) := by decide +kernel
theorem d43_86 : decode method_6_code 86 = .ok (.if_icmp .le 32, 3) := by decide +kernel
theorem d43_118 : decode method_6_code 118 = .ok (.iload 7, 2) := by decide +kernel
theorem d43_120 : decode method_6_code 120 = .ok (.iconst 3, 1) := by decide +kernel
theorem d43_121 : decode method_6_code 121 = .ok (.if_icmp .le 32, 3) := by decide +kernel
theorem d43_153 : decode method_6_code 153 = .ok (.iload 7, 2) := by decide +kernel
theorem d43_155 : decode method_6_code 155 = .ok (.iconst 4, 1) := by decide +kernel
theorem d43_156 : decode method_6_code 156 = .ok (.if_icmp .le 32, 3) := by decide +kernel
theorem d43_188 : decode method_6_code 188 = .ok (.iload 7, 2) := by decide +kernel
theorem d43_190 : decode method_6_code 190 = .ok (.iconst 5, 1) := by decide +kernel
theorem d43_191 : decode method_6_code 191 = .ok (.if_icmp .le 32, 3) := by decide +kernel
theorem d43_223 : decode method_6_code 223 = .ok (.iload 7, 2) := by decide +kernel
theorem d43_225 : decode method_6_code 225 = .ok (.bipush 6, 2) := by decide +kernel
theorem d43_227 : decode method_6_code 227 = .ok (.if_icmp .le 33, 3) := by decide +kernel
theorem d43_260 : decode method_6_code 260 = .ok (.iload 7, 2) := by decide +kernel
theorem d43_262 : decode method_6_code 262 = .ok (.bipush 7, 2) := by decide +kernel
theorem d43_264 : decode method_6_code 264 = .ok (.if_icmp .le 33, 3) := by decide +kernel
theorem d43_297 : decode method_6_code 297 = .ok (.iload 7, 2) := by decide +kernel
theorem d43_299 : decode method_6_code 299 = .ok (.bipush 8, 2) := by decide +kernel
theorem d43_301 : decode method_6_code 301 = .ok (.if_icmp .le 33, 3) := by decide +kernel
theorem d43_334 : decode method_6_code 334 = .ok (.iload 7, 2) := by decide +kernel
theorem d43_336 : decode method_6_code 336 = .ok (.bipush 9, 2) := by decide +kernel
theorem d43_338 : decode method_6_code 338 = .ok (.if_icmp .le 33, 3) := by decide +kernel
theorem d43_371 : decode method_6_code 371 = .ok (.iload 7, 2) := by decide +kernel
theorem d43_373 : decode method_6_code 373 = .ok (.bipush 10, 2) := by decide +kernel
theorem d43_375 : decode method_6_code 375 = .ok (.if_icmp .le 33, 3) := by decide +kernel
theorem d43_408 : decode method_6_code 408 = .ok (.iload 7, 2) := by decide +kernel
theorem d43_410 : decode method_6_code 410 = .ok (.bipush 11, 2) := by decide +kernel
theorem d43_412 : decode method_6_code 412 = .ok (.if_icmp .le 33, 3) := by decide +kernel
theorem d43_445 : decode method_6_code 445 = .ok (.iload 7, 2) := by decide +kernel
theorem d43_447 : decode method_6_code 447 = .ok (.bipush 12, 2) := by decide +kernel
theorem d43_449 : decode method_6_code 449 = .ok (.if_icmp .le 33, 3) := by decide +kernel
theorem d43_482 : decode method_6_code 482 = .ok (.iload 7, 2) := by decide +kernel
theorem d43_484 : decode method_6_code 484 = .ok (.bipush 13, 2) := by decide +kernel
theorem d43_486 : decode method_6_code 486 = .ok (.if_icmp .le 33, 3) := by decide +kernel
theorem d43_519 : decode method_6_code 519 = .ok (.iload 7, 2) := by decide +kernel
theorem d43_521 : decode method_6_code 521 = .ok (.bipush 14, 2) := by decide +kernel
theorem d43_523 : decode method_6_code 523 = .ok (.if_icmp .le 33, 3) := by decide +kernel
theorem d43_556 : decode method_6_code 556 = .ok (.iload 7, 2) := by decide +kernel
theorem d43_558 : decode method_6_code 558 = .ok (.bipush 15, 2) := by decide +kernel
theorem d43_560 : decode method_6_code 560 = .ok (.if_icmp .le 33, 3) := by decide +kernel
theorem d43_593 : decode method_6_code 593 = .ok (.iload 7, 2) := by decide +kernel
theorem d43_595 : decode method_6_code 595 = .ok (.bipush 16, 2) := by decide +kernel
theorem d43_597 : decode method_6_code 597 = .ok (.if_icmp .le 33, 3) := by decide +kernel
theorem d43_630 : decode method_6_code 630 = .ok (.iload 7, 2) := by decide +kernel
theorem d43_632 : decode method_6_code 632 = .ok (.bipush 17, 2) := by decide +kernel
theorem d43_634 : decode method_6_code 634 = .ok (.if_icmp .le 33, 3) := by decide +kernel
theorem d43_667 : decode method_6_code 667 = .ok (.iload 7, 2) := by decide +kernel
theorem d43_669 : decode method_6_code 669 = .ok (.bipush 18, 2) := by decide +kernel
theorem d43_671 : decode method_6_code 671 = .ok (.if_icmp .le 33, 3) := by decide +kernel
theorem d43_704 : decode method_6_code 704 = .ok (.iload 4, 2) := by decide +kernel
theorem d43_706 : decode method_6_code 706 = .ok (.ifCond .eq 29, 3) := by decide +kernel
theorem d43_709 : decode method_6_code 709 = .ok (.iload 9, 2) := by decide +kernel
theorem d43_711 : decode method_6_code 711 = .ok (.ifCond .eq 21, 3) := by decide +kernel
theorem d43_714 : decode method_6_code 714 = .ok (.aload_n 0, 1) := by decide +kernel
theorem d43_715 : decode method_6_code 715 = .ok (.iload 8, 2) := by decide +kernel
theorem d43_717 : decode method_6_code 717 = .ok (.iload 7, 2) := by decide +kernel
theorem d43_719 : decode method_6_code 719 = .ok (.isub, 1) := by decide +kernel
theorem d43_720 : decode method_6_code 720 = .ok (.invokevirtual 89, 3) := by decide +kernel
theorem d43_723 : decode method_6_code 723 = .ok (.bipush 45, 2) := by decide +kernel
theorem d43_725 : decode method_6_code 725 = .ok (.if_icmp .ne 7, 3) := by decide +kernel
theorem d43_728 : decode method_6_code 728 = .ok (.iconst 1, 1) := by decide +kernel
theorem d43_729 : decode method_6_code 729 = .ok (.goto 4, 3) := by decide +kernel
theorem d43_733 : decode method_6_code 733 = .ok (.istore 9, 2) := by decide +kernel
theorem d43_735 : decode method_6_code 735 = .ok (.iload 9, 2) := by decide +kernel
theorem d43_737 : decode method_6_code 737 = .ok (.ireturn, 1) := by decide +kernel
theorem d43_54 : decode method_6_code 54 = .ok (.iload 9, 2) := by decide +kernel
theorem d43_56 : decode method_6_code 56 = .ok (.ifCond .eq 24, 3) := by decide +kernel
theorem d43_59 : decode method_6_code 59 = .ok (.aload_n 0, 1) := by decide +kernel
theorem d43_60 : decode method_6_code 60 = .ok (.iload 8, 2) := by decide +kernel
theorem d43_62 : decode method_6_code 62 = .ok (.iconst 1, 1) := by decide +kernel
theorem d43_63 : decode method_6_code 63 = .ok (.isub, 1) := by decide +kernel
theorem d43_64 : decode method_6_code 64 = .ok (.lload 5, 2) := by decide +kernel
theorem d43_66 : decode method_6_code 66 = .ok (.ldc2_w 93, 3) := by decide +kernel
theorem d43_69 : decode method_6_code 69 = .ok (.ldiv, 1) := by decide +kernel
theorem d43_70 : decode method_6_code 70 = .ok (.invokestatic 95, 3) := by decide +kernel
theorem d43_73 : decode method_6_code 73 = .ok (.ifCond .eq 7, 3) := by decide +kernel
theorem d43_76 : decode method_6_code 76 = .ok (.iconst 1, 1) := by decide +kernel
theorem d43_77 : decode method_6_code 77 = .ok (.goto 4, 3) := by decide +kernel
theorem d43_81 : decode method_6_code 81 = .ok (.istore 9, 2) := by decide +kernel
theorem d43_89 : decode method_6_code 89 = .ok (.iload 9, 2) := by decide +kernel
theorem d43_91 : decode method_6_code 91 = .ok (.ifCond .eq 24, 3) := by decide +kernel
theorem d43_94 : decode method_6_code 94 = .ok (.aload_n 0, 1) := by decide +kernel
theorem d43_95 : decode method_6_code 95 = .ok (.iload 8, 2) := by decide +kernel
theorem d43_97 : decode method_6_code 97 = .ok (.iconst 2, 1) := by decide +kernel
theorem d43_98 : decode method_6_code 98 = .ok (.isub, 1) := by decide +kernel
theorem d43_99 : decode method_6_code 99 = .ok (.lload 5, 2) := by decide +kernel
theorem d43_101 : decode method_6_code 101 = .ok (.ldc2_w 98, 3) := by decide +kernel
theorem w260 {Z : State} {a0 : Array Value} (hw : ∀ d ∈ tables_1, d.before a0 Z = true) : (Jvm.Cond.constantLong "com/example/large_table_updates/largetableupdates/RunResultSummaryPinLaw" (98 : Nat) (100 : Int64)).before a0 Z = true := hw _ (List.mem_of_getElem? (i := 260) rfl)
theorem d43_104 : decode method_6_code 104 = .ok (.ldiv, 1) := by decide +kernel
theorem d43_105 : decode method_6_code 105 = .ok (.invokestatic 95, 3) := by decide +kernel
theorem d43_108 : decode method_6_code 108 = .ok (.ifCond .eq 7, 3) := by decide +kernel
theorem d43_111 : decode method_6_code 111 = .ok (.iconst 1, 1) := by decide +kernel
theorem d43_112 : decode method_6_code 112 = .ok (.goto 4, 3) := by decide +kernel
theorem d43_116 : decode method_6_code 116 = .ok (.istore 9, 2) := by decide +kernel
theorem d43_124 : decode method_6_code 124 = .ok (.iload 9, 2) := by decide +kernel
theorem d43_126 : decode method_6_code 126 = .ok (.ifCond .eq 24, 3) := by decide +kernel
theorem d43_129 : decode method_6_code 129 = .ok (.aload_n 0, 1) := by decide +kernel
theorem d43_130 : decode method_6_code 130 = .ok (.iload 8, 2) := by decide +kernel
theorem d43_132 : decode method_6_code 132 = .ok (.iconst 3, 1) := by decide +kernel
theorem d43_133 : decode method_6_code 133 = .ok (.isub, 1) := by decide +kernel
theorem d43_134 : decode method_6_code 134 = .ok (.lload 5, 2) := by decide +kernel
theorem d43_136 : decode method_6_code 136 = .ok (.ldc2_w 100, 3) := by decide +kernel
theorem w261 {Z : State} {a0 : Array Value} (hw : ∀ d ∈ tables_1, d.before a0 Z = true) : (Jvm.Cond.constantLong "com/example/large_table_updates/largetableupdates/RunResultSummaryPinLaw" (100 : Nat) (1000 : Int64)).before a0 Z = true := hw _ (List.mem_of_getElem? (i := 261) rfl)
theorem d43_139 : decode method_6_code 139 = .ok (.ldiv, 1) := by decide +kernel
theorem d43_140 : decode method_6_code 140 = .ok (.invokestatic 95, 3) := by decide +kernel
theorem d43_143 : decode method_6_code 143 = .ok (.ifCond .eq 7, 3) := by decide +kernel
theorem d43_146 : decode method_6_code 146 = .ok (.iconst 1, 1) := by decide +kernel
theorem d43_147 : decode method_6_code 147 = .ok (.goto 4, 3) := by decide +kernel
theorem d43_151 : decode method_6_code 151 = .ok (.istore 9, 2) := by decide +kernel
theorem d43_159 : decode method_6_code 159 = .ok (.iload 9, 2) := by decide +kernel
theorem d43_161 : decode method_6_code 161 = .ok (.ifCond .eq 24, 3) := by decide +kernel
theorem d43_164 : decode method_6_code 164 = .ok (.aload_n 0, 1) := by decide +kernel
theorem d43_165 : decode method_6_code 165 = .ok (.iload 8, 2) := by decide +kernel
theorem d43_167 : decode method_6_code 167 = .ok (.iconst 4, 1) := by decide +kernel
theorem d43_168 : decode method_6_code 168 = .ok (.isub, 1) := by decide +kernel
theorem d43_169 : decode method_6_code 169 = .ok (.lload 5, 2) := by decide +kernel
theorem d43_171 : decode method_6_code 171 = .ok (.ldc2_w 102, 3) := by decide +kernel
theorem w262 {Z : State} {a0 : Array Value} (hw : ∀ d ∈ tables_1, d.before a0 Z = true) : (Jvm.Cond.constantLong "com/example/large_table_updates/largetableupdates/RunResultSummaryPinLaw" (102 : Nat) (10000 : Int64)).before a0 Z = true := hw _ (List.mem_of_getElem? (i := 262) rfl)
theorem d43_174 : decode method_6_code 174 = .ok (.ldiv, 1) := by decide +kernel
theorem d43_175 : decode method_6_code 175 = .ok (.invokestatic 95, 3) := by decide +kernel
theorem d43_178 : decode method_6_code 178 = .ok (.ifCond .eq 7, 3) := by decide +kernel
theorem d43_181 : decode method_6_code 181 = .ok (.iconst 1, 1) := by decide +kernel
theorem d43_182 : decode method_6_code 182 = .ok (.goto 4, 3) := by decide +kernel
theorem d43_186 : decode method_6_code 186 = .ok (.istore 9, 2) := by decide +kernel
theorem d43_194 : decode method_6_code 194 = .ok (.iload 9, 2) := by decide +kernel
theorem d43_196 : decode method_6_code 196 = .ok (.ifCond .eq 24, 3) := by decide +kernel
theorem d43_199 : decode method_6_code 199 = .ok (.aload_n 0, 1) := by decide +kernel
theorem d43_200 : decode method_6_code 200 = .ok (.iload 8, 2) := by decide +kernel
theorem d43_202 : decode method_6_code 202 = .ok (.iconst 5, 1) := by decide +kernel
theorem d43_203 : decode method_6_code 203 = .ok (.isub, 1) := by decide +kernel
theorem d43_204 : decode method_6_code 204 = .ok (.lload 5, 2) := by decide +kernel
theorem d43_206 : decode method_6_code 206 = .ok (.ldc2_w 104, 3) := by decide +kernel
theorem w263 {Z : State} {a0 : Array Value} (hw : ∀ d ∈ tables_1, d.before a0 Z = true) : (Jvm.Cond.constantLong "com/example/large_table_updates/largetableupdates/RunResultSummaryPinLaw" (104 : Nat) (100000 : Int64)).before a0 Z = true := hw _ (List.mem_of_getElem? (i := 263) rfl)
theorem d43_209 : decode method_6_code 209 = .ok (.ldiv, 1) := by decide +kernel
theorem d43_210 : decode method_6_code 210 = .ok (.invokestatic 95, 3) := by decide +kernel
theorem d43_213 : decode method_6_code 213 = .ok (.ifCond .eq 7, 3) := by decide +kernel
theorem d43_216 : decode method_6_code 216 = .ok (.iconst 1, 1) := by decide +kernel
theorem d43_217 : decode method_6_code 217 = .ok (.goto 4, 3) := by decide +kernel
theorem d43_221 : decode method_6_code 221 = .ok (.istore 9, 2) := by decide +kernel
theorem d43_230 : decode method_6_code 230 = .ok (.iload 9, 2) := by decide +kernel
theorem d43_232 : decode method_6_code 232 = .ok (.ifCond .eq 25, 3) := by decide +kernel
theorem d43_235 : decode method_6_code 235 = .ok (.aload_n 0, 1) := by decide +kernel
theorem d43_236 : decode method_6_code 236 = .ok (.iload 8, 2) := by decide +kernel
theorem d43_238 : decode method_6_code 238 = .ok (.bipush 6, 2) := by decide +kernel
theorem d43_240 : decode method_6_code 240 = .ok (.isub, 1) := by decide +kernel
theorem d43_241 : decode method_6_code 241 = .ok (.lload 5, 2) := by decide +kernel
theorem d43_243 : decode method_6_code 243 = .ok (.ldc2_w 106, 3) := by decide +kernel
theorem w264 {Z : State} {a0 : Array Value} (hw : ∀ d ∈ tables_1, d.before a0 Z = true) : (Jvm.Cond.constantLong "com/example/large_table_updates/largetableupdates/RunResultSummaryPinLaw" (106 : Nat) (1000000 : Int64)).before a0 Z = true := hw _ (List.mem_of_getElem? (i := 264) rfl)
theorem d43_246 : decode method_6_code 246 = .ok (.ldiv, 1) := by decide +kernel
theorem d43_247 : decode method_6_code 247 = .ok (.invokestatic 95, 3) := by decide +kernel
theorem d43_250 : decode method_6_code 250 = .ok (.ifCond .eq 7, 3) := by decide +kernel
theorem d43_253 : decode method_6_code 253 = .ok (.iconst 1, 1) := by decide +kernel
theorem d43_254 : decode method_6_code 254 = .ok (.goto 4, 3) := by decide +kernel
theorem d43_258 : decode method_6_code 258 = .ok (.istore 9, 2) := by decide +kernel
theorem d43_267 : decode method_6_code 267 = .ok (.iload 9, 2) := by decide +kernel
theorem d43_269 : decode method_6_code 269 = .ok (.ifCond .eq 25, 3) := by decide +kernel
theorem d43_272 : decode method_6_code 272 = .ok (.aload_n 0, 1) := by decide +kernel
theorem d43_273 : decode method_6_code 273 = .ok (.iload 8, 2) := by decide +kernel
theorem d43_275 : decode method_6_code 275 = .ok (.bipush 7, 2) := by decide +kernel
theorem d43_277 : decode method_6_code 277 = .ok (.isub, 1) := by decide +kernel
theorem d43_278 : decode method_6_code 278 = .ok (.lload 5, 2) := by decide +kernel
theorem d43_280 : decode method_6_code 280 = .ok (.ldc2_w 108, 3) := by decide +kernel
theorem w265 {Z : State} {a0 : Array Value} (hw : ∀ d ∈ tables_1, d.before a0 Z = true) : (Jvm.Cond.constantLong "com/example/large_table_updates/largetableupdates/RunResultSummaryPinLaw" (108 : Nat) (10000000 : Int64)).before a0 Z = true := hw _ (List.mem_of_getElem? (i := 265) rfl)
theorem d43_283 : decode method_6_code 283 = .ok (.ldiv, 1) := by decide +kernel
theorem d43_284 : decode method_6_code 284 = .ok (.invokestatic 95, 3) := by decide +kernel
theorem d43_287 : decode method_6_code 287 = .ok (.ifCond .eq 7, 3) := by decide +kernel
theorem d43_290 : decode method_6_code 290 = .ok (.iconst 1, 1) := by decide +kernel
theorem d43_291 : decode method_6_code 291 = .ok (.goto 4, 3) := by decide +kernel
theorem d43_295 : decode method_6_code 295 = .ok (.istore 9, 2) := by decide +kernel
theorem d43_304 : decode method_6_code 304 = .ok (.iload 9, 2) := by decide +kernel
theorem d43_306 : decode method_6_code 306 = .ok (.ifCond .eq 25, 3) := by decide +kernel
theorem d43_309 : decode method_6_code 309 = .ok (.aload_n 0, 1) := by decide +kernel
theorem d43_310 : decode method_6_code 310 = .ok (.iload 8, 2) := by decide +kernel
theorem d43_312 : decode method_6_code 312 = .ok (.bipush 8, 2) := by decide +kernel
theorem d43_314 : decode method_6_code 314 = .ok (.isub, 1) := by decide +kernel
theorem d43_315 : decode method_6_code 315 = .ok (.lload 5, 2) := by decide +kernel
theorem d43_317 : decode method_6_code 317 = .ok (.ldc2_w 110, 3) := by decide +kernel
theorem w266 {Z : State} {a0 : Array Value} (hw : ∀ d ∈ tables_1, d.before a0 Z = true) : (Jvm.Cond.constantLong "com/example/large_table_updates/largetableupdates/RunResultSummaryPinLaw" (110 : Nat) (100000000 : Int64)).before a0 Z = true := hw _ (List.mem_of_getElem? (i := 266) rfl)
theorem d43_320 : decode method_6_code 320 = .ok (.ldiv, 1) := by decide +kernel
theorem d43_321 : decode method_6_code 321 = .ok (.invokestatic 95, 3) := by decide +kernel
theorem d43_324 : decode method_6_code 324 = .ok (.ifCond .eq 7, 3) := by decide +kernel
theorem d43_327 : decode method_6_code 327 = .ok (.iconst 1, 1) := by decide +kernel
theorem d43_328 : decode method_6_code 328 = .ok (.goto 4, 3) := by decide +kernel
theorem d43_332 : decode method_6_code 332 = .ok (.istore 9, 2) := by decide +kernel
theorem d43_341 : decode method_6_code 341 = .ok (.iload 9, 2) := by decide +kernel
theorem d43_343 : decode method_6_code 343 = .ok (.ifCond .eq 25, 3) := by decide +kernel
theorem d43_346 : decode method_6_code 346 = .ok (.aload_n 0, 1) := by decide +kernel
theorem d43_347 : decode method_6_code 347 = .ok (.iload 8, 2) := by decide +kernel
theorem d43_349 : decode method_6_code 349 = .ok (.bipush 9, 2) := by decide +kernel
theorem d43_351 : decode method_6_code 351 = .ok (.isub, 1) := by decide +kernel
theorem d43_352 : decode method_6_code 352 = .ok (.lload 5, 2) := by decide +kernel
theorem d43_354 : decode method_6_code 354 = .ok (.ldc2_w 112, 3) := by decide +kernel
theorem w267 {Z : State} {a0 : Array Value} (hw : ∀ d ∈ tables_1, d.before a0 Z = true) : (Jvm.Cond.constantLong "com/example/large_table_updates/largetableupdates/RunResultSummaryPinLaw" (112 : Nat) (1000000000 : Int64)).before a0 Z = true := hw _ (List.mem_of_getElem? (i := 267) rfl)
theorem d43_357 : decode method_6_code 357 = .ok (.ldiv, 1) := by decide +kernel
theorem d43_358 : decode method_6_code 358 = .ok (.invokestatic 95, 3) := by decide +kernel
theorem d43_361 : decode method_6_code 361 = .ok (.ifCond .eq 7, 3) := by decide +kernel
theorem d43_364 : decode method_6_code 364 = .ok (.iconst 1, 1) := by decide +kernel
theorem d43_365 : decode method_6_code 365 = .ok (.goto 4, 3) := by decide +kernel
theorem d43_369 : decode method_6_code 369 = .ok (.istore 9, 2) := by decide +kernel
theorem d43_378 : decode method_6_code 378 = .ok (.iload 9, 2) := by decide +kernel
theorem d43_380 : decode method_6_code 380 = .ok (.ifCond .eq 25, 3) := by decide +kernel
theorem d43_383 : decode method_6_code 383 = .ok (.aload_n 0, 1) := by decide +kernel
theorem d43_384 : decode method_6_code 384 = .ok (.iload 8, 2) := by decide +kernel
theorem d43_386 : decode method_6_code 386 = .ok (.bipush 10, 2) := by decide +kernel
theorem d43_388 : decode method_6_code 388 = .ok (.isub, 1) := by decide +kernel
theorem d43_389 : decode method_6_code 389 = .ok (.lload 5, 2) := by decide +kernel
theorem d43_391 : decode method_6_code 391 = .ok (.ldc2_w 114, 3) := by decide +kernel
theorem w268 {Z : State} {a0 : Array Value} (hw : ∀ d ∈ tables_1, d.before a0 Z = true) : (Jvm.Cond.constantLong "com/example/large_table_updates/largetableupdates/RunResultSummaryPinLaw" (114 : Nat) (10000000000 : Int64)).before a0 Z = true := hw _ (List.mem_of_getElem? (i := 268) rfl)
theorem d43_394 : decode method_6_code 394 = .ok (.ldiv, 1) := by decide +kernel
theorem d43_395 : decode method_6_code 395 = .ok (.invokestatic 95, 3) := by decide +kernel
theorem d43_398 : decode method_6_code 398 = .ok (.ifCond .eq 7, 3) := by decide +kernel
theorem d43_401 : decode method_6_code 401 = .ok (.iconst 1, 1) := by decide +kernel
theorem d43_402 : decode method_6_code 402 = .ok (.goto 4, 3) := by decide +kernel
theorem d43_406 : decode method_6_code 406 = .ok (.istore 9, 2) := by decide +kernel
theorem d43_415 : decode method_6_code 415 = .ok (.iload 9, 2) := by decide +kernel
theorem d43_417 : decode method_6_code 417 = .ok (.ifCond .eq 25, 3) := by decide +kernel
theorem d43_420 : decode method_6_code 420 = .ok (.aload_n 0, 1) := by decide +kernel
theorem d43_421 : decode method_6_code 421 = .ok (.iload 8, 2) := by decide +kernel
theorem d43_423 : decode method_6_code 423 = .ok (.bipush 11, 2) := by decide +kernel
theorem d43_425 : decode method_6_code 425 = .ok (.isub, 1) := by decide +kernel
theorem d43_426 : decode method_6_code 426 = .ok (.lload 5, 2) := by decide +kernel
theorem d43_428 : decode method_6_code 428 = .ok (.ldc2_w 116, 3) := by decide +kernel
theorem w269 {Z : State} {a0 : Array Value} (hw : ∀ d ∈ tables_1, d.before a0 Z = true) : (Jvm.Cond.constantLong "com/example/large_table_updates/largetableupdates/RunResultSummaryPinLaw" (116 : Nat) (100000000000 : Int64)).before a0 Z = true := hw _ (List.mem_of_getElem? (i := 269) rfl)
theorem d43_431 : decode method_6_code 431 = .ok (.ldiv, 1) := by decide +kernel
theorem d43_432 : decode method_6_code 432 = .ok (.invokestatic 95, 3) := by decide +kernel
theorem d43_435 : decode method_6_code 435 = .ok (.ifCond .eq 7, 3) := by decide +kernel
theorem d43_438 : decode method_6_code 438 = .ok (.iconst 1, 1) := by decide +kernel
theorem d43_439 : decode method_6_code 439 = .ok (.goto 4, 3) := by decide +kernel
theorem d43_443 : decode method_6_code 443 = .ok (.istore 9, 2) := by decide +kernel
theorem d43_452 : decode method_6_code 452 = .ok (.iload 9, 2) := by decide +kernel
theorem d43_454 : decode method_6_code 454 = .ok (.ifCond .eq 25, 3) := by decide +kernel
theorem d43_457 : decode method_6_code 457 = .ok (.aload_n 0, 1) := by decide +kernel
theorem d43_458 : decode method_6_code 458 = .ok (.iload 8, 2) := by decide +kernel
theorem d43_460 : decode method_6_code 460 = .ok (.bipush 12, 2) := by decide +kernel
theorem d43_462 : decode method_6_code 462 = .ok (.isub, 1) := by decide +kernel
theorem d43_463 : decode method_6_code 463 = .ok (.lload 5, 2) := by decide +kernel
theorem d43_465 : decode method_6_code 465 = .ok (.ldc2_w 118, 3) := by decide +kernel
theorem w270 {Z : State} {a0 : Array Value} (hw : ∀ d ∈ tables_1, d.before a0 Z = true) : (Jvm.Cond.constantLong "com/example/large_table_updates/largetableupdates/RunResultSummaryPinLaw" (118 : Nat) (1000000000000 : Int64)).before a0 Z = true := hw _ (List.mem_of_getElem? (i := 270) rfl)
theorem d43_468 : decode method_6_code 468 = .ok (.ldiv, 1) := by decide +kernel
theorem d43_469 : decode method_6_code 469 = .ok (.invokestatic 95, 3) := by decide +kernel
theorem d43_472 : decode method_6_code 472 = .ok (.ifCond .eq 7, 3) := by decide +kernel
theorem d43_475 : decode method_6_code 475 = .ok (.iconst 1, 1) := by decide +kernel
theorem d43_476 : decode method_6_code 476 = .ok (.goto 4, 3) := by decide +kernel
theorem d43_480 : decode method_6_code 480 = .ok (.istore 9, 2) := by decide +kernel
theorem d43_489 : decode method_6_code 489 = .ok (.iload 9, 2) := by decide +kernel
theorem d43_491 : decode method_6_code 491 = .ok (.ifCond .eq 25, 3) := by decide +kernel
theorem d43_494 : decode method_6_code 494 = .ok (.aload_n 0, 1) := by decide +kernel
theorem d43_495 : decode method_6_code 495 = .ok (.iload 8, 2) := by decide +kernel
theorem d43_497 : decode method_6_code 497 = .ok (.bipush 13, 2) := by decide +kernel
theorem d43_499 : decode method_6_code 499 = .ok (.isub, 1) := by decide +kernel
theorem d43_500 : decode method_6_code 500 = .ok (.lload 5, 2) := by decide +kernel
theorem d43_502 : decode method_6_code 502 = .ok (.ldc2_w 120, 3) := by decide +kernel
theorem w271 {Z : State} {a0 : Array Value} (hw : ∀ d ∈ tables_1, d.before a0 Z = true) : (Jvm.Cond.constantLong "com/example/large_table_updates/largetableupdates/RunResultSummaryPinLaw" (120 : Nat) (10000000000000 : Int64)).before a0 Z = true := hw _ (List.mem_of_getElem? (i := 271) rfl)
theorem d43_505 : decode method_6_code 505 = .ok (.ldiv, 1) := by decide +kernel
theorem d43_506 : decode method_6_code 506 = .ok (.invokestatic 95, 3) := by decide +kernel
theorem d43_509 : decode method_6_code 509 = .ok (.ifCond .eq 7, 3) := by decide +kernel
theorem d43_512 : decode method_6_code 512 = .ok (.iconst 1, 1) := by decide +kernel
theorem d43_513 : decode method_6_code 513 = .ok (.goto 4, 3) := by decide +kernel
theorem d43_517 : decode method_6_code 517 = .ok (.istore 9, 2) := by decide +kernel
theorem d43_526 : decode method_6_code 526 = .ok (.iload 9, 2) := by decide +kernel
theorem d43_528 : decode method_6_code 528 = .ok (.ifCond .eq 25, 3) := by decide +kernel
theorem d43_531 : decode method_6_code 531 = .ok (.aload_n 0, 1) := by decide +kernel
theorem d43_532 : decode method_6_code 532 = .ok (.iload 8, 2) := by decide +kernel
theorem d43_534 : decode method_6_code 534 = .ok (.bipush 14, 2) := by decide +kernel
theorem d43_536 : decode method_6_code 536 = .ok (.isub, 1) := by decide +kernel
theorem d43_537 : decode method_6_code 537 = .ok (.lload 5, 2) := by decide +kernel
theorem d43_539 : decode method_6_code 539 = .ok (.ldc2_w 122, 3) := by decide +kernel
theorem w272 {Z : State} {a0 : Array Value} (hw : ∀ d ∈ tables_1, d.before a0 Z = true) : (Jvm.Cond.constantLong "com/example/large_table_updates/largetableupdates/RunResultSummaryPinLaw" (122 : Nat) (100000000000000 : Int64)).before a0 Z = true := hw _ (List.mem_of_getElem? (i := 272) rfl)
theorem d43_542 : decode method_6_code 542 = .ok (.ldiv, 1) := by decide +kernel
theorem d43_543 : decode method_6_code 543 = .ok (.invokestatic 95, 3) := by decide +kernel
theorem d43_546 : decode method_6_code 546 = .ok (.ifCond .eq 7, 3) := by decide +kernel
theorem d43_549 : decode method_6_code 549 = .ok (.iconst 1, 1) := by decide +kernel
theorem d43_550 : decode method_6_code 550 = .ok (.goto 4, 3) := by decide +kernel
theorem d43_554 : decode method_6_code 554 = .ok (.istore 9, 2) := by decide +kernel
theorem d43_563 : decode method_6_code 563 = .ok (.iload 9, 2) := by decide +kernel
theorem d43_565 : decode method_6_code 565 = .ok (.ifCond .eq 25, 3) := by decide +kernel
theorem d43_568 : decode method_6_code 568 = .ok (.aload_n 0, 1) := by decide +kernel
theorem d43_569 : decode method_6_code 569 = .ok (.iload 8, 2) := by decide +kernel
theorem d43_571 : decode method_6_code 571 = .ok (.bipush 15, 2) := by decide +kernel
theorem d43_573 : decode method_6_code 573 = .ok (.isub, 1) := by decide +kernel
theorem d43_574 : decode method_6_code 574 = .ok (.lload 5, 2) := by decide +kernel
theorem d43_576 : decode method_6_code 576 = .ok (.ldc2_w 124, 3) := by decide +kernel
theorem w273 {Z : State} {a0 : Array Value} (hw : ∀ d ∈ tables_1, d.before a0 Z = true) : (Jvm.Cond.constantLong "com/example/large_table_updates/largetableupdates/RunResultSummaryPinLaw" (124 : Nat) (1000000000000000 : Int64)).before a0 Z = true := hw _ (List.mem_of_getElem? (i := 273) rfl)
theorem d43_579 : decode method_6_code 579 = .ok (.ldiv, 1) := by decide +kernel
theorem d43_580 : decode method_6_code 580 = .ok (.invokestatic 95, 3) := by decide +kernel
theorem d43_583 : decode method_6_code 583 = .ok (.ifCond .eq 7, 3) := by decide +kernel
theorem d43_586 : decode method_6_code 586 = .ok (.iconst 1, 1) := by decide +kernel
theorem d43_587 : decode method_6_code 587 = .ok (.goto 4, 3) := by decide +kernel
theorem d43_591 : decode method_6_code 591 = .ok (.istore 9, 2) := by decide +kernel
theorem d43_600 : decode method_6_code 600 = .ok (.iload 9, 2) := by decide +kernel
theorem d43_602 : decode method_6_code 602 = .ok (.ifCond .eq 25, 3) := by decide +kernel
theorem d43_605 : decode method_6_code 605 = .ok (.aload_n 0, 1) := by decide +kernel
theorem d43_606 : decode method_6_code 606 = .ok (.iload 8, 2) := by decide +kernel
theorem d43_608 : decode method_6_code 608 = .ok (.bipush 16, 2) := by decide +kernel
theorem d43_610 : decode method_6_code 610 = .ok (.isub, 1) := by decide +kernel
theorem d43_611 : decode method_6_code 611 = .ok (.lload 5, 2) := by decide +kernel
theorem d43_613 : decode method_6_code 613 = .ok (.ldc2_w 126, 3) := by decide +kernel
theorem w274 {Z : State} {a0 : Array Value} (hw : ∀ d ∈ tables_1, d.before a0 Z = true) : (Jvm.Cond.constantLong "com/example/large_table_updates/largetableupdates/RunResultSummaryPinLaw" (126 : Nat) (10000000000000000 : Int64)).before a0 Z = true := hw _ (List.mem_of_getElem? (i := 274) rfl)
theorem d43_616 : decode method_6_code 616 = .ok (.ldiv, 1) := by decide +kernel
theorem d43_617 : decode method_6_code 617 = .ok (.invokestatic 95, 3) := by decide +kernel
theorem d43_620 : decode method_6_code 620 = .ok (.ifCond .eq 7, 3) := by decide +kernel
theorem d43_623 : decode method_6_code 623 = .ok (.iconst 1, 1) := by decide +kernel
theorem d43_624 : decode method_6_code 624 = .ok (.goto 4, 3) := by decide +kernel
theorem d43_628 : decode method_6_code 628 = .ok (.istore 9, 2) := by decide +kernel
theorem d43_637 : decode method_6_code 637 = .ok (.iload 9, 2) := by decide +kernel
theorem d43_639 : decode method_6_code 639 = .ok (.ifCond .eq 25, 3) := by decide +kernel
theorem d43_642 : decode method_6_code 642 = .ok (.aload_n 0, 1) := by decide +kernel
theorem d43_643 : decode method_6_code 643 = .ok (.iload 8, 2) := by decide +kernel
theorem d43_645 : decode method_6_code 645 = .ok (.bipush 17, 2) := by decide +kernel
theorem d43_647 : decode method_6_code 647 = .ok (.isub, 1) := by decide +kernel
theorem d43_648 : decode method_6_code 648 = .ok (.lload 5, 2) := by decide +kernel
theorem d43_650 : decode method_6_code 650 = .ok (.ldc2_w 128, 3) := by decide +kernel
theorem w275 {Z : State} {a0 : Array Value} (hw : ∀ d ∈ tables_1, d.before a0 Z = true) : (Jvm.Cond.constantLong "com/example/large_table_updates/largetableupdates/RunResultSummaryPinLaw" (128 : Nat) (100000000000000000 : Int64)).before a0 Z = true := hw _ (List.mem_of_getElem? (i := 275) rfl)
theorem d43_653 : decode method_6_code 653 = .ok (.ldiv, 1) := by decide +kernel
theorem d43_654 : decode method_6_code 654 = .ok (.invokestatic 95, 3) := by decide +kernel
theorem d43_657 : decode method_6_code 657 = .ok (.ifCond .eq 7, 3) := by decide +kernel
theorem d43_660 : decode method_6_code 660 = .ok (.iconst 1, 1) := by decide +kernel
theorem d43_661 : decode method_6_code 661 = .ok (.goto 4, 3) := by decide +kernel
theorem d43_665 : decode method_6_code 665 = .ok (.istore 9, 2) := by decide +kernel
theorem d43_674 : decode method_6_code 674 = .ok (.iload 9, 2) := by decide +kernel
theorem d43_676 : decode method_6_code 676 = .ok (.ifCond .eq 25, 3) := by decide +kernel
theorem d43_679 : decode method_6_code 679 = .ok (.aload_n 0, 1) := by decide +kernel
theorem d43_680 : decode method_6_code 680 = .ok (.iload 8, 2) := by decide +kernel
theorem d43_682 : decode method_6_code 682 = .ok (.bipush 18, 2) := by decide +kernel
theorem d43_684 : decode method_6_code 684 = .ok (.isub, 1) := by decide +kernel
theorem d43_685 : decode method_6_code 685 = .ok (.lload 5, 2) := by decide +kernel
theorem d43_687 : decode method_6_code 687 = .ok (.ldc2_w 130, 3) := by decide +kernel
theorem w276 {Z : State} {a0 : Array Value} (hw : ∀ d ∈ tables_1, d.before a0 Z = true) : (Jvm.Cond.constantLong "com/example/large_table_updates/largetableupdates/RunResultSummaryPinLaw" (130 : Nat) (1000000000000000000 : Int64)).before a0 Z = true := hw _ (List.mem_of_getElem? (i := 276) rfl)
theorem d43_690 : decode method_6_code 690 = .ok (.ldiv, 1) := by decide +kernel
theorem d43_691 : decode method_6_code 691 = .ok (.invokestatic 95, 3) := by decide +kernel
theorem d43_694 : decode method_6_code 694 = .ok (.ifCond .eq 7, 3) := by decide +kernel
theorem d43_697 : decode method_6_code 697 = .ok (.iconst 1, 1) := by decide +kernel
theorem d43_698 : decode method_6_code 698 = .ok (.goto 4, 3) := by decide +kernel
theorem d43_702 : decode method_6_code 702 = .ok (.istore 9, 2) := by decide +kernel
theorem d43_0 : decode method_6_code 0 = .ok (.lload_n 2, 1) := by decide +kernel
theorem d43_1 : decode method_6_code 1 = .ok (.lconst 0, 1) := by decide +kernel
theorem d43_2 : decode method_6_code 2 = .ok (.lcmp, 1) := by decide +kernel
theorem d43_3 : decode method_6_code 3 = .ok (.ifCond .ge 7, 3) := by decide +kernel
theorem d43_6 : decode method_6_code 6 = .ok (.iconst 1, 1) := by decide +kernel
theorem d43_7 : decode method_6_code 7 = .ok (.goto 4, 3) := by decide +kernel
theorem d43_11 : decode method_6_code 11 = .ok (.istore 4, 2) := by decide +kernel
theorem d43_13 : decode method_6_code 13 = .ok (.iload 4, 2) := by decide +kernel
theorem d43_15 : decode method_6_code 15 = .ok (.ifCond .eq 7, 3) := by decide +kernel
theorem d43_18 : decode method_6_code 18 = .ok (.lload_n 2, 1) := by decide +kernel
theorem d43_19 : decode method_6_code 19 = .ok (.goto 5, 3) := by decide +kernel
theorem d43_24 : decode method_6_code 24 = .ok (.lstore 5, 2) := by decide +kernel
theorem d43_10 : decode method_6_code 10 = .ok (.iconst 0, 1) := by decide +kernel
theorem d43_22 : decode method_6_code 22 = .ok (.lload_n 2, 1) := by decide +kernel
theorem d43_23 : decode method_6_code 23 = .ok (.lneg, 1) := by decide +kernel
theorem d37_0 : decode method_7_code 0 = .ok (.iload_n 3, 1) := by decide +kernel
theorem d37_1 : decode method_7_code 1 = .ok (.aload_n 2, 1) := by decide +kernel
theorem d37_2 : decode method_7_code 2 = .ok (.invokevirtual 30, 3) := by decide +kernel
theorem w194 {Z : State} {a0 : Array Value} (hw : ∀ d ∈ tables_1, d.before a0 Z = true) : (Jvm.Cond.methodLink "com/example/large_table_updates/largetableupdates/RunResultSummaryPinLaw" (30 : Nat) ({ cls := "java/lang/String", name := "length", desc := "()I" } : Jvm.MethodName)).before a0 Z = true := hw _ (List.mem_of_getElem? (i := 194) rfl)
theorem d37_5 : decode method_7_code 5 = .ok (.if_icmp .ge 18, 3) := by decide +kernel
theorem d37_8 : decode method_7_code 8 = .ok (.aload_n 0, 1) := by decide +kernel
theorem d37_9 : decode method_7_code 9 = .ok (.iload_n 1, 1) := by decide +kernel
theorem d37_10 : decode method_7_code 10 = .ok (.iload_n 3, 1) := by decide +kernel
theorem d37_11 : decode method_7_code 11 = .ok (.iadd, 1) := by decide +kernel
theorem d37_12 : decode method_7_code 12 = .ok (.invokevirtual 89, 3) := by decide +kernel
theorem d37_15 : decode method_7_code 15 = .ok (.aload_n 2, 1) := by decide +kernel
theorem d37_16 : decode method_7_code 16 = .ok (.iload_n 3, 1) := by decide +kernel
theorem d37_17 : decode method_7_code 17 = .ok (.invokevirtual 89, 3) := by decide +kernel
theorem d37_20 : decode method_7_code 20 = .ok (.if_icmp .ne 7, 3) := by decide +kernel
theorem d37_23 : decode method_7_code 23 = .ok (.iconst 1, 1) := by decide +kernel
theorem d37_24 : decode method_7_code 24 = .ok (.goto 4, 3) := by decide +kernel
theorem d37_28 : decode method_7_code 28 = .ok (.ireturn, 1) := by decide +kernel
theorem d36_0 : decode method_8_code 0 = .ok (.aload_n 0, 1) := by decide +kernel
theorem d36_1 : decode method_8_code 1 = .ok (.iload_n 1, 1) := by decide +kernel
theorem d36_2 : decode method_8_code 2 = .ok (.aload_n 2, 1) := by decide +kernel
theorem d36_3 : decode method_8_code 3 = .ok (.iconst 0, 1) := by decide +kernel
theorem d36_4 : decode method_8_code 4 = .ok (.invokestatic 132, 3) := by decide +kernel
theorem w223 {Z : State} {a0 : Array Value} (hw : ∀ d ∈ tables_1, d.before a0 Z = true) : (Jvm.Cond.methodLink "com/example/large_table_updates/largetableupdates/RunResultSummaryPinLaw" (132 : Nat) ({ cls := "com/example/large_table_updates/largetableupdates/RunResultSummaryPinLaw", name := "at", desc := "(Ljava/lang/String;ILjava/lang/String;I)Z" } : Jvm.MethodName)).before a0 Z = true := hw _ (List.mem_of_getElem? (i := 223) rfl)
theorem w225 {Z : State} {a0 : Array Value} (hw : ∀ d ∈ tables_1, d.before a0 Z = true) : (Jvm.Cond.code ({ cls := "com/example/large_table_updates/largetableupdates/RunResultSummaryPinLaw", name := "at", desc := "(Ljava/lang/String;ILjava/lang/String;I)Z" } : Jvm.MethodName) method_7_code (4 : Nat) (Option.some Jvm.ClassFile.FieldType.boolean)).before a0 Z = true := hw _ (List.mem_of_getElem? (i := 225) rfl)
theorem pd_903 : parseMethodDescriptor "(Ljava/lang/String;ILjava/lang/String;I)Z" = some ⟨[(.object "java/lang/String"), .int, (.object "java/lang/String"), .int], some .boolean⟩ := by decide +kernel
theorem w224 {Z : State} {a0 : Array Value} (hw : ∀ d ∈ tables_1, d.before a0 Z = true) : (Jvm.Cond.static ({ cls := "com/example/large_table_updates/largetableupdates/RunResultSummaryPinLaw", name := "at", desc := "(Ljava/lang/String;ILjava/lang/String;I)Z" } : Jvm.MethodName)).before a0 Z = true := hw _ (List.mem_of_getElem? (i := 224) rfl)
theorem d36_7 : decode method_8_code 7 = .ok (.ifCond .eq 189, 3) := by decide +kernel
theorem d36_10 : decode method_8_code 10 = .ok (.aload_n 0, 1) := by decide +kernel
theorem d36_11 : decode method_8_code 11 = .ok (.iload_n 1, 1) := by decide +kernel
theorem d36_12 : decode method_8_code 12 = .ok (.aload_n 2, 1) := by decide +kernel
theorem d36_13 : decode method_8_code 13 = .ok (.iconst 1, 1) := by decide +kernel
theorem d36_14 : decode method_8_code 14 = .ok (.invokestatic 132, 3) := by decide +kernel
theorem d36_17 : decode method_8_code 17 = .ok (.ifCond .eq 179, 3) := by decide +kernel
theorem d36_20 : decode method_8_code 20 = .ok (.aload_n 0, 1) := by decide +kernel
theorem d36_21 : decode method_8_code 21 = .ok (.iload_n 1, 1) := by decide +kernel
theorem d36_22 : decode method_8_code 22 = .ok (.aload_n 2, 1) := by decide +kernel
theorem d36_23 : decode method_8_code 23 = .ok (.iconst 2, 1) := by decide +kernel
theorem d36_24 : decode method_8_code 24 = .ok (.invokestatic 132, 3) := by decide +kernel
theorem d36_27 : decode method_8_code 27 = .ok (.ifCond .eq 169, 3) := by decide +kernel
theorem d36_30 : decode method_8_code 30 = .ok (.aload_n 0, 1) := by decide +kernel
theorem d36_31 : decode method_8_code 31 = .ok (.iload_n 1, 1) := by decide +kernel
theorem d36_32 : decode method_8_code 32 = .ok (.aload_n 2, 1) := by decide +kernel
theorem d36_33 : decode method_8_code 33 = .ok (.iconst 3, 1) := by decide +kernel
theorem d36_34 : decode method_8_code 34 = .ok (.invokestatic 132, 3) := by decide +kernel
theorem d36_37 : decode method_8_code 37 = .ok (.ifCond .eq 159, 3) := by decide +kernel
theorem d36_40 : decode method_8_code 40 = .ok (.aload_n 0, 1) := by decide +kernel
theorem d36_41 : decode method_8_code 41 = .ok (.iload_n 1, 1) := by decide +kernel
theorem d36_42 : decode method_8_code 42 = .ok (.aload_n 2, 1) := by decide +kernel
theorem d36_43 : decode method_8_code 43 = .ok (.iconst 4, 1) := by decide +kernel
theorem d36_44 : decode method_8_code 44 = .ok (.invokestatic 132, 3) := by decide +kernel
theorem d36_47 : decode method_8_code 47 = .ok (.ifCond .eq 149, 3) := by decide +kernel
theorem d36_50 : decode method_8_code 50 = .ok (.aload_n 0, 1) := by decide +kernel
theorem d36_51 : decode method_8_code 51 = .ok (.iload_n 1, 1) := by decide +kernel
theorem d36_52 : decode method_8_code 52 = .ok (.aload_n 2, 1) := by decide +kernel
theorem d36_53 : decode method_8_code 53 = .ok (.iconst 5, 1) := by decide +kernel
theorem d36_54 : decode method_8_code 54 = .ok (.invokestatic 132, 3) := by decide +kernel
theorem d36_57 : decode method_8_code 57 = .ok (.ifCond .eq 139, 3) := by decide +kernel
theorem d36_60 : decode method_8_code 60 = .ok (.aload_n 0, 1) := by decide +kernel
theorem d36_61 : decode method_8_code 61 = .ok (.iload_n 1, 1) := by decide +kernel
theorem d36_62 : decode method_8_code 62 = .ok (.aload_n 2, 1) := by decide +kernel
theorem d36_63 : decode method_8_code 63 = .ok (.bipush 6, 2) := by decide +kernel
theorem d36_65 : decode method_8_code 65 = .ok (.invokestatic 132, 3) := by decide +kernel
theorem d36_68 : decode method_8_code 68 = .ok (.ifCond .eq 128, 3) := by decide +kernel
theorem d36_71 : decode method_8_code 71 = .ok (.aload_n 0, 1) := by decide +kernel
theorem d36_72 : decode method_8_code 72 = .ok (.iload_n 1, 1) := by decide +kernel
theorem d36_73 : decode method_8_code 73 = .ok (.aload_n 2, 1) := by decide +kernel
theorem d36_74 : decode method_8_code 74 = .ok (.bipush 7, 2) := by decide +kernel
theorem d36_76 : decode method_8_code 76 = .ok (.invokestatic 132, 3) := by decide +kernel
theorem d36_79 : decode method_8_code 79 = .ok (.ifCond .eq 117, 3) := by decide +kernel
theorem d36_82 : decode method_8_code 82 = .ok (.aload_n 0, 1) := by decide +kernel
theorem d36_83 : decode method_8_code 83 = .ok (.iload_n 1, 1) := by decide +kernel
theorem d36_84 : decode method_8_code 84 = .ok (.aload_n 2, 1) := by decide +kernel
theorem d36_85 : decode method_8_code 85 = .ok (.bipush 8, 2) := by decide +kernel
theorem d36_87 : decode method_8_code 87 = .ok (.invokestatic 132, 3) := by decide +kernel
theorem d36_90 : decode method_8_code 90 = .ok (.ifCond .eq 106, 3) := by decide +kernel
theorem d36_93 : decode method_8_code 93 = .ok (.aload_n 0, 1) := by decide +kernel
theorem d36_94 : decode method_8_code 94 = .ok (.iload_n 1, 1) := by decide +kernel
theorem d36_95 : decode method_8_code 95 = .ok (.aload_n 2, 1) := by decide +kernel
theorem d36_96 : decode method_8_code 96 = .ok (.bipush 9, 2) := by decide +kernel
theorem d36_98 : decode method_8_code 98 = .ok (.invokestatic 132, 3) := by decide +kernel
theorem d36_101 : decode method_8_code 101 = .ok (.ifCond .eq 95, 3) := by decide +kernel
theorem d36_104 : decode method_8_code 104 = .ok (.aload_n 0, 1) := by decide +kernel
theorem d36_105 : decode method_8_code 105 = .ok (.iload_n 1, 1) := by decide +kernel
theorem d36_106 : decode method_8_code 106 = .ok (.aload_n 2, 1) := by decide +kernel
theorem d36_107 : decode method_8_code 107 = .ok (.bipush 10, 2) := by decide +kernel
theorem d36_109 : decode method_8_code 109 = .ok (.invokestatic 132, 3) := by decide +kernel
theorem d36_112 : decode method_8_code 112 = .ok (.ifCond .eq 84, 3) := by decide +kernel
theorem d36_115 : decode method_8_code 115 = .ok (.aload_n 0, 1) := by decide +kernel
theorem d36_116 : decode method_8_code 116 = .ok (.iload_n 1, 1) := by decide +kernel
theorem d36_117 : decode method_8_code 117 = .ok (.aload_n 2, 1) := by decide +kernel
theorem d36_118 : decode method_8_code 118 = .ok (.bipush 11, 2) := by decide +kernel
theorem d36_120 : decode method_8_code 120 = .ok (.invokestatic 132, 3) := by decide +kernel
theorem d36_123 : decode method_8_code 123 = .ok (.ifCond .eq 73, 3) := by decide +kernel
theorem d36_126 : decode method_8_code 126 = .ok (.aload_n 0, 1) := by decide +kernel
theorem d36_127 : decode method_8_code 127 = .ok (.iload_n 1, 1) := by decide +kernel
theorem d36_128 : decode method_8_code 128 = .ok (.aload_n 2, 1) := by decide +kernel
theorem d36_129 : decode method_8_code 129 = .ok (.bipush 12, 2) := by decide +kernel
theorem d36_131 : decode method_8_code 131 = .ok (.invokestatic 132, 3) := by decide +kernel
theorem d36_134 : decode method_8_code 134 = .ok (.ifCond .eq 62, 3) := by decide +kernel
theorem d36_137 : decode method_8_code 137 = .ok (.aload_n 0, 1) := by decide +kernel
theorem d36_138 : decode method_8_code 138 = .ok (.iload_n 1, 1) := by decide +kernel
theorem d36_139 : decode method_8_code 139 = .ok (.aload_n 2, 1) := by decide +kernel
theorem d36_140 : decode method_8_code 140 = .ok (.bipush 13, 2) := by decide +kernel
theorem d36_142 : decode method_8_code 142 = .ok (.invokestatic 132, 3) := by decide +kernel
theorem d36_145 : decode method_8_code 145 = .ok (.ifCond .eq 51, 3) := by decide +kernel
theorem d36_148 : decode method_8_code 148 = .ok (.aload_n 0, 1) := by decide +kernel
theorem d36_149 : decode method_8_code 149 = .ok (.iload_n 1, 1) := by decide +kernel
theorem d36_150 : decode method_8_code 150 = .ok (.aload_n 2, 1) := by decide +kernel
theorem d36_151 : decode method_8_code 151 = .ok (.bipush 14, 2) := by decide +kernel
theorem d36_153 : decode method_8_code 153 = .ok (.invokestatic 132, 3) := by decide +kernel
theorem d36_156 : decode method_8_code 156 = .ok (.ifCond .eq 40, 3) := by decide +kernel
theorem d36_159 : decode method_8_code 159 = .ok (.aload_n 0, 1) := by decide +kernel
theorem d36_160 : decode method_8_code 160 = .ok (.iload_n 1, 1) := by decide +kernel
theorem d36_161 : decode method_8_code 161 = .ok (.aload_n 2, 1) := by decide +kernel
theorem d36_162 : decode method_8_code 162 = .ok (.bipush 15, 2) := by decide +kernel
theorem d36_164 : decode method_8_code 164 = .ok (.invokestatic 132, 3) := by decide +kernel
theorem d36_167 : decode method_8_code 167 = .ok (.ifCond .eq 29, 3) := by decide +kernel
theorem d36_170 : decode method_8_code 170 = .ok (.aload_n 0, 1) := by decide +kernel
theorem d36_171 : decode method_8_code 171 = .ok (.iload_n 1, 1) := by decide +kernel
theorem d36_172 : decode method_8_code 172 = .ok (.aload_n 2, 1) := by decide +kernel
theorem d36_173 : decode method_8_code 173 = .ok (.bipush 16, 2) := by decide +kernel
theorem d36_175 : decode method_8_code 175 = .ok (.invokestatic 132, 3) := by decide +kernel
theorem d36_178 : decode method_8_code 178 = .ok (.ifCond .eq 18, 3) := by decide +kernel
theorem d36_181 : decode method_8_code 181 = .ok (.aload_n 0, 1) := by decide +kernel
theorem d36_182 : decode method_8_code 182 = .ok (.iload_n 1, 1) := by decide +kernel
theorem d36_183 : decode method_8_code 183 = .ok (.aload_n 2, 1) := by decide +kernel
theorem d36_184 : decode method_8_code 184 = .ok (.bipush 17, 2) := by decide +kernel
theorem d36_186 : decode method_8_code 186 = .ok (.invokestatic 132, 3) := by decide +kernel
theorem d36_189 : decode method_8_code 189 = .ok (.ifCond .eq 7, 3) := by decide +kernel
theorem d36_192 : decode method_8_code 192 = .ok (.iconst 1, 1) := by decide +kernel
theorem d36_193 : decode method_8_code 193 = .ok (.goto 4, 3) := by decide +kernel
theorem d36_197 : decode method_8_code 197 = .ok (.ireturn, 1) := by decide +kernel
theorem d24_86 : decode jdk_35_method_14_code 86 = .ok (.iload 10, 2) := by decide +kernel
theorem d24_88 : decode jdk_35_method_14_code 88 = .ok (.bipush (-100), 2) := by decide +kernel
theorem d24_90 : decode jdk_35_method_14_code 90 = .ok (.if_icmp .gt 53, 3) := by decide +kernel
theorem d24_143 : decode jdk_35_method_14_code 143 = .ok (.aload_n 3, 1) := by decide +kernel
theorem d24_144 : decode jdk_35_method_14_code 144 = .ok (.iinc 7 (-1), 3) := by decide +kernel
theorem d24_147 : decode jdk_35_method_14_code 147 = .ok (.iload 7, 2) := by decide +kernel
theorem d24_149 : decode jdk_35_method_14_code 149 = .ok (.getstatic 133, 3) := by decide +kernel
theorem w149 {Z : State} {a0 : Array Value} (hw : ∀ d ∈ tables_1, d.before a0 Z = true) : (Jvm.Cond.fieldLink "java/lang/Long" (133 : Nat) "java/lang/Integer" "DigitOnes" "[B").before a0 Z = true := hw _ (List.mem_of_getElem? (i := 149) rfl)
theorem d24_152 : decode jdk_35_method_14_code 152 = .ok (.iload 10, 2) := by decide +kernel
theorem d24_154 : decode jdk_35_method_14_code 154 = .ok (.ineg, 1) := by decide +kernel
theorem d24_155 : decode jdk_35_method_14_code 155 = .ok (.baload, 1) := by decide +kernel
theorem d24_156 : decode jdk_35_method_14_code 156 = .ok (.bastore, 1) := by decide +kernel
theorem d24_157 : decode jdk_35_method_14_code 157 = .ok (.iload 10, 2) := by decide +kernel
theorem d24_159 : decode jdk_35_method_14_code 159 = .ok (.bipush (-9), 2) := by decide +kernel
theorem d24_161 : decode jdk_35_method_14_code 161 = .ok (.if_icmp .ge 17, 3) := by decide +kernel
theorem d24_164 : decode jdk_35_method_14_code 164 = .ok (.aload_n 3, 1) := by decide +kernel
theorem d24_165 : decode jdk_35_method_14_code 165 = .ok (.iinc 7 (-1), 3) := by decide +kernel
theorem d24_168 : decode jdk_35_method_14_code 168 = .ok (.iload 7, 2) := by decide +kernel
theorem d24_170 : decode jdk_35_method_14_code 170 = .ok (.getstatic 137, 3) := by decide +kernel
theorem w257 {Z : State} {a0 : Array Value} (hw : ∀ d ∈ tables_1, d.before a0 Z = true) : (Jvm.Cond.fieldLink "java/lang/Long" (137 : Nat) "java/lang/Integer" "DigitTens" "[B").before a0 Z = true := hw _ (List.mem_of_getElem? (i := 257) rfl)
theorem d24_173 : decode jdk_35_method_14_code 173 = .ok (.iload 10, 2) := by decide +kernel
theorem d24_175 : decode jdk_35_method_14_code 175 = .ok (.ineg, 1) := by decide +kernel
theorem d24_176 : decode jdk_35_method_14_code 176 = .ok (.baload, 1) := by decide +kernel
theorem d24_177 : decode jdk_35_method_14_code 177 = .ok (.bastore, 1) := by decide +kernel
theorem d24_178 : decode jdk_35_method_14_code 178 = .ok (.iload 8, 2) := by decide +kernel
theorem d24_180 : decode jdk_35_method_14_code 180 = .ok (.ifCond .eq 12, 3) := by decide +kernel
theorem d24_192 : decode jdk_35_method_14_code 192 = .ok (.iload 7, 2) := by decide +kernel
theorem d24_194 : decode jdk_35_method_14_code 194 = .ok (.ireturn, 1) := by decide +kernel
theorem d24_183 : decode jdk_35_method_14_code 183 = .ok (.aload_n 3, 1) := by decide +kernel
theorem d24_184 : decode jdk_35_method_14_code 184 = .ok (.iinc 7 (-1), 3) := by decide +kernel
theorem d24_187 : decode jdk_35_method_14_code 187 = .ok (.iload 7, 2) := by decide +kernel
theorem d24_189 : decode jdk_35_method_14_code 189 = .ok (.bipush 45, 2) := by decide +kernel
theorem d24_191 : decode jdk_35_method_14_code 191 = .ok (.bastore, 1) := by decide +kernel
theorem d24_93 : decode jdk_35_method_14_code 93 = .ok (.iload 10, 2) := by decide +kernel
theorem d24_95 : decode jdk_35_method_14_code 95 = .ok (.bipush 100, 2) := by decide +kernel
theorem d24_97 : decode jdk_35_method_14_code 97 = .ok (.idiv, 1) := by decide +kernel
theorem d24_98 : decode jdk_35_method_14_code 98 = .ok (.istore 9, 2) := by decide +kernel
theorem d24_100 : decode jdk_35_method_14_code 100 = .ok (.iload 9, 2) := by decide +kernel
theorem d24_102 : decode jdk_35_method_14_code 102 = .ok (.bipush 100, 2) := by decide +kernel
theorem d24_104 : decode jdk_35_method_14_code 104 = .ok (.imul, 1) := by decide +kernel
theorem d24_105 : decode jdk_35_method_14_code 105 = .ok (.iload 10, 2) := by decide +kernel
theorem d24_107 : decode jdk_35_method_14_code 107 = .ok (.isub, 1) := by decide +kernel
theorem d24_108 : decode jdk_35_method_14_code 108 = .ok (.istore 6, 2) := by decide +kernel
theorem d24_110 : decode jdk_35_method_14_code 110 = .ok (.iload 9, 2) := by decide +kernel
theorem d24_112 : decode jdk_35_method_14_code 112 = .ok (.istore 10, 2) := by decide +kernel
theorem d24_114 : decode jdk_35_method_14_code 114 = .ok (.aload_n 3, 1) := by decide +kernel
theorem d24_115 : decode jdk_35_method_14_code 115 = .ok (.iinc 7 (-1), 3) := by decide +kernel
theorem d24_118 : decode jdk_35_method_14_code 118 = .ok (.iload 7, 2) := by decide +kernel
theorem d24_120 : decode jdk_35_method_14_code 120 = .ok (.getstatic 133, 3) := by decide +kernel
theorem d24_123 : decode jdk_35_method_14_code 123 = .ok (.iload 6, 2) := by decide +kernel
theorem d24_125 : decode jdk_35_method_14_code 125 = .ok (.baload, 1) := by decide +kernel
theorem d24_126 : decode jdk_35_method_14_code 126 = .ok (.bastore, 1) := by decide +kernel
theorem d24_127 : decode jdk_35_method_14_code 127 = .ok (.aload_n 3, 1) := by decide +kernel
theorem d24_128 : decode jdk_35_method_14_code 128 = .ok (.iinc 7 (-1), 3) := by decide +kernel
theorem d24_131 : decode jdk_35_method_14_code 131 = .ok (.iload 7, 2) := by decide +kernel
theorem d24_133 : decode jdk_35_method_14_code 133 = .ok (.getstatic 137, 3) := by decide +kernel
theorem d24_136 : decode jdk_35_method_14_code 136 = .ok (.iload 6, 2) := by decide +kernel
theorem d24_138 : decode jdk_35_method_14_code 138 = .ok (.baload, 1) := by decide +kernel
theorem d24_139 : decode jdk_35_method_14_code 139 = .ok (.bastore, 1) := by decide +kernel
theorem d24_140 : decode jdk_35_method_14_code 140 = .ok (.goto (-54), 3) := by decide +kernel
theorem d24_24 : decode jdk_35_method_14_code 24 = .ok (.lload_n 0, 1) := by decide +kernel
theorem d24_25 : decode jdk_35_method_14_code 25 = .ok (.ldc2_w 129, 3) := by decide +kernel
theorem w148 {Z : State} {a0 : Array Value} (hw : ∀ d ∈ tables_1, d.before a0 Z = true) : (Jvm.Cond.constantLong "java/lang/Long" (129 : Nat) (-2147483648 : Int64)).before a0 Z = true := hw _ (List.mem_of_getElem? (i := 148) rfl)
theorem d24_28 : decode jdk_35_method_14_code 28 = .ok (.lcmp, 1) := by decide +kernel
theorem d24_29 : decode jdk_35_method_14_code 29 = .ok (.ifCond .gt 53, 3) := by decide +kernel
theorem d24_82 : decode jdk_35_method_14_code 82 = .ok (.lload_n 0, 1) := by decide +kernel
theorem d24_83 : decode jdk_35_method_14_code 83 = .ok (.l2i, 1) := by decide +kernel
theorem d24_84 : decode jdk_35_method_14_code 84 = .ok (.istore 10, 2) := by decide +kernel
theorem d24_32 : decode jdk_35_method_14_code 32 = .ok (.lload_n 0, 1) := by decide +kernel
theorem d24_33 : decode jdk_35_method_14_code 33 = .ok (.ldc2_w 131, 3) := by decide +kernel
theorem w259 {Z : State} {a0 : Array Value} (hw : ∀ d ∈ tables_1, d.before a0 Z = true) : (Jvm.Cond.constantLong "java/lang/Long" (131 : Nat) (100 : Int64)).before a0 Z = true := hw _ (List.mem_of_getElem? (i := 259) rfl)
theorem d24_36 : decode jdk_35_method_14_code 36 = .ok (.ldiv, 1) := by decide +kernel
theorem d24_37 : decode jdk_35_method_14_code 37 = .ok (.lstore 4, 2) := by decide +kernel
theorem d24_39 : decode jdk_35_method_14_code 39 = .ok (.lload 4, 2) := by decide +kernel
theorem d24_41 : decode jdk_35_method_14_code 41 = .ok (.ldc2_w 131, 3) := by decide +kernel
theorem d24_44 : decode jdk_35_method_14_code 44 = .ok (.lmul, 1) := by decide +kernel
theorem d24_45 : decode jdk_35_method_14_code 45 = .ok (.lload_n 0, 1) := by decide +kernel
theorem d24_46 : decode jdk_35_method_14_code 46 = .ok (.lsub, 1) := by decide +kernel
theorem d24_47 : decode jdk_35_method_14_code 47 = .ok (.l2i, 1) := by decide +kernel
theorem d24_48 : decode jdk_35_method_14_code 48 = .ok (.istore 6, 2) := by decide +kernel
theorem d24_50 : decode jdk_35_method_14_code 50 = .ok (.lload 4, 2) := by decide +kernel
theorem d24_52 : decode jdk_35_method_14_code 52 = .ok (.lstore_n 0, 1) := by decide +kernel
theorem d24_53 : decode jdk_35_method_14_code 53 = .ok (.aload_n 3, 1) := by decide +kernel
theorem d24_54 : decode jdk_35_method_14_code 54 = .ok (.iinc 7 (-1), 3) := by decide +kernel
theorem d24_57 : decode jdk_35_method_14_code 57 = .ok (.iload 7, 2) := by decide +kernel
theorem d24_59 : decode jdk_35_method_14_code 59 = .ok (.getstatic 133, 3) := by decide +kernel
theorem d24_62 : decode jdk_35_method_14_code 62 = .ok (.iload 6, 2) := by decide +kernel
theorem d24_64 : decode jdk_35_method_14_code 64 = .ok (.baload, 1) := by decide +kernel
theorem d24_65 : decode jdk_35_method_14_code 65 = .ok (.bastore, 1) := by decide +kernel
theorem d24_66 : decode jdk_35_method_14_code 66 = .ok (.aload_n 3, 1) := by decide +kernel
theorem d24_67 : decode jdk_35_method_14_code 67 = .ok (.iinc 7 (-1), 3) := by decide +kernel
theorem d24_70 : decode jdk_35_method_14_code 70 = .ok (.iload 7, 2) := by decide +kernel
theorem d24_72 : decode jdk_35_method_14_code 72 = .ok (.getstatic 137, 3) := by decide +kernel
theorem d24_75 : decode jdk_35_method_14_code 75 = .ok (.iload 6, 2) := by decide +kernel
theorem d24_77 : decode jdk_35_method_14_code 77 = .ok (.baload, 1) := by decide +kernel
theorem d24_78 : decode jdk_35_method_14_code 78 = .ok (.bastore, 1) := by decide +kernel
theorem d24_79 : decode jdk_35_method_14_code 79 = .ok (.goto (-55), 3) := by decide +kernel
theorem d24_0 : decode jdk_35_method_14_code 0 = .ok (.iload_n 2, 1) := by decide +kernel
theorem d24_1 : decode jdk_35_method_14_code 1 = .ok (.istore 7, 2) := by decide +kernel
theorem d24_3 : decode jdk_35_method_14_code 3 = .ok (.lload_n 0, 1) := by decide +kernel
theorem d24_4 : decode jdk_35_method_14_code 4 = .ok (.lconst 0, 1) := by decide +kernel
theorem d24_5 : decode jdk_35_method_14_code 5 = .ok (.lcmp, 1) := by decide +kernel
theorem d24_6 : decode jdk_35_method_14_code 6 = .ok (.ifCond .ge 7, 3) := by decide +kernel
theorem d24_9 : decode jdk_35_method_14_code 9 = .ok (.iconst 1, 1) := by decide +kernel
theorem d24_10 : decode jdk_35_method_14_code 10 = .ok (.goto 4, 3) := by decide +kernel
theorem d24_14 : decode jdk_35_method_14_code 14 = .ok (.istore 8, 2) := by decide +kernel
theorem d24_16 : decode jdk_35_method_14_code 16 = .ok (.iload 8, 2) := by decide +kernel
theorem d24_18 : decode jdk_35_method_14_code 18 = .ok (.ifCond .ne 6, 3) := by decide +kernel
theorem d24_13 : decode jdk_35_method_14_code 13 = .ok (.iconst 0, 1) := by decide +kernel
theorem d24_21 : decode jdk_35_method_14_code 21 = .ok (.lload_n 0, 1) := by decide +kernel
theorem d24_22 : decode jdk_35_method_14_code 22 = .ok (.lneg, 1) := by decide +kernel
theorem d24_23 : decode jdk_35_method_14_code 23 = .ok (.lstore_n 0, 1) := by decide +kernel
theorem own_putB {cs ls : List Int32} {n : Nat} (h : n + ls.length ≤ cs.length) : (bf cs ls n).length = cs.length ∧ (bf cs ls n).take (n + ls.length) = cs.take n ++ ls := own_put h
theorem d21_0 : decode jdk_68_method_33_code 0 = .ok (.aload_n 0, 1) := by decide +kernel
theorem d21_1 : decode jdk_68_method_33_code 1 = .ok (.getfield 79, 3) := by decide +kernel
theorem d21_4 : decode jdk_68_method_33_code 4 = .ok (.istore_n 3, 1) := by decide +kernel
theorem d21_5 : decode jdk_68_method_33_code 5 = .ok (.iload_n 3, 1) := by decide +kernel
theorem d21_6 : decode jdk_68_method_33_code 6 = .ok (.lload_n 1, 1) := by decide +kernel
theorem d21_7 : decode jdk_68_method_33_code 7 = .ok (.invokestatic 254, 3) := by decide +kernel
theorem w135 {Z : State} {a0 : Array Value} (hw : ∀ d ∈ tables_1, d.before a0 Z = true) : (Jvm.Cond.methodLink "java/lang/AbstractStringBuilder" (254 : Nat) ({ cls := "java/lang/Long", name := "stringSize", desc := "(J)I" } : Jvm.MethodName)).before a0 Z = true := hw _ (List.mem_of_getElem? (i := 135) rfl)
theorem w138 {Z : State} {a0 : Array Value} (hw : ∀ d ∈ tables_1, d.before a0 Z = true) : (Jvm.Cond.code ({ cls := "java/lang/Long", name := "stringSize", desc := "(J)I" } : Jvm.MethodName) jdk_35_method_15_code (6 : Nat) (Option.some Jvm.ClassFile.FieldType.int)).before a0 Z = true := hw _ (List.mem_of_getElem? (i := 138) rfl)
theorem w137 {Z : State} {a0 : Array Value} (hw : ∀ d ∈ tables_1, d.before a0 Z = true) : (Jvm.Cond.initialized "java/lang/Long").before a0 Z = true := hw _ (List.mem_of_getElem? (i := 137) rfl)
theorem w136 {Z : State} {a0 : Array Value} (hw : ∀ d ∈ tables_1, d.before a0 Z = true) : (Jvm.Cond.static ({ cls := "java/lang/Long", name := "stringSize", desc := "(J)I" } : Jvm.MethodName)).before a0 Z = true := hw _ (List.mem_of_getElem? (i := 136) rfl)
theorem d21_10 : decode jdk_68_method_33_code 10 = .ok (.iadd, 1) := by decide +kernel
theorem d21_11 : decode jdk_68_method_33_code 11 = .ok (.istore 4, 2) := by decide +kernel
theorem d21_13 : decode jdk_68_method_33_code 13 = .ok (.aload_n 0, 1) := by decide +kernel
theorem d21_14 : decode jdk_68_method_33_code 14 = .ok (.iload 4, 2) := by decide +kernel
theorem d21_16 : decode jdk_68_method_33_code 16 = .ok (.invokevirtual 100, 3) := by decide +kernel
theorem d21_19 : decode jdk_68_method_33_code 19 = .ok (.aload_n 0, 1) := by decide +kernel
theorem d21_20 : decode jdk_68_method_33_code 20 = .ok (.invokevirtual 83, 3) := by decide +kernel
theorem w140 {Z : State} {a0 : Array Value} (hw : ∀ d ∈ tables_1, d.before a0 Z = true) : (Jvm.Cond.methodLink "java/lang/AbstractStringBuilder" (83 : Nat) ({ cls := "java/lang/AbstractStringBuilder", name := "isLatin1", desc := "()Z" } : Jvm.MethodName)).before a0 Z = true := hw _ (List.mem_of_getElem? (i := 140) rfl)
theorem d21_23 : decode jdk_68_method_33_code 23 = .ok (.ifCond .eq 17, 3) := by decide +kernel
theorem d21_26 : decode jdk_68_method_33_code 26 = .ok (.lload_n 1, 1) := by decide +kernel
theorem d21_27 : decode jdk_68_method_33_code 27 = .ok (.iload 4, 2) := by decide +kernel
theorem d21_29 : decode jdk_68_method_33_code 29 = .ok (.aload_n 0, 1) := by decide +kernel
theorem d21_30 : decode jdk_68_method_33_code 30 = .ok (.getfield 15, 3) := by decide +kernel
theorem d21_33 : decode jdk_68_method_33_code 33 = .ok (.invokestatic 259, 3) := by decide +kernel
theorem w145 {Z : State} {a0 : Array Value} (hw : ∀ d ∈ tables_1, d.before a0 Z = true) : (Jvm.Cond.methodLink "java/lang/AbstractStringBuilder" (259 : Nat) ({ cls := "java/lang/Long", name := "getChars", desc := "(JI[B)I" } : Jvm.MethodName)).before a0 Z = true := hw _ (List.mem_of_getElem? (i := 145) rfl)
theorem w147 {Z : State} {a0 : Array Value} (hw : ∀ d ∈ tables_1, d.before a0 Z = true) : (Jvm.Cond.code ({ cls := "java/lang/Long", name := "getChars", desc := "(JI[B)I" } : Jvm.MethodName) jdk_35_method_14_code (11 : Nat) (Option.some Jvm.ClassFile.FieldType.int)).before a0 Z = true := hw _ (List.mem_of_getElem? (i := 147) rfl)
theorem pd_1137 : parseMethodDescriptor "(JI[B)I" = some ⟨[.long, .int, (.array .byte)], some .int⟩ := by decide +kernel
theorem w146 {Z : State} {a0 : Array Value} (hw : ∀ d ∈ tables_1, d.before a0 Z = true) : (Jvm.Cond.static ({ cls := "java/lang/Long", name := "getChars", desc := "(JI[B)I" } : Jvm.MethodName)).before a0 Z = true := hw _ (List.mem_of_getElem? (i := 146) rfl)
theorem d21_36 : decode jdk_68_method_33_code 36 = .ok (.pop, 1) := by decide +kernel
theorem d21_37 : decode jdk_68_method_33_code 37 = .ok (.goto 15, 3) := by decide +kernel
theorem d21_52 : decode jdk_68_method_33_code 52 = .ok (.aload_n 0, 1) := by decide +kernel
theorem d21_53 : decode jdk_68_method_33_code 53 = .ok (.iload 4, 2) := by decide +kernel
theorem d21_55 : decode jdk_68_method_33_code 55 = .ok (.putfield 79, 3) := by decide +kernel
theorem d21_58 : decode jdk_68_method_33_code 58 = .ok (.aload_n 0, 1) := by decide +kernel
theorem d21_59 : decode jdk_68_method_33_code 59 = .ok (.areturn, 1) := by decide +kernel
theorem d20_0 : decode jdk_67_method_16_code 0 = .ok (.aload_n 0, 1) := by decide +kernel
theorem d20_1 : decode jdk_67_method_16_code 1 = .ok (.lload_n 1, 1) := by decide +kernel
theorem d20_2 : decode jdk_67_method_16_code 2 = .ok (.invokespecial 56, 3) := by decide +kernel
theorem w131 {Z : State} {a0 : Array Value} (hw : ∀ d ∈ tables_1, d.before a0 Z = true) : (Jvm.Cond.methodLink "java/lang/StringBuilder" (56 : Nat) ({ cls := "java/lang/AbstractStringBuilder", name := "append", desc := "(J)Ljava/lang/AbstractStringBuilder;" } : Jvm.MethodName)).before a0 Z = true := hw _ (List.mem_of_getElem? (i := 131) rfl)
theorem w132 {Z : State} {a0 : Array Value} (hw : ∀ d ∈ tables_1, d.before a0 Z = true) : (Jvm.Cond.instanceMethod ({ cls := "java/lang/AbstractStringBuilder", name := "append", desc := "(J)Ljava/lang/AbstractStringBuilder;" } : Jvm.MethodName)).before a0 Z = true := hw _ (List.mem_of_getElem? (i := 132) rfl)
theorem w134 {Z : State} {a0 : Array Value} (hw : ∀ d ∈ tables_1, d.before a0 Z = true) : (Jvm.Cond.code ({ cls := "java/lang/AbstractStringBuilder", name := "append", desc := "(J)Ljava/lang/AbstractStringBuilder;" } : Jvm.MethodName) jdk_68_method_33_code (5 : Nat) (Option.some (Jvm.ClassFile.FieldType.object "java/lang/AbstractStringBuilder"))).before a0 Z = true := hw _ (List.mem_of_getElem? (i := 134) rfl)
theorem pd_1148 : parseMethodDescriptor "(J)Ljava/lang/AbstractStringBuilder;" = some ⟨[.long], some (.object "java/lang/AbstractStringBuilder")⟩ := by decide +kernel
theorem d20_5 : decode jdk_67_method_16_code 5 = .ok (.pop, 1) := by decide +kernel
theorem d20_6 : decode jdk_67_method_16_code 6 = .ok (.aload_n 0, 1) := by decide +kernel
theorem d20_7 : decode jdk_67_method_16_code 7 = .ok (.areturn, 1) := by decide +kernel
theorem d2_0 : decode jdk_30_method_1_code 0 = .ok (.aload_n 0, 1) := by decide +kernel
theorem d2_1 : decode jdk_30_method_1_code 1 = .ok (.invokespecial 1, 3) := by decide +kernel
theorem w12 {Z : State} {a0 : Array Value} (hw : ∀ d ∈ tables_1, d.before a0 Z = true) : (Jvm.Cond.methodLink "java/lang/Record" (1 : Nat) ({ cls := "java/lang/Object", name := "<init>", desc := "()V" } : Jvm.MethodName)).before a0 Z = true := hw _ (List.mem_of_getElem? (i := 12) rfl)
theorem d2_4 : decode jdk_30_method_1_code 4 = .ok (.return_, 1) := by decide +kernel
theorem pn_1155 : plainName "java/lang/Record" = true := by first | (simp [plainName, overriddenIn]; done) | decide +kernel
theorem d1_0 : decode prog_19_method_1_code 0 = .ok (.aload_n 0, 1) := by decide +kernel
theorem d1_1 : decode prog_19_method_1_code 1 = .ok (.invokespecial 1, 3) := by decide +kernel
theorem w7 {Z : State} {a0 : Array Value} (hw : ∀ d ∈ tables_1, d.before a0 Z = true) : (Jvm.Cond.methodLink "com/example/large_table_updates/largetableupdates/RunResult" (1 : Nat) ({ cls := "java/lang/Record", name := "<init>", desc := "()V" } : Jvm.MethodName)).before a0 Z = true := hw _ (List.mem_of_getElem? (i := 7) rfl)
theorem w11 {Z : State} {a0 : Array Value} (hw : ∀ d ∈ tables_1, d.before a0 Z = true) : (Jvm.Cond.code ({ cls := "java/lang/Record", name := "<init>", desc := "()V" } : Jvm.MethodName) jdk_30_method_1_code (1 : Nat) (Option.none : Option Jvm.ClassFile.FieldType)).before a0 Z = true := hw _ (List.mem_of_getElem? (i := 11) rfl)
theorem w10 {Z : State} {a0 : Array Value} (hw : ∀ d ∈ tables_1, d.before a0 Z = true) : (Jvm.Cond.initialized "java/lang/Record").before a0 Z = true := hw _ (List.mem_of_getElem? (i := 10) rfl)
theorem pd_1158 : parseMethodDescriptor "()V" = some ⟨[], none⟩ := by decide +kernel
theorem w8 {Z : State} {a0 : Array Value} (hw : ∀ d ∈ tables_1, d.before a0 Z = true) : (Jvm.Cond.instanceMethod ({ cls := "java/lang/Record", name := "<init>", desc := "()V" } : Jvm.MethodName)).before a0 Z = true := hw _ (List.mem_of_getElem? (i := 8) rfl)
theorem d1_4 : decode prog_19_method_1_code 4 = .ok (.lload_n 1, 1) := by decide +kernel
theorem d1_5 : decode prog_19_method_1_code 5 = .ok (.lconst 0, 1) := by decide +kernel
theorem d1_6 : decode prog_19_method_1_code 6 = .ok (.lcmp, 1) := by decide +kernel
theorem d1_7 : decode prog_19_method_1_code 7 = .ok (.ifCond .ge 30, 3) := by decide +kernel
theorem d1_37 : decode prog_19_method_1_code 37 = .ok (.aload_n 0, 1) := by decide +kernel
theorem d1_38 : decode prog_19_method_1_code 38 = .ok (.lload_n 1, 1) := by decide +kernel
theorem d1_39 : decode prog_19_method_1_code 39 = .ok (.putfield 28, 3) := by decide +kernel
theorem w15 {Z : State} {a0 : Array Value} (hw : ∀ d ∈ tables_1, d.before a0 Z = true) : (Jvm.Cond.fieldLink "com/example/large_table_updates/largetableupdates/RunResult" (28 : Nat) "com/example/large_table_updates/largetableupdates/RunResult" "rowsModifiedAtLeast" "J").before a0 Z = true := hw _ (List.mem_of_getElem? (i := 15) rfl)
theorem w16 {Z : State} {a0 : Array Value} (hw : ∀ d ∈ tables_1, d.before a0 Z = true) : (Jvm.Cond.laysFinal "com/example/large_table_updates/largetableupdates/RunResult" "com/example/large_table_updates/largetableupdates/RunResult" "rowsModifiedAtLeast" "J").before a0 Z = true := hw _ (List.mem_of_getElem? (i := 16) rfl)
theorem w2 {Z : State} {a0 : Array Value} (hw : ∀ d ∈ tables_1, d.before a0 Z = true) : (Jvm.Cond.instantiable "com/example/large_table_updates/largetableupdates/RunResult" (3 : Nat)).before a0 Z = true := hw _ (List.mem_of_getElem? (i := 2) rfl)
theorem d1_42 : decode prog_19_method_1_code 42 = .ok (.aload_n 0, 1) := by decide +kernel
theorem d1_43 : decode prog_19_method_1_code 43 = .ok (.lload_n 3, 1) := by decide +kernel
theorem d1_44 : decode prog_19_method_1_code 44 = .ok (.putfield 34, 3) := by decide +kernel
theorem w17 {Z : State} {a0 : Array Value} (hw : ∀ d ∈ tables_1, d.before a0 Z = true) : (Jvm.Cond.fieldLink "com/example/large_table_updates/largetableupdates/RunResult" (34 : Nat) "com/example/large_table_updates/largetableupdates/RunResult" "partitions" "J").before a0 Z = true := hw _ (List.mem_of_getElem? (i := 17) rfl)
theorem w18 {Z : State} {a0 : Array Value} (hw : ∀ d ∈ tables_1, d.before a0 Z = true) : (Jvm.Cond.laysFinal "com/example/large_table_updates/largetableupdates/RunResult" "com/example/large_table_updates/largetableupdates/RunResult" "partitions" "J").before a0 Z = true := hw _ (List.mem_of_getElem? (i := 18) rfl)
theorem d1_47 : decode prog_19_method_1_code 47 = .ok (.aload_n 0, 1) := by decide +kernel
theorem d1_48 : decode prog_19_method_1_code 48 = .ok (.iload 5, 2) := by decide +kernel
theorem d1_50 : decode prog_19_method_1_code 50 = .ok (.putfield 37, 3) := by decide +kernel
theorem w19 {Z : State} {a0 : Array Value} (hw : ∀ d ∈ tables_1, d.before a0 Z = true) : (Jvm.Cond.fieldLink "com/example/large_table_updates/largetableupdates/RunResult" (37 : Nat) "com/example/large_table_updates/largetableupdates/RunResult" "stoppedEarly" "Z").before a0 Z = true := hw _ (List.mem_of_getElem? (i := 19) rfl)
theorem w20 {Z : State} {a0 : Array Value} (hw : ∀ d ∈ tables_1, d.before a0 Z = true) : (Jvm.Cond.laysFinal "com/example/large_table_updates/largetableupdates/RunResult" "com/example/large_table_updates/largetableupdates/RunResult" "stoppedEarly" "Z").before a0 Z = true := hw _ (List.mem_of_getElem? (i := 20) rfl)
theorem d1_53 : decode prog_19_method_1_code 53 = .ok (.return_, 1) := by decide +kernel
theorem pn_1173 : plainName "com/example/large_table_updates/largetableupdates/RunResult" = true := by first | (simp [plainName, overriddenIn]; done) | decide +kernel
theorem d4_0 : decode prog_19_method_2_code 0 = .ok (.aload_n 0, 1) := by decide +kernel
theorem d4_1 : decode prog_19_method_2_code 1 = .ok (.getfield 37, 3) := by decide +kernel
theorem d4_4 : decode prog_19_method_2_code 4 = .ok (.ifCond .eq 9, 3) := by decide +kernel
theorem d4_13 : decode prog_19_method_2_code 13 = .ok (.ldc 43, 2) := by decide +kernel
theorem w26 {Z : State} {a0 : Array Value} (hw : ∀ d ∈ tables_1, d.before a0 Z = true) : (Jvm.Cond.stringLink "com/example/large_table_updates/largetableupdates/RunResult" (43 : Nat) ".").before a0 Z = true := hw _ (List.mem_of_getElem? (i := 26) rfl)
theorem d4_15 : decode prog_19_method_2_code 15 = .ok (.astore_n 1, 1) := by decide +kernel
theorem d4_16 : decode prog_19_method_2_code 16 = .ok (.new 9, 3) := by decide +kernel
theorem w34 {Z : State} {a0 : Array Value} (hw : ∀ d ∈ tables_1, d.before a0 Z = true) : (Jvm.Cond.classLink "com/example/large_table_updates/largetableupdates/RunResult" (9 : Nat) "java/lang/StringBuilder").before a0 Z = true := hw _ (List.mem_of_getElem? (i := 34) rfl)
theorem d4_19 : decode prog_19_method_2_code 19 = .ok (.dup, 1) := by decide +kernel
theorem d4_20 : decode prog_19_method_2_code 20 = .ok (.invokespecial 11, 3) := by decide +kernel
theorem w37 {Z : State} {a0 : Array Value} (hw : ∀ d ∈ tables_1, d.before a0 Z = true) : (Jvm.Cond.methodLink "com/example/large_table_updates/largetableupdates/RunResult" (11 : Nat) ({ cls := "java/lang/StringBuilder", name := "<init>", desc := "()V" } : Jvm.MethodName)).before a0 Z = true := hw _ (List.mem_of_getElem? (i := 37) rfl)
theorem w39 {Z : State} {a0 : Array Value} (hw : ∀ d ∈ tables_1, d.before a0 Z = true) : (Jvm.Cond.code ({ cls := "java/lang/StringBuilder", name := "<init>", desc := "()V" } : Jvm.MethodName) jdk_67_method_1_code (1 : Nat) (Option.none : Option Jvm.ClassFile.FieldType)).before a0 Z = true := hw _ (List.mem_of_getElem? (i := 39) rfl)
theorem w38 {Z : State} {a0 : Array Value} (hw : ∀ d ∈ tables_1, d.before a0 Z = true) : (Jvm.Cond.instanceMethod ({ cls := "java/lang/StringBuilder", name := "<init>", desc := "()V" } : Jvm.MethodName)).before a0 Z = true := hw _ (List.mem_of_getElem? (i := 38) rfl)
theorem d4_23 : decode prog_19_method_2_code 23 = .ok (.ldc 45, 2) := by decide +kernel
theorem w52 {Z : State} {a0 : Array Value} (hw : ∀ d ∈ tables_1, d.before a0 Z = true) : (Jvm.Cond.stringLink "com/example/large_table_updates/largetableupdates/RunResult" (45 : Nat) "Modified at least ").before a0 Z = true := hw _ (List.mem_of_getElem? (i := 52) rfl)
theorem d4_25 : decode prog_19_method_2_code 25 = .ok (.invokevirtual 14, 3) := by decide +kernel
theorem w53 {Z : State} {a0 : Array Value} (hw : ∀ d ∈ tables_1, d.before a0 Z = true) : (Jvm.Cond.methodLink "com/example/large_table_updates/largetableupdates/RunResult" (14 : Nat) ({ cls := "java/lang/StringBuilder", name := "append", desc := "(Ljava/lang/String;)Ljava/lang/StringBuilder;" } : Jvm.MethodName)).before a0 Z = true := hw _ (List.mem_of_getElem? (i := 53) rfl)
theorem w57 {Z : State} {a0 : Array Value} (hw : ∀ d ∈ tables_1, d.before a0 Z = true) : (Jvm.Cond.code ({ cls := "java/lang/StringBuilder", name := "append", desc := "(Ljava/lang/String;)Ljava/lang/StringBuilder;" } : Jvm.MethodName) jdk_67_method_7_code (2 : Nat) (Option.some (Jvm.ClassFile.FieldType.object "java/lang/StringBuilder"))).before a0 Z = true := hw _ (List.mem_of_getElem? (i := 57) rfl)
theorem pd_1184 : parseMethodDescriptor "(Ljava/lang/String;)Ljava/lang/StringBuilder;" = some ⟨[(.object "java/lang/String")], some (.object "java/lang/StringBuilder")⟩ := by decide +kernel
theorem w54 {Z : State} {a0 : Array Value} (hw : ∀ d ∈ tables_1, d.before a0 Z = true) : (Jvm.Cond.declares ({ cls := "java/lang/StringBuilder", name := "append", desc := "(Ljava/lang/String;)Ljava/lang/StringBuilder;" } : Jvm.MethodName)).before a0 Z = true := hw _ (List.mem_of_getElem? (i := 54) rfl)
theorem w56 {Z : State} {a0 : Array Value} (hw : ∀ d ∈ tables_1, d.before a0 Z = true) : (Jvm.Cond.selects "java/lang/StringBuilder" ({ cls := "java/lang/StringBuilder", name := "append", desc := "(Ljava/lang/String;)Ljava/lang/StringBuilder;" } : Jvm.MethodName) ({ cls := "java/lang/StringBuilder", name := "append", desc := "(Ljava/lang/String;)Ljava/lang/StringBuilder;" } : Jvm.MethodName)).before a0 Z = true := hw _ (List.mem_of_getElem? (i := 56) rfl)
theorem w55 {Z : State} {a0 : Array Value} (hw : ∀ d ∈ tables_1, d.before a0 Z = true) : (Jvm.Cond.instanceMethod ({ cls := "java/lang/StringBuilder", name := "append", desc := "(Ljava/lang/String;)Ljava/lang/StringBuilder;" } : Jvm.MethodName)).before a0 Z = true := hw _ (List.mem_of_getElem? (i := 55) rfl)
theorem d4_28 : decode prog_19_method_2_code 28 = .ok (.aload_n 0, 1) := by decide +kernel
theorem d4_29 : decode prog_19_method_2_code 29 = .ok (.getfield 28, 3) := by decide +kernel
theorem d4_32 : decode prog_19_method_2_code 32 = .ok (.invokevirtual 18, 3) := by decide +kernel
theorem w126 {Z : State} {a0 : Array Value} (hw : ∀ d ∈ tables_1, d.before a0 Z = true) : (Jvm.Cond.methodLink "com/example/large_table_updates/largetableupdates/RunResult" (18 : Nat) ({ cls := "java/lang/StringBuilder", name := "append", desc := "(J)Ljava/lang/StringBuilder;" } : Jvm.MethodName)).before a0 Z = true := hw _ (List.mem_of_getElem? (i := 126) rfl)
theorem w130 {Z : State} {a0 : Array Value} (hw : ∀ d ∈ tables_1, d.before a0 Z = true) : (Jvm.Cond.code ({ cls := "java/lang/StringBuilder", name := "append", desc := "(J)Ljava/lang/StringBuilder;" } : Jvm.MethodName) jdk_67_method_16_code (3 : Nat) (Option.some (Jvm.ClassFile.FieldType.object "java/lang/StringBuilder"))).before a0 Z = true := hw _ (List.mem_of_getElem? (i := 130) rfl)
theorem pd_1188 : parseMethodDescriptor "(J)Ljava/lang/StringBuilder;" = some ⟨[.long], some (.object "java/lang/StringBuilder")⟩ := by decide +kernel
theorem w127 {Z : State} {a0 : Array Value} (hw : ∀ d ∈ tables_1, d.before a0 Z = true) : (Jvm.Cond.declares ({ cls := "java/lang/StringBuilder", name := "append", desc := "(J)Ljava/lang/StringBuilder;" } : Jvm.MethodName)).before a0 Z = true := hw _ (List.mem_of_getElem? (i := 127) rfl)
theorem w129 {Z : State} {a0 : Array Value} (hw : ∀ d ∈ tables_1, d.before a0 Z = true) : (Jvm.Cond.selects "java/lang/StringBuilder" ({ cls := "java/lang/StringBuilder", name := "append", desc := "(J)Ljava/lang/StringBuilder;" } : Jvm.MethodName) ({ cls := "java/lang/StringBuilder", name := "append", desc := "(J)Ljava/lang/StringBuilder;" } : Jvm.MethodName)).before a0 Z = true := hw _ (List.mem_of_getElem? (i := 129) rfl)
theorem w128 {Z : State} {a0 : Array Value} (hw : ∀ d ∈ tables_1, d.before a0 Z = true) : (Jvm.Cond.instanceMethod ({ cls := "java/lang/StringBuilder", name := "append", desc := "(J)Ljava/lang/StringBuilder;" } : Jvm.MethodName)).before a0 Z = true := hw _ (List.mem_of_getElem? (i := 128) rfl)
theorem d4_35 : decode prog_19_method_2_code 35 = .ok (.ldc 47, 2) := by decide +kernel
theorem w151 {Z : State} {a0 : Array Value} (hw : ∀ d ∈ tables_1, d.before a0 Z = true) : (Jvm.Cond.stringLink "com/example/large_table_updates/largetableupdates/RunResult" (47 : Nat) " row(s) in ").before a0 Z = true := hw _ (List.mem_of_getElem? (i := 151) rfl)
theorem d4_37 : decode prog_19_method_2_code 37 = .ok (.invokevirtual 14, 3) := by decide +kernel
theorem d4_40 : decode prog_19_method_2_code 40 = .ok (.aload_n 0, 1) := by decide +kernel
theorem d4_41 : decode prog_19_method_2_code 41 = .ok (.getfield 34, 3) := by decide +kernel
theorem d4_44 : decode prog_19_method_2_code 44 = .ok (.invokevirtual 18, 3) := by decide +kernel
theorem d4_47 : decode prog_19_method_2_code 47 = .ok (.ldc 49, 2) := by decide +kernel
theorem w152 {Z : State} {a0 : Array Value} (hw : ∀ d ∈ tables_1, d.before a0 Z = true) : (Jvm.Cond.stringLink "com/example/large_table_updates/largetableupdates/RunResult" (49 : Nat) " partition(s)").before a0 Z = true := hw _ (List.mem_of_getElem? (i := 152) rfl)
theorem d4_49 : decode prog_19_method_2_code 49 = .ok (.invokevirtual 14, 3) := by decide +kernel
theorem d4_52 : decode prog_19_method_2_code 52 = .ok (.aload_n 1, 1) := by decide +kernel
theorem d4_53 : decode prog_19_method_2_code 53 = .ok (.invokevirtual 14, 3) := by decide +kernel
theorem d4_56 : decode prog_19_method_2_code 56 = .ok (.invokevirtual 21, 3) := by decide +kernel
theorem w153 {Z : State} {a0 : Array Value} (hw : ∀ d ∈ tables_1, d.before a0 Z = true) : (Jvm.Cond.methodLink "com/example/large_table_updates/largetableupdates/RunResult" (21 : Nat) ({ cls := "java/lang/StringBuilder", name := "toString", desc := "()Ljava/lang/String;" } : Jvm.MethodName)).before a0 Z = true := hw _ (List.mem_of_getElem? (i := 153) rfl)
theorem w157 {Z : State} {a0 : Array Value} (hw : ∀ d ∈ tables_1, d.before a0 Z = true) : (Jvm.Cond.code ({ cls := "java/lang/StringBuilder", name := "toString", desc := "()Ljava/lang/String;" } : Jvm.MethodName) jdk_67_method_42_code (1 : Nat) (Option.some (Jvm.ClassFile.FieldType.object "java/lang/String"))).before a0 Z = true := hw _ (List.mem_of_getElem? (i := 157) rfl)
theorem pd_1199 : parseMethodDescriptor "()Ljava/lang/String;" = some ⟨[], some (.object "java/lang/String")⟩ := by decide +kernel
theorem w154 {Z : State} {a0 : Array Value} (hw : ∀ d ∈ tables_1, d.before a0 Z = true) : (Jvm.Cond.declares ({ cls := "java/lang/StringBuilder", name := "toString", desc := "()Ljava/lang/String;" } : Jvm.MethodName)).before a0 Z = true := hw _ (List.mem_of_getElem? (i := 154) rfl)
theorem w156 {Z : State} {a0 : Array Value} (hw : ∀ d ∈ tables_1, d.before a0 Z = true) : (Jvm.Cond.selects "java/lang/StringBuilder" ({ cls := "java/lang/StringBuilder", name := "toString", desc := "()Ljava/lang/String;" } : Jvm.MethodName) ({ cls := "java/lang/StringBuilder", name := "toString", desc := "()Ljava/lang/String;" } : Jvm.MethodName)).before a0 Z = true := hw _ (List.mem_of_getElem? (i := 156) rfl)
theorem w155 {Z : State} {a0 : Array Value} (hw : ∀ d ∈ tables_1, d.before a0 Z = true) : (Jvm.Cond.instanceMethod ({ cls := "java/lang/StringBuilder", name := "toString", desc := "()Ljava/lang/String;" } : Jvm.MethodName)).before a0 Z = true := hw _ (List.mem_of_getElem? (i := 155) rfl)
theorem d4_59 : decode prog_19_method_2_code 59 = .ok (.areturn, 1) := by decide +kernel
theorem d4_7 : decode prog_19_method_2_code 7 = .ok (.ldc 41, 2) := by decide +kernel
theorem w255 {Z : State} {a0 : Array Value} (hw : ∀ d ∈ tables_1, d.before a0 Z = true) : (Jvm.Cond.stringLink "com/example/large_table_updates/largetableupdates/RunResult" (41 : Nat) " before stopping.").before a0 Z = true := hw _ (List.mem_of_getElem? (i := 255) rfl)
theorem d4_9 : decode prog_19_method_2_code 9 = .ok (.astore_n 1, 1) := by decide +kernel
theorem d4_10 : decode prog_19_method_2_code 10 = .ok (.goto 6, 3) := by decide +kernel
theorem w0 {Z : State} {a0 : Array Value} (hw : ∀ d ∈ tables_1, d.before a0 Z = true) : (Jvm.Cond.constantLong "com/example/large_table_updates/largetableupdates/RunResultSummaryPinLaw" (9 : Nat) (9223372036854775807 : Int64)).before a0 Z = true := hw _ (List.mem_of_getElem? (i := 0) rfl)
theorem w1 {Z : State} {a0 : Array Value} (hw : ∀ d ∈ tables_1, d.before a0 Z = true) : (Jvm.Cond.classLink "com/example/large_table_updates/largetableupdates/RunResultSummaryPinLaw" (11 : Nat) "com/example/large_table_updates/largetableupdates/RunResult").before a0 Z = true := hw _ (List.mem_of_getElem? (i := 1) rfl)
theorem w3 {Z : State} {a0 : Array Value} (hw : ∀ d ∈ tables_1, d.before a0 Z = true) : (Jvm.Cond.initialized "com/example/large_table_updates/largetableupdates/RunResult").before a0 Z = true := hw _ (List.mem_of_getElem? (i := 3) rfl)
theorem w4 {Z : State} {a0 : Array Value} (hw : ∀ d ∈ tables_1, d.before a0 Z = true) : (Jvm.Cond.methodLink "com/example/large_table_updates/largetableupdates/RunResultSummaryPinLaw" (13 : Nat) ({ cls := "com/example/large_table_updates/largetableupdates/RunResult", name := "<init>", desc := "(JJZ)V" } : Jvm.MethodName)).before a0 Z = true := hw _ (List.mem_of_getElem? (i := 4) rfl)
theorem w6 {Z : State} {a0 : Array Value} (hw : ∀ d ∈ tables_1, d.before a0 Z = true) : (Jvm.Cond.code ({ cls := "com/example/large_table_updates/largetableupdates/RunResult", name := "<init>", desc := "(JJZ)V" } : Jvm.MethodName) prog_19_method_1_code (6 : Nat) (Option.none : Option Jvm.ClassFile.FieldType)).before a0 Z = true := hw _ (List.mem_of_getElem? (i := 6) rfl)
theorem pd_1204 : parseMethodDescriptor "(JJZ)V" = some ⟨[.long, .long, .boolean], none⟩ := by decide +kernel
theorem w5 {Z : State} {a0 : Array Value} (hw : ∀ d ∈ tables_1, d.before a0 Z = true) : (Jvm.Cond.instanceMethod ({ cls := "com/example/large_table_updates/largetableupdates/RunResult", name := "<init>", desc := "(JJZ)V" } : Jvm.MethodName)).before a0 Z = true := hw _ (List.mem_of_getElem? (i := 5) rfl)
theorem w21 {Z : State} {a0 : Array Value} (hw : ∀ d ∈ tables_1, d.before a0 Z = true) : (Jvm.Cond.methodLink "com/example/large_table_updates/largetableupdates/RunResultSummaryPinLaw" (16 : Nat) ({ cls := "com/example/large_table_updates/largetableupdates/RunResult", name := "summary", desc := "()Ljava/lang/String;" } : Jvm.MethodName)).before a0 Z = true := hw _ (List.mem_of_getElem? (i := 21) rfl)
theorem w25 {Z : State} {a0 : Array Value} (hw : ∀ d ∈ tables_1, d.before a0 Z = true) : (Jvm.Cond.code ({ cls := "com/example/large_table_updates/largetableupdates/RunResult", name := "summary", desc := "()Ljava/lang/String;" } : Jvm.MethodName) prog_19_method_2_code (2 : Nat) (Option.some (Jvm.ClassFile.FieldType.object "java/lang/String"))).before a0 Z = true := hw _ (List.mem_of_getElem? (i := 25) rfl)
theorem w22 {Z : State} {a0 : Array Value} (hw : ∀ d ∈ tables_1, d.before a0 Z = true) : (Jvm.Cond.declares ({ cls := "com/example/large_table_updates/largetableupdates/RunResult", name := "summary", desc := "()Ljava/lang/String;" } : Jvm.MethodName)).before a0 Z = true := hw _ (List.mem_of_getElem? (i := 22) rfl)
theorem w24 {Z : State} {a0 : Array Value} (hw : ∀ d ∈ tables_1, d.before a0 Z = true) : (Jvm.Cond.selects "com/example/large_table_updates/largetableupdates/RunResult" ({ cls := "com/example/large_table_updates/largetableupdates/RunResult", name := "summary", desc := "()Ljava/lang/String;" } : Jvm.MethodName) ({ cls := "com/example/large_table_updates/largetableupdates/RunResult", name := "summary", desc := "()Ljava/lang/String;" } : Jvm.MethodName)).before a0 Z = true := hw _ (List.mem_of_getElem? (i := 24) rfl)
theorem w23 {Z : State} {a0 : Array Value} (hw : ∀ d ∈ tables_1, d.before a0 Z = true) : (Jvm.Cond.instanceMethod ({ cls := "com/example/large_table_updates/largetableupdates/RunResult", name := "summary", desc := "()Ljava/lang/String;" } : Jvm.MethodName)).before a0 Z = true := hw _ (List.mem_of_getElem? (i := 23) rfl)
theorem w190 {Z : State} {a0 : Array Value} (hw : ∀ d ∈ tables_1, d.before a0 Z = true) : (Jvm.Cond.stringLink "com/example/large_table_updates/largetableupdates/RunResultSummaryPinLaw" (20 : Nat) "Modified at least ").before a0 Z = true := hw _ (List.mem_of_getElem? (i := 190) rfl)
theorem w191 {Z : State} {a0 : Array Value} (hw : ∀ d ∈ tables_1, d.before a0 Z = true) : (Jvm.Cond.stringLink "com/example/large_table_updates/largetableupdates/RunResultSummaryPinLaw" (22 : Nat) " row(s) in ").before a0 Z = true := hw _ (List.mem_of_getElem? (i := 191) rfl)
theorem w192 {Z : State} {a0 : Array Value} (hw : ∀ d ∈ tables_1, d.before a0 Z = true) : (Jvm.Cond.stringLink "com/example/large_table_updates/largetableupdates/RunResultSummaryPinLaw" (24 : Nat) " partition(s)").before a0 Z = true := hw _ (List.mem_of_getElem? (i := 192) rfl)
theorem w193 {Z : State} {a0 : Array Value} (hw : ∀ d ∈ tables_1, d.before a0 Z = true) : (Jvm.Cond.stringLink "com/example/large_table_updates/largetableupdates/RunResultSummaryPinLaw" (28 : Nat) ".").before a0 Z = true := hw _ (List.mem_of_getElem? (i := 193) rfl)
theorem w195 {Z : State} {a0 : Array Value} (hw : ∀ d ∈ tables_1, d.before a0 Z = true) : (Jvm.Cond.methodLink "com/example/large_table_updates/largetableupdates/RunResultSummaryPinLaw" (36 : Nat) ({ cls := "com/example/large_table_updates/largetableupdates/RunResultSummaryPinLaw", name := "width", desc := "(J)I" } : Jvm.MethodName)).before a0 Z = true := hw _ (List.mem_of_getElem? (i := 195) rfl)
theorem w198 {Z : State} {a0 : Array Value} (hw : ∀ d ∈ tables_1, d.before a0 Z = true) : (Jvm.Cond.code ({ cls := "com/example/large_table_updates/largetableupdates/RunResultSummaryPinLaw", name := "width", desc := "(J)I" } : Jvm.MethodName) method_4_code (2 : Nat) (Option.some Jvm.ClassFile.FieldType.int)).before a0 Z = true := hw _ (List.mem_of_getElem? (i := 198) rfl)
theorem w196 {Z : State} {a0 : Array Value} (hw : ∀ d ∈ tables_1, d.before a0 Z = true) : (Jvm.Cond.static ({ cls := "com/example/large_table_updates/largetableupdates/RunResultSummaryPinLaw", name := "width", desc := "(J)I" } : Jvm.MethodName)).before a0 Z = true := hw _ (List.mem_of_getElem? (i := 196) rfl)
theorem w220 {Z : State} {a0 : Array Value} (hw : ∀ d ∈ tables_1, d.before a0 Z = true) : (Jvm.Cond.methodLink "com/example/large_table_updates/largetableupdates/RunResultSummaryPinLaw" (42 : Nat) ({ cls := "com/example/large_table_updates/largetableupdates/RunResultSummaryPinLaw", name := "litAt", desc := "(Ljava/lang/String;ILjava/lang/String;)Z" } : Jvm.MethodName)).before a0 Z = true := hw _ (List.mem_of_getElem? (i := 220) rfl)
theorem w222 {Z : State} {a0 : Array Value} (hw : ∀ d ∈ tables_1, d.before a0 Z = true) : (Jvm.Cond.code ({ cls := "com/example/large_table_updates/largetableupdates/RunResultSummaryPinLaw", name := "litAt", desc := "(Ljava/lang/String;ILjava/lang/String;)Z" } : Jvm.MethodName) method_8_code (3 : Nat) (Option.some Jvm.ClassFile.FieldType.boolean)).before a0 Z = true := hw _ (List.mem_of_getElem? (i := 222) rfl)
theorem pd_1205 : parseMethodDescriptor "(Ljava/lang/String;ILjava/lang/String;)Z" = some ⟨[(.object "java/lang/String"), .int, (.object "java/lang/String")], some .boolean⟩ := by decide +kernel
theorem w221 {Z : State} {a0 : Array Value} (hw : ∀ d ∈ tables_1, d.before a0 Z = true) : (Jvm.Cond.static ({ cls := "com/example/large_table_updates/largetableupdates/RunResultSummaryPinLaw", name := "litAt", desc := "(Ljava/lang/String;ILjava/lang/String;)Z" } : Jvm.MethodName)).before a0 Z = true := hw _ (List.mem_of_getElem? (i := 221) rfl)
theorem w248 {Z : State} {a0 : Array Value} (hw : ∀ d ∈ tables_1, d.before a0 Z = true) : (Jvm.Cond.methodLink "com/example/large_table_updates/largetableupdates/RunResultSummaryPinLaw" (46 : Nat) ({ cls := "com/example/large_table_updates/largetableupdates/RunResultSummaryPinLaw", name := "numAt", desc := "(Ljava/lang/String;IJ)Z" } : Jvm.MethodName)).before a0 Z = true := hw _ (List.mem_of_getElem? (i := 248) rfl)
theorem w250 {Z : State} {a0 : Array Value} (hw : ∀ d ∈ tables_1, d.before a0 Z = true) : (Jvm.Cond.code ({ cls := "com/example/large_table_updates/largetableupdates/RunResultSummaryPinLaw", name := "numAt", desc := "(Ljava/lang/String;IJ)Z" } : Jvm.MethodName) method_6_code (10 : Nat) (Option.some Jvm.ClassFile.FieldType.boolean)).before a0 Z = true := hw _ (List.mem_of_getElem? (i := 250) rfl)
theorem w249 {Z : State} {a0 : Array Value} (hw : ∀ d ∈ tables_1, d.before a0 Z = true) : (Jvm.Cond.static ({ cls := "com/example/large_table_updates/largetableupdates/RunResultSummaryPinLaw", name := "numAt", desc := "(Ljava/lang/String;IJ)Z" } : Jvm.MethodName)).before a0 Z = true := hw _ (List.mem_of_getElem? (i := 249) rfl)
theorem w258 {Z : State} {a0 : Array Value} (hw : ∀ d ∈ tables_1, d.before a0 Z = true) : (Jvm.Cond.stringLink "com/example/large_table_updates/largetableupdates/RunResultSummaryPinLaw" (26 : Nat) " before stopping.").before a0 Z = true := hw _ (List.mem_of_getElem? (i := 258) rfl)
theorem own_EL {Z : State} {a0 : Array Value} (hw : ∀ d ∈ tables_1, d.before a0 Z = true) : EW Z a0 consts_1 := (EW.cons (w255 hw) (by decide) (EW.cons (w26 hw) (by decide) (EW.cons (w52 hw) (by decide) (EW.cons (w151 hw) (by decide) (EW.cons (w152 hw) (by decide) (EW.cons (w190 hw) (by decide) (EW.cons (w191 hw) (by decide) (EW.cons (w192 hw) (by decide) (EW.cons (w258 hw) (by decide) (EW.cons (w193 hw) (by decide) EW.nil))))))))))
theorem own_SA {Z : State} {a0 : Array Value} (hw : ∀ d ∈ tables_1, d.before a0 Z = true) : ∀ d ∈ Bundle.stringAtoms, d.before a0 Z = true := fun d hd => hw d ((by decide +kernel : ∀ d ∈ Bundle.stringAtoms, d ∈ tables_1) d hd)
set_option maxRecDepth 65536 in
set_option maxHeartbeats 40000000 in
theorem rm_max {l : Launch} {Z : State} {a0 : Array Value} (hw : ∀ d ∈ tables_1, d.before a0 Z = true) {x1 x2 x3 : Int32} {cz : Int32} {fm : Value} {dO : Addr} {kO : ClassId} {dT : Addr} {kT : ClassId} {h0 : Heap} {n0 : Nat} (O : Old Z n0 h0) (W : Wd Z cz fm dO kO dT kT) (er : (if x1 < x2 then x2 else x1) = x3) :
    Met1 l Z (⟨"java/lang/Math", "max", "(II)I"⟩ : MethodName) jdk_29_method_65_code 2 (some .int) ({ frames := 0, cells := 0, slots := 0, locals := 0 } : Room) #[(.int x1), (.int x2)] h0 n0 (fun v h => v = .int x3 ∧ h0 = h) := by
  refine met_of (L := #[.val (.int x1), .val (.int x2)]) (Jvm.Free.JP.mathPlain rfl (by decide +kernel)) (fun m => by first | (simp [entryFrame, mkF, argsToLocals, Value.category]; done) | rfl) ?_
  intro p e s m below meth c T C X
  change Cx p s m meth c Z "java/lang/Math" jdk_29_method_65_code 2 (some .int) "max" at C
  refine g_iloadN C X d14_0 (q := 1) rfl rfl ?_
  refine g_iloadN C X d14_1 (q := 2) rfl rfl ?_
  by_cases hc1 : x1 < x2
  · refine g_icY C X d14_2 (by decide) (q := 9) (by decide) (tlt hc1).1 ?_
    refine g_iloadN C X d14_9 (q := 10) rfl rfl ?_
    exact g_retI C X d14_10 (by decide) (by decide) ⟨_, rfl, by rw [← er, if_pos hc1], rfl⟩
  · refine g_icN C X d14_2 (q := 5) rfl (flt hc1).1 ?_
    refine g_iloadN C X d14_5 (q := 6) rfl rfl ?_
    refine g_goto C X d14_6 (by decide) (q := 10) (by decide) ?_
    exact g_retI C X d14_10 (by decide) (by decide) ⟨_, rfl, by rw [← er, if_neg hc1], rfl⟩
set_option maxRecDepth 65536 in
set_option maxHeartbeats 40000000 in
theorem rm_min {l : Launch} {Z : State} {a0 : Array Value} (hw : ∀ d ∈ tables_1, d.before a0 Z = true) {x1 x2 x3 : Int32} {cz : Int32} {fm : Value} {dO : Addr} {kO : ClassId} {dT : Addr} {kT : ClassId} {h0 : Heap} {n0 : Nat} (O : Old Z n0 h0) (W : Wd Z cz fm dO kO dT kT) (er : (if x2 < x1 then x2 else x1) = x3) :
    Met1 l Z (⟨"java/lang/Math", "min", "(II)I"⟩ : MethodName) jdk_29_method_69_code 2 (some .int) ({ frames := 0, cells := 0, slots := 0, locals := 0 } : Room) #[(.int x1), (.int x2)] h0 n0 (fun v h => v = .int x3 ∧ h0 = h) := by
  refine met_of (L := #[.val (.int x1), .val (.int x2)]) (Jvm.Free.JP.mathPlain rfl (by decide +kernel)) (fun m => by first | (simp [entryFrame, mkF, argsToLocals, Value.category]; done) | rfl) ?_
  intro p e s m below meth c T C X
  change Cx p s m meth c Z "java/lang/Math" jdk_29_method_69_code 2 (some .int) "min" at C
  refine g_iloadN C X d16_0 (q := 1) rfl rfl ?_
  refine g_iloadN C X d16_1 (q := 2) rfl rfl ?_
  by_cases hc1 : x2 < x1
  · refine g_icY C X d16_2 (by decide) (q := 9) (by decide) (tlt hc1).2.2.1 ?_
    refine g_iloadN C X d16_9 (q := 10) rfl rfl ?_
    exact g_retI C X d16_10 (by decide) (by decide) ⟨_, rfl, by rw [← er, if_pos hc1], rfl⟩
  · refine g_icN C X d16_2 (q := 5) rfl (flt hc1).2.2.1 ?_
    refine g_iloadN C X d16_5 (q := 6) rfl rfl ?_
    refine g_goto C X d16_6 (by decide) (q := 10) (by decide) ?_
    exact g_retI C X d16_10 (by decide) (by decide) ⟨_, rfl, by rw [← er, if_neg hc1], rfl⟩
set_option maxRecDepth 65536 in
set_option maxHeartbeats 40000000 in
theorem rm_newLength {l : Launch} {Z : State} {a0 : Array Value} (hw : ∀ d ∈ tables_1, d.before a0 Z = true) {aN bN cN : Nat} {cz : Int32} {fm : Value} {dO : Addr} {kO : ClassId} {dT : Addr} {kT : ClassId} {h0 : Heap} {n0 : Nat} (O : Old Z n0 h0) (W : Wd Z cz fm dO kO dT kT) (ha : aN < 300) (hb : bN < 300) (hc : cN < 600) (hp : 0 < cN) :
    Met1 l Z (⟨"jdk/internal/util/ArraysSupport", "newLength", "(III)I"⟩ : MethodName) jdk_48_method_27_code 4 (some .int) ({ frames := 1, cells := 0, slots := 0, locals := 14 } : Room) #[(.int (o32 aN)), (.int (o32 bN)), (.int (o32 cN))] h0 n0 (fun v h => v = .int (o32 (aN + max bN cN)) ∧ h0 = h) := by
  refine met_of (L := #[.val (.int (o32 aN)), .val (.int (o32 bN)), .val (.int (o32 cN)), .unset]) (plainFor_of_name pn_29) (fun m => by first | (simp [entryFrame, mkF, argsToLocals, Value.category]; done) | rfl) ?_
  intro p e s m below meth c T C X
  change Cx p s m meth c Z "jdk/internal/util/ArraysSupport" jdk_48_method_27_code 4 (some .int) "newLength" at C
  refine g_iloadN C X d13_0 (q := 1) rfl rfl ?_
  refine g_iloadN C X d13_1 (q := 2) rfl rfl ?_
  refine g_iloadN C X d13_2 (q := 3) rfl rfl ?_
  refine g_callS1 C X (y := (⟨"java/lang/Math", "max", "(II)I"⟩ : MethodName)) (by decide) (w92 hw) (w93 hw) (w95 hw) (w94 hw) (rm_max hw (x1 := (o32 bN)) (x2 := (o32 cN)) (x3 := (o32 (max bN cN))) O W (r_max16 bN (by omega) cN (by omega))) (W := 1) (by decide) (by decide) (k' := 0) rfl (n' := 0) rfl (by decide) (by decide) rfl pd_18 (argsL := [(.int (o32 bN)), (.int (o32 cN))]) rfl (rest := [(.int (o32 aN))]) rfl rfl rfl d13_3 (q := 6) rfl ?_
  rintro _ T1 _ X2 ⟨rfl, rfl⟩
  refine g_iadd C X2 d13_6 (q := 7) rfl (z := (o32 (aN + max bN cN))) (r_add aN (by omega) (max bN cN) (by omega)) ?_
  refine g_istoreN C X2 d13_7 (q := 8) rfl (L' := #[.val (.int (o32 aN)), .val (.int (o32 bN)), .val (.int (o32 cN)), .val (.int (o32 (aN + max bN cN)))]) rfl ?_
  refine g_iconst C X2 d13_8 (q := 9) rfl (z := (0 : Int32)) rfl ?_
  refine g_iloadN C X2 d13_9 (q := 10) rfl rfl ?_
  refine g_icN C X2 d13_10 (q := 13) rfl (tlt ((r_n16 (aN + max bN cN) (by omega)).2.2.1 (by omega)).1).2.1 ?_
  refine g_iloadN C X2 d13_13 (q := 14) rfl rfl ?_
  refine g_ldcI C X2 (w96 hw) d13_14 (q := 16) rfl ?_
  refine g_icN C X2 d13_16 (q := 19) rfl (flt (own_big (by omega))).2.2.1 ?_
  refine g_iloadN C X2 d13_19 (q := 20) rfl rfl ?_
  exact g_retI C X2 d13_20 (by decide) (by decide) ⟨_, rfl, rfl, rfl⟩
set_option maxRecDepth 65536 in
set_option maxHeartbeats 40000000 in
theorem rm_newCap {l : Launch} {Z : State} {a0 : Array Value} (hw : ∀ d ∈ tables_1, d.before a0 Z = true) {b0 v0 : Addr} {kv : ClassId} {cs : List Int32} {nC : Nat} {mN : Nat} {cz : Int32} {fm : Value} {dO : Addr} {kO : ClassId} {dT : Addr} {kT : ClassId} {h0 : Heap} {n0 : Nat} (O : Old Z n0 h0) (W : Wd Z cz fm dO kO dT kT) (R0 : SBf Z h0 b0 v0 (o32 nC)) (A0 : BA Z h0 v0 kv cs) (hcs : cs.length < 500) (hn0 : nC ≤ cs.length) (nvb : v0 ≠ b0) (g0 : n0 ≤ b0) (gv : n0 ≤ v0) (hm : cs.length < mN) (hm2 : mN ≤ 200) :
    Met1 l Z (⟨"java/lang/AbstractStringBuilder", "newCapacity", "(I)I"⟩ : MethodName) jdk_68_method_10_code 6 (some .int) ({ frames := 2, cells := 0, slots := 0, locals := 29 } : Room) #[(.ref b0), (.int (o32 mN))] h0 n0 (fun v h => v = .int (o32 (cs.length + max (mN - cs.length) (cs.length + 2))) ∧ h0 = h) := by
  refine met_of (L := #[.val (.ref b0), .val (.int (o32 mN)), .unset, .unset, .unset, .unset]) (plainFor_of_name pn_62) (fun m => by first | (simp [entryFrame, mkF, argsToLocals, Value.category]; done) | rfl) ?_
  intro p e s m below meth c T C X
  change Cx p s m meth c Z "java/lang/AbstractStringBuilder" jdk_68_method_10_code 6 (some .int) "newCapacity" at C
  refine g_aloadN C X d12_0 (q := 1) rfl rfl rfl ?_
  refine g_getF C X (host := "") (Or.inl (w48 hw)) Via.refl R0.2.1 d12_1 (q := 4) rfl ?_
  intro T1 X2
  refine g_alen C X2 A0.2 d12_4 (q := 5) rfl ?_
  refine g_istoreN C X2 d12_5 (q := 6) rfl (L' := #[.val (.ref b0), .val (.int (o32 mN)), .val (.int (o32 cs.length)), .unset, .unset, .unset]) rfl ?_
  refine g_iloadN C X2 d12_6 (q := 7) rfl rfl ?_
  refine g_aloadN C X2 d12_7 (q := 8) rfl rfl rfl ?_
  refine g_getF C X2 (host := "") (Or.inl (w50 hw)) Via.refl R0.2.2.1 d12_8 (q := 11) rfl ?_
  intro T3 X4
  refine g_ishl C X4 d12_11 (q := 12) rfl (z := (o32 mN)) (r_shl _) ?_
  refine g_istoreN C X4 d12_12 (q := 13) rfl (L' := #[.val (.ref b0), .val (.int (o32 mN)), .val (.int (o32 cs.length)), .val (.int (o32 mN)), .unset, .unset]) rfl ?_
  refine g_iloadN C X4 d12_13 (q := 14) rfl rfl ?_
  refine g_iloadN C X4 d12_14 (q := 15) rfl rfl ?_
  refine g_isub C X4 d12_15 (q := 16) rfl (z := (o32 (mN - cs.length))) (r_sub mN (by omega) cs.length (by omega)) ?_
  refine g_istore C X4 d12_16 (q := 18) rfl (L' := #[.val (.ref b0), .val (.int (o32 mN)), .val (.int (o32 cs.length)), .val (.int (o32 mN)), .val (.int (o32 (mN - cs.length))), .unset]) rfl ?_
  refine g_iloadN C X4 d12_18 (q := 19) rfl rfl ?_
  refine g_iload C X4 d12_19 (q := 21) rfl rfl ?_
  refine g_iloadN C X4 d12_21 (q := 22) rfl rfl ?_
  refine g_iconst C X4 d12_22 (q := 23) rfl (z := (2 : Int32)) rfl ?_
  refine g_aloadN C X4 d12_23 (q := 24) rfl rfl rfl ?_
  refine g_getF C X4 (host := "") (Or.inl (w50 hw)) Via.refl R0.2.2.1 d12_24 (q := 27) rfl ?_
  intro T5 X6
  refine g_ishl C X6 d12_27 (q := 28) rfl (z := (2 : Int32)) (by decide) ?_
  refine g_iadd C X6 d12_28 (q := 29) rfl (z := (o32 (cs.length + 2))) (r_add cs.length (by omega) 2 (by decide)) ?_
  refine g_callS1 C X6 (y := (⟨"jdk/internal/util/ArraysSupport", "newLength", "(III)I"⟩ : MethodName)) (by decide) (w88 hw) (w89 hw) (w91 hw) (w90 hw) (rm_newLength hw (aN := cs.length) (bN := (mN - cs.length)) (cN := (cs.length + 2)) O W (by omega) (by omega) (by omega) (by omega)) (W := 0) (by decide) (by decide) (k' := 0) rfl (n' := 0) rfl (by decide) (by decide) rfl pd_52 (argsL := [(.int (o32 cs.length)), (.int (o32 (mN - cs.length))), (.int (o32 (cs.length + 2)))]) rfl (rest := []) rfl rfl rfl d12_29 (q := 32) rfl ?_
  rintro _ T7 _ X8 ⟨rfl, rfl⟩
  refine g_istore C X8 d12_32 (q := 34) rfl (L' := #[.val (.ref b0), .val (.int (o32 mN)), .val (.int (o32 cs.length)), .val (.int (o32 mN)), .val (.int (o32 (mN - cs.length))), .val (.int (o32 (cs.length + max (mN - cs.length) (cs.length + 2))))]) rfl ?_
  refine g_iload C X8 d12_34 (q := 36) rfl rfl ?_
  refine g_ldcI C X8 (w97 hw) d12_36 (q := 38) rfl ?_
  refine g_icY C X8 d12_38 (by decide) (q := 51) (by decide) (feq (own_big2 (by omega))).2 ?_
  refine g_iload C X8 d12_51 (q := 53) rfl rfl ?_
  refine g_aloadN C X8 d12_53 (q := 54) rfl rfl rfl ?_
  refine g_getF C X8 (host := "") (Or.inl (w50 hw)) Via.refl R0.2.2.1 d12_54 (q := 57) rfl ?_
  intro T9 X10
  refine g_ishr C X10 d12_57 (q := 58) rfl (z := (o32 (cs.length + max (mN - cs.length) (cs.length + 2)))) (r_shr _) ?_
  exact g_retI C X10 d12_58 (by decide) (by decide) ⟨_, rfl, rfl, rfl⟩
set_option maxRecDepth 65536 in
set_option maxHeartbeats 40000000 in
theorem rm_copyG {l : Launch} {Z : State} {a0 : Array Value} (hw : ∀ d ∈ tables_1, d.before a0 Z = true) {aA : Addr} {kA : ClassId} {cs : List Int32} {kN : Nat} {cz : Int32} {fm : Value} {dO : Addr} {kO : ClassId} {dT : Addr} {kT : ClassId} {h0 : Heap} {n0 : Nat} (O : Old Z n0 h0) (W : Wd Z cz fm dO kO dT kT) (E0 : Exa Z h0 aA "[B") (V0 : Arv Z h0 aA kA .byte (o32 cs.length) (bV cs) (.int 0)) (hlt : cs.length < kN) (hk : kN ≤ 500) :
    Met1 l Z (⟨"java/util/Arrays", "copyOf", "([BI)[B"⟩ : MethodName) jdk_65_method_121_code 3 (some (.array .byte)) ({ frames := 1, cells := 1, slots := 500, locals := 18 } : Room) #[(.ref aA), (.int (o32 kN))] h0 n0 (fun v h => ∃ b kb, Keep h0 h [] ∧ v = .ref b ∧ h0.size ≤ b ∧ Exa Z h b "[B" ∧ Arv Z h b kb .byte (o32 kN) (bV ((List.replicate kN 0).take 0 ++ cs ++ (List.replicate kN 0).drop (0 + cs.length))) (.int 0)) := by
  refine met_of (L := #[.val (.ref aA), .val (.int (o32 kN)), .unset]) (plainFor_of_name pn_81) (fun m => by first | (simp [entryFrame, mkF, argsToLocals, Value.category]; done) | rfl) ?_
  intro p e s m below meth c T C X
  change Cx p s m meth c Z "java/util/Arrays" jdk_65_method_121_code 3 (some (.array .byte)) "copyOf" at C
  refine g_iloadN C X d15_0 (q := 1) rfl rfl ?_
  refine g_aloadN C X d15_1 (q := 2) rfl rfl rfl ?_
  refine g_alen C X V0 d15_2 (q := 3) rfl ?_
  refine g_icY C X d15_3 (by decide) (q := 14) (by decide) (feq (fun z => absurd ((r_lt kN (by omega) cs.length (by omega)).2.2 z) (by omega))).2 ?_
  refine g_iloadN C X d15_14 (q := 15) rfl rfl ?_
  refine g_newPE C X (w29 hw) rfl (ad := "[B") rfl d15_15 (q := 17) rfl (r_n16 kN (by omega)).1 (cap := 500) (by rw [(r_n16 kN (by omega)).2.1]; omega) (by decide) (k' := 1) rfl (n' := 500) rfl (by decide) (by decide) ?_
  intro T2 h3 kA4 b1 g6 X5 E7 V8 E9
  have ge11 : n0 ≤ b1 := own_ge O g6
  have O12 := O.ext E7
  have V10 : Arv Z h3 b1 kA4 .byte (o32 kN) (bV (List.replicate kN 0)) (.int 0) := Arv.pad V8 (bV_rep kN)
  refine g_astoreN C X5 d15_17 (q := 18) rfl rfl (L' := #[.val (.ref aA), .val (.int (o32 kN)), .val (.ref b1)]) rfl ?_
  refine g_aloadN C X5 d15_18 (q := 19) rfl rfl rfl ?_
  refine g_iconst C X5 d15_19 (q := 20) rfl (z := (0 : Int32)) rfl ?_
  refine g_aloadN C X5 d15_20 (q := 21) rfl rfl rfl ?_
  refine g_iconst C X5 d15_21 (q := 22) rfl (z := (0 : Int32)) rfl ?_
  refine g_aloadN C X5 d15_22 (q := 23) rfl rfl rfl ?_
  have f13 := (V0.ext E7)
  refine g_alen C X5 f13 d15_23 (q := 24) rfl ?_
  refine g_iloadN C X5 d15_24 (q := 25) rfl rfl ?_
  refine g_callS1 C X5 (y := (⟨"java/lang/Math", "min", "(II)I"⟩ : MethodName)) (by decide) (w102 hw) (w103 hw) (w104 hw) (w94 hw) (rm_min hw (x1 := (o32 cs.length)) (x2 := (o32 kN)) (x3 := (o32 cs.length)) O12 W ((r_min16 cs.length (by omega) kN (by omega)).trans (congrArg o32 (by omega)))) (W := 4) (by decide) (by decide) (k' := 1) rfl (n' := 500) rfl (by decide) (by decide) rfl pd_18 (argsL := [(.int (o32 cs.length)), (.int (o32 kN))]) rfl (rest := [(.int (0 : Int32)), (.ref b1), (.int (0 : Int32)), (.ref aA)]) rfl rfl rfl d15_25 (q := 28) rfl ?_
  rintro _ T14 _ X15 ⟨rfl, rfl⟩
  refine g_cpB C X15 (w105 hw) (w108 hw) (w106 hw) (w107 hw) f13 V10 (by decide) (r_n16 0 (by omega)).1 (r_n16 cs.length (by omega)).1 (own_b2 (n := 0) (k := cs.length) (by omega) (by omega)) (own_b2 (n := 0) (k := cs.length) (by omega) (by omega)) (own_b3 (n := 0) (k := cs.length) (by rw [List.length_replicate]; omega) (by rw [List.length_replicate]; omega)) (vd' := bV ((List.replicate kN 0).take 0 ++ cs ++ (List.replicate kN 0).drop (0 + cs.length))) (own_set2 (n := 0) rfl (by rw [List.length_replicate]; omega) (by omega) (by omega)) ge11 rfl d15_28 (q := 31) rfl (by decide) (W := 0) rfl (by decide) ?_
  intro T16 h17 X18 K19 V20
  have O21 := O12.keep K19 (allS ge11 all0)
  refine g_aloadN C X18 d15_31 (q := 32) rfl rfl rfl ?_
  exact g_retA C X18 rfl rfl d15_32 (by decide) (by decide) ⟨_, rfl, b1, kA4, (((Keep.refl h0 []).ext E7).trans K19 (allS (Or.inr (own_sz (Keep.refl h0 []).1 g6)) all0)), rfl, (own_sz (Keep.refl h0 []).1 g6), (E9.keep K19), V20⟩
set_option maxRecDepth 65536 in
set_option maxHeartbeats 40000000 in
theorem rm_ensure {l : Launch} {Z : State} {a0 : Array Value} (hw : ∀ d ∈ tables_1, d.before a0 Z = true) {b0 v0 : Addr} {kv : ClassId} {cs : List Int32} {nC : Nat} {mN : Nat} {cz : Int32} {fm : Value} {dO : Addr} {kO : ClassId} {dT : Addr} {kT : ClassId} {h0 : Heap} {n0 : Nat} (O : Old Z n0 h0) (W : Wd Z cz fm dO kO dT kT) (R0 : SBf Z h0 b0 v0 (o32 nC)) (A0 : BA Z h0 v0 kv cs) (hcs : cs.length < 500) (hn0 : nC ≤ cs.length) (nvb : v0 ≠ b0) (g0 : n0 ≤ b0) (gv : n0 ≤ v0) (hm2 : mN ≤ 200) :
    Met0 l Z (⟨"java/lang/AbstractStringBuilder", "ensureCapacityInternal", "(I)V"⟩ : MethodName) jdk_68_method_9_code 3 none ({ frames := 3, cells := 1, slots := 500, locals := 48 } : Room) #[(.ref b0), (.int (o32 mN))] h0 n0 (fun h => Keep h0 h [b0] ∧ ∃ v' k' cs', (v' = v0 ∨ h0.size ≤ v') ∧ v' ≠ b0 ∧ SBf Z h b0 v' (o32 nC) ∧ BA Z h v' k' cs' ∧ mN ≤ cs'.length ∧ cs'.length < 500 ∧ cs'.take nC = cs.take nC) := by
  refine met_of (L := #[.val (.ref b0), .val (.int (o32 mN)), .unset]) (plainFor_of_name pn_62) (fun m => by first | (simp [entryFrame, mkF, argsToLocals, Value.category]; done) | rfl) ?_
  intro p e s m below meth c T C X
  change Cx p s m meth c Z "java/lang/AbstractStringBuilder" jdk_68_method_9_code 3 none "ensureCapacityInternal" at C
  refine g_aloadN C X d11_0 (q := 1) rfl rfl rfl ?_
  refine g_getF C X (host := "") (Or.inl (w48 hw)) Via.refl R0.2.1 d11_1 (q := 4) rfl ?_
  intro T1 X2
  refine g_alen C X2 A0.2 d11_4 (q := 5) rfl ?_
  refine g_aloadN C X2 d11_5 (q := 6) rfl rfl rfl ?_
  refine g_getF C X2 (host := "") (Or.inl (w50 hw)) Via.refl R0.2.2.1 d11_6 (q := 9) rfl ?_
  intro T3 X4
  refine g_ishr C X4 d11_9 (q := 10) rfl (z := (o32 cs.length)) (r_shr _) ?_
  refine g_istoreN C X4 d11_10 (q := 11) rfl (L' := #[.val (.ref b0), .val (.int (o32 mN)), .val (.int (o32 cs.length))]) rfl ?_
  refine g_iloadN C X4 d11_11 (q := 12) rfl rfl ?_
  refine g_iloadN C X4 d11_12 (q := 13) rfl rfl ?_
  refine g_isub C X4 d11_13 (q := 14) rfl (z := ((o32 mN) - (o32 cs.length))) rfl ?_
  by_cases hc5 : (0 : Int32) < ((o32 mN) - (o32 cs.length))
  · refine g_ifN C X4 d11_14 (q := 17) rfl (tlt hc5).2.2.2 ?_
    have hm9 : cs.length < mN := (own_slt (by omega) (by omega)).1 hc5
    refine g_aloadN C X4 d11_17 (q := 18) rfl rfl rfl ?_
    refine g_aloadN C X4 d11_18 (q := 19) rfl rfl rfl ?_
    refine g_getF C X4 (host := "") (Or.inl (w48 hw)) Via.refl R0.2.1 d11_19 (q := 22) rfl ?_
    intro T6 X7
    refine g_aloadN C X7 d11_22 (q := 23) rfl rfl rfl ?_
    refine g_iloadN C X7 d11_23 (q := 24) rfl rfl ?_
    refine g_callP1 C X7 (y := (⟨"java/lang/AbstractStringBuilder", "newCapacity", "(I)I"⟩ : MethodName)) (a := b0) (by decide) (w83 hw) (own_selP (w86 hw) (w84 hw) (w85 hw) (by decide)) (w84 hw) (w85 hw) R0.1 (w87 hw) (w44 hw) (rm_newCap hw (v0 := v0) (kv := kv) (cs := cs) (nC := nC) (mN := mN) O W ⟨R0.1, R0.2.1, R0.2.2.1, R0.2.2.2⟩ ⟨A0.1, A0.2⟩ hcs hn0 nvb g0 gv hm9 hm2) (W := 2) (by decide) (by decide) (k' := 0) rfl (n' := 0) rfl (by decide) (by decide) rfl pd_99 (argsL := [(.int (o32 mN))]) rfl (rest := [(.ref v0), (.ref b0)]) rfl rfl rfl d11_24 (q := 27) rfl ?_
    rintro _ T8 _ X9 ⟨rfl, rfl⟩
    refine g_aloadN C X9 d11_27 (q := 28) rfl rfl rfl ?_
    refine g_getF C X9 (host := "") (Or.inl (w50 hw)) Via.refl R0.2.2.1 d11_28 (q := 31) rfl ?_
    intro T10 X11
    refine g_ishl C X11 d11_31 (q := 32) rfl (z := (o32 (cs.length + max (mN - cs.length) (cs.length + 2)))) (r_shl _) ?_
    refine g_callS1 C X11 (y := (⟨"java/util/Arrays", "copyOf", "([BI)[B"⟩ : MethodName)) (by decide) (w98 hw) (w99 hw) (w101 hw) (w100 hw) (rm_copyG hw (aA := v0) (kA := kv) (cs := cs) (kN := (cs.length + max (mN - cs.length) (cs.length + 2))) O W A0.1 A0.2 (by omega) (by omega)) (W := 1) (by decide) (by decide) (k' := 1) rfl (n' := 500) rfl (by decide) (by decide) rfl pd_104 (argsL := [(.ref v0), (.int (o32 (cs.length + max (mN - cs.length) (cs.length + 2))))]) rfl (rest := [(.ref b0)]) rfl rfl rfl d11_32 (q := 35) rfl ?_
    rintro _ T12 h13 X14 ⟨b16, kb17, K15, rfl, sz18, E19, V20⟩
    have ge21 := Nat.le_trans (own_szO O) sz18
    have O22 := O.keep K15 all0
    have f23 := (R0.2.1.keep K15 nin0)
    have f24 := (R0.1.keep K15)
    refine g_putF C X14 (host := "") (Or.inl (w48 hw)) Via.refl f23 f24 (Or.inl (w49 hw)) (w35 hw) (ty := (.array .byte)) (by decide) rfl rfl d11_35 (q := 38) rfl g0 ?_
    intro T25 h27 X26 W28
    have FW28 := Fld.same W28 f23
    have O29 := O22.wr W28 g0
    have hg9 := own_grow (cs := cs) (k := (cs.length + max (mN - cs.length) (cs.length + 2))) (n := nC) (by omega) hn0
    exact g_retV C X26 d11_38 (by decide) (by decide) ⟨rfl, (((Keep.refl h0 [b0]).trans K15 all0).wr W28 (Or.inl (List.mem_of_getElem? (i := 0) rfl))), b16, kb17, _, Or.inr (Nat.le_trans (Keep.refl h0 [b0]).1 sz18), (Ne.symm (Nat.ne_of_lt (Nat.lt_of_lt_of_le R0.1.lt sz18))), ⟨(f24.wr W28), FW28, ((R0.2.2.1.keep K15 nin0).other W28 (Or.inr (slot_ne (Or.inl (w51 hw)) (Or.inl (w49 hw)) (by decide) (t := .byte) (t' := (.array .byte)) (by decide) (by decide)))), ((R0.2.2.2.keep K15 nin0).other W28 (Or.inr (slot_ne (Or.inl (w77 hw)) (Or.inl (w49 hw)) (by decide) (t := .int) (t' := (.array .byte)) (by decide) (by decide))))⟩, ⟨(E19.wr W28), by rw [hg9.1]; exact (V20.other W28 (Ne.symm (Nat.ne_of_lt (Nat.lt_of_lt_of_le R0.1.lt sz18))))⟩, by rw [hg9.1]; omega, by rw [hg9.1]; omega, hg9.2⟩
  · refine g_ifY C X4 d11_14 (by decide) (q := 38) (by decide) (flt hc5).2.2.2 ?_
    have hm9 := (own_slt (n := mN) (m := cs.length) (by omega) (by omega)).2 hc5
    exact g_retV C X4 d11_38 (by decide) (by decide) ⟨rfl, (Keep.refl h0 [b0]), v0, kv, cs, Or.inl rfl, nvb, ⟨R0.1, R0.2.1, R0.2.2.1, R0.2.2.2⟩, ⟨A0.1, A0.2⟩, by omega, hcs, rfl⟩
set_option maxRecDepth 65536 in
set_option maxHeartbeats 40000000 in
theorem rm_coder {l : Launch} {Z : State} {a0 : Array Value} (hw : ∀ d ∈ tables_1, d.before a0 Z = true) {x0 tb : Addr} {kb : ClassId} {ls : List Int32} {cz : Int32} {fm : Value} {dO : Addr} {kO : ClassId} {dT : Addr} {kT : ClassId} {h0 : Heap} {n0 : Nat} (O : Old Z n0 h0) (W : Wd Z cz fm dO kO dT kT) (S0 : Sx Z h0 x0 tb kb ls) (h19 : ls.length < 200) :
    Met1 l Z (⟨"java/lang/String", "coder", "()B"⟩ : MethodName) jdk_42_method_152_code 1 (some .byte) ({ frames := 0, cells := 0, slots := 0, locals := 0 } : Room) #[(.ref x0)] h0 n0 (fun v h => v = .int 0 ∧ h0 = h) := by
  refine met_of (L := #[.val (.ref x0)]) (plainFor_of_name pn_113) (fun m => by first | (simp [entryFrame, mkF, argsToLocals, Value.category]; done) | rfl) ?_
  intro p e s m below meth c T C X
  change Cx p s m meth c Z "java/lang/String" jdk_42_method_152_code 1 (some .byte) "coder" at C
  refine g_getS C X (host := "") (Or.inl (w74 hw)) Via.refl (W.1.ext O.2) d10_0 (q := 3) rfl ?_
  intro T1 X2
  refine g_ifN C X2 d10_3 (q := 6) rfl (feq W.2.1).1 ?_
  refine g_aloadN C X2 d10_6 (q := 7) rfl rfl rfl ?_
  refine g_getF C X2 (host := "") (Or.inl (w75 hw)) Via.refl S0.2.2.1 d10_7 (q := 10) rfl ?_
  intro T3 X4
  refine g_goto C X4 d10_10 (by decide) (q := 14) (by decide) ?_
  exact g_retN C X4 (Or.inr (Or.inl rfl)) (z' := 0) (by decide) d10_14 (by decide) (by decide) ⟨_, rfl, rfl, rfl⟩
set_option maxRecDepth 65536 in
set_option maxHeartbeats 40000000 in
theorem rm_slen {l : Launch} {Z : State} {a0 : Array Value} (hw : ∀ d ∈ tables_1, d.before a0 Z = true) {x0 tb : Addr} {kb : ClassId} {ls : List Int32} {cz : Int32} {fm : Value} {dO : Addr} {kO : ClassId} {dT : Addr} {kT : ClassId} {h0 : Heap} {n0 : Nat} (O : Old Z n0 h0) (W : Wd Z cz fm dO kO dT kT) (S0 : Sx Z h0 x0 tb kb ls) (h19 : ls.length < 200) :
    Met1 l Z (⟨"java/lang/String", "length", "()I"⟩ : MethodName) jdk_42_method_54_code 1 (some .int) ({ frames := 1, cells := 0, slots := 0, locals := 13 } : Room) #[(.ref x0)] h0 n0 (fun v h => v = .int (o32 ls.length) ∧ h0 = h) := by
  refine met_of (L := #[.val (.ref x0)]) (plainFor_of_name pn_113) (fun m => by first | (simp [entryFrame, mkF, argsToLocals, Value.category]; done) | rfl) ?_
  intro p e s m below meth c T C X
  change Cx p s m meth c Z "java/lang/String" jdk_42_method_54_code 1 (some .int) "length" at C
  refine g_aloadN C X d9_0 (q := 1) rfl rfl rfl ?_
  refine g_getF C X (host := "") (Or.inl (w68 hw)) Via.refl S0.2.1 d9_1 (q := 4) rfl ?_
  intro T1 X2
  refine g_alen C X2 S0.2.2.2 d9_4 (q := 5) rfl ?_
  refine g_aloadN C X2 d9_5 (q := 6) rfl rfl rfl ?_
  refine g_callV1 C X2 (y := (⟨"java/lang/String", "coder", "()B"⟩ : MethodName)) (z := (⟨"java/lang/String", "coder", "()B"⟩ : MethodName)) (a := x0) (by decide) (w69 hw) (w70 hw) (w72 hw) (w71 hw) (nf_sel (w72 hw)) S0.1 (w73 hw) (w27 hw) (rm_coder hw (x0 := x0) (tb := tb) (kb := kb) (ls := ls) O W ⟨S0.1, S0.2.1, S0.2.2.1, S0.2.2.2⟩ h19) (W := 1) (by decide) (by decide) (k' := 0) rfl (n' := 0) rfl (by decide) (by decide) rfl pd_119 (argsL := []) rfl (rest := [(.int (o32 ls.length))]) rfl rfl rfl d9_6 (q := 9) rfl ?_
  rintro _ T3 _ X4 ⟨rfl, rfl⟩
  refine g_ishr C X4 d9_9 (q := 10) rfl (z := (o32 ls.length)) (r_shr _) ?_
  exact g_retI C X4 d9_10 (by decide) (by decide) ⟨_, rfl, rfl, rfl⟩
set_option maxRecDepth 65536 in
set_option maxHeartbeats 40000000 in
theorem rm_infl {l : Launch} {Z : State} {a0 : Array Value} (hw : ∀ d ∈ tables_1, d.before a0 Z = true) {b0 v0 : Addr} {kv : ClassId} {cs : List Int32} {nC : Nat} {x0 tb : Addr} {kb : ClassId} {ls : List Int32} {cz : Int32} {fm : Value} {dO : Addr} {kO : ClassId} {dT : Addr} {kT : ClassId} {h0 : Heap} {n0 : Nat} (O : Old Z n0 h0) (W : Wd Z cz fm dO kO dT kT) (R0 : SBf Z h0 b0 v0 (o32 nC)) (A0 : BA Z h0 v0 kv cs) (hcs : cs.length < 500) (hn0 : nC ≤ cs.length) (nvb : v0 ≠ b0) (g0 : n0 ≤ b0) (gv : n0 ≤ v0) (S0 : Sx Z h0 x0 tb kb ls) (h19 : ls.length < 200) :
    Met0 l Z (⟨"java/lang/AbstractStringBuilder", "inflateIfNeededFor", "(Ljava/lang/String;)V"⟩ : MethodName) jdk_68_method_71_code 2 none ({ frames := 1, cells := 0, slots := 0, locals := 13 } : Room) #[(.ref b0), (.ref x0)] h0 n0 (fun h => h0 = h) := by
  refine met_of (L := #[.val (.ref b0), .val (.ref x0)]) (plainFor_of_name pn_62) (fun m => by first | (simp [entryFrame, mkF, argsToLocals, Value.category]; done) | rfl) ?_
  intro p e s m below meth c T C X
  change Cx p s m meth c Z "java/lang/AbstractStringBuilder" jdk_68_method_71_code 2 none "inflateIfNeededFor" at C
  refine g_getS C X (host := "") (Or.inl (w47 hw)) Via.refl (W.1.ext O.2) d18_0 (q := 3) rfl ?_
  intro T1 X2
  refine g_ifN C X2 d18_3 (q := 6) rfl (feq W.2.1).1 ?_
  refine g_aloadN C X2 d18_6 (q := 7) rfl rfl rfl ?_
  refine g_getF C X2 (host := "") (Or.inl (w50 hw)) Via.refl R0.2.2.1 d18_7 (q := 10) rfl ?_
  intro T3 X4
  refine g_aloadN C X4 d18_10 (q := 11) rfl rfl rfl ?_
  refine g_callV1 C X4 (y := (⟨"java/lang/String", "coder", "()B"⟩ : MethodName)) (z := (⟨"java/lang/String", "coder", "()B"⟩ : MethodName)) (a := x0) (by decide) (w119 hw) (w70 hw) (w72 hw) (w71 hw) (nf_sel (w72 hw)) S0.1 (w73 hw) (w27 hw) (rm_coder hw (x0 := x0) (tb := tb) (kb := kb) (ls := ls) O W ⟨S0.1, S0.2.1, S0.2.2.1, S0.2.2.2⟩ h19) (W := 1) (by decide) (by decide) (k' := 0) rfl (n' := 0) rfl (by decide) (by decide) rfl pd_119 (argsL := []) rfl (rest := [(.int (0 : Int32))]) rfl rfl rfl d18_11 (q := 14) rfl ?_
  rintro _ T5 _ X6 ⟨rfl, rfl⟩
  refine g_icY C X6 d18_14 (by decide) (q := 21) (by decide) (by decide) ?_
  exact g_retV C X6 d18_21 (by decide) (by decide) ⟨rfl, rfl⟩
set_option maxRecDepth 65536 in
set_option maxHeartbeats 40000000 in
theorem rm_getB {l : Launch} {Z : State} {a0 : Array Value} (hw : ∀ d ∈ tables_1, d.before a0 Z = true) {x0 tb : Addr} {kb : ClassId} {ls : List Int32} {v0 : Addr} {kv : ClassId} {cs : List Int32} {nC : Nat} {cz : Int32} {fm : Value} {dO : Addr} {kO : ClassId} {dT : Addr} {kT : ClassId} {h0 : Heap} {n0 : Nat} (O : Old Z n0 h0) (W : Wd Z cz fm dO kO dT kT) (S0 : Sx Z h0 x0 tb kb ls) (h19 : ls.length < 200) (A0 : BA Z h0 v0 kv cs) (hcs : cs.length < 500) (gv : n0 ≤ v0) (hfit : nC + ls.length ≤ cs.length) (ntv : tb ≠ v0) :
    Met0 l Z (⟨"java/lang/String", "getBytes", "([BIB)V"⟩ : MethodName) jdk_42_method_147_code 4 none ({ frames := 1, cells := 0, slots := 0, locals := 18 } : Room) #[(.ref x0), (.ref v0), (.int (o32 nC)), (.int (0 : Int32))] h0 n0 (fun h => Keep h0 h [v0] ∧ Arv Z h v0 kv .byte (o32 cs.length) (bV (cs.take nC ++ ls ++ cs.drop (nC + ls.length))) (.int 0)) := by
  refine met_of (L := #[.val (.ref x0), .val (.ref v0), .val (.int (o32 nC)), .val (.int (0 : Int32))]) (plainFor_of_name pn_113) (fun m => by first | (simp [entryFrame, mkF, argsToLocals, Value.category]; done) | rfl) ?_
  intro p e s m below meth c T C X
  change Cx p s m meth c Z "java/lang/String" jdk_42_method_147_code 4 none "getBytes" at C
  refine g_aloadN C X d19_0 (q := 1) rfl rfl rfl ?_
  refine g_callV1 C X (y := (⟨"java/lang/String", "coder", "()B"⟩ : MethodName)) (z := (⟨"java/lang/String", "coder", "()B"⟩ : MethodName)) (a := x0) (by decide) (w69 hw) (w70 hw) (w72 hw) (w71 hw) (nf_sel (w72 hw)) S0.1 (w73 hw) (w27 hw) (rm_coder hw (x0 := x0) (tb := tb) (kb := kb) (ls := ls) O W ⟨S0.1, S0.2.1, S0.2.2.1, S0.2.2.2⟩ h19) (W := 0) (by decide) (by decide) (k' := 0) rfl (n' := 0) rfl (by decide) (by decide) rfl pd_119 (argsL := []) rfl (rest := []) rfl rfl rfl d19_1 (q := 4) rfl ?_
  rintro _ T1 _ X2 ⟨rfl, rfl⟩
  refine g_iloadN C X2 d19_4 (q := 5) rfl rfl ?_
  refine g_icN C X2 d19_5 (q := 8) rfl (by decide) ?_
  refine g_aloadN C X2 d19_8 (q := 9) rfl rfl rfl ?_
  refine g_getF C X2 (host := "") (Or.inl (w68 hw)) Via.refl S0.2.1 d19_9 (q := 12) rfl ?_
  intro T3 X4
  refine g_iconst C X4 d19_12 (q := 13) rfl (z := (0 : Int32)) rfl ?_
  refine g_aloadN C X4 d19_13 (q := 14) rfl rfl rfl ?_
  refine g_iloadN C X4 d19_14 (q := 15) rfl rfl ?_
  refine g_iloadN C X4 d19_15 (q := 16) rfl rfl ?_
  refine g_ishl C X4 d19_16 (q := 17) rfl (z := (o32 nC)) (r_shl _) ?_
  refine g_aloadN C X4 d19_17 (q := 18) rfl rfl rfl ?_
  refine g_getF C X4 (host := "") (Or.inl (w68 hw)) Via.refl S0.2.1 d19_18 (q := 21) rfl ?_
  intro T5 X6
  refine g_alen C X6 S0.2.2.2 d19_21 (q := 22) rfl ?_
  refine g_cpB C X6 (w125 hw) (w108 hw) (w106 hw) (w107 hw) S0.2.2.2 A0.2 (by decide) (r_n16 nC (by omega)).1 (r_n16 ls.length (by omega)).1 (own_b2 (n := 0) (k := ls.length) (by omega) (by omega)) (own_b2 (n := nC) (k := ls.length) hfit (by omega)) (own_b3 (n := nC) (k := ls.length) hfit (by omega)) (vd' := bV (cs.take nC ++ ls ++ cs.drop (nC + ls.length))) (own_set2 (n := nC) rfl hfit (by omega) (by omega)) gv rfl d19_22 (q := 25) rfl (by decide) (W := 0) rfl (by decide) ?_
  intro T7 h8 X9 K10 V11
  have O12 := O.keep K10 (allS gv all0)
  refine g_goto C X9 d19_25 (by decide) (q := 43) (by decide) ?_
  exact g_retV C X9 d19_43 (by decide) (by decide) ⟨rfl, ((Keep.refl h0 [v0]).trans K10 (allS (Or.inl (List.mem_of_getElem? (i := 0) rfl)) all0)), V11⟩
set_option maxRecDepth 65536 in
set_option maxHeartbeats 40000000 in
theorem rm_putS {l : Launch} {Z : State} {a0 : Array Value} (hw : ∀ d ∈ tables_1, d.before a0 Z = true) {b0 v0 : Addr} {kv : ClassId} {cs : List Int32} {nC : Nat} {x0 tb : Addr} {kb : ClassId} {ls : List Int32} {cz : Int32} {fm : Value} {dO : Addr} {kO : ClassId} {dT : Addr} {kT : ClassId} {h0 : Heap} {n0 : Nat} (O : Old Z n0 h0) (W : Wd Z cz fm dO kO dT kT) (R0 : SBf Z h0 b0 v0 (o32 nC)) (A0 : BA Z h0 v0 kv cs) (hcs : cs.length < 500) (hn0 : nC ≤ cs.length) (nvb : v0 ≠ b0) (g0 : n0 ≤ b0) (gv : n0 ≤ v0) (S0 : Sx Z h0 x0 tb kb ls) (h19 : ls.length < 200) (hfit : nC + ls.length ≤ cs.length) (ntv : tb ≠ v0) (nxv : x0 ≠ v0) :
    Met0 l Z (⟨"java/lang/AbstractStringBuilder", "putStringAt", "(ILjava/lang/String;)V"⟩ : MethodName) jdk_68_method_73_code 3 none ({ frames := 2, cells := 0, slots := 0, locals := 33 } : Room) #[(.ref b0), (.int (o32 nC)), (.ref x0)] h0 n0 (fun h => Keep h0 h [v0] ∧ Arv Z h v0 kv .byte (o32 cs.length) (bV (cs.take nC ++ ls ++ cs.drop (nC + ls.length))) (.int 0)) := by
  refine met_of (L := #[.val (.ref b0), .val (.int (o32 nC)), .val (.ref x0)]) (plainFor_of_name pn_62) (fun m => by first | (simp [entryFrame, mkF, argsToLocals, Value.category]; done) | rfl) ?_
  intro p e s m below meth c T C X
  change Cx p s m meth c Z "java/lang/AbstractStringBuilder" jdk_68_method_73_code 3 none "putStringAt" at C
  refine g_aloadN C X d17_0 (q := 1) rfl rfl rfl ?_
  refine g_aloadN C X d17_1 (q := 2) rfl rfl rfl ?_
  refine g_callP0 C X (y := (⟨"java/lang/AbstractStringBuilder", "inflateIfNeededFor", "(Ljava/lang/String;)V"⟩ : MethodName)) (a := b0) (by decide) (w114 hw) (own_selP (w117 hw) (w115 hw) (w116 hw) (by decide)) (w115 hw) (w116 hw) R0.1 (w118 hw) (w44 hw) (rm_infl hw O W ⟨R0.1, R0.2.1, R0.2.2.1, R0.2.2.2⟩ ⟨A0.1, A0.2⟩ hcs hn0 nvb g0 gv ⟨S0.1, S0.2.1, S0.2.2.1, S0.2.2.2⟩ h19) (W := 0) (by decide) (by decide) (k' := 0) rfl (n' := 0) rfl (by decide) (by decide) rfl pd_150 (argsL := [(.ref x0)]) rfl (rest := []) rfl rfl rfl d17_2 (q := 5) rfl ?_
  rintro T1 _ X2 rfl
  refine g_aloadN C X2 d17_5 (q := 6) rfl rfl rfl ?_
  refine g_aloadN C X2 d17_6 (q := 7) rfl rfl rfl ?_
  refine g_getF C X2 (host := "") (Or.inl (w48 hw)) Via.refl R0.2.1 d17_7 (q := 10) rfl ?_
  intro T3 X4
  refine g_iloadN C X4 d17_10 (q := 11) rfl rfl ?_
  refine g_aloadN C X4 d17_11 (q := 12) rfl rfl rfl ?_
  refine g_getF C X4 (host := "") (Or.inl (w50 hw)) Via.refl R0.2.2.1 d17_12 (q := 15) rfl ?_
  intro T5 X6
  refine g_callV0 C X6 (y := (⟨"java/lang/String", "getBytes", "([BIB)V"⟩ : MethodName)) (z := (⟨"java/lang/String", "getBytes", "([BIB)V"⟩ : MethodName)) (a := x0) (by decide) (w120 hw) (w121 hw) (w123 hw) (w122 hw) (nf_sel (w123 hw)) S0.1 (w124 hw) (w27 hw) (rm_getB hw O W ⟨S0.1, S0.2.1, S0.2.2.1, S0.2.2.2⟩ h19 ⟨A0.1, A0.2⟩ hcs gv hfit ntv) (W := 0) (by decide) (by decide) (k' := 0) rfl (n' := 0) rfl (by decide) (by decide) rfl pd_158 (argsL := [(.ref v0), (.int (o32 nC)), (.int (0 : Int32))]) rfl (rest := []) rfl rfl rfl d17_15 (q := 18) rfl ?_
  rintro T7 h8 X9 ⟨K10, V11⟩
  have O12 := O.keep K10 (allS gv all0)
  exact g_retV C X9 d17_18 (by decide) (by decide) ⟨rfl, ((Keep.refl h0 [v0]).trans K10 (allS (Or.inl (List.mem_of_getElem? (i := 0) rfl)) all0)), V11⟩
set_option maxRecDepth 65536 in
set_option maxHeartbeats 40000000 in
theorem rm_asbS {l : Launch} {Z : State} {a0 : Array Value} (hw : ∀ d ∈ tables_1, d.before a0 Z = true) {b0 v0 : Addr} {kv : ClassId} {cs : List Int32} {nC : Nat} {x0 tb : Addr} {kb : ClassId} {ls : List Int32} {cz : Int32} {fm : Value} {dO : Addr} {kO : ClassId} {dT : Addr} {kT : ClassId} {h0 : Heap} {n0 : Nat} (O : Old Z n0 h0) (W : Wd Z cz fm dO kO dT kT) (R0 : SBf Z h0 b0 v0 (o32 nC)) (A0 : BA Z h0 v0 kv cs) (hcs : cs.length < 500) (hn0 : nC ≤ cs.length) (nvb : v0 ≠ b0) (g0 : n0 ≤ b0) (gv : n0 ≤ v0) (S0 : Sx Z h0 x0 tb kb ls) (h19 : ls.length < 200) (hsm : nC + ls.length ≤ 200) (ntv : tb ≠ v0) (nxv : x0 ≠ v0) (ntb : tb ≠ b0) (nxb : x0 ≠ b0) :
    Met1 l Z (⟨"java/lang/AbstractStringBuilder", "append", "(Ljava/lang/String;)Ljava/lang/AbstractStringBuilder;"⟩ : MethodName) jdk_68_method_22_code 3 (some (.object "java/lang/AbstractStringBuilder")) ({ frames := 4, cells := 1, slots := 500, locals := 62 } : Room) #[(.ref b0), (.ref x0)] h0 n0 (fun v h => v = .ref b0 ∧ Keep h0 h [b0, v0] ∧ ∃ v' k' cs', (v' = v0 ∨ h0.size ≤ v') ∧ v' ≠ b0 ∧ SBf Z h b0 v' (o32 (nC + List.length ls)) ∧ BA Z h v' k' cs' ∧ cs'.length < 500 ∧ nC + List.length ls ≤ cs'.length ∧ cs'.take (nC + List.length ls) = cs.take nC ++ ls) := by
  refine met_of (L := #[.val (.ref b0), .val (.ref x0), .unset]) (plainFor_of_name pn_62) (fun m => by first | (simp [entryFrame, mkF, argsToLocals, Value.category]; done) | rfl) ?_
  intro p e s m below meth c T C X
  change Cx p s m meth c Z "java/lang/AbstractStringBuilder" jdk_68_method_22_code 3 (some (.object "java/lang/AbstractStringBuilder")) "append" at C
  refine g_aloadN C X d8_0 (q := 1) rfl rfl rfl ?_
  refine g_nonY C X d8_1 (by decide) (q := 9) (by decide) ?_
  refine g_aloadN C X d8_9 (q := 10) rfl rfl rfl ?_
  refine g_callV1 C X (y := (⟨"java/lang/String", "length", "()I"⟩ : MethodName)) (z := (⟨"java/lang/String", "length", "()I"⟩ : MethodName)) (a := x0) (by decide) (w63 hw) (w64 hw) (w66 hw) (w65 hw) (nf_sel (w66 hw)) S0.1 (w67 hw) (w27 hw) (rm_slen hw (x0 := x0) (tb := tb) (kb := kb) (ls := ls) O W ⟨S0.1, S0.2.1, S0.2.2.1, S0.2.2.2⟩ h19) (W := 0) (by decide) (by decide) (k' := 0) rfl (n' := 0) rfl (by decide) (by decide) rfl pd_164 (argsL := []) rfl (rest := []) rfl rfl rfl d8_10 (q := 13) rfl ?_
  rintro _ T1 _ X2 ⟨rfl, rfl⟩
  refine g_istoreN C X2 d8_13 (q := 14) rfl (L' := #[.val (.ref b0), .val (.ref x0), .val (.int (o32 ls.length))]) rfl ?_
  refine g_aloadN C X2 d8_14 (q := 15) rfl rfl rfl ?_
  refine g_aloadN C X2 d8_15 (q := 16) rfl rfl rfl ?_
  refine g_getF C X2 (host := "") (Or.inl (w76 hw)) Via.refl R0.2.2.2 d8_16 (q := 19) rfl ?_
  intro T3 X4
  refine g_iloadN C X4 d8_19 (q := 20) rfl rfl ?_
  refine g_iadd C X4 d8_20 (q := 21) rfl (z := (o32 (nC + ls.length))) (r_add nC (by omega) ls.length (by omega)) ?_
  refine g_callP0 C X4 (y := (⟨"java/lang/AbstractStringBuilder", "ensureCapacityInternal", "(I)V"⟩ : MethodName)) (a := b0) (by decide) (w78 hw) (own_selP (w81 hw) (w79 hw) (w80 hw) (by decide)) (w79 hw) (w80 hw) R0.1 (w82 hw) (w44 hw) (rm_ensure hw (v0 := v0) (kv := kv) (cs := cs) (nC := nC) (mN := (nC + ls.length)) O W ⟨R0.1, R0.2.1, R0.2.2.1, R0.2.2.2⟩ ⟨A0.1, A0.2⟩ hcs hn0 nvb g0 gv (by omega)) (W := 0) (by decide) (by decide) (k' := 1) rfl (n' := 500) rfl (by decide) (by decide) rfl pd_172 (argsL := [(.int (o32 (nC + ls.length)))]) rfl (rest := []) rfl rfl rfl d8_21 (q := 24) rfl ?_
  rintro T5 h6 X7 ⟨K8, v9, k10, cs11, q12, nv13, R14, BA15, hm16, h517, tk18⟩
  have ge19 := own_geA O gv q12
  have O20 := O.keep K8 (allS g0 all0)
  have ntv21 := own_neA ntv S0.2.2.2.lt q12
  have nxv22 := own_neA nxv S0.1.lt q12
  refine g_aloadN C X7 d8_24 (q := 25) rfl rfl rfl ?_
  refine g_aloadN C X7 d8_25 (q := 26) rfl rfl rfl ?_
  refine g_getF C X7 (host := "") (Or.inl (w76 hw)) Via.refl R14.2.2.2 d8_26 (q := 29) rfl ?_
  intro T23 X24
  refine g_aloadN C X24 d8_29 (q := 30) rfl rfl rfl ?_
  have f25 := (S0.1.keep K8)
  have f26 := (S0.2.1.keep K8 (ninS nxb nin0))
  have f27 := (S0.2.2.1.keep K8 (ninS nxb nin0))
  have f28 := (S0.2.2.2.keep K8 (ninS ntb nin0))
  refine g_callP0 C X24 (y := (⟨"java/lang/AbstractStringBuilder", "putStringAt", "(ILjava/lang/String;)V"⟩ : MethodName)) (a := b0) (by decide) (w109 hw) (own_selP (w112 hw) (w110 hw) (w111 hw) (by decide)) (w110 hw) (w111 hw) R14.1 (w113 hw) (w44 hw) (rm_putS hw (v0 := v9) (kv := k10) (cs := cs11) (nC := nC) O20 W ⟨R14.1, R14.2.1, R14.2.2.1, R14.2.2.2⟩ ⟨BA15.1, BA15.2⟩ h517 (by omega) nv13 g0 ge19 ⟨f25, f26, f27, f28⟩ h19 hm16 ntv21 nxv22) (W := 0) (by decide) (by decide) (k' := 1) rfl (n' := 500) rfl (by decide) (by decide) rfl pd_178 (argsL := [(.int (o32 nC)), (.ref x0)]) rfl (rest := []) rfl rfl rfl d8_30 (q := 33) rfl ?_
  rintro T29 h30 X31 ⟨K32, V33⟩
  have O34 := O20.keep K32 (allS ge19 all0)
  refine g_aloadN C X31 d8_33 (q := 34) rfl rfl rfl ?_
  refine g_dup C X31 d8_34 (q := 35) rfl rfl ?_
  have f35 := (R14.2.2.2.keep K32 (ninS (Ne.symm nv13) nin0))
  refine g_getF C X31 (host := "") (Or.inl (w76 hw)) Via.refl f35 d8_35 (q := 38) rfl ?_
  intro T36 X37
  refine g_iloadN C X37 d8_38 (q := 39) rfl rfl ?_
  refine g_iadd C X37 d8_39 (q := 40) rfl (z := (o32 (nC + ls.length))) (r_add nC (by omega) ls.length (by omega)) ?_
  have f38 := (R14.1.keep K32)
  refine g_putF C X37 (host := "") (Or.inl (w76 hw)) Via.refl f35 f38 (Or.inl (w77 hw)) (w35 hw) (ty := .int) (by decide) rfl rfl d8_40 (q := 43) rfl g0 ?_
  intro T39 h41 X40 W42
  have FW42 := Fld.same W42 f35
  have O43 := O34.wr W42 g0
  refine g_aloadN C X40 d8_43 (q := 44) rfl rfl rfl ?_
  have pt44 := own_put (cs := cs11) (ls := ls) (n := nC) hm16
  have hK9 : Keep h0 h41 [b0, v0] := own_kp ((((Keep.refl h0 [b0, v9]).trans K8 (allS (Or.inl (List.mem_of_getElem? (i := 0) rfl)) all0)).trans K32 (allS (Or.inl (List.mem_of_getElem? (i := 1) rfl)) all0)).wr W42 (Or.inl (List.mem_of_getElem? (i := 0) rfl))) q12
  exact g_retA C X40 rfl rfl d8_44 (by decide) (by decide) ⟨_, rfl, rfl, hK9, v9, k10, _, q12, nv13, ⟨(f38.wr W42), ((R14.2.1.keep K32 (ninS (Ne.symm nv13) nin0)).other W42 (Or.inr (slot_ne (Or.inl (w49 hw)) (Or.inl (w77 hw)) (by decide) (t := (.array .byte)) (t' := .int) (by decide) (by decide)))), ((R14.2.2.1.keep K32 (ninS (Ne.symm nv13) nin0)).other W42 (Or.inr (slot_ne (Or.inl (w51 hw)) (Or.inl (w77 hw)) (by decide) (t := .byte) (t' := .int) (by decide) (by decide)))), FW42⟩, ⟨((BA15.1.keep K32).wr W42), by rw [pt44.1]; exact (V33.other W42 nv13)⟩, by rw [pt44.1]; exact h517, by rw [pt44.1]; exact hm16, by rw [pt44.2, tk18]⟩
set_option maxRecDepth 65536 in
set_option maxHeartbeats 40000000 in
theorem rm_sbS {l : Launch} {Z : State} {a0 : Array Value} (hw : ∀ d ∈ tables_1, d.before a0 Z = true) {b0 v0 : Addr} {kv : ClassId} {cs : List Int32} {nC : Nat} {x0 tb : Addr} {kb : ClassId} {ls : List Int32} {cz : Int32} {fm : Value} {dO : Addr} {kO : ClassId} {dT : Addr} {kT : ClassId} {h0 : Heap} {n0 : Nat} (O : Old Z n0 h0) (W : Wd Z cz fm dO kO dT kT) (R0 : SBf Z h0 b0 v0 (o32 nC)) (A0 : BA Z h0 v0 kv cs) (hcs : cs.length < 500) (hn0 : nC ≤ cs.length) (nvb : v0 ≠ b0) (g0 : n0 ≤ b0) (gv : n0 ≤ v0) (S0 : Sx Z h0 x0 tb kb ls) (h19 : ls.length < 200) (hsm : nC + ls.length ≤ 200) (ntv : tb ≠ v0) (nxv : x0 ≠ v0) (ntb : tb ≠ b0) (nxb : x0 ≠ b0) :
    Met1 l Z (⟨"java/lang/StringBuilder", "append", "(Ljava/lang/String;)Ljava/lang/StringBuilder;"⟩ : MethodName) jdk_67_method_7_code 2 (some (.object "java/lang/StringBuilder")) ({ frames := 5, cells := 1, slots := 500, locals := 76 } : Room) #[(.ref b0), (.ref x0)] h0 n0 (fun v h => v = .ref b0 ∧ Keep h0 h [b0, v0] ∧ ∃ v' k' cs', (v' = v0 ∨ h0.size ≤ v') ∧ v' ≠ b0 ∧ SBf Z h b0 v' (o32 (nC + List.length ls)) ∧ BA Z h v' k' cs' ∧ cs'.length < 500 ∧ nC + List.length ls ≤ cs'.length ∧ cs'.take (nC + List.length ls) = cs.take nC ++ ls) := by
  refine met_of (L := #[.val (.ref b0), .val (.ref x0)]) (plainFor_of_name pn_194) (fun m => by first | (simp [entryFrame, mkF, argsToLocals, Value.category]; done) | rfl) ?_
  intro p e s m below meth c T C X
  change Cx p s m meth c Z "java/lang/StringBuilder" jdk_67_method_7_code 2 (some (.object "java/lang/StringBuilder")) "append" at C
  refine g_aloadN C X d7_0 (q := 1) rfl rfl rfl ?_
  refine g_aloadN C X d7_1 (q := 2) rfl rfl rfl ?_
  refine g_callUp1 C X (y := (⟨"java/lang/AbstractStringBuilder", "append", "(Ljava/lang/String;)Ljava/lang/AbstractStringBuilder;"⟩ : MethodName)) (a := b0) (by decide) (by decide) (w58 hw) (w59 hw) (w60 hw) (w143 hw) rfl R0.1 (w62 hw) (w44 hw) (rm_asbS hw O W ⟨R0.1, R0.2.1, R0.2.2.1, R0.2.2.2⟩ ⟨A0.1, A0.2⟩ hcs hn0 nvb g0 gv ⟨S0.1, S0.2.1, S0.2.2.1, S0.2.2.2⟩ h19 hsm ntv nxv ntb nxb) (W := 0) (by decide) (by decide) (k' := 1) rfl (n' := 500) rfl (by decide) (by decide) rfl pd_190 (argsL := [(.ref x0)]) rfl (rest := []) rfl rfl rfl d7_2 (q := 5) rfl ?_
  rintro _ T1 h2 X3 ⟨rfl, K4, v5, k6, cs7, q8, nv9, R10, BA11, h512, hm13, tk14⟩
  have O15 := O.keep K4 (allS g0 (allS gv all0))
  refine g_pop C X3 d7_5 (q := 6) rfl rfl ?_
  refine g_aloadN C X3 d7_6 (q := 7) rfl rfl rfl ?_
  exact g_retA C X3 rfl rfl d7_7 (by decide) (by decide) ⟨_, rfl, rfl, K4, v5, k6, cs7, q8, nv9, R10, BA11, h512, hm13, tk14⟩
set_option maxRecDepth 65536 in
set_option maxHeartbeats 40000000 in
theorem rm_asbI {l : Launch} {Z : State} {a0 : Array Value} (hw : ∀ d ∈ tables_1, d.before a0 Z = true) {b0 : Addr} {cz : Int32} {fm : Value} {dO : Addr} {kO : ClassId} {dT : Addr} {kT : ClassId} {h0 : Heap} {n0 : Nat} (O : Old Z n0 h0) (W : Wd Z cz fm dO kO dT kT) (E0 : Exa Z h0 b0 "java/lang/StringBuilder") (Fvalue : Fld Z h0 b0 "java/lang/AbstractStringBuilder" "value" "[B" .null) (Fcoder : Fld Z h0 b0 "java/lang/AbstractStringBuilder" "coder" "B" (.int 0)) (Fcount : Fld Z h0 b0 "java/lang/AbstractStringBuilder" "count" "I" (.int 0)) (g0 : n0 ≤ b0) :
    Met0 l Z (⟨"java/lang/AbstractStringBuilder", "<init>", "(I)V"⟩ : MethodName) jdk_68_method_2_code 2 none ({ frames := 1, cells := 1, slots := 16, locals := 12 } : Room) #[(.ref b0), (.int (16 : Int32))] h0 n0 (fun h => Keep h0 h [b0] ∧ ∃ v k, h0.size ≤ v ∧ v ≠ b0 ∧ SBf Z h b0 v (o32 0) ∧ BA Z h v k (List.replicate 16 0)) := by
  refine met_of (L := #[.val (.ref b0), .val (.int (16 : Int32))]) (plainFor_of_name pn_62) (fun m => by first | (simp [entryFrame, mkF, argsToLocals, Value.category]; done) | rfl) ?_
  intro p e s m below meth c T C X
  change Cx p s m meth c Z "java/lang/AbstractStringBuilder" jdk_68_method_2_code 2 none "<init>" at C
  refine g_aloadN C X d6_0 (q := 1) rfl rfl rfl ?_
  refine g_initO C X (w46 hw) (w13 hw) (w14 hw) rfl d6_1 (q := 4) rfl (by decide) (by decide) ?_
  intro T1 X2
  refine g_getS C X2 (host := "") (Or.inl (w47 hw)) Via.refl (W.1.ext O.2) d6_4 (q := 7) rfl ?_
  intro T3 X4
  refine g_ifN C X4 d6_7 (q := 10) rfl (feq W.2.1).1 ?_
  refine g_aloadN C X4 d6_10 (q := 11) rfl rfl rfl ?_
  refine g_iloadN C X4 d6_11 (q := 12) rfl rfl ?_
  refine g_newPE C X4 (w29 hw) rfl (ad := "[B") rfl d6_12 (q := 14) rfl (by decide) (cap := 16) (by decide) (by decide) (k' := 1) rfl (n' := 16) rfl (by decide) (by decide) ?_
  intro T6 h7 kA8 b5 g10 X9 E11 V12 E13
  have ge15 : n0 ≤ b5 := own_ge O g10
  have O16 := O.ext E11
  have V14 : Arv Z h7 b5 kA8 .byte (o32 16) (bV (List.replicate 16 0)) (.int 0) := Arv.pad V12 (bV_rep 16)
  have f17 := (Fvalue.ext E11)
  have f18 := (E0.ext E11)
  refine g_putF C X9 (host := "") (Or.inl (w48 hw)) Via.refl f17 f18 (Or.inl (w49 hw)) (w35 hw) (ty := (.array .byte)) (by decide) rfl rfl d6_14 (q := 17) rfl g0 ?_
  intro T19 h21 X20 W22
  have FW22 := Fld.same W22 f17
  have O23 := O16.wr W22 g0
  refine g_aloadN C X20 d6_17 (q := 18) rfl rfl rfl ?_
  refine g_iconst C X20 d6_18 (q := 19) rfl (z := (0 : Int32)) rfl ?_
  have f24 := ((Fcoder.ext E11).other W22 (Or.inr (slot_ne (Or.inl (w51 hw)) (Or.inl (w49 hw)) (by decide) (t := .byte) (t' := (.array .byte)) (by decide) (by decide))))
  have f25 := (f18.wr W22)
  refine g_putF C X20 (host := "") (Or.inl (w50 hw)) Via.refl f24 f25 (Or.inl (w51 hw)) (w35 hw) (ty := .byte) (by decide) rfl rfl d6_19 (q := 22) rfl g0 ?_
  intro T26 h28 X27 W29
  have FW29 := Fld.same W29 f24
  have O30 := O23.wr W29 g0
  refine g_goto C X27 d6_22 (by decide) (q := 38) (by decide) ?_
  exact g_retV C X27 d6_38 (by decide) (by decide) ⟨rfl, ((((Keep.refl h0 [b0]).ext E11).wr W22 (Or.inl (List.mem_of_getElem? (i := 0) rfl))).wr W29 (Or.inl (List.mem_of_getElem? (i := 0) rfl))), b5, kA8, (own_sz (Keep.refl h0 [b0]).1 g10), Ne.symm (own_ne E0.lt g10), ⟨(f25.wr W29), (FW22.other W29 (Or.inr (slot_ne (Or.inl (w49 hw)) (Or.inl (w51 hw)) (by decide) (t := (.array .byte)) (t' := .byte) (by decide) (by decide)))), FW29, (((Fcount.ext E11).other W22 (Or.inr (slot_ne (Or.inl (w77 hw)) (Or.inl (w49 hw)) (by decide) (t := .int) (t' := (.array .byte)) (by decide) (by decide)))).other W29 (Or.inr (slot_ne (Or.inl (w77 hw)) (Or.inl (w51 hw)) (by decide) (t := .int) (t' := .byte) (by decide) (by decide))))⟩, ⟨((E13.wr W22).wr W29), by rw [List.length_replicate]; exact ((V14.other W22 (Ne.symm (own_ne E0.lt g10))).other W29 (Ne.symm (own_ne E0.lt g10)))⟩⟩
set_option maxRecDepth 65536 in
set_option maxHeartbeats 40000000 in
theorem rm_sbI {l : Launch} {Z : State} {a0 : Array Value} (hw : ∀ d ∈ tables_1, d.before a0 Z = true) {b0 : Addr} {cz : Int32} {fm : Value} {dO : Addr} {kO : ClassId} {dT : Addr} {kT : ClassId} {h0 : Heap} {n0 : Nat} (O : Old Z n0 h0) (W : Wd Z cz fm dO kO dT kT) (E0 : Exa Z h0 b0 "java/lang/StringBuilder") (Fvalue : Fld Z h0 b0 "java/lang/AbstractStringBuilder" "value" "[B" .null) (Fcoder : Fld Z h0 b0 "java/lang/AbstractStringBuilder" "coder" "B" (.int 0)) (Fcount : Fld Z h0 b0 "java/lang/AbstractStringBuilder" "count" "I" (.int 0)) (g0 : n0 ≤ b0) :
    Met0 l Z (⟨"java/lang/StringBuilder", "<init>", "()V"⟩ : MethodName) jdk_67_method_1_code 1 none ({ frames := 2, cells := 1, slots := 16, locals := 25 } : Room) #[(.ref b0)] h0 n0 (fun h => Keep h0 h [b0] ∧ ∃ v k, h0.size ≤ v ∧ v ≠ b0 ∧ SBf Z h b0 v (o32 0) ∧ BA Z h v k (List.replicate 16 0)) := by
  refine met_of (L := #[.val (.ref b0)]) (plainFor_of_name pn_194) (fun m => by first | (simp [entryFrame, mkF, argsToLocals, Value.category]; done) | rfl) ?_
  intro p e s m below meth c T C X
  change Cx p s m meth c Z "java/lang/StringBuilder" jdk_67_method_1_code 1 none "<init>" at C
  refine g_aloadN C X d5_0 (q := 1) rfl rfl rfl ?_
  refine g_bipush C X d5_1 (q := 3) rfl (z := (16 : Int32)) rfl ?_
  refine g_callI0 C X (y := (⟨"java/lang/AbstractStringBuilder", "<init>", "(I)V"⟩ : MethodName)) (a := b0) (by decide) rfl (w40 hw) (w41 hw) (w45 hw) (w44 hw) (rm_asbI hw O W E0 Fvalue Fcoder Fcount g0) (W := 0) (by decide) (by decide) (k' := 1) rfl (n' := 16) rfl (by decide) (by decide) rfl pd_172 (argsL := [(.int (16 : Int32))]) rfl (rest := []) rfl rfl rfl d5_3 (q := 6) rfl ?_
  rintro T1 h2 X3 ⟨K4, r5⟩
  have O6 := O.keep K4 (allS g0 all0)
  exact g_retV C X3 d5_6 (by decide) (by decide) ⟨rfl, K4, r5⟩
set_option maxRecDepth 65536 in
set_option maxHeartbeats 40000000 in
theorem rm_bL {l : Launch} {Z : State} {a0 : Array Value} (hw : ∀ d ∈ tables_1, d.before a0 Z = true) {b0 v0 : Addr} {kv : ClassId} {cs : List Int32} {nC : Nat} {cz : Int32} {fm : Value} {dO : Addr} {kO : ClassId} {dT : Addr} {kT : ClassId} {h0 : Heap} {n0 : Nat} (O : Old Z n0 h0) (W : Wd Z cz fm dO kO dT kT) (R0 : SBf Z h0 b0 v0 (o32 nC)) (A0 : BA Z h0 v0 kv cs) (hcs : cs.length < 500) (hn0 : nC ≤ cs.length) (nvb : v0 ≠ b0) (g0 : n0 ≤ b0) (gv : n0 ≤ v0) :
    Met1 l Z (⟨"java/lang/AbstractStringBuilder", "isLatin1", "()Z"⟩ : MethodName) jdk_68_method_68_code 1 (some .boolean) ({ frames := 0, cells := 0, slots := 0, locals := 0 } : Room) #[(.ref b0)] h0 n0 (fun v h => v = .int 1 ∧ h0 = h) := by
  refine met_of (L := #[.val (.ref b0)]) (plainFor_of_name pn_62) (fun m => by first | (simp [entryFrame, mkF, argsToLocals, Value.category]; done) | rfl) ?_
  intro p e s m below meth c T C X
  change Cx p s m meth c Z "java/lang/AbstractStringBuilder" jdk_68_method_68_code 1 (some .boolean) "isLatin1" at C
  refine g_getS C X (host := "") (Or.inl (w47 hw)) Via.refl (W.1.ext O.2) d23_0 (q := 3) rfl ?_
  intro T1 X2
  refine g_ifN C X2 d23_3 (q := 6) rfl (feq W.2.1).1 ?_
  refine g_aloadN C X2 d23_6 (q := 7) rfl rfl rfl ?_
  refine g_getF C X2 (host := "") (Or.inl (w50 hw)) Via.refl R0.2.2.1 d23_7 (q := 10) rfl ?_
  intro T3 X4
  refine g_ifN C X4 d23_10 (q := 13) rfl (by decide) ?_
  refine g_iconst C X4 d23_13 (q := 14) rfl (z := (1 : Int32)) rfl ?_
  refine g_goto C X4 d23_14 (by decide) (q := 18) (by decide) ?_
  exact g_retN C X4 (Or.inl rfl) (z' := 1) (by decide) d23_18 (by decide) (by decide) ⟨_, rfl, rfl, rfl⟩
set_option maxRecDepth 65536 in
set_option maxHeartbeats 40000000 in
theorem rm_bV {l : Launch} {Z : State} {a0 : Array Value} (hw : ∀ d ∈ tables_1, d.before a0 Z = true) {b0 v0 : Addr} {kv : ClassId} {cs : List Int32} {nC : Nat} {cz : Int32} {fm : Value} {dO : Addr} {kO : ClassId} {dT : Addr} {kT : ClassId} {h0 : Heap} {n0 : Nat} (O : Old Z n0 h0) (W : Wd Z cz fm dO kO dT kT) (R0 : SBf Z h0 b0 v0 (o32 nC)) (A0 : BA Z h0 v0 kv cs) (hcs : cs.length < 500) (hn0 : nC ≤ cs.length) (nvb : v0 ≠ b0) (g0 : n0 ≤ b0) (gv : n0 ≤ v0) :
    Met1 l Z (⟨"java/lang/AbstractStringBuilder", "getValue", "()[B"⟩ : MethodName) jdk_68_method_64_code 1 (some (.array .byte)) ({ frames := 0, cells := 0, slots := 0, locals := 0 } : Room) #[(.ref b0)] h0 n0 (fun v h => v = .ref v0 ∧ h0 = h) := by
  refine met_of (L := #[.val (.ref b0)]) (plainFor_of_name pn_62) (fun m => by first | (simp [entryFrame, mkF, argsToLocals, Value.category]; done) | rfl) ?_
  intro p e s m below meth c T C X
  change Cx p s m meth c Z "java/lang/AbstractStringBuilder" jdk_68_method_64_code 1 (some (.array .byte)) "getValue" at C
  refine g_aloadN C X d28_0 (q := 1) rfl rfl rfl ?_
  refine g_getF C X (host := "") (Or.inl (w48 hw)) Via.refl R0.2.1 d28_1 (q := 4) rfl ?_
  intro T1 X2
  exact g_retA C X2 rfl rfl d28_4 (by decide) (by decide) ⟨_, rfl, rfl, rfl⟩
set_option maxRecDepth 65536 in
set_option maxHeartbeats 40000000 in
theorem rm_aL {l : Launch} {Z : State} {a0 : Array Value} (hw : ∀ d ∈ tables_1, d.before a0 Z = true) {b0 v0 : Addr} {kv : ClassId} {cs : List Int32} {nC : Nat} {cz : Int32} {fm : Value} {dO : Addr} {kO : ClassId} {dT : Addr} {kT : ClassId} {h0 : Heap} {n0 : Nat} (O : Old Z n0 h0) (W : Wd Z cz fm dO kO dT kT) (R0 : SBf Z h0 b0 v0 (o32 nC)) (A0 : BA Z h0 v0 kv cs) (hcs : cs.length < 500) (hn0 : nC ≤ cs.length) (nvb : v0 ≠ b0) (g0 : n0 ≤ b0) (gv : n0 ≤ v0) :
    Met1 l Z (⟨"java/lang/AbstractStringBuilder", "length", "()I"⟩ : MethodName) jdk_68_method_6_code 1 (some .int) ({ frames := 0, cells := 0, slots := 0, locals := 0 } : Room) #[(.ref b0)] h0 n0 (fun v h => v = .int (o32 nC) ∧ h0 = h) := by
  refine met_of (L := #[.val (.ref b0)]) (plainFor_of_name pn_62) (fun m => by first | (simp [entryFrame, mkF, argsToLocals, Value.category]; done) | rfl) ?_
  intro p e s m below meth c T C X
  change Cx p s m meth c Z "java/lang/AbstractStringBuilder" jdk_68_method_6_code 1 (some .int) "length" at C
  refine g_aloadN C X d30_0 (q := 1) rfl rfl rfl ?_
  refine g_getF C X (host := "") (Or.inl (w76 hw)) Via.refl R0.2.2.2 d30_1 (q := 4) rfl ?_
  intro T1 X2
  exact g_retI C X2 d30_4 (by decide) (by decide) ⟨_, rfl, rfl, rfl⟩
set_option maxRecDepth 65536 in
set_option maxHeartbeats 40000000 in
theorem rm_sL {l : Launch} {Z : State} {a0 : Array Value} (hw : ∀ d ∈ tables_1, d.before a0 Z = true) {b0 v0 : Addr} {kv : ClassId} {cs : List Int32} {nC : Nat} {cz : Int32} {fm : Value} {dO : Addr} {kO : ClassId} {dT : Addr} {kT : ClassId} {h0 : Heap} {n0 : Nat} (O : Old Z n0 h0) (W : Wd Z cz fm dO kO dT kT) (R0 : SBf Z h0 b0 v0 (o32 nC)) (A0 : BA Z h0 v0 kv cs) (hcs : cs.length < 500) (hn0 : nC ≤ cs.length) (nvb : v0 ≠ b0) (g0 : n0 ≤ b0) (gv : n0 ≤ v0) :
    Met1 l Z (⟨"java/lang/StringBuilder", "length", "()I"⟩ : MethodName) jdk_67_method_93_code 1 (some .int) ({ frames := 1, cells := 0, slots := 0, locals := 12 } : Room) #[(.ref b0)] h0 n0 (fun v h => v = .int (o32 nC) ∧ h0 = h) := by
  refine met_of (L := #[.val (.ref b0)]) (plainFor_of_name pn_194) (fun m => by first | (simp [entryFrame, mkF, argsToLocals, Value.category]; done) | rfl) ?_
  intro p e s m below meth c T C X
  change Cx p s m meth c Z "java/lang/StringBuilder" jdk_67_method_93_code 1 (some .int) "length" at C
  refine g_aloadN C X d29_0 (q := 1) rfl rfl rfl ?_
  refine g_callUp1 C X (y := (⟨"java/lang/AbstractStringBuilder", "length", "()I"⟩ : MethodName)) (a := b0) (by decide) (by decide) (w178 hw) (w174 hw) (w60 hw) (w143 hw) rfl R0.1 (w179 hw) (w44 hw) (rm_aL hw O W ⟨R0.1, R0.2.1, R0.2.2.1, R0.2.2.2⟩ ⟨A0.1, A0.2⟩ hcs hn0 nvb g0 gv) (W := 0) (by decide) (by decide) (k' := 0) rfl (n' := 0) rfl (by decide) (by decide) rfl pd_164 (argsL := []) rfl (rest := []) rfl rfl rfl d29_1 (q := 4) rfl ?_
  rintro _ T1 _ X2 ⟨rfl, rfl⟩
  exact g_retI C X2 d29_4 (by decide) (by decide) ⟨_, rfl, rfl, rfl⟩
set_option maxRecDepth 65536 in
set_option maxHeartbeats 40000000 in
theorem rm_ckl {l : Launch} {Z : State} {a0 : Array Value} (hw : ∀ d ∈ tables_1, d.before a0 Z = true) {kN : Nat} {cz : Int32} {fm : Value} {dO : Addr} {kO : ClassId} {dT : Addr} {kT : ClassId} {h0 : Heap} {n0 : Nat} (O : Old Z n0 h0) (W : Wd Z cz fm dO kO dT kT) (hk : kN < 1000) :
    Met0 l Z (⟨"java/util/Arrays", "checkLength", "(II)V"⟩ : MethodName) jdk_65_method_131_code 2 none ({ frames := 0, cells := 0, slots := 0, locals := 0 } : Room) #[(.int (0 : Int32)), (.int (o32 kN))] h0 n0 (fun h => h0 = h) := by
  refine met_of (L := #[.val (.int (0 : Int32)), .val (.int (o32 kN))]) (plainFor_of_name pn_81) (fun m => by first | (simp [entryFrame, mkF, argsToLocals, Value.category]; done) | rfl) ?_
  intro p e s m below meth c T C X
  change Cx p s m meth c Z "java/util/Arrays" jdk_65_method_131_code 2 none "checkLength" at C
  refine g_iloadN C X d33_0 (q := 1) rfl rfl ?_
  refine g_iloadN C X d33_1 (q := 2) rfl rfl ?_
  refine g_icY C X d33_2 (by decide) (q := 37) (by decide) (flt (r_n16 kN hk).1).2.1 ?_
  exact g_retV C X d33_37 (by decide) (by decide) ⟨rfl, rfl⟩
set_option maxRecDepth 65536 in
set_option maxHeartbeats 40000000 in
theorem rm_crb {l : Launch} {Z : State} {a0 : Array Value} (hw : ∀ d ∈ tables_1, d.before a0 Z = true) {aA : Addr} {kA : ClassId} {cs : List Int32} {kN : Nat} {cz : Int32} {fm : Value} {dO : Addr} {kO : ClassId} {dT : Addr} {kT : ClassId} {h0 : Heap} {n0 : Nat} (O : Old Z n0 h0) (W : Wd Z cz fm dO kO dT kT) (E0 : Exa Z h0 aA "[B") (V0 : Arv Z h0 aA kA .byte (o32 cs.length) (bV cs) (.int 0)) (hlt : kN ≤ cs.length) (hk : cs.length < 500) :
    Met1 l Z (⟨"java/util/Arrays", "copyOfRangeByte", "([BII)[B"⟩ : MethodName) jdk_65_method_133_code 5 (some (.array .byte)) ({ frames := 1, cells := 1, slots := 500, locals := 18 } : Room) #[(.ref aA), (.int (0 : Int32)), (.int (o32 kN))] h0 n0 (fun v h => ∃ b kb, Keep h0 h [] ∧ v = .ref b ∧ h0.size ≤ b ∧ Exa Z h b "[B" ∧ Arv Z h b kb .byte (o32 kN) (bV (cs.take kN)) (.int 0)) := by
  refine met_of (L := #[.val (.ref aA), .val (.int (0 : Int32)), .val (.int (o32 kN)), .unset, .unset]) (plainFor_of_name pn_81) (fun m => by first | (simp [entryFrame, mkF, argsToLocals, Value.category]; done) | rfl) ?_
  intro p e s m below meth c T C X
  change Cx p s m meth c Z "java/util/Arrays" jdk_65_method_133_code 5 (some (.array .byte)) "copyOfRangeByte" at C
  refine g_iloadN C X d32_0 (q := 1) rfl rfl ?_
  refine g_iloadN C X d32_1 (q := 2) rfl rfl ?_
  refine g_callS0 C X (y := (⟨"java/util/Arrays", "checkLength", "(II)V"⟩ : MethodName)) (by decide) (w187 hw) (w188 hw) (w189 hw) (w100 hw) (rm_ckl hw (kN := kN) O W (by omega)) (W := 0) (by decide) (by decide) (k' := 0) rfl (n' := 0) rfl (by decide) (by decide) rfl pd_236 (argsL := [(.int (0 : Int32)), (.int (o32 kN))]) rfl (rest := []) rfl rfl rfl d32_2 (q := 5) rfl ?_
  rintro T1 _ X2 rfl
  refine g_iloadN C X2 d32_5 (q := 6) rfl rfl ?_
  refine g_iloadN C X2 d32_6 (q := 7) rfl rfl ?_
  refine g_isub C X2 d32_7 (q := 8) rfl (z := (o32 kN)) (r_sub kN (by omega) 0 (by omega)) ?_
  refine g_istoreN C X2 d32_8 (q := 9) rfl (L' := #[.val (.ref aA), .val (.int (0 : Int32)), .val (.int (o32 kN)), .val (.int (o32 kN)), .unset]) rfl ?_
  refine g_iloadN C X2 d32_9 (q := 10) rfl rfl ?_
  refine g_newPE C X2 (w29 hw) rfl (ad := "[B") rfl d32_10 (q := 12) rfl (r_n16 kN (by omega)).1 (cap := 500) (by rw [(r_n16 kN (by omega)).2.1]; omega) (by decide) (k' := 1) rfl (n' := 500) rfl (by decide) (by decide) ?_
  intro T4 h5 kA6 b3 g8 X7 E9 V10 E11
  have ge13 : n0 ≤ b3 := own_ge O g8
  have O14 := O.ext E9
  have V12 : Arv Z h5 b3 kA6 .byte (o32 kN) (bV (List.replicate kN 0)) (.int 0) := Arv.pad V10 (bV_rep kN)
  refine g_astore C X7 d32_12 (q := 14) rfl rfl (L' := #[.val (.ref aA), .val (.int (0 : Int32)), .val (.int (o32 kN)), .val (.int (o32 kN)), .val (.ref b3)]) rfl ?_
  refine g_aloadN C X7 d32_14 (q := 15) rfl rfl rfl ?_
  refine g_iloadN C X7 d32_15 (q := 16) rfl rfl ?_
  refine g_aload C X7 d32_16 (q := 18) rfl rfl rfl ?_
  refine g_iconst C X7 d32_18 (q := 19) rfl (z := (0 : Int32)) rfl ?_
  refine g_aloadN C X7 d32_19 (q := 20) rfl rfl rfl ?_
  have f15 := (V0.ext E9)
  refine g_alen C X7 f15 d32_20 (q := 21) rfl ?_
  refine g_iloadN C X7 d32_21 (q := 22) rfl rfl ?_
  refine g_isub C X7 d32_22 (q := 23) rfl (z := (o32 cs.length)) (r_sub cs.length (by omega) 0 (by omega)) ?_
  refine g_iloadN C X7 d32_23 (q := 24) rfl rfl ?_
  refine g_callS1 C X7 (y := (⟨"java/lang/Math", "min", "(II)I"⟩ : MethodName)) (by decide) (w102 hw) (w103 hw) (w104 hw) (w94 hw) (rm_min hw (x1 := (o32 cs.length)) (x2 := (o32 kN)) (x3 := (o32 kN)) O14 W ((r_min16 cs.length (by omega) kN (by omega)).trans (congrArg o32 (by omega)))) (W := 4) (by decide) (by decide) (k' := 1) rfl (n' := 500) rfl (by decide) (by decide) rfl pd_18 (argsL := [(.int (o32 cs.length)), (.int (o32 kN))]) rfl (rest := [(.int (0 : Int32)), (.ref b3), (.int (0 : Int32)), (.ref aA)]) rfl rfl rfl d32_24 (q := 27) rfl ?_
  rintro _ T16 _ X17 ⟨rfl, rfl⟩
  refine g_cpB C X17 (w105 hw) (w108 hw) (w106 hw) (w107 hw) f15 V12 (by decide) (r_n16 0 (by omega)).1 (r_n16 kN (by omega)).1 (own_b2 (n := 0) (k := kN) (by omega) (by omega)) (own_b2 (n := 0) (k := kN) (by omega) (by omega)) (own_b3 (n := 0) (k := kN) (by rw [List.length_replicate]; omega) (by rw [List.length_replicate]; omega)) (vd' := bV ((List.replicate kN 0).take 0 ++ (cs.take kN) ++ (List.replicate kN 0).drop (0 + kN))) (own_set3 (n := 0) hlt (by rw [List.length_replicate]; omega) (by omega) (by omega)) ge13 rfl d32_27 (q := 30) rfl (by decide) (W := 0) rfl (by decide) ?_
  intro T18 h19 X20 K21 V22
  have O23 := O14.keep K21 (allS ge13 all0)
  refine g_aload C X20 d32_30 (q := 32) rfl rfl rfl ?_
  exact g_retA C X20 rfl rfl d32_32 (by decide) (by decide) ⟨_, rfl, b3, kA6, (((Keep.refl h0 []).ext E9).trans K21 (allS (Or.inr (own_sz (Keep.refl h0 []).1 g8)) all0)), rfl, (own_sz (Keep.refl h0 []).1 g8), (E11.keep K21), (own_cr ▸ V22)⟩
set_option maxRecDepth 65536 in
set_option maxHeartbeats 40000000 in
theorem rm_cr {l : Launch} {Z : State} {a0 : Array Value} (hw : ∀ d ∈ tables_1, d.before a0 Z = true) {aA : Addr} {kA : ClassId} {cs : List Int32} {kN : Nat} {cz : Int32} {fm : Value} {dO : Addr} {kO : ClassId} {dT : Addr} {kT : ClassId} {h0 : Heap} {n0 : Nat} (O : Old Z n0 h0) (W : Wd Z cz fm dO kO dT kT) (E0 : Exa Z h0 aA "[B") (V0 : Arv Z h0 aA kA .byte (o32 cs.length) (bV cs) (.int 0)) (hlt : kN ≤ cs.length) (hk : cs.length < 500) :
    Met1 l Z (⟨"java/util/Arrays", "copyOfRange", "([BII)[B"⟩ : MethodName) jdk_65_method_132_code 3 (some (.array .byte)) ({ frames := 2, cells := 1, slots := 500, locals := 34 } : Room) #[(.ref aA), (.int (0 : Int32)), (.int (o32 kN))] h0 n0 (fun v h => ∃ b kb, Keep h0 h [] ∧ v = .ref b ∧ h0.size ≤ b ∧ Exa Z h b "[B" ∧ Arv Z h b kb .byte (o32 kN) (bV (cs.take kN)) (.int 0)) := by
  refine met_of (L := #[.val (.ref aA), .val (.int (0 : Int32)), .val (.int (o32 kN))]) (plainFor_of_name pn_81) (fun m => by first | (simp [entryFrame, mkF, argsToLocals, Value.category]; done) | rfl) ?_
  intro p e s m below meth c T C X
  change Cx p s m meth c Z "java/util/Arrays" jdk_65_method_132_code 3 (some (.array .byte)) "copyOfRange" at C
  refine g_iloadN C X d31_0 (q := 1) rfl rfl ?_
  refine g_ifN C X d31_1 (q := 4) rfl (by decide) ?_
  refine g_iloadN C X d31_4 (q := 5) rfl rfl ?_
  refine g_aloadN C X d31_5 (q := 6) rfl rfl rfl ?_
  refine g_alen C X V0 d31_6 (q := 7) rfl ?_
  by_cases hc1 : (o32 kN) = (o32 cs.length)
  · refine g_icY C X d31_7 (by decide) (q := 17) (by decide) (teq hc1).1 ?_
    refine g_aloadN C X d31_17 (q := 18) rfl rfl rfl ?_
    refine g_clone C X (w277 hw) (w278 hw) (w282 hw) (w280 hw) (w281 hw) (w283 hw) V0 E0 (cap := 500) (by rw [(r_n16 _ (by omega)).2.1]; omega) (by decide) (W := 0) (by decide) (k' := 1) rfl (n' := 500) rfl (by decide) (by decide) rfl rfl d31_18 (q := 21) rfl ?_
    intro T2 h3 b4 g5 X6 E7 V8 E9
    have ge10 : n0 ≤ b4 := own_ge O g5
    have O11 := O.ext E7
    refine g_castY C X6 (w284 hw) (Ins.self E9) d31_21 (q := 24) rfl ?_
    intro T12 X13
    obtain rfl : kN = cs.length := (r_lt kN (by omega) cs.length (by omega)).2.2 hc1
    exact g_retA C X13 rfl rfl d31_24 (by decide) (by decide) ⟨_, rfl, b4, kA, ((Keep.refl h0 []).ext E7), rfl, (own_sz (Keep.refl h0 []).1 g5), E9, (by rw [List.take_length]; exact V8)⟩
  · refine g_icN C X d31_7 (q := 10) rfl (feq hc1).1 ?_
    refine g_aloadN C X d31_10 (q := 11) rfl rfl rfl ?_
    refine g_iloadN C X d31_11 (q := 12) rfl rfl ?_
    refine g_iloadN C X d31_12 (q := 13) rfl rfl ?_
    refine g_callS1 C X (y := (⟨"java/util/Arrays", "copyOfRangeByte", "([BII)[B"⟩ : MethodName)) (by decide) (w184 hw) (w185 hw) (w186 hw) (w100 hw) (rm_crb hw (aA := aA) (kA := kA) (cs := cs) (kN := kN) O W E0 V0 (by omega) (by omega)) (W := 0) (by decide) (by decide) (k' := 1) rfl (n' := 500) rfl (by decide) (by decide) rfl pd_271 (argsL := [(.ref aA), (.int (0 : Int32)), (.int (o32 kN))]) rfl (rest := []) rfl rfl rfl d31_13 (q := 16) rfl ?_
    rintro _ T14 h15 X16 ⟨b18, kb19, K17, rfl, sz20, E21, V22⟩
    have ge23 := Nat.le_trans (own_szO O) sz20
    have O24 := O.keep K17 all0
    exact g_retA C X16 rfl rfl d31_16 (by decide) (by decide) ⟨_, rfl, b18, kb19, ((Keep.refl h0 []).trans K17 all0), rfl, (Nat.le_trans (Keep.refl h0 []).1 sz20), E21, V22⟩
set_option maxRecDepth 65536 in
set_option maxHeartbeats 40000000 in
theorem rm_sti2 {l : Launch} {Z : State} {a0 : Array Value} (hw : ∀ d ∈ tables_1, d.before a0 Z = true) {b0 v0 : Addr} {kv : ClassId} {cs : List Int32} {nC : Nat} {x0 : Addr} {cz : Int32} {fm : Value} {dO : Addr} {kO : ClassId} {dT : Addr} {kT : ClassId} {h0 : Heap} {n0 : Nat} (O : Old Z n0 h0) (W : Wd Z cz fm dO kO dT kT) (R0 : SBf Z h0 b0 v0 (o32 nC)) (A0 : BA Z h0 v0 kv cs) (hcs : cs.length < 500) (hn0 : nC ≤ cs.length) (nvb : v0 ≠ b0) (g0 : n0 ≤ b0) (gv : n0 ≤ v0) (E0 : Exa Z h0 x0 "java/lang/String") (Fvalue : Fld Z h0 x0 "java/lang/String" "value" "[B" .null) (Fcoder : Fld Z h0 x0 "java/lang/String" "coder" "B" (.int 0)) (gx : n0 ≤ x0) (nxb : x0 ≠ b0) (nxv : x0 ≠ v0) :
    Met0 l Z (⟨"java/lang/String", "<init>", "(Ljava/lang/AbstractStringBuilder;Ljava/lang/Void;)V"⟩ : MethodName) jdk_42_method_150_code 5 none ({ frames := 3, cells := 1, slots := 500, locals := 49 } : Room) #[(.ref x0), (.ref b0), .null] h0 n0 (fun h => Keep h0 h [x0] ∧ ∃ t kt, h0.size ≤ t ∧ Sx Z h x0 t kt (cs.take nC)) := by
  refine met_of (L := #[.val (.ref x0), .val (.ref b0), .val .null, .unset, .unset]) (plainFor_of_name pn_113) (fun m => by first | (simp [entryFrame, mkF, argsToLocals, Value.category]; done) | rfl) ?_
  intro p e s m below meth c T C X
  change Cx p s m meth c Z "java/lang/String" jdk_42_method_150_code 5 none "<init>" at C
  refine g_aloadN C X d27_0 (q := 1) rfl rfl rfl ?_
  refine g_initO C X (w166 hw) (w13 hw) (w14 hw) rfl d27_1 (q := 4) rfl (by decide) (by decide) ?_
  intro T1 X2
  refine g_aloadN C X2 d27_4 (q := 5) rfl rfl rfl ?_
  refine g_callV1 C X2 (y := (⟨"java/lang/AbstractStringBuilder", "getValue", "()[B"⟩ : MethodName)) (z := (⟨"java/lang/AbstractStringBuilder", "getValue", "()[B"⟩ : MethodName)) (a := b0) (by decide) (w167 hw) (w168 hw) (w170 hw) (w169 hw) (nf_sel (w170 hw)) R0.1 (w171 hw) (w44 hw) (rm_bV hw O W ⟨R0.1, R0.2.1, R0.2.2.1, R0.2.2.2⟩ ⟨A0.1, A0.2⟩ hcs hn0 nvb g0 gv) (W := 0) (by decide) (by decide) (k' := 0) rfl (n' := 0) rfl (by decide) (by decide) rfl pd_277 (argsL := []) rfl (rest := []) rfl rfl rfl d27_5 (q := 8) rfl ?_
  rintro _ T3 _ X4 ⟨rfl, rfl⟩
  refine g_astoreN C X4 d27_8 (q := 9) rfl rfl (L' := #[.val (.ref x0), .val (.ref b0), .val .null, .val (.ref v0), .unset]) rfl ?_
  refine g_aloadN C X4 d27_9 (q := 10) rfl rfl rfl ?_
  refine g_callV1 C X4 (y := (⟨"java/lang/AbstractStringBuilder", "length", "()I"⟩ : MethodName)) (z := (⟨"java/lang/StringBuilder", "length", "()I"⟩ : MethodName)) (a := b0) (by decide) (w172 hw) (w173 hw) (w175 hw) (w176 hw) (own_nf2 (y := (⟨"java/lang/AbstractStringBuilder", "length", "()I"⟩ : MethodName)) (w143 hw) rfl) R0.1 (w177 hw) (w36 hw) (rm_sL hw O W ⟨R0.1, R0.2.1, R0.2.2.1, R0.2.2.2⟩ ⟨A0.1, A0.2⟩ hcs hn0 nvb g0 gv) (W := 0) (by decide) (by decide) (k' := 0) rfl (n' := 0) rfl (by decide) (by decide) rfl pd_164 (argsL := []) rfl (rest := []) rfl rfl rfl d27_10 (q := 13) rfl ?_
  rintro _ T5 _ X6 ⟨rfl, rfl⟩
  refine g_istore C X6 d27_13 (q := 15) rfl (L' := #[.val (.ref x0), .val (.ref b0), .val .null, .val (.ref v0), .val (.int (o32 nC))]) rfl ?_
  refine g_aloadN C X6 d27_15 (q := 16) rfl rfl rfl ?_
  refine g_callV1 C X6 (y := (⟨"java/lang/AbstractStringBuilder", "isLatin1", "()Z"⟩ : MethodName)) (z := (⟨"java/lang/AbstractStringBuilder", "isLatin1", "()Z"⟩ : MethodName)) (a := b0) (by decide) (w180 hw) (w141 hw) (w143 hw) (w142 hw) (nf_sel (w143 hw)) R0.1 (w144 hw) (w44 hw) (rm_bL hw O W ⟨R0.1, R0.2.1, R0.2.2.1, R0.2.2.2⟩ ⟨A0.1, A0.2⟩ hcs hn0 nvb g0 gv) (W := 0) (by decide) (by decide) (k' := 0) rfl (n' := 0) rfl (by decide) (by decide) rfl pd_284 (argsL := []) rfl (rest := []) rfl rfl rfl d27_16 (q := 19) rfl ?_
  rintro _ T7 _ X8 ⟨rfl, rfl⟩
  refine g_ifN C X8 d27_19 (q := 22) rfl (by decide) ?_
  refine g_aloadN C X8 d27_22 (q := 23) rfl rfl rfl ?_
  refine g_iconst C X8 d27_23 (q := 24) rfl (z := (0 : Int32)) rfl ?_
  refine g_putF C X8 (host := "") (Or.inl (w75 hw)) Via.refl Fcoder E0 (Or.inr ⟨(w31 hw), rfl, rfl⟩) (w28 hw) (ty := .byte) (by decide) rfl rfl d27_24 (q := 27) rfl gx ?_
  intro T9 h11 X10 W12
  have FW12 := Fld.same W12 Fcoder
  have O13 := O.wr W12 gx
  refine g_aloadN C X10 d27_27 (q := 28) rfl rfl rfl ?_
  refine g_aloadN C X10 d27_28 (q := 29) rfl rfl rfl ?_
  refine g_iconst C X10 d27_29 (q := 30) rfl (z := (0 : Int32)) rfl ?_
  refine g_iload C X10 d27_30 (q := 32) rfl rfl ?_
  have f14 := (A0.1.wr W12)
  have f15 := (A0.2.other W12 (Ne.symm nxv))
  refine g_callS1 C X10 (y := (⟨"java/util/Arrays", "copyOfRange", "([BII)[B"⟩ : MethodName)) (by decide) (w181 hw) (w182 hw) (w183 hw) (w100 hw) (rm_cr hw (aA := v0) (kA := kv) (cs := cs) (kN := nC) O13 W f14 f15 (by omega) (by omega)) (W := 1) (by decide) (by decide) (k' := 1) rfl (n' := 500) rfl (by decide) (by decide) rfl pd_271 (argsL := [(.ref v0), (.int (0 : Int32)), (.int (o32 nC))]) rfl (rest := [(.ref x0)]) rfl rfl rfl d27_32 (q := 35) rfl ?_
  rintro _ T16 h17 X18 ⟨b20, kb21, K19, rfl, sz22, E23, V24⟩
  have ge25 := Nat.le_trans (own_szO O13) sz22
  have O26 := O13.keep K19 all0
  have f27 := ((Fvalue.other W12 (Or.inr (slot_ne (Or.inr (w30 hw)) (Or.inr (w31 hw)) (by decide) (t := (.array .byte)) (t' := .byte) (by decide) (by decide)))).keep K19 nin0)
  have f28 := ((E0.wr W12).keep K19)
  refine g_putF C X18 (host := "") (Or.inl (w68 hw)) Via.refl f27 f28 (Or.inr ⟨(w30 hw), rfl, rfl⟩) (w28 hw) (ty := (.array .byte)) (by decide) rfl rfl d27_35 (q := 38) rfl gx ?_
  intro T29 h31 X30 W32
  have FW32 := Fld.same W32 f27
  have O33 := O26.wr W32 gx
  refine g_goto C X30 d27_38 (by decide) (q := 97) (by decide) ?_
  have hlk : (cs.take nC).length = nC := List.length_take_of_le hn0
  exact g_retV C X30 d27_97 (by decide) (by decide) ⟨rfl, ((((Keep.refl h0 [x0]).wr W12 (Or.inl (List.mem_of_getElem? (i := 0) rfl))).trans K19 all0).wr W32 (Or.inl (List.mem_of_getElem? (i := 0) rfl))), b20, kb21, (Nat.le_trans ((Keep.refl h0 [x0]).wr W12 (Or.inl (List.mem_of_getElem? (i := 0) rfl))).1 sz22), (f28.wr W32), FW32, ((FW12.keep K19 nin0).other W32 (Or.inr (slot_ne (Or.inr (w31 hw)) (Or.inr (w30 hw)) (by decide) (t := .byte) (t' := (.array .byte)) (by decide) (by decide)))), by rw [hlk]; exact (V24.other W32 (Ne.symm (Nat.ne_of_lt (Nat.lt_of_lt_of_le (Nat.lt_of_lt_of_le E0.lt (Nat.le_of_eq (Wr.size W12).symm)) sz22))))⟩
set_option maxRecDepth 65536 in
set_option maxHeartbeats 40000000 in
theorem rm_sti1 {l : Launch} {Z : State} {a0 : Array Value} (hw : ∀ d ∈ tables_1, d.before a0 Z = true) {b0 v0 : Addr} {kv : ClassId} {cs : List Int32} {nC : Nat} {x0 : Addr} {cz : Int32} {fm : Value} {dO : Addr} {kO : ClassId} {dT : Addr} {kT : ClassId} {h0 : Heap} {n0 : Nat} (O : Old Z n0 h0) (W : Wd Z cz fm dO kO dT kT) (R0 : SBf Z h0 b0 v0 (o32 nC)) (A0 : BA Z h0 v0 kv cs) (hcs : cs.length < 500) (hn0 : nC ≤ cs.length) (nvb : v0 ≠ b0) (g0 : n0 ≤ b0) (gv : n0 ≤ v0) (E0 : Exa Z h0 x0 "java/lang/String") (Fvalue : Fld Z h0 x0 "java/lang/String" "value" "[B" .null) (Fcoder : Fld Z h0 x0 "java/lang/String" "coder" "B" (.int 0)) (gx : n0 ≤ x0) (nxb : x0 ≠ b0) (nxv : x0 ≠ v0) :
    Met0 l Z (⟨"java/lang/String", "<init>", "(Ljava/lang/StringBuilder;)V"⟩ : MethodName) jdk_42_method_53_code 2 none ({ frames := 4, cells := 1, slots := 500, locals := 65 } : Room) #[(.ref x0), (.ref b0)] h0 n0 (fun h => Keep h0 h [x0] ∧ ∃ t kt, h0.size ≤ t ∧ Sx Z h x0 t kt (cs.take nC)) := by
  refine met_of (L := #[.val (.ref x0), .val (.ref b0)]) (plainFor_of_name pn_113) (fun m => by first | (simp [entryFrame, mkF, argsToLocals, Value.category]; done) | rfl) ?_
  intro p e s m below meth c T C X
  change Cx p s m meth c Z "java/lang/String" jdk_42_method_53_code 2 none "<init>" at C
  refine g_aloadN C X d26_0 (q := 1) rfl rfl rfl ?_
  refine g_aloadN C X d26_1 (q := 2) rfl rfl rfl ?_
  refine g_aconstNull C X d26_2 (q := 3) rfl ?_
  refine g_callI0 C X (y := (⟨"java/lang/String", "<init>", "(Ljava/lang/AbstractStringBuilder;Ljava/lang/Void;)V"⟩ : MethodName)) (a := x0) (by decide) rfl (w163 hw) (w164 hw) (w165 hw) (w27 hw) (rm_sti2 hw (v0 := v0) (kv := kv) (cs := cs) (nC := nC) O W ⟨R0.1, R0.2.1, R0.2.2.1, R0.2.2.2⟩ ⟨A0.1, A0.2⟩ hcs hn0 nvb g0 gv E0 Fvalue Fcoder gx nxb nxv) (W := 0) (by decide) (by decide) (k' := 1) rfl (n' := 500) rfl (by decide) (by decide) rfl pd_301 (argsL := [(.ref b0), .null]) rfl (rest := []) rfl rfl rfl d26_3 (q := 6) rfl ?_
  rintro T1 h2 X3 ⟨K4, r5⟩
  have O6 := O.keep K4 (allS gx all0)
  exact g_retV C X3 d26_6 (by decide) (by decide) ⟨rfl, K4, r5⟩
set_option maxRecDepth 65536 in
set_option maxHeartbeats 40000000 in
theorem rm_toS {l : Launch} {Z : State} {a0 : Array Value} (hw : ∀ d ∈ tables_1, d.before a0 Z = true) {b0 v0 : Addr} {kv : ClassId} {cs : List Int32} {nC : Nat} {cz : Int32} {fm : Value} {dO : Addr} {kO : ClassId} {dT : Addr} {kT : ClassId} {h0 : Heap} {n0 : Nat} (O : Old Z n0 h0) (W : Wd Z cz fm dO kO dT kT) (R0 : SBf Z h0 b0 v0 (o32 nC)) (A0 : BA Z h0 v0 kv cs) (hcs : cs.length < 500) (hn0 : nC ≤ cs.length) (nvb : v0 ≠ b0) (g0 : n0 ≤ b0) (gv : n0 ≤ v0) :
    Met1 l Z (⟨"java/lang/StringBuilder", "toString", "()Ljava/lang/String;"⟩ : MethodName) jdk_67_method_42_code 1 (some (.object "java/lang/String")) ({ frames := 5, cells := 2, slots := 504, locals := 79 } : Room) #[(.ref b0)] h0 n0 (fun v h => ∃ xs tb kb, Keep h0 h [] ∧ v = .ref xs ∧ h0.size ≤ xs ∧ Sx Z h xs tb kb (cs.take nC)) := by
  refine met_of (L := #[.val (.ref b0)]) (plainFor_of_name pn_194) (fun m => by first | (simp [entryFrame, mkF, argsToLocals, Value.category]; done) | rfl) ?_
  intro p e s m below meth c T C X
  change Cx p s m meth c Z "java/lang/StringBuilder" jdk_67_method_42_code 1 (some (.object "java/lang/String")) "toString" at C
  refine g_new C X (w158 hw) (w28 hw) (w27 hw) d25_0 (q := 3) rfl (k' := 1) rfl (n' := 4) rfl (by decide) (by decide) ?_
  intro T2 h3 b1 g5 X4 E6 A7 D8
  have ge9 : n0 ≤ b1 := own_ge O g5
  have O10 := O.ext E6
  have f11 : Fld Z h3 b1 "java/lang/String" "value" "[B" .null := D8 (Or.inr (w30 hw)) (ty := (.array .byte)) (by decide)
  have f12 : Fld Z h3 b1 "java/lang/String" "coder" "B" (.int (0 : Int32)) := D8 (Or.inr (w31 hw)) (ty := .byte) (by decide)
  refine g_dup C X4 d25_3 (q := 4) rfl rfl ?_
  refine g_aloadN C X4 d25_4 (q := 5) rfl rfl rfl ?_
  have f13 := (R0.1.ext E6)
  have f14 := (R0.2.1.ext E6)
  have f15 := (R0.2.2.1.ext E6)
  have f16 := (R0.2.2.2.ext E6)
  have f17 := (A0.1.ext E6)
  have f18 := (A0.2.ext E6)
  refine g_callI0 C X4 (y := (⟨"java/lang/String", "<init>", "(Ljava/lang/StringBuilder;)V"⟩ : MethodName)) (a := b1) (by decide) rfl (w159 hw) (w160 hw) (w162 hw) (w27 hw) (rm_sti1 hw (v0 := v0) (kv := kv) (cs := cs) (nC := nC) O10 W ⟨f13, f14, f15, f16⟩ ⟨f17, f18⟩ hcs hn0 nvb g0 gv A7 f11 f12 ge9 (Ne.symm (own_ne R0.1.lt g5)) (Ne.symm (own_ne A0.2.lt g5))) (W := 1) (by decide) (by decide) (k' := 2) rfl (n' := 504) rfl (by decide) (by decide) rfl pd_307 (argsL := [(.ref b0)]) rfl (rest := [(.ref b1)]) rfl rfl rfl d25_5 (q := 8) rfl ?_
  rintro T19 h20 X21 ⟨K22, r23⟩
  have O24 := O10.keep K22 (allS ge9 all0)
  obtain ⟨t9, kt9, sz9, S9⟩ := r23
  exact g_retA C X21 rfl rfl d25_8 (by decide) (by decide) ⟨_, rfl, b1, t9, kt9, (((Keep.refl h0 []).ext E6).trans K22 (allS (Or.inr (own_sz (Keep.refl h0 []).1 g5)) all0)), rfl, (own_sz (Keep.refl h0 []).1 g5), S9⟩
set_option maxRecDepth 65536 in
set_option maxHeartbeats 40000000 in
theorem rm_ssJ {l : Launch} {Z : State} {a0 : Array Value} (hw : ∀ d ∈ tables_1, d.before a0 Z = true) {xN sgN : Nat} {cz : Int32} {fm : Value} {dO : Addr} {kO : ClassId} {dT : Addr} {kT : ClassId} {h0 : Heap} {n0 : Nat} {p : Program} {e : Env} {s : State} {m : MethodId} {below : List Frame} {meth : Method} {c : Code} {args : Array Value} {T : State} (W : Wd Z cz fm dO kO dT kT) (hx : xN ≤ 9223372036854775808) (hsg : sgN = 0 ∨ sgN = 1) (C : Cx p s m meth c Z "java/lang/Long" jdk_35_method_15_code 6 (some .int) "stringSize") (X : St p l e ({ frames := 0, cells := 0, slots := 0, locals := 0 } : Room) s m args below meth c n0 T h0 0 0) (O : Old Z n0 h0) :
    Goes p e below (FinN (fun v h => ∃ w, v = some w ∧ (fun v h => v = .int (o32 (NB xN sgN).length) ∧ h0 = h) w h) s n0 0 0) (T.setTop (mkF m 13 #[.val (.long (nx xN)), .second, .val (.int (o32 sgN)), .unset, .unset, .unset] [])) := by
  refine g_ldcJ C X (w139 hw) d22_13 (q := 16) rfl ?_
  refine g_lstoreN C X d22_16 (q := 17) rfl (L' := #[.val (.long (nx xN)), .second, .val (.int (o32 sgN)), .val (.long (-10 : Int64)), .second, .unset]) rfl ?_
  refine g_iconst C X d22_17 (q := 18) rfl (z := (1 : Int32)) rfl ?_
  refine g_istore C X d22_18 (q := 20) rfl (L' := #[.val (.long (nx xN)), .second, .val (.int (o32 sgN)), .val (.long (-10 : Int64)), .second, .val (.int (1 : Int32))]) rfl ?_
  refine g_iload C X d22_20 (q := 22) rfl rfl ?_
  refine g_bipush C X d22_22 (q := 24) rfl (z := (19 : Int32)) rfl ?_
  refine g_icN C X d22_24 (q := 27) rfl (by decide) ?_
  refine g_lloadN C X d22_27 (q := 28) rfl rfl ?_
  refine g_lloadN C X d22_28 (q := 29) rfl rfl ?_
  refine g_lcmp C X d22_29 (q := 30) rfl (z := (lcmpW (nx xN) (-10 : Int64))) rfl ?_
  by_cases hc1 : (0 : Int32) < (lcmpW (nx xN) (-10 : Int64))
  · refine g_ifN C X d22_30 (q := 33) rfl (tlt hc1).2.2.2 ?_
    refine g_iload C X d22_33 (q := 35) rfl rfl ?_
    refine g_iloadN C X d22_35 (q := 36) rfl rfl ?_
    refine g_iadd C X d22_36 (q := 37) rfl (z := ((1 : Int32) + (o32 sgN))) rfl ?_
    have hl9 : (DG xN).length = 1 := DG_len 0 ((lcN hx (P := 10) (by decide)).1 hc1) (Or.inl rfl)
    exact g_retI C X d22_37 (by decide) (by decide) ⟨_, rfl, congrArg Value.int (by rw [NB_len, hl9]; exact (r_add 1 (by decide) sgN (by omega)).trans (congrArg o32 (Nat.add_comm ..))), rfl⟩
  refine g_ifY C X d22_30 (by decide) (q := 38) (by decide) (flt hc1).2.2.2 ?_
  refine g_ldcJ C X (w256 hw) d22_38 (q := 41) rfl ?_
  refine g_lloadN C X d22_41 (q := 42) rfl rfl ?_
  refine g_lmul C X d22_42 (q := 43) rfl (z := (-100 : Int64)) (by decide) ?_
  refine g_lstoreN C X d22_43 (q := 44) rfl (L' := #[.val (.long (nx xN)), .second, .val (.int (o32 sgN)), .val (.long (-100 : Int64)), .second, .val (.int (1 : Int32))]) rfl ?_
  refine g_iinc C X d22_44 (q := 47) rfl rfl (z := (2 : Int32)) (by decide) (L' := #[.val (.long (nx xN)), .second, .val (.int (o32 sgN)), .val (.long (-100 : Int64)), .second, .val (.int (2 : Int32))]) rfl ?_
  refine g_goto C X d22_47 (by decide) (q := 20) (by decide) ?_
  refine g_iload C X d22_20 (q := 22) rfl rfl ?_
  refine g_bipush C X d22_22 (q := 24) rfl (z := (19 : Int32)) rfl ?_
  refine g_icN C X d22_24 (q := 27) rfl (by decide) ?_
  refine g_lloadN C X d22_27 (q := 28) rfl rfl ?_
  refine g_lloadN C X d22_28 (q := 29) rfl rfl ?_
  refine g_lcmp C X d22_29 (q := 30) rfl (z := (lcmpW (nx xN) (-100 : Int64))) rfl ?_
  by_cases hc2 : (0 : Int32) < (lcmpW (nx xN) (-100 : Int64))
  · refine g_ifN C X d22_30 (q := 33) rfl (tlt hc2).2.2.2 ?_
    refine g_iload C X d22_33 (q := 35) rfl rfl ?_
    refine g_iloadN C X d22_35 (q := 36) rfl rfl ?_
    refine g_iadd C X d22_36 (q := 37) rfl (z := ((2 : Int32) + (o32 sgN))) rfl ?_
    have hl9 : (DG xN).length = 2 := DG_len 1 ((lcN hx (P := 100) (by decide)).1 hc2) (Or.inr ((lcN hx (P := 10) (by decide)).2 hc1))
    exact g_retI C X d22_37 (by decide) (by decide) ⟨_, rfl, congrArg Value.int (by rw [NB_len, hl9]; exact (r_add 2 (by decide) sgN (by omega)).trans (congrArg o32 (Nat.add_comm ..))), rfl⟩
  refine g_ifY C X d22_30 (by decide) (q := 38) (by decide) (flt hc2).2.2.2 ?_
  refine g_ldcJ C X (w256 hw) d22_38 (q := 41) rfl ?_
  refine g_lloadN C X d22_41 (q := 42) rfl rfl ?_
  refine g_lmul C X d22_42 (q := 43) rfl (z := (-1000 : Int64)) (by decide) ?_
  refine g_lstoreN C X d22_43 (q := 44) rfl (L' := #[.val (.long (nx xN)), .second, .val (.int (o32 sgN)), .val (.long (-1000 : Int64)), .second, .val (.int (2 : Int32))]) rfl ?_
  refine g_iinc C X d22_44 (q := 47) rfl rfl (z := (3 : Int32)) (by decide) (L' := #[.val (.long (nx xN)), .second, .val (.int (o32 sgN)), .val (.long (-1000 : Int64)), .second, .val (.int (3 : Int32))]) rfl ?_
  refine g_goto C X d22_47 (by decide) (q := 20) (by decide) ?_
  refine g_iload C X d22_20 (q := 22) rfl rfl ?_
  refine g_bipush C X d22_22 (q := 24) rfl (z := (19 : Int32)) rfl ?_
  refine g_icN C X d22_24 (q := 27) rfl (by decide) ?_
  refine g_lloadN C X d22_27 (q := 28) rfl rfl ?_
  refine g_lloadN C X d22_28 (q := 29) rfl rfl ?_
  refine g_lcmp C X d22_29 (q := 30) rfl (z := (lcmpW (nx xN) (-1000 : Int64))) rfl ?_
  by_cases hc3 : (0 : Int32) < (lcmpW (nx xN) (-1000 : Int64))
  · refine g_ifN C X d22_30 (q := 33) rfl (tlt hc3).2.2.2 ?_
    refine g_iload C X d22_33 (q := 35) rfl rfl ?_
    refine g_iloadN C X d22_35 (q := 36) rfl rfl ?_
    refine g_iadd C X d22_36 (q := 37) rfl (z := ((3 : Int32) + (o32 sgN))) rfl ?_
    have hl9 : (DG xN).length = 3 := DG_len 2 ((lcN hx (P := 1000) (by decide)).1 hc3) (Or.inr ((lcN hx (P := 100) (by decide)).2 hc2))
    exact g_retI C X d22_37 (by decide) (by decide) ⟨_, rfl, congrArg Value.int (by rw [NB_len, hl9]; exact (r_add 3 (by decide) sgN (by omega)).trans (congrArg o32 (Nat.add_comm ..))), rfl⟩
  refine g_ifY C X d22_30 (by decide) (q := 38) (by decide) (flt hc3).2.2.2 ?_
  refine g_ldcJ C X (w256 hw) d22_38 (q := 41) rfl ?_
  refine g_lloadN C X d22_41 (q := 42) rfl rfl ?_
  refine g_lmul C X d22_42 (q := 43) rfl (z := (-10000 : Int64)) (by decide) ?_
  refine g_lstoreN C X d22_43 (q := 44) rfl (L' := #[.val (.long (nx xN)), .second, .val (.int (o32 sgN)), .val (.long (-10000 : Int64)), .second, .val (.int (3 : Int32))]) rfl ?_
  refine g_iinc C X d22_44 (q := 47) rfl rfl (z := (4 : Int32)) (by decide) (L' := #[.val (.long (nx xN)), .second, .val (.int (o32 sgN)), .val (.long (-10000 : Int64)), .second, .val (.int (4 : Int32))]) rfl ?_
  refine g_goto C X d22_47 (by decide) (q := 20) (by decide) ?_
  refine g_iload C X d22_20 (q := 22) rfl rfl ?_
  refine g_bipush C X d22_22 (q := 24) rfl (z := (19 : Int32)) rfl ?_
  refine g_icN C X d22_24 (q := 27) rfl (by decide) ?_
  refine g_lloadN C X d22_27 (q := 28) rfl rfl ?_
  refine g_lloadN C X d22_28 (q := 29) rfl rfl ?_
  refine g_lcmp C X d22_29 (q := 30) rfl (z := (lcmpW (nx xN) (-10000 : Int64))) rfl ?_
  by_cases hc4 : (0 : Int32) < (lcmpW (nx xN) (-10000 : Int64))
  · refine g_ifN C X d22_30 (q := 33) rfl (tlt hc4).2.2.2 ?_
    refine g_iload C X d22_33 (q := 35) rfl rfl ?_
    refine g_iloadN C X d22_35 (q := 36) rfl rfl ?_
    refine g_iadd C X d22_36 (q := 37) rfl (z := ((4 : Int32) + (o32 sgN))) rfl ?_
    have hl9 : (DG xN).length = 4 := DG_len 3 ((lcN hx (P := 10000) (by decide)).1 hc4) (Or.inr ((lcN hx (P := 1000) (by decide)).2 hc3))
    exact g_retI C X d22_37 (by decide) (by decide) ⟨_, rfl, congrArg Value.int (by rw [NB_len, hl9]; exact (r_add 4 (by decide) sgN (by omega)).trans (congrArg o32 (Nat.add_comm ..))), rfl⟩
  refine g_ifY C X d22_30 (by decide) (q := 38) (by decide) (flt hc4).2.2.2 ?_
  refine g_ldcJ C X (w256 hw) d22_38 (q := 41) rfl ?_
  refine g_lloadN C X d22_41 (q := 42) rfl rfl ?_
  refine g_lmul C X d22_42 (q := 43) rfl (z := (-100000 : Int64)) (by decide) ?_
  refine g_lstoreN C X d22_43 (q := 44) rfl (L' := #[.val (.long (nx xN)), .second, .val (.int (o32 sgN)), .val (.long (-100000 : Int64)), .second, .val (.int (4 : Int32))]) rfl ?_
  refine g_iinc C X d22_44 (q := 47) rfl rfl (z := (5 : Int32)) (by decide) (L' := #[.val (.long (nx xN)), .second, .val (.int (o32 sgN)), .val (.long (-100000 : Int64)), .second, .val (.int (5 : Int32))]) rfl ?_
  refine g_goto C X d22_47 (by decide) (q := 20) (by decide) ?_
  refine g_iload C X d22_20 (q := 22) rfl rfl ?_
  refine g_bipush C X d22_22 (q := 24) rfl (z := (19 : Int32)) rfl ?_
  refine g_icN C X d22_24 (q := 27) rfl (by decide) ?_
  refine g_lloadN C X d22_27 (q := 28) rfl rfl ?_
  refine g_lloadN C X d22_28 (q := 29) rfl rfl ?_
  refine g_lcmp C X d22_29 (q := 30) rfl (z := (lcmpW (nx xN) (-100000 : Int64))) rfl ?_
  by_cases hc5 : (0 : Int32) < (lcmpW (nx xN) (-100000 : Int64))
  · refine g_ifN C X d22_30 (q := 33) rfl (tlt hc5).2.2.2 ?_
    refine g_iload C X d22_33 (q := 35) rfl rfl ?_
    refine g_iloadN C X d22_35 (q := 36) rfl rfl ?_
    refine g_iadd C X d22_36 (q := 37) rfl (z := ((5 : Int32) + (o32 sgN))) rfl ?_
    have hl9 : (DG xN).length = 5 := DG_len 4 ((lcN hx (P := 100000) (by decide)).1 hc5) (Or.inr ((lcN hx (P := 10000) (by decide)).2 hc4))
    exact g_retI C X d22_37 (by decide) (by decide) ⟨_, rfl, congrArg Value.int (by rw [NB_len, hl9]; exact (r_add 5 (by decide) sgN (by omega)).trans (congrArg o32 (Nat.add_comm ..))), rfl⟩
  refine g_ifY C X d22_30 (by decide) (q := 38) (by decide) (flt hc5).2.2.2 ?_
  refine g_ldcJ C X (w256 hw) d22_38 (q := 41) rfl ?_
  refine g_lloadN C X d22_41 (q := 42) rfl rfl ?_
  refine g_lmul C X d22_42 (q := 43) rfl (z := (-1000000 : Int64)) (by decide) ?_
  refine g_lstoreN C X d22_43 (q := 44) rfl (L' := #[.val (.long (nx xN)), .second, .val (.int (o32 sgN)), .val (.long (-1000000 : Int64)), .second, .val (.int (5 : Int32))]) rfl ?_
  refine g_iinc C X d22_44 (q := 47) rfl rfl (z := (6 : Int32)) (by decide) (L' := #[.val (.long (nx xN)), .second, .val (.int (o32 sgN)), .val (.long (-1000000 : Int64)), .second, .val (.int (6 : Int32))]) rfl ?_
  refine g_goto C X d22_47 (by decide) (q := 20) (by decide) ?_
  refine g_iload C X d22_20 (q := 22) rfl rfl ?_
  refine g_bipush C X d22_22 (q := 24) rfl (z := (19 : Int32)) rfl ?_
  refine g_icN C X d22_24 (q := 27) rfl (by decide) ?_
  refine g_lloadN C X d22_27 (q := 28) rfl rfl ?_
  refine g_lloadN C X d22_28 (q := 29) rfl rfl ?_
  refine g_lcmp C X d22_29 (q := 30) rfl (z := (lcmpW (nx xN) (-1000000 : Int64))) rfl ?_
  by_cases hc6 : (0 : Int32) < (lcmpW (nx xN) (-1000000 : Int64))
  · refine g_ifN C X d22_30 (q := 33) rfl (tlt hc6).2.2.2 ?_
    refine g_iload C X d22_33 (q := 35) rfl rfl ?_
    refine g_iloadN C X d22_35 (q := 36) rfl rfl ?_
    refine g_iadd C X d22_36 (q := 37) rfl (z := ((6 : Int32) + (o32 sgN))) rfl ?_
    have hl9 : (DG xN).length = 6 := DG_len 5 ((lcN hx (P := 1000000) (by decide)).1 hc6) (Or.inr ((lcN hx (P := 100000) (by decide)).2 hc5))
    exact g_retI C X d22_37 (by decide) (by decide) ⟨_, rfl, congrArg Value.int (by rw [NB_len, hl9]; exact (r_add 6 (by decide) sgN (by omega)).trans (congrArg o32 (Nat.add_comm ..))), rfl⟩
  refine g_ifY C X d22_30 (by decide) (q := 38) (by decide) (flt hc6).2.2.2 ?_
  refine g_ldcJ C X (w256 hw) d22_38 (q := 41) rfl ?_
  refine g_lloadN C X d22_41 (q := 42) rfl rfl ?_
  refine g_lmul C X d22_42 (q := 43) rfl (z := (-10000000 : Int64)) (by decide) ?_
  refine g_lstoreN C X d22_43 (q := 44) rfl (L' := #[.val (.long (nx xN)), .second, .val (.int (o32 sgN)), .val (.long (-10000000 : Int64)), .second, .val (.int (6 : Int32))]) rfl ?_
  refine g_iinc C X d22_44 (q := 47) rfl rfl (z := (7 : Int32)) (by decide) (L' := #[.val (.long (nx xN)), .second, .val (.int (o32 sgN)), .val (.long (-10000000 : Int64)), .second, .val (.int (7 : Int32))]) rfl ?_
  refine g_goto C X d22_47 (by decide) (q := 20) (by decide) ?_
  refine g_iload C X d22_20 (q := 22) rfl rfl ?_
  refine g_bipush C X d22_22 (q := 24) rfl (z := (19 : Int32)) rfl ?_
  refine g_icN C X d22_24 (q := 27) rfl (by decide) ?_
  refine g_lloadN C X d22_27 (q := 28) rfl rfl ?_
  refine g_lloadN C X d22_28 (q := 29) rfl rfl ?_
  refine g_lcmp C X d22_29 (q := 30) rfl (z := (lcmpW (nx xN) (-10000000 : Int64))) rfl ?_
  by_cases hc7 : (0 : Int32) < (lcmpW (nx xN) (-10000000 : Int64))
  · refine g_ifN C X d22_30 (q := 33) rfl (tlt hc7).2.2.2 ?_
    refine g_iload C X d22_33 (q := 35) rfl rfl ?_
    refine g_iloadN C X d22_35 (q := 36) rfl rfl ?_
    refine g_iadd C X d22_36 (q := 37) rfl (z := ((7 : Int32) + (o32 sgN))) rfl ?_
    have hl9 : (DG xN).length = 7 := DG_len 6 ((lcN hx (P := 10000000) (by decide)).1 hc7) (Or.inr ((lcN hx (P := 1000000) (by decide)).2 hc6))
    exact g_retI C X d22_37 (by decide) (by decide) ⟨_, rfl, congrArg Value.int (by rw [NB_len, hl9]; exact (r_add 7 (by decide) sgN (by omega)).trans (congrArg o32 (Nat.add_comm ..))), rfl⟩
  refine g_ifY C X d22_30 (by decide) (q := 38) (by decide) (flt hc7).2.2.2 ?_
  refine g_ldcJ C X (w256 hw) d22_38 (q := 41) rfl ?_
  refine g_lloadN C X d22_41 (q := 42) rfl rfl ?_
  refine g_lmul C X d22_42 (q := 43) rfl (z := (-100000000 : Int64)) (by decide) ?_
  refine g_lstoreN C X d22_43 (q := 44) rfl (L' := #[.val (.long (nx xN)), .second, .val (.int (o32 sgN)), .val (.long (-100000000 : Int64)), .second, .val (.int (7 : Int32))]) rfl ?_
  refine g_iinc C X d22_44 (q := 47) rfl rfl (z := (8 : Int32)) (by decide) (L' := #[.val (.long (nx xN)), .second, .val (.int (o32 sgN)), .val (.long (-100000000 : Int64)), .second, .val (.int (8 : Int32))]) rfl ?_
  refine g_goto C X d22_47 (by decide) (q := 20) (by decide) ?_
  refine g_iload C X d22_20 (q := 22) rfl rfl ?_
  refine g_bipush C X d22_22 (q := 24) rfl (z := (19 : Int32)) rfl ?_
  refine g_icN C X d22_24 (q := 27) rfl (by decide) ?_
  refine g_lloadN C X d22_27 (q := 28) rfl rfl ?_
  refine g_lloadN C X d22_28 (q := 29) rfl rfl ?_
  refine g_lcmp C X d22_29 (q := 30) rfl (z := (lcmpW (nx xN) (-100000000 : Int64))) rfl ?_
  by_cases hc8 : (0 : Int32) < (lcmpW (nx xN) (-100000000 : Int64))
  · refine g_ifN C X d22_30 (q := 33) rfl (tlt hc8).2.2.2 ?_
    refine g_iload C X d22_33 (q := 35) rfl rfl ?_
    refine g_iloadN C X d22_35 (q := 36) rfl rfl ?_
    refine g_iadd C X d22_36 (q := 37) rfl (z := ((8 : Int32) + (o32 sgN))) rfl ?_
    have hl9 : (DG xN).length = 8 := DG_len 7 ((lcN hx (P := 100000000) (by decide)).1 hc8) (Or.inr ((lcN hx (P := 10000000) (by decide)).2 hc7))
    exact g_retI C X d22_37 (by decide) (by decide) ⟨_, rfl, congrArg Value.int (by rw [NB_len, hl9]; exact (r_add 8 (by decide) sgN (by omega)).trans (congrArg o32 (Nat.add_comm ..))), rfl⟩
  refine g_ifY C X d22_30 (by decide) (q := 38) (by decide) (flt hc8).2.2.2 ?_
  refine g_ldcJ C X (w256 hw) d22_38 (q := 41) rfl ?_
  refine g_lloadN C X d22_41 (q := 42) rfl rfl ?_
  refine g_lmul C X d22_42 (q := 43) rfl (z := (-1000000000 : Int64)) (by decide) ?_
  refine g_lstoreN C X d22_43 (q := 44) rfl (L' := #[.val (.long (nx xN)), .second, .val (.int (o32 sgN)), .val (.long (-1000000000 : Int64)), .second, .val (.int (8 : Int32))]) rfl ?_
  refine g_iinc C X d22_44 (q := 47) rfl rfl (z := (9 : Int32)) (by decide) (L' := #[.val (.long (nx xN)), .second, .val (.int (o32 sgN)), .val (.long (-1000000000 : Int64)), .second, .val (.int (9 : Int32))]) rfl ?_
  refine g_goto C X d22_47 (by decide) (q := 20) (by decide) ?_
  refine g_iload C X d22_20 (q := 22) rfl rfl ?_
  refine g_bipush C X d22_22 (q := 24) rfl (z := (19 : Int32)) rfl ?_
  refine g_icN C X d22_24 (q := 27) rfl (by decide) ?_
  refine g_lloadN C X d22_27 (q := 28) rfl rfl ?_
  refine g_lloadN C X d22_28 (q := 29) rfl rfl ?_
  refine g_lcmp C X d22_29 (q := 30) rfl (z := (lcmpW (nx xN) (-1000000000 : Int64))) rfl ?_
  by_cases hc9 : (0 : Int32) < (lcmpW (nx xN) (-1000000000 : Int64))
  · refine g_ifN C X d22_30 (q := 33) rfl (tlt hc9).2.2.2 ?_
    refine g_iload C X d22_33 (q := 35) rfl rfl ?_
    refine g_iloadN C X d22_35 (q := 36) rfl rfl ?_
    refine g_iadd C X d22_36 (q := 37) rfl (z := ((9 : Int32) + (o32 sgN))) rfl ?_
    have hl9 : (DG xN).length = 9 := DG_len 8 ((lcN hx (P := 1000000000) (by decide)).1 hc9) (Or.inr ((lcN hx (P := 100000000) (by decide)).2 hc8))
    exact g_retI C X d22_37 (by decide) (by decide) ⟨_, rfl, congrArg Value.int (by rw [NB_len, hl9]; exact (r_add 9 (by decide) sgN (by omega)).trans (congrArg o32 (Nat.add_comm ..))), rfl⟩
  refine g_ifY C X d22_30 (by decide) (q := 38) (by decide) (flt hc9).2.2.2 ?_
  refine g_ldcJ C X (w256 hw) d22_38 (q := 41) rfl ?_
  refine g_lloadN C X d22_41 (q := 42) rfl rfl ?_
  refine g_lmul C X d22_42 (q := 43) rfl (z := (-10000000000 : Int64)) (by decide) ?_
  refine g_lstoreN C X d22_43 (q := 44) rfl (L' := #[.val (.long (nx xN)), .second, .val (.int (o32 sgN)), .val (.long (-10000000000 : Int64)), .second, .val (.int (9 : Int32))]) rfl ?_
  refine g_iinc C X d22_44 (q := 47) rfl rfl (z := (10 : Int32)) (by decide) (L' := #[.val (.long (nx xN)), .second, .val (.int (o32 sgN)), .val (.long (-10000000000 : Int64)), .second, .val (.int (10 : Int32))]) rfl ?_
  refine g_goto C X d22_47 (by decide) (q := 20) (by decide) ?_
  refine g_iload C X d22_20 (q := 22) rfl rfl ?_
  refine g_bipush C X d22_22 (q := 24) rfl (z := (19 : Int32)) rfl ?_
  refine g_icN C X d22_24 (q := 27) rfl (by decide) ?_
  refine g_lloadN C X d22_27 (q := 28) rfl rfl ?_
  refine g_lloadN C X d22_28 (q := 29) rfl rfl ?_
  refine g_lcmp C X d22_29 (q := 30) rfl (z := (lcmpW (nx xN) (-10000000000 : Int64))) rfl ?_
  by_cases hc10 : (0 : Int32) < (lcmpW (nx xN) (-10000000000 : Int64))
  · refine g_ifN C X d22_30 (q := 33) rfl (tlt hc10).2.2.2 ?_
    refine g_iload C X d22_33 (q := 35) rfl rfl ?_
    refine g_iloadN C X d22_35 (q := 36) rfl rfl ?_
    refine g_iadd C X d22_36 (q := 37) rfl (z := ((10 : Int32) + (o32 sgN))) rfl ?_
    have hl9 : (DG xN).length = 10 := DG_len 9 ((lcN hx (P := 10000000000) (by decide)).1 hc10) (Or.inr ((lcN hx (P := 1000000000) (by decide)).2 hc9))
    exact g_retI C X d22_37 (by decide) (by decide) ⟨_, rfl, congrArg Value.int (by rw [NB_len, hl9]; exact (r_add 10 (by decide) sgN (by omega)).trans (congrArg o32 (Nat.add_comm ..))), rfl⟩
  refine g_ifY C X d22_30 (by decide) (q := 38) (by decide) (flt hc10).2.2.2 ?_
  refine g_ldcJ C X (w256 hw) d22_38 (q := 41) rfl ?_
  refine g_lloadN C X d22_41 (q := 42) rfl rfl ?_
  refine g_lmul C X d22_42 (q := 43) rfl (z := (-100000000000 : Int64)) (by decide) ?_
  refine g_lstoreN C X d22_43 (q := 44) rfl (L' := #[.val (.long (nx xN)), .second, .val (.int (o32 sgN)), .val (.long (-100000000000 : Int64)), .second, .val (.int (10 : Int32))]) rfl ?_
  refine g_iinc C X d22_44 (q := 47) rfl rfl (z := (11 : Int32)) (by decide) (L' := #[.val (.long (nx xN)), .second, .val (.int (o32 sgN)), .val (.long (-100000000000 : Int64)), .second, .val (.int (11 : Int32))]) rfl ?_
  refine g_goto C X d22_47 (by decide) (q := 20) (by decide) ?_
  refine g_iload C X d22_20 (q := 22) rfl rfl ?_
  refine g_bipush C X d22_22 (q := 24) rfl (z := (19 : Int32)) rfl ?_
  refine g_icN C X d22_24 (q := 27) rfl (by decide) ?_
  refine g_lloadN C X d22_27 (q := 28) rfl rfl ?_
  refine g_lloadN C X d22_28 (q := 29) rfl rfl ?_
  refine g_lcmp C X d22_29 (q := 30) rfl (z := (lcmpW (nx xN) (-100000000000 : Int64))) rfl ?_
  by_cases hc11 : (0 : Int32) < (lcmpW (nx xN) (-100000000000 : Int64))
  · refine g_ifN C X d22_30 (q := 33) rfl (tlt hc11).2.2.2 ?_
    refine g_iload C X d22_33 (q := 35) rfl rfl ?_
    refine g_iloadN C X d22_35 (q := 36) rfl rfl ?_
    refine g_iadd C X d22_36 (q := 37) rfl (z := ((11 : Int32) + (o32 sgN))) rfl ?_
    have hl9 : (DG xN).length = 11 := DG_len 10 ((lcN hx (P := 100000000000) (by decide)).1 hc11) (Or.inr ((lcN hx (P := 10000000000) (by decide)).2 hc10))
    exact g_retI C X d22_37 (by decide) (by decide) ⟨_, rfl, congrArg Value.int (by rw [NB_len, hl9]; exact (r_add 11 (by decide) sgN (by omega)).trans (congrArg o32 (Nat.add_comm ..))), rfl⟩
  refine g_ifY C X d22_30 (by decide) (q := 38) (by decide) (flt hc11).2.2.2 ?_
  refine g_ldcJ C X (w256 hw) d22_38 (q := 41) rfl ?_
  refine g_lloadN C X d22_41 (q := 42) rfl rfl ?_
  refine g_lmul C X d22_42 (q := 43) rfl (z := (-1000000000000 : Int64)) (by decide) ?_
  refine g_lstoreN C X d22_43 (q := 44) rfl (L' := #[.val (.long (nx xN)), .second, .val (.int (o32 sgN)), .val (.long (-1000000000000 : Int64)), .second, .val (.int (11 : Int32))]) rfl ?_
  refine g_iinc C X d22_44 (q := 47) rfl rfl (z := (12 : Int32)) (by decide) (L' := #[.val (.long (nx xN)), .second, .val (.int (o32 sgN)), .val (.long (-1000000000000 : Int64)), .second, .val (.int (12 : Int32))]) rfl ?_
  refine g_goto C X d22_47 (by decide) (q := 20) (by decide) ?_
  refine g_iload C X d22_20 (q := 22) rfl rfl ?_
  refine g_bipush C X d22_22 (q := 24) rfl (z := (19 : Int32)) rfl ?_
  refine g_icN C X d22_24 (q := 27) rfl (by decide) ?_
  refine g_lloadN C X d22_27 (q := 28) rfl rfl ?_
  refine g_lloadN C X d22_28 (q := 29) rfl rfl ?_
  refine g_lcmp C X d22_29 (q := 30) rfl (z := (lcmpW (nx xN) (-1000000000000 : Int64))) rfl ?_
  by_cases hc12 : (0 : Int32) < (lcmpW (nx xN) (-1000000000000 : Int64))
  · refine g_ifN C X d22_30 (q := 33) rfl (tlt hc12).2.2.2 ?_
    refine g_iload C X d22_33 (q := 35) rfl rfl ?_
    refine g_iloadN C X d22_35 (q := 36) rfl rfl ?_
    refine g_iadd C X d22_36 (q := 37) rfl (z := ((12 : Int32) + (o32 sgN))) rfl ?_
    have hl9 : (DG xN).length = 12 := DG_len 11 ((lcN hx (P := 1000000000000) (by decide)).1 hc12) (Or.inr ((lcN hx (P := 100000000000) (by decide)).2 hc11))
    exact g_retI C X d22_37 (by decide) (by decide) ⟨_, rfl, congrArg Value.int (by rw [NB_len, hl9]; exact (r_add 12 (by decide) sgN (by omega)).trans (congrArg o32 (Nat.add_comm ..))), rfl⟩
  refine g_ifY C X d22_30 (by decide) (q := 38) (by decide) (flt hc12).2.2.2 ?_
  refine g_ldcJ C X (w256 hw) d22_38 (q := 41) rfl ?_
  refine g_lloadN C X d22_41 (q := 42) rfl rfl ?_
  refine g_lmul C X d22_42 (q := 43) rfl (z := (-10000000000000 : Int64)) (by decide) ?_
  refine g_lstoreN C X d22_43 (q := 44) rfl (L' := #[.val (.long (nx xN)), .second, .val (.int (o32 sgN)), .val (.long (-10000000000000 : Int64)), .second, .val (.int (12 : Int32))]) rfl ?_
  refine g_iinc C X d22_44 (q := 47) rfl rfl (z := (13 : Int32)) (by decide) (L' := #[.val (.long (nx xN)), .second, .val (.int (o32 sgN)), .val (.long (-10000000000000 : Int64)), .second, .val (.int (13 : Int32))]) rfl ?_
  refine g_goto C X d22_47 (by decide) (q := 20) (by decide) ?_
  refine g_iload C X d22_20 (q := 22) rfl rfl ?_
  refine g_bipush C X d22_22 (q := 24) rfl (z := (19 : Int32)) rfl ?_
  refine g_icN C X d22_24 (q := 27) rfl (by decide) ?_
  refine g_lloadN C X d22_27 (q := 28) rfl rfl ?_
  refine g_lloadN C X d22_28 (q := 29) rfl rfl ?_
  refine g_lcmp C X d22_29 (q := 30) rfl (z := (lcmpW (nx xN) (-10000000000000 : Int64))) rfl ?_
  by_cases hc13 : (0 : Int32) < (lcmpW (nx xN) (-10000000000000 : Int64))
  · refine g_ifN C X d22_30 (q := 33) rfl (tlt hc13).2.2.2 ?_
    refine g_iload C X d22_33 (q := 35) rfl rfl ?_
    refine g_iloadN C X d22_35 (q := 36) rfl rfl ?_
    refine g_iadd C X d22_36 (q := 37) rfl (z := ((13 : Int32) + (o32 sgN))) rfl ?_
    have hl9 : (DG xN).length = 13 := DG_len 12 ((lcN hx (P := 10000000000000) (by decide)).1 hc13) (Or.inr ((lcN hx (P := 1000000000000) (by decide)).2 hc12))
    exact g_retI C X d22_37 (by decide) (by decide) ⟨_, rfl, congrArg Value.int (by rw [NB_len, hl9]; exact (r_add 13 (by decide) sgN (by omega)).trans (congrArg o32 (Nat.add_comm ..))), rfl⟩
  refine g_ifY C X d22_30 (by decide) (q := 38) (by decide) (flt hc13).2.2.2 ?_
  refine g_ldcJ C X (w256 hw) d22_38 (q := 41) rfl ?_
  refine g_lloadN C X d22_41 (q := 42) rfl rfl ?_
  refine g_lmul C X d22_42 (q := 43) rfl (z := (-100000000000000 : Int64)) (by decide) ?_
  refine g_lstoreN C X d22_43 (q := 44) rfl (L' := #[.val (.long (nx xN)), .second, .val (.int (o32 sgN)), .val (.long (-100000000000000 : Int64)), .second, .val (.int (13 : Int32))]) rfl ?_
  refine g_iinc C X d22_44 (q := 47) rfl rfl (z := (14 : Int32)) (by decide) (L' := #[.val (.long (nx xN)), .second, .val (.int (o32 sgN)), .val (.long (-100000000000000 : Int64)), .second, .val (.int (14 : Int32))]) rfl ?_
  refine g_goto C X d22_47 (by decide) (q := 20) (by decide) ?_
  refine g_iload C X d22_20 (q := 22) rfl rfl ?_
  refine g_bipush C X d22_22 (q := 24) rfl (z := (19 : Int32)) rfl ?_
  refine g_icN C X d22_24 (q := 27) rfl (by decide) ?_
  refine g_lloadN C X d22_27 (q := 28) rfl rfl ?_
  refine g_lloadN C X d22_28 (q := 29) rfl rfl ?_
  refine g_lcmp C X d22_29 (q := 30) rfl (z := (lcmpW (nx xN) (-100000000000000 : Int64))) rfl ?_
  by_cases hc14 : (0 : Int32) < (lcmpW (nx xN) (-100000000000000 : Int64))
  · refine g_ifN C X d22_30 (q := 33) rfl (tlt hc14).2.2.2 ?_
    refine g_iload C X d22_33 (q := 35) rfl rfl ?_
    refine g_iloadN C X d22_35 (q := 36) rfl rfl ?_
    refine g_iadd C X d22_36 (q := 37) rfl (z := ((14 : Int32) + (o32 sgN))) rfl ?_
    have hl9 : (DG xN).length = 14 := DG_len 13 ((lcN hx (P := 100000000000000) (by decide)).1 hc14) (Or.inr ((lcN hx (P := 10000000000000) (by decide)).2 hc13))
    exact g_retI C X d22_37 (by decide) (by decide) ⟨_, rfl, congrArg Value.int (by rw [NB_len, hl9]; exact (r_add 14 (by decide) sgN (by omega)).trans (congrArg o32 (Nat.add_comm ..))), rfl⟩
  refine g_ifY C X d22_30 (by decide) (q := 38) (by decide) (flt hc14).2.2.2 ?_
  refine g_ldcJ C X (w256 hw) d22_38 (q := 41) rfl ?_
  refine g_lloadN C X d22_41 (q := 42) rfl rfl ?_
  refine g_lmul C X d22_42 (q := 43) rfl (z := (-1000000000000000 : Int64)) (by decide) ?_
  refine g_lstoreN C X d22_43 (q := 44) rfl (L' := #[.val (.long (nx xN)), .second, .val (.int (o32 sgN)), .val (.long (-1000000000000000 : Int64)), .second, .val (.int (14 : Int32))]) rfl ?_
  refine g_iinc C X d22_44 (q := 47) rfl rfl (z := (15 : Int32)) (by decide) (L' := #[.val (.long (nx xN)), .second, .val (.int (o32 sgN)), .val (.long (-1000000000000000 : Int64)), .second, .val (.int (15 : Int32))]) rfl ?_
  refine g_goto C X d22_47 (by decide) (q := 20) (by decide) ?_
  refine g_iload C X d22_20 (q := 22) rfl rfl ?_
  refine g_bipush C X d22_22 (q := 24) rfl (z := (19 : Int32)) rfl ?_
  refine g_icN C X d22_24 (q := 27) rfl (by decide) ?_
  refine g_lloadN C X d22_27 (q := 28) rfl rfl ?_
  refine g_lloadN C X d22_28 (q := 29) rfl rfl ?_
  refine g_lcmp C X d22_29 (q := 30) rfl (z := (lcmpW (nx xN) (-1000000000000000 : Int64))) rfl ?_
  by_cases hc15 : (0 : Int32) < (lcmpW (nx xN) (-1000000000000000 : Int64))
  · refine g_ifN C X d22_30 (q := 33) rfl (tlt hc15).2.2.2 ?_
    refine g_iload C X d22_33 (q := 35) rfl rfl ?_
    refine g_iloadN C X d22_35 (q := 36) rfl rfl ?_
    refine g_iadd C X d22_36 (q := 37) rfl (z := ((15 : Int32) + (o32 sgN))) rfl ?_
    have hl9 : (DG xN).length = 15 := DG_len 14 ((lcN hx (P := 1000000000000000) (by decide)).1 hc15) (Or.inr ((lcN hx (P := 100000000000000) (by decide)).2 hc14))
    exact g_retI C X d22_37 (by decide) (by decide) ⟨_, rfl, congrArg Value.int (by rw [NB_len, hl9]; exact (r_add 15 (by decide) sgN (by omega)).trans (congrArg o32 (Nat.add_comm ..))), rfl⟩
  refine g_ifY C X d22_30 (by decide) (q := 38) (by decide) (flt hc15).2.2.2 ?_
  refine g_ldcJ C X (w256 hw) d22_38 (q := 41) rfl ?_
  refine g_lloadN C X d22_41 (q := 42) rfl rfl ?_
  refine g_lmul C X d22_42 (q := 43) rfl (z := (-10000000000000000 : Int64)) (by decide) ?_
  refine g_lstoreN C X d22_43 (q := 44) rfl (L' := #[.val (.long (nx xN)), .second, .val (.int (o32 sgN)), .val (.long (-10000000000000000 : Int64)), .second, .val (.int (15 : Int32))]) rfl ?_
  refine g_iinc C X d22_44 (q := 47) rfl rfl (z := (16 : Int32)) (by decide) (L' := #[.val (.long (nx xN)), .second, .val (.int (o32 sgN)), .val (.long (-10000000000000000 : Int64)), .second, .val (.int (16 : Int32))]) rfl ?_
  refine g_goto C X d22_47 (by decide) (q := 20) (by decide) ?_
  refine g_iload C X d22_20 (q := 22) rfl rfl ?_
  refine g_bipush C X d22_22 (q := 24) rfl (z := (19 : Int32)) rfl ?_
  refine g_icN C X d22_24 (q := 27) rfl (by decide) ?_
  refine g_lloadN C X d22_27 (q := 28) rfl rfl ?_
  refine g_lloadN C X d22_28 (q := 29) rfl rfl ?_
  refine g_lcmp C X d22_29 (q := 30) rfl (z := (lcmpW (nx xN) (-10000000000000000 : Int64))) rfl ?_
  by_cases hc16 : (0 : Int32) < (lcmpW (nx xN) (-10000000000000000 : Int64))
  · refine g_ifN C X d22_30 (q := 33) rfl (tlt hc16).2.2.2 ?_
    refine g_iload C X d22_33 (q := 35) rfl rfl ?_
    refine g_iloadN C X d22_35 (q := 36) rfl rfl ?_
    refine g_iadd C X d22_36 (q := 37) rfl (z := ((16 : Int32) + (o32 sgN))) rfl ?_
    have hl9 : (DG xN).length = 16 := DG_len 15 ((lcN hx (P := 10000000000000000) (by decide)).1 hc16) (Or.inr ((lcN hx (P := 1000000000000000) (by decide)).2 hc15))
    exact g_retI C X d22_37 (by decide) (by decide) ⟨_, rfl, congrArg Value.int (by rw [NB_len, hl9]; exact (r_add 16 (by decide) sgN (by omega)).trans (congrArg o32 (Nat.add_comm ..))), rfl⟩
  refine g_ifY C X d22_30 (by decide) (q := 38) (by decide) (flt hc16).2.2.2 ?_
  refine g_ldcJ C X (w256 hw) d22_38 (q := 41) rfl ?_
  refine g_lloadN C X d22_41 (q := 42) rfl rfl ?_
  refine g_lmul C X d22_42 (q := 43) rfl (z := (-100000000000000000 : Int64)) (by decide) ?_
  refine g_lstoreN C X d22_43 (q := 44) rfl (L' := #[.val (.long (nx xN)), .second, .val (.int (o32 sgN)), .val (.long (-100000000000000000 : Int64)), .second, .val (.int (16 : Int32))]) rfl ?_
  refine g_iinc C X d22_44 (q := 47) rfl rfl (z := (17 : Int32)) (by decide) (L' := #[.val (.long (nx xN)), .second, .val (.int (o32 sgN)), .val (.long (-100000000000000000 : Int64)), .second, .val (.int (17 : Int32))]) rfl ?_
  refine g_goto C X d22_47 (by decide) (q := 20) (by decide) ?_
  refine g_iload C X d22_20 (q := 22) rfl rfl ?_
  refine g_bipush C X d22_22 (q := 24) rfl (z := (19 : Int32)) rfl ?_
  refine g_icN C X d22_24 (q := 27) rfl (by decide) ?_
  refine g_lloadN C X d22_27 (q := 28) rfl rfl ?_
  refine g_lloadN C X d22_28 (q := 29) rfl rfl ?_
  refine g_lcmp C X d22_29 (q := 30) rfl (z := (lcmpW (nx xN) (-100000000000000000 : Int64))) rfl ?_
  by_cases hc17 : (0 : Int32) < (lcmpW (nx xN) (-100000000000000000 : Int64))
  · refine g_ifN C X d22_30 (q := 33) rfl (tlt hc17).2.2.2 ?_
    refine g_iload C X d22_33 (q := 35) rfl rfl ?_
    refine g_iloadN C X d22_35 (q := 36) rfl rfl ?_
    refine g_iadd C X d22_36 (q := 37) rfl (z := ((17 : Int32) + (o32 sgN))) rfl ?_
    have hl9 : (DG xN).length = 17 := DG_len 16 ((lcN hx (P := 100000000000000000) (by decide)).1 hc17) (Or.inr ((lcN hx (P := 10000000000000000) (by decide)).2 hc16))
    exact g_retI C X d22_37 (by decide) (by decide) ⟨_, rfl, congrArg Value.int (by rw [NB_len, hl9]; exact (r_add 17 (by decide) sgN (by omega)).trans (congrArg o32 (Nat.add_comm ..))), rfl⟩
  refine g_ifY C X d22_30 (by decide) (q := 38) (by decide) (flt hc17).2.2.2 ?_
  refine g_ldcJ C X (w256 hw) d22_38 (q := 41) rfl ?_
  refine g_lloadN C X d22_41 (q := 42) rfl rfl ?_
  refine g_lmul C X d22_42 (q := 43) rfl (z := (-1000000000000000000 : Int64)) (by decide) ?_
  refine g_lstoreN C X d22_43 (q := 44) rfl (L' := #[.val (.long (nx xN)), .second, .val (.int (o32 sgN)), .val (.long (-1000000000000000000 : Int64)), .second, .val (.int (17 : Int32))]) rfl ?_
  refine g_iinc C X d22_44 (q := 47) rfl rfl (z := (18 : Int32)) (by decide) (L' := #[.val (.long (nx xN)), .second, .val (.int (o32 sgN)), .val (.long (-1000000000000000000 : Int64)), .second, .val (.int (18 : Int32))]) rfl ?_
  refine g_goto C X d22_47 (by decide) (q := 20) (by decide) ?_
  refine g_iload C X d22_20 (q := 22) rfl rfl ?_
  refine g_bipush C X d22_22 (q := 24) rfl (z := (19 : Int32)) rfl ?_
  refine g_icN C X d22_24 (q := 27) rfl (by decide) ?_
  refine g_lloadN C X d22_27 (q := 28) rfl rfl ?_
  refine g_lloadN C X d22_28 (q := 29) rfl rfl ?_
  refine g_lcmp C X d22_29 (q := 30) rfl (z := (lcmpW (nx xN) (-1000000000000000000 : Int64))) rfl ?_
  by_cases hc18 : (0 : Int32) < (lcmpW (nx xN) (-1000000000000000000 : Int64))
  · refine g_ifN C X d22_30 (q := 33) rfl (tlt hc18).2.2.2 ?_
    refine g_iload C X d22_33 (q := 35) rfl rfl ?_
    refine g_iloadN C X d22_35 (q := 36) rfl rfl ?_
    refine g_iadd C X d22_36 (q := 37) rfl (z := ((18 : Int32) + (o32 sgN))) rfl ?_
    have hl9 : (DG xN).length = 18 := DG_len 17 ((lcN hx (P := 1000000000000000000) (by decide)).1 hc18) (Or.inr ((lcN hx (P := 100000000000000000) (by decide)).2 hc17))
    exact g_retI C X d22_37 (by decide) (by decide) ⟨_, rfl, congrArg Value.int (by rw [NB_len, hl9]; exact (r_add 18 (by decide) sgN (by omega)).trans (congrArg o32 (Nat.add_comm ..))), rfl⟩
  refine g_ifY C X d22_30 (by decide) (q := 38) (by decide) (flt hc18).2.2.2 ?_
  refine g_ldcJ C X (w256 hw) d22_38 (q := 41) rfl ?_
  refine g_lloadN C X d22_41 (q := 42) rfl rfl ?_
  refine g_lmul C X d22_42 (q := 43) rfl (z := (8446744073709551616 : Int64)) (by decide) ?_
  refine g_lstoreN C X d22_43 (q := 44) rfl (L' := #[.val (.long (nx xN)), .second, .val (.int (o32 sgN)), .val (.long (8446744073709551616 : Int64)), .second, .val (.int (18 : Int32))]) rfl ?_
  refine g_iinc C X d22_44 (q := 47) rfl rfl (z := (19 : Int32)) (by decide) (L' := #[.val (.long (nx xN)), .second, .val (.int (o32 sgN)), .val (.long (8446744073709551616 : Int64)), .second, .val (.int (19 : Int32))]) rfl ?_
  refine g_goto C X d22_47 (by decide) (q := 20) (by decide) ?_
  refine g_iload C X d22_20 (q := 22) rfl rfl ?_
  refine g_bipush C X d22_22 (q := 24) rfl (z := (19 : Int32)) rfl ?_
  refine g_icY C X d22_24 (by decide) (q := 50) (by decide) (by decide) ?_
  refine g_bipush C X d22_50 (q := 52) rfl (z := (19 : Int32)) rfl ?_
  refine g_iloadN C X d22_52 (q := 53) rfl rfl ?_
  refine g_iadd C X d22_53 (q := 54) rfl (z := ((19 : Int32) + (o32 sgN))) rfl ?_
  have hl9 : (DG xN).length = 19 := DG_len 18 (Nat.lt_of_le_of_lt hx (by decide)) (Or.inr ((lcN hx (P := 1000000000000000000) (by decide)).2 hc18))
  exact g_retI C X d22_54 (by decide) (by decide) ⟨_, rfl, congrArg Value.int (by rw [NB_len, hl9]; exact (r_add 19 (by decide) sgN (by omega)).trans (congrArg o32 (Nat.add_comm ..))), rfl⟩
set_option maxRecDepth 65536 in
set_option maxHeartbeats 40000000 in
theorem rm_ssize {l : Launch} {Z : State} {a0 : Array Value} (hw : ∀ d ∈ tables_1, d.before a0 Z = true) {vL : Int64} {xN sgN : Nat} {cz : Int32} {fm : Value} {dO : Addr} {kO : ClassId} {dT : Addr} {kT : ClassId} {h0 : Heap} {n0 : Nat} (O : Old Z n0 h0) (W : Wd Z cz fm dO kO dT kT) (hv : NV vL xN sgN) :
    Met1 l Z (⟨"java/lang/Long", "stringSize", "(J)I"⟩ : MethodName) jdk_35_method_15_code 6 (some .int) ({ frames := 0, cells := 0, slots := 0, locals := 0 } : Room) #[(.long vL)] h0 n0 (fun v h => v = .int (o32 (NB xN sgN).length) ∧ h0 = h) := by
  refine met_of (L := #[.val (.long vL), .second, .unset, .unset, .unset, .unset]) (plainFor_of_name pn_345) (fun m => by first | (simp [entryFrame, mkF, argsToLocals, Value.category]; done) | rfl) ?_
  intro p e s m below meth c T C X
  change Cx p s m meth c Z "java/lang/Long" jdk_35_method_15_code 6 (some .int) "stringSize" at C
  have hx := hv.1
  rcases hv.2 with ⟨hv1, hv2, rfl⟩ | ⟨hv1, hv2, rfl⟩
  · subst hv2
    refine g_iconst C X d22_0 (q := 1) rfl (z := (1 : Int32)) rfl ?_
    refine g_istoreN C X d22_1 (q := 2) rfl (L' := #[.val (.long (nx xN)), .second, .val (.int (1 : Int32)), .unset, .unset, .unset]) rfl ?_
    refine g_lloadN C X d22_2 (q := 3) rfl rfl ?_
    refine g_lconst C X d22_3 (q := 4) rfl (z := (0 : Int64)) rfl ?_
    refine g_lcmp C X d22_4 (q := 5) rfl (z := (lcmpW (nx xN) (0 : Int64))) rfl ?_
    refine g_ifY C X d22_5 (by decide) (q := 13) (by decide) (tlt hv1).1 ?_
    exact rm_ssJ hw W hx (Or.inr rfl) C X O
  · refine g_iconst C X d22_0 (q := 1) rfl (z := (1 : Int32)) rfl ?_
    refine g_istoreN C X d22_1 (q := 2) rfl (L' := #[.val (.long vL), .second, .val (.int (1 : Int32)), .unset, .unset, .unset]) rfl ?_
    refine g_lloadN C X d22_2 (q := 3) rfl rfl ?_
    refine g_lconst C X d22_3 (q := 4) rfl (z := (0 : Int64)) rfl ?_
    refine g_lcmp C X d22_4 (q := 5) rfl (z := (lcmpW vL (0 : Int64))) rfl ?_
    refine g_ifN C X d22_5 (q := 8) rfl (flt hv1).1 ?_
    refine g_iconst C X d22_8 (q := 9) rfl (z := (0 : Int32)) rfl ?_
    refine g_istoreN C X d22_9 (q := 10) rfl (L' := #[.val (.long vL), .second, .val (.int (0 : Int32)), .unset, .unset, .unset]) rfl ?_
    refine g_lloadN C X d22_10 (q := 11) rfl rfl ?_
    refine g_lneg C X d22_11 (q := 12) rfl (z := (nx xN)) hv2 ?_
    refine g_lstoreN C X d22_12 (q := 13) rfl (L' := #[.val (.long (nx xN)), .second, .val (.int (0 : Int32)), .unset, .unset, .unset]) rfl ?_
    exact rm_ssJ hw W hx (Or.inl rfl) C X O
set_option maxRecDepth 65536 in
set_option maxHeartbeats 40000000 in
theorem rm_digits {l : Launch} {Z : State} {a0 : Array Value} (hw : ∀ d ∈ tables_1, d.before a0 Z = true) {xN : Nat} {cz : Int32} {fm : Value} {dO : Addr} {kO : ClassId} {dT : Addr} {kT : ClassId} {h0 : Heap} {n0 : Nat} (O : Old Z n0 h0) (W : Wd Z cz fm dO kO dT kT) (hx : xN ≤ 9223372036854775808) :
    Met1 l Z (⟨"com/example/large_table_updates/largetableupdates/RunResultSummaryPinLaw", "digits", "(J)I"⟩ : MethodName) method_3_code 3 (some .int) ({ frames := 0, cells := 0, slots := 0, locals := 0 } : Room) #[(.long (nx xN))] h0 n0 (fun v h => v = .int (o32 (DG xN).length) ∧ h0 = h) := by
  refine met_of (L := #[.val (.long (nx xN)), .second, .unset]) (plainFor_of_name pn_458) (fun m => by first | (simp [entryFrame, mkF, argsToLocals, Value.category]; done) | rfl) ?_
  intro p e s m below meth c T C X
  change Cx p s m meth c Z "com/example/large_table_updates/largetableupdates/RunResultSummaryPinLaw" method_3_code 3 (some .int) "digits" at C
  refine g_iconst C X d35_0 (q := 1) rfl (z := (1 : Int32)) rfl ?_
  refine g_istoreN C X d35_1 (q := 2) rfl (L' := #[.val (.long (nx xN)), .second, .val (.int (1 : Int32))]) rfl ?_
  refine g_lloadN C X d35_2 (q := 3) rfl rfl ?_
  refine g_ldcJ C X (w202 hw) d35_3 (q := 6) rfl ?_
  refine g_lcmp C X d35_6 (q := 7) rfl (z := (lcmpW (nx xN) (-10 : Int64))) rfl ?_
  by_cases hc1 : (0 : Int32) < (lcmpW (nx xN) (-10 : Int64))
  · refine g_ifY C X d35_7 (by decide) (q := 12) (by decide) (tlt hc1).2.2.1 ?_
    refine g_lloadN C X d35_12 (q := 13) rfl rfl ?_
    refine g_ldcJ C X (w203 hw) d35_13 (q := 16) rfl ?_
    refine g_lcmp C X d35_16 (q := 17) rfl (z := (lcmpW (nx xN) (-100 : Int64))) rfl ?_
    refine g_ifY C X d35_17 (by decide) (q := 22) (by decide) (tlt (lcY hx (P := 100) (by decide) (Nat.lt_of_lt_of_le ((lcN hx (P := 10) (by decide)).1 hc1) (by decide)))).2.2.1 ?_
    refine g_lloadN C X d35_22 (q := 23) rfl rfl ?_
    refine g_ldcJ C X (w204 hw) d35_23 (q := 26) rfl ?_
    refine g_lcmp C X d35_26 (q := 27) rfl (z := (lcmpW (nx xN) (-1000 : Int64))) rfl ?_
    refine g_ifY C X d35_27 (by decide) (q := 32) (by decide) (tlt (lcY hx (P := 1000) (by decide) (Nat.lt_of_lt_of_le ((lcN hx (P := 10) (by decide)).1 hc1) (by decide)))).2.2.1 ?_
    refine g_lloadN C X d35_32 (q := 33) rfl rfl ?_
    refine g_ldcJ C X (w205 hw) d35_33 (q := 36) rfl ?_
    refine g_lcmp C X d35_36 (q := 37) rfl (z := (lcmpW (nx xN) (-10000 : Int64))) rfl ?_
    refine g_ifY C X d35_37 (by decide) (q := 42) (by decide) (tlt (lcY hx (P := 10000) (by decide) (Nat.lt_of_lt_of_le ((lcN hx (P := 10) (by decide)).1 hc1) (by decide)))).2.2.1 ?_
    refine g_lloadN C X d35_42 (q := 43) rfl rfl ?_
    refine g_ldcJ C X (w206 hw) d35_43 (q := 46) rfl ?_
    refine g_lcmp C X d35_46 (q := 47) rfl (z := (lcmpW (nx xN) (-100000 : Int64))) rfl ?_
    refine g_ifY C X d35_47 (by decide) (q := 53) (by decide) (tlt (lcY hx (P := 100000) (by decide) (Nat.lt_of_lt_of_le ((lcN hx (P := 10) (by decide)).1 hc1) (by decide)))).2.2.1 ?_
    refine g_lloadN C X d35_53 (q := 54) rfl rfl ?_
    refine g_ldcJ C X (w207 hw) d35_54 (q := 57) rfl ?_
    refine g_lcmp C X d35_57 (q := 58) rfl (z := (lcmpW (nx xN) (-1000000 : Int64))) rfl ?_
    refine g_ifY C X d35_58 (by decide) (q := 64) (by decide) (tlt (lcY hx (P := 1000000) (by decide) (Nat.lt_of_lt_of_le ((lcN hx (P := 10) (by decide)).1 hc1) (by decide)))).2.2.1 ?_
    refine g_lloadN C X d35_64 (q := 65) rfl rfl ?_
    refine g_ldcJ C X (w208 hw) d35_65 (q := 68) rfl ?_
    refine g_lcmp C X d35_68 (q := 69) rfl (z := (lcmpW (nx xN) (-10000000 : Int64))) rfl ?_
    refine g_ifY C X d35_69 (by decide) (q := 75) (by decide) (tlt (lcY hx (P := 10000000) (by decide) (Nat.lt_of_lt_of_le ((lcN hx (P := 10) (by decide)).1 hc1) (by decide)))).2.2.1 ?_
    refine g_lloadN C X d35_75 (q := 76) rfl rfl ?_
    refine g_ldcJ C X (w209 hw) d35_76 (q := 79) rfl ?_
    refine g_lcmp C X d35_79 (q := 80) rfl (z := (lcmpW (nx xN) (-100000000 : Int64))) rfl ?_
    refine g_ifY C X d35_80 (by decide) (q := 86) (by decide) (tlt (lcY hx (P := 100000000) (by decide) (Nat.lt_of_lt_of_le ((lcN hx (P := 10) (by decide)).1 hc1) (by decide)))).2.2.1 ?_
    refine g_lloadN C X d35_86 (q := 87) rfl rfl ?_
    refine g_ldcJ C X (w210 hw) d35_87 (q := 90) rfl ?_
    refine g_lcmp C X d35_90 (q := 91) rfl (z := (lcmpW (nx xN) (-1000000000 : Int64))) rfl ?_
    refine g_ifY C X d35_91 (by decide) (q := 97) (by decide) (tlt (lcY hx (P := 1000000000) (by decide) (Nat.lt_of_lt_of_le ((lcN hx (P := 10) (by decide)).1 hc1) (by decide)))).2.2.1 ?_
    refine g_lloadN C X d35_97 (q := 98) rfl rfl ?_
    refine g_ldcJ C X (w211 hw) d35_98 (q := 101) rfl ?_
    refine g_lcmp C X d35_101 (q := 102) rfl (z := (lcmpW (nx xN) (-10000000000 : Int64))) rfl ?_
    refine g_ifY C X d35_102 (by decide) (q := 108) (by decide) (tlt (lcY hx (P := 10000000000) (by decide) (Nat.lt_of_lt_of_le ((lcN hx (P := 10) (by decide)).1 hc1) (by decide)))).2.2.1 ?_
    refine g_lloadN C X d35_108 (q := 109) rfl rfl ?_
    refine g_ldcJ C X (w212 hw) d35_109 (q := 112) rfl ?_
    refine g_lcmp C X d35_112 (q := 113) rfl (z := (lcmpW (nx xN) (-100000000000 : Int64))) rfl ?_
    refine g_ifY C X d35_113 (by decide) (q := 119) (by decide) (tlt (lcY hx (P := 100000000000) (by decide) (Nat.lt_of_lt_of_le ((lcN hx (P := 10) (by decide)).1 hc1) (by decide)))).2.2.1 ?_
    refine g_lloadN C X d35_119 (q := 120) rfl rfl ?_
    refine g_ldcJ C X (w213 hw) d35_120 (q := 123) rfl ?_
    refine g_lcmp C X d35_123 (q := 124) rfl (z := (lcmpW (nx xN) (-1000000000000 : Int64))) rfl ?_
    refine g_ifY C X d35_124 (by decide) (q := 130) (by decide) (tlt (lcY hx (P := 1000000000000) (by decide) (Nat.lt_of_lt_of_le ((lcN hx (P := 10) (by decide)).1 hc1) (by decide)))).2.2.1 ?_
    refine g_lloadN C X d35_130 (q := 131) rfl rfl ?_
    refine g_ldcJ C X (w214 hw) d35_131 (q := 134) rfl ?_
    refine g_lcmp C X d35_134 (q := 135) rfl (z := (lcmpW (nx xN) (-10000000000000 : Int64))) rfl ?_
    refine g_ifY C X d35_135 (by decide) (q := 141) (by decide) (tlt (lcY hx (P := 10000000000000) (by decide) (Nat.lt_of_lt_of_le ((lcN hx (P := 10) (by decide)).1 hc1) (by decide)))).2.2.1 ?_
    refine g_lloadN C X d35_141 (q := 142) rfl rfl ?_
    refine g_ldcJ C X (w215 hw) d35_142 (q := 145) rfl ?_
    refine g_lcmp C X d35_145 (q := 146) rfl (z := (lcmpW (nx xN) (-100000000000000 : Int64))) rfl ?_
    refine g_ifY C X d35_146 (by decide) (q := 152) (by decide) (tlt (lcY hx (P := 100000000000000) (by decide) (Nat.lt_of_lt_of_le ((lcN hx (P := 10) (by decide)).1 hc1) (by decide)))).2.2.1 ?_
    refine g_lloadN C X d35_152 (q := 153) rfl rfl ?_
    refine g_ldcJ C X (w216 hw) d35_153 (q := 156) rfl ?_
    refine g_lcmp C X d35_156 (q := 157) rfl (z := (lcmpW (nx xN) (-1000000000000000 : Int64))) rfl ?_
    refine g_ifY C X d35_157 (by decide) (q := 163) (by decide) (tlt (lcY hx (P := 1000000000000000) (by decide) (Nat.lt_of_lt_of_le ((lcN hx (P := 10) (by decide)).1 hc1) (by decide)))).2.2.1 ?_
    refine g_lloadN C X d35_163 (q := 164) rfl rfl ?_
    refine g_ldcJ C X (w217 hw) d35_164 (q := 167) rfl ?_
    refine g_lcmp C X d35_167 (q := 168) rfl (z := (lcmpW (nx xN) (-10000000000000000 : Int64))) rfl ?_
    refine g_ifY C X d35_168 (by decide) (q := 174) (by decide) (tlt (lcY hx (P := 10000000000000000) (by decide) (Nat.lt_of_lt_of_le ((lcN hx (P := 10) (by decide)).1 hc1) (by decide)))).2.2.1 ?_
    refine g_lloadN C X d35_174 (q := 175) rfl rfl ?_
    refine g_ldcJ C X (w218 hw) d35_175 (q := 178) rfl ?_
    refine g_lcmp C X d35_178 (q := 179) rfl (z := (lcmpW (nx xN) (-100000000000000000 : Int64))) rfl ?_
    refine g_ifY C X d35_179 (by decide) (q := 185) (by decide) (tlt (lcY hx (P := 100000000000000000) (by decide) (Nat.lt_of_lt_of_le ((lcN hx (P := 10) (by decide)).1 hc1) (by decide)))).2.2.1 ?_
    refine g_lloadN C X d35_185 (q := 186) rfl rfl ?_
    refine g_ldcJ C X (w219 hw) d35_186 (q := 189) rfl ?_
    refine g_lcmp C X d35_189 (q := 190) rfl (z := (lcmpW (nx xN) (-1000000000000000000 : Int64))) rfl ?_
    refine g_ifY C X d35_190 (by decide) (q := 196) (by decide) (tlt (lcY hx (P := 1000000000000000000) (by decide) (Nat.lt_of_lt_of_le ((lcN hx (P := 10) (by decide)).1 hc1) (by decide)))).2.2.1 ?_
    refine g_iloadN C X d35_196 (q := 197) rfl rfl ?_
    have hl9 : (DG xN).length = 1 := DG_len 0 ((lcN hx (P := 10) (by decide)).1 hc1) (Or.inl rfl)
    exact g_retI C X d35_197 (by decide) (by decide) ⟨_, rfl, by rw [hl9]; first | done | rfl, rfl⟩
  refine g_ifN C X d35_7 (q := 10) rfl (flt hc1).2.2.1 ?_
  refine g_iconst C X d35_10 (q := 11) rfl (z := (2 : Int32)) rfl ?_
  refine g_istoreN C X d35_11 (q := 12) rfl (L' := #[.val (.long (nx xN)), .second, .val (.int (2 : Int32))]) rfl ?_
  refine g_lloadN C X d35_12 (q := 13) rfl rfl ?_
  refine g_ldcJ C X (w203 hw) d35_13 (q := 16) rfl ?_
  refine g_lcmp C X d35_16 (q := 17) rfl (z := (lcmpW (nx xN) (-100 : Int64))) rfl ?_
  by_cases hc2 : (0 : Int32) < (lcmpW (nx xN) (-100 : Int64))
  · refine g_ifY C X d35_17 (by decide) (q := 22) (by decide) (tlt hc2).2.2.1 ?_
    refine g_lloadN C X d35_22 (q := 23) rfl rfl ?_
    refine g_ldcJ C X (w204 hw) d35_23 (q := 26) rfl ?_
    refine g_lcmp C X d35_26 (q := 27) rfl (z := (lcmpW (nx xN) (-1000 : Int64))) rfl ?_
    refine g_ifY C X d35_27 (by decide) (q := 32) (by decide) (tlt (lcY hx (P := 1000) (by decide) (Nat.lt_of_lt_of_le ((lcN hx (P := 100) (by decide)).1 hc2) (by decide)))).2.2.1 ?_
    refine g_lloadN C X d35_32 (q := 33) rfl rfl ?_
    refine g_ldcJ C X (w205 hw) d35_33 (q := 36) rfl ?_
    refine g_lcmp C X d35_36 (q := 37) rfl (z := (lcmpW (nx xN) (-10000 : Int64))) rfl ?_
    refine g_ifY C X d35_37 (by decide) (q := 42) (by decide) (tlt (lcY hx (P := 10000) (by decide) (Nat.lt_of_lt_of_le ((lcN hx (P := 100) (by decide)).1 hc2) (by decide)))).2.2.1 ?_
    refine g_lloadN C X d35_42 (q := 43) rfl rfl ?_
    refine g_ldcJ C X (w206 hw) d35_43 (q := 46) rfl ?_
    refine g_lcmp C X d35_46 (q := 47) rfl (z := (lcmpW (nx xN) (-100000 : Int64))) rfl ?_
    refine g_ifY C X d35_47 (by decide) (q := 53) (by decide) (tlt (lcY hx (P := 100000) (by decide) (Nat.lt_of_lt_of_le ((lcN hx (P := 100) (by decide)).1 hc2) (by decide)))).2.2.1 ?_
    refine g_lloadN C X d35_53 (q := 54) rfl rfl ?_
    refine g_ldcJ C X (w207 hw) d35_54 (q := 57) rfl ?_
    refine g_lcmp C X d35_57 (q := 58) rfl (z := (lcmpW (nx xN) (-1000000 : Int64))) rfl ?_
    refine g_ifY C X d35_58 (by decide) (q := 64) (by decide) (tlt (lcY hx (P := 1000000) (by decide) (Nat.lt_of_lt_of_le ((lcN hx (P := 100) (by decide)).1 hc2) (by decide)))).2.2.1 ?_
    refine g_lloadN C X d35_64 (q := 65) rfl rfl ?_
    refine g_ldcJ C X (w208 hw) d35_65 (q := 68) rfl ?_
    refine g_lcmp C X d35_68 (q := 69) rfl (z := (lcmpW (nx xN) (-10000000 : Int64))) rfl ?_
    refine g_ifY C X d35_69 (by decide) (q := 75) (by decide) (tlt (lcY hx (P := 10000000) (by decide) (Nat.lt_of_lt_of_le ((lcN hx (P := 100) (by decide)).1 hc2) (by decide)))).2.2.1 ?_
    refine g_lloadN C X d35_75 (q := 76) rfl rfl ?_
    refine g_ldcJ C X (w209 hw) d35_76 (q := 79) rfl ?_
    refine g_lcmp C X d35_79 (q := 80) rfl (z := (lcmpW (nx xN) (-100000000 : Int64))) rfl ?_
    refine g_ifY C X d35_80 (by decide) (q := 86) (by decide) (tlt (lcY hx (P := 100000000) (by decide) (Nat.lt_of_lt_of_le ((lcN hx (P := 100) (by decide)).1 hc2) (by decide)))).2.2.1 ?_
    refine g_lloadN C X d35_86 (q := 87) rfl rfl ?_
    refine g_ldcJ C X (w210 hw) d35_87 (q := 90) rfl ?_
    refine g_lcmp C X d35_90 (q := 91) rfl (z := (lcmpW (nx xN) (-1000000000 : Int64))) rfl ?_
    refine g_ifY C X d35_91 (by decide) (q := 97) (by decide) (tlt (lcY hx (P := 1000000000) (by decide) (Nat.lt_of_lt_of_le ((lcN hx (P := 100) (by decide)).1 hc2) (by decide)))).2.2.1 ?_
    refine g_lloadN C X d35_97 (q := 98) rfl rfl ?_
    refine g_ldcJ C X (w211 hw) d35_98 (q := 101) rfl ?_
    refine g_lcmp C X d35_101 (q := 102) rfl (z := (lcmpW (nx xN) (-10000000000 : Int64))) rfl ?_
    refine g_ifY C X d35_102 (by decide) (q := 108) (by decide) (tlt (lcY hx (P := 10000000000) (by decide) (Nat.lt_of_lt_of_le ((lcN hx (P := 100) (by decide)).1 hc2) (by decide)))).2.2.1 ?_
    refine g_lloadN C X d35_108 (q := 109) rfl rfl ?_
    refine g_ldcJ C X (w212 hw) d35_109 (q := 112) rfl ?_
    refine g_lcmp C X d35_112 (q := 113) rfl (z := (lcmpW (nx xN) (-100000000000 : Int64))) rfl ?_
    refine g_ifY C X d35_113 (by decide) (q := 119) (by decide) (tlt (lcY hx (P := 100000000000) (by decide) (Nat.lt_of_lt_of_le ((lcN hx (P := 100) (by decide)).1 hc2) (by decide)))).2.2.1 ?_
    refine g_lloadN C X d35_119 (q := 120) rfl rfl ?_
    refine g_ldcJ C X (w213 hw) d35_120 (q := 123) rfl ?_
    refine g_lcmp C X d35_123 (q := 124) rfl (z := (lcmpW (nx xN) (-1000000000000 : Int64))) rfl ?_
    refine g_ifY C X d35_124 (by decide) (q := 130) (by decide) (tlt (lcY hx (P := 1000000000000) (by decide) (Nat.lt_of_lt_of_le ((lcN hx (P := 100) (by decide)).1 hc2) (by decide)))).2.2.1 ?_
    refine g_lloadN C X d35_130 (q := 131) rfl rfl ?_
    refine g_ldcJ C X (w214 hw) d35_131 (q := 134) rfl ?_
    refine g_lcmp C X d35_134 (q := 135) rfl (z := (lcmpW (nx xN) (-10000000000000 : Int64))) rfl ?_
    refine g_ifY C X d35_135 (by decide) (q := 141) (by decide) (tlt (lcY hx (P := 10000000000000) (by decide) (Nat.lt_of_lt_of_le ((lcN hx (P := 100) (by decide)).1 hc2) (by decide)))).2.2.1 ?_
    refine g_lloadN C X d35_141 (q := 142) rfl rfl ?_
    refine g_ldcJ C X (w215 hw) d35_142 (q := 145) rfl ?_
    refine g_lcmp C X d35_145 (q := 146) rfl (z := (lcmpW (nx xN) (-100000000000000 : Int64))) rfl ?_
    refine g_ifY C X d35_146 (by decide) (q := 152) (by decide) (tlt (lcY hx (P := 100000000000000) (by decide) (Nat.lt_of_lt_of_le ((lcN hx (P := 100) (by decide)).1 hc2) (by decide)))).2.2.1 ?_
    refine g_lloadN C X d35_152 (q := 153) rfl rfl ?_
    refine g_ldcJ C X (w216 hw) d35_153 (q := 156) rfl ?_
    refine g_lcmp C X d35_156 (q := 157) rfl (z := (lcmpW (nx xN) (-1000000000000000 : Int64))) rfl ?_
    refine g_ifY C X d35_157 (by decide) (q := 163) (by decide) (tlt (lcY hx (P := 1000000000000000) (by decide) (Nat.lt_of_lt_of_le ((lcN hx (P := 100) (by decide)).1 hc2) (by decide)))).2.2.1 ?_
    refine g_lloadN C X d35_163 (q := 164) rfl rfl ?_
    refine g_ldcJ C X (w217 hw) d35_164 (q := 167) rfl ?_
    refine g_lcmp C X d35_167 (q := 168) rfl (z := (lcmpW (nx xN) (-10000000000000000 : Int64))) rfl ?_
    refine g_ifY C X d35_168 (by decide) (q := 174) (by decide) (tlt (lcY hx (P := 10000000000000000) (by decide) (Nat.lt_of_lt_of_le ((lcN hx (P := 100) (by decide)).1 hc2) (by decide)))).2.2.1 ?_
    refine g_lloadN C X d35_174 (q := 175) rfl rfl ?_
    refine g_ldcJ C X (w218 hw) d35_175 (q := 178) rfl ?_
    refine g_lcmp C X d35_178 (q := 179) rfl (z := (lcmpW (nx xN) (-100000000000000000 : Int64))) rfl ?_
    refine g_ifY C X d35_179 (by decide) (q := 185) (by decide) (tlt (lcY hx (P := 100000000000000000) (by decide) (Nat.lt_of_lt_of_le ((lcN hx (P := 100) (by decide)).1 hc2) (by decide)))).2.2.1 ?_
    refine g_lloadN C X d35_185 (q := 186) rfl rfl ?_
    refine g_ldcJ C X (w219 hw) d35_186 (q := 189) rfl ?_
    refine g_lcmp C X d35_189 (q := 190) rfl (z := (lcmpW (nx xN) (-1000000000000000000 : Int64))) rfl ?_
    refine g_ifY C X d35_190 (by decide) (q := 196) (by decide) (tlt (lcY hx (P := 1000000000000000000) (by decide) (Nat.lt_of_lt_of_le ((lcN hx (P := 100) (by decide)).1 hc2) (by decide)))).2.2.1 ?_
    refine g_iloadN C X d35_196 (q := 197) rfl rfl ?_
    have hl9 : (DG xN).length = 2 := DG_len 1 ((lcN hx (P := 100) (by decide)).1 hc2) (Or.inr ((lcN hx (P := 10) (by decide)).2 hc1))
    exact g_retI C X d35_197 (by decide) (by decide) ⟨_, rfl, by rw [hl9]; first | done | rfl, rfl⟩
  refine g_ifN C X d35_17 (q := 20) rfl (flt hc2).2.2.1 ?_
  refine g_iconst C X d35_20 (q := 21) rfl (z := (3 : Int32)) rfl ?_
  refine g_istoreN C X d35_21 (q := 22) rfl (L' := #[.val (.long (nx xN)), .second, .val (.int (3 : Int32))]) rfl ?_
  refine g_lloadN C X d35_22 (q := 23) rfl rfl ?_
  refine g_ldcJ C X (w204 hw) d35_23 (q := 26) rfl ?_
  refine g_lcmp C X d35_26 (q := 27) rfl (z := (lcmpW (nx xN) (-1000 : Int64))) rfl ?_
  by_cases hc3 : (0 : Int32) < (lcmpW (nx xN) (-1000 : Int64))
  · refine g_ifY C X d35_27 (by decide) (q := 32) (by decide) (tlt hc3).2.2.1 ?_
    refine g_lloadN C X d35_32 (q := 33) rfl rfl ?_
    refine g_ldcJ C X (w205 hw) d35_33 (q := 36) rfl ?_
    refine g_lcmp C X d35_36 (q := 37) rfl (z := (lcmpW (nx xN) (-10000 : Int64))) rfl ?_
    refine g_ifY C X d35_37 (by decide) (q := 42) (by decide) (tlt (lcY hx (P := 10000) (by decide) (Nat.lt_of_lt_of_le ((lcN hx (P := 1000) (by decide)).1 hc3) (by decide)))).2.2.1 ?_
    refine g_lloadN C X d35_42 (q := 43) rfl rfl ?_
    refine g_ldcJ C X (w206 hw) d35_43 (q := 46) rfl ?_
    refine g_lcmp C X d35_46 (q := 47) rfl (z := (lcmpW (nx xN) (-100000 : Int64))) rfl ?_
    refine g_ifY C X d35_47 (by decide) (q := 53) (by decide) (tlt (lcY hx (P := 100000) (by decide) (Nat.lt_of_lt_of_le ((lcN hx (P := 1000) (by decide)).1 hc3) (by decide)))).2.2.1 ?_
    refine g_lloadN C X d35_53 (q := 54) rfl rfl ?_
    refine g_ldcJ C X (w207 hw) d35_54 (q := 57) rfl ?_
    refine g_lcmp C X d35_57 (q := 58) rfl (z := (lcmpW (nx xN) (-1000000 : Int64))) rfl ?_
    refine g_ifY C X d35_58 (by decide) (q := 64) (by decide) (tlt (lcY hx (P := 1000000) (by decide) (Nat.lt_of_lt_of_le ((lcN hx (P := 1000) (by decide)).1 hc3) (by decide)))).2.2.1 ?_
    refine g_lloadN C X d35_64 (q := 65) rfl rfl ?_
    refine g_ldcJ C X (w208 hw) d35_65 (q := 68) rfl ?_
    refine g_lcmp C X d35_68 (q := 69) rfl (z := (lcmpW (nx xN) (-10000000 : Int64))) rfl ?_
    refine g_ifY C X d35_69 (by decide) (q := 75) (by decide) (tlt (lcY hx (P := 10000000) (by decide) (Nat.lt_of_lt_of_le ((lcN hx (P := 1000) (by decide)).1 hc3) (by decide)))).2.2.1 ?_
    refine g_lloadN C X d35_75 (q := 76) rfl rfl ?_
    refine g_ldcJ C X (w209 hw) d35_76 (q := 79) rfl ?_
    refine g_lcmp C X d35_79 (q := 80) rfl (z := (lcmpW (nx xN) (-100000000 : Int64))) rfl ?_
    refine g_ifY C X d35_80 (by decide) (q := 86) (by decide) (tlt (lcY hx (P := 100000000) (by decide) (Nat.lt_of_lt_of_le ((lcN hx (P := 1000) (by decide)).1 hc3) (by decide)))).2.2.1 ?_
    refine g_lloadN C X d35_86 (q := 87) rfl rfl ?_
    refine g_ldcJ C X (w210 hw) d35_87 (q := 90) rfl ?_
    refine g_lcmp C X d35_90 (q := 91) rfl (z := (lcmpW (nx xN) (-1000000000 : Int64))) rfl ?_
    refine g_ifY C X d35_91 (by decide) (q := 97) (by decide) (tlt (lcY hx (P := 1000000000) (by decide) (Nat.lt_of_lt_of_le ((lcN hx (P := 1000) (by decide)).1 hc3) (by decide)))).2.2.1 ?_
    refine g_lloadN C X d35_97 (q := 98) rfl rfl ?_
    refine g_ldcJ C X (w211 hw) d35_98 (q := 101) rfl ?_
    refine g_lcmp C X d35_101 (q := 102) rfl (z := (lcmpW (nx xN) (-10000000000 : Int64))) rfl ?_
    refine g_ifY C X d35_102 (by decide) (q := 108) (by decide) (tlt (lcY hx (P := 10000000000) (by decide) (Nat.lt_of_lt_of_le ((lcN hx (P := 1000) (by decide)).1 hc3) (by decide)))).2.2.1 ?_
    refine g_lloadN C X d35_108 (q := 109) rfl rfl ?_
    refine g_ldcJ C X (w212 hw) d35_109 (q := 112) rfl ?_
    refine g_lcmp C X d35_112 (q := 113) rfl (z := (lcmpW (nx xN) (-100000000000 : Int64))) rfl ?_
    refine g_ifY C X d35_113 (by decide) (q := 119) (by decide) (tlt (lcY hx (P := 100000000000) (by decide) (Nat.lt_of_lt_of_le ((lcN hx (P := 1000) (by decide)).1 hc3) (by decide)))).2.2.1 ?_
    refine g_lloadN C X d35_119 (q := 120) rfl rfl ?_
    refine g_ldcJ C X (w213 hw) d35_120 (q := 123) rfl ?_
    refine g_lcmp C X d35_123 (q := 124) rfl (z := (lcmpW (nx xN) (-1000000000000 : Int64))) rfl ?_
    refine g_ifY C X d35_124 (by decide) (q := 130) (by decide) (tlt (lcY hx (P := 1000000000000) (by decide) (Nat.lt_of_lt_of_le ((lcN hx (P := 1000) (by decide)).1 hc3) (by decide)))).2.2.1 ?_
    refine g_lloadN C X d35_130 (q := 131) rfl rfl ?_
    refine g_ldcJ C X (w214 hw) d35_131 (q := 134) rfl ?_
    refine g_lcmp C X d35_134 (q := 135) rfl (z := (lcmpW (nx xN) (-10000000000000 : Int64))) rfl ?_
    refine g_ifY C X d35_135 (by decide) (q := 141) (by decide) (tlt (lcY hx (P := 10000000000000) (by decide) (Nat.lt_of_lt_of_le ((lcN hx (P := 1000) (by decide)).1 hc3) (by decide)))).2.2.1 ?_
    refine g_lloadN C X d35_141 (q := 142) rfl rfl ?_
    refine g_ldcJ C X (w215 hw) d35_142 (q := 145) rfl ?_
    refine g_lcmp C X d35_145 (q := 146) rfl (z := (lcmpW (nx xN) (-100000000000000 : Int64))) rfl ?_
    refine g_ifY C X d35_146 (by decide) (q := 152) (by decide) (tlt (lcY hx (P := 100000000000000) (by decide) (Nat.lt_of_lt_of_le ((lcN hx (P := 1000) (by decide)).1 hc3) (by decide)))).2.2.1 ?_
    refine g_lloadN C X d35_152 (q := 153) rfl rfl ?_
    refine g_ldcJ C X (w216 hw) d35_153 (q := 156) rfl ?_
    refine g_lcmp C X d35_156 (q := 157) rfl (z := (lcmpW (nx xN) (-1000000000000000 : Int64))) rfl ?_
    refine g_ifY C X d35_157 (by decide) (q := 163) (by decide) (tlt (lcY hx (P := 1000000000000000) (by decide) (Nat.lt_of_lt_of_le ((lcN hx (P := 1000) (by decide)).1 hc3) (by decide)))).2.2.1 ?_
    refine g_lloadN C X d35_163 (q := 164) rfl rfl ?_
    refine g_ldcJ C X (w217 hw) d35_164 (q := 167) rfl ?_
    refine g_lcmp C X d35_167 (q := 168) rfl (z := (lcmpW (nx xN) (-10000000000000000 : Int64))) rfl ?_
    refine g_ifY C X d35_168 (by decide) (q := 174) (by decide) (tlt (lcY hx (P := 10000000000000000) (by decide) (Nat.lt_of_lt_of_le ((lcN hx (P := 1000) (by decide)).1 hc3) (by decide)))).2.2.1 ?_
    refine g_lloadN C X d35_174 (q := 175) rfl rfl ?_
    refine g_ldcJ C X (w218 hw) d35_175 (q := 178) rfl ?_
    refine g_lcmp C X d35_178 (q := 179) rfl (z := (lcmpW (nx xN) (-100000000000000000 : Int64))) rfl ?_
    refine g_ifY C X d35_179 (by decide) (q := 185) (by decide) (tlt (lcY hx (P := 100000000000000000) (by decide) (Nat.lt_of_lt_of_le ((lcN hx (P := 1000) (by decide)).1 hc3) (by decide)))).2.2.1 ?_
    refine g_lloadN C X d35_185 (q := 186) rfl rfl ?_
    refine g_ldcJ C X (w219 hw) d35_186 (q := 189) rfl ?_
    refine g_lcmp C X d35_189 (q := 190) rfl (z := (lcmpW (nx xN) (-1000000000000000000 : Int64))) rfl ?_
    refine g_ifY C X d35_190 (by decide) (q := 196) (by decide) (tlt (lcY hx (P := 1000000000000000000) (by decide) (Nat.lt_of_lt_of_le ((lcN hx (P := 1000) (by decide)).1 hc3) (by decide)))).2.2.1 ?_
    refine g_iloadN C X d35_196 (q := 197) rfl rfl ?_
    have hl9 : (DG xN).length = 3 := DG_len 2 ((lcN hx (P := 1000) (by decide)).1 hc3) (Or.inr ((lcN hx (P := 100) (by decide)).2 hc2))
    exact g_retI C X d35_197 (by decide) (by decide) ⟨_, rfl, by rw [hl9]; first | done | rfl, rfl⟩
  refine g_ifN C X d35_27 (q := 30) rfl (flt hc3).2.2.1 ?_
  refine g_iconst C X d35_30 (q := 31) rfl (z := (4 : Int32)) rfl ?_
  refine g_istoreN C X d35_31 (q := 32) rfl (L' := #[.val (.long (nx xN)), .second, .val (.int (4 : Int32))]) rfl ?_
  refine g_lloadN C X d35_32 (q := 33) rfl rfl ?_
  refine g_ldcJ C X (w205 hw) d35_33 (q := 36) rfl ?_
  refine g_lcmp C X d35_36 (q := 37) rfl (z := (lcmpW (nx xN) (-10000 : Int64))) rfl ?_
  by_cases hc4 : (0 : Int32) < (lcmpW (nx xN) (-10000 : Int64))
  · refine g_ifY C X d35_37 (by decide) (q := 42) (by decide) (tlt hc4).2.2.1 ?_
    refine g_lloadN C X d35_42 (q := 43) rfl rfl ?_
    refine g_ldcJ C X (w206 hw) d35_43 (q := 46) rfl ?_
    refine g_lcmp C X d35_46 (q := 47) rfl (z := (lcmpW (nx xN) (-100000 : Int64))) rfl ?_
    refine g_ifY C X d35_47 (by decide) (q := 53) (by decide) (tlt (lcY hx (P := 100000) (by decide) (Nat.lt_of_lt_of_le ((lcN hx (P := 10000) (by decide)).1 hc4) (by decide)))).2.2.1 ?_
    refine g_lloadN C X d35_53 (q := 54) rfl rfl ?_
    refine g_ldcJ C X (w207 hw) d35_54 (q := 57) rfl ?_
    refine g_lcmp C X d35_57 (q := 58) rfl (z := (lcmpW (nx xN) (-1000000 : Int64))) rfl ?_
    refine g_ifY C X d35_58 (by decide) (q := 64) (by decide) (tlt (lcY hx (P := 1000000) (by decide) (Nat.lt_of_lt_of_le ((lcN hx (P := 10000) (by decide)).1 hc4) (by decide)))).2.2.1 ?_
    refine g_lloadN C X d35_64 (q := 65) rfl rfl ?_
    refine g_ldcJ C X (w208 hw) d35_65 (q := 68) rfl ?_
    refine g_lcmp C X d35_68 (q := 69) rfl (z := (lcmpW (nx xN) (-10000000 : Int64))) rfl ?_
    refine g_ifY C X d35_69 (by decide) (q := 75) (by decide) (tlt (lcY hx (P := 10000000) (by decide) (Nat.lt_of_lt_of_le ((lcN hx (P := 10000) (by decide)).1 hc4) (by decide)))).2.2.1 ?_
    refine g_lloadN C X d35_75 (q := 76) rfl rfl ?_
    refine g_ldcJ C X (w209 hw) d35_76 (q := 79) rfl ?_
    refine g_lcmp C X d35_79 (q := 80) rfl (z := (lcmpW (nx xN) (-100000000 : Int64))) rfl ?_
    refine g_ifY C X d35_80 (by decide) (q := 86) (by decide) (tlt (lcY hx (P := 100000000) (by decide) (Nat.lt_of_lt_of_le ((lcN hx (P := 10000) (by decide)).1 hc4) (by decide)))).2.2.1 ?_
    refine g_lloadN C X d35_86 (q := 87) rfl rfl ?_
    refine g_ldcJ C X (w210 hw) d35_87 (q := 90) rfl ?_
    refine g_lcmp C X d35_90 (q := 91) rfl (z := (lcmpW (nx xN) (-1000000000 : Int64))) rfl ?_
    refine g_ifY C X d35_91 (by decide) (q := 97) (by decide) (tlt (lcY hx (P := 1000000000) (by decide) (Nat.lt_of_lt_of_le ((lcN hx (P := 10000) (by decide)).1 hc4) (by decide)))).2.2.1 ?_
    refine g_lloadN C X d35_97 (q := 98) rfl rfl ?_
    refine g_ldcJ C X (w211 hw) d35_98 (q := 101) rfl ?_
    refine g_lcmp C X d35_101 (q := 102) rfl (z := (lcmpW (nx xN) (-10000000000 : Int64))) rfl ?_
    refine g_ifY C X d35_102 (by decide) (q := 108) (by decide) (tlt (lcY hx (P := 10000000000) (by decide) (Nat.lt_of_lt_of_le ((lcN hx (P := 10000) (by decide)).1 hc4) (by decide)))).2.2.1 ?_
    refine g_lloadN C X d35_108 (q := 109) rfl rfl ?_
    refine g_ldcJ C X (w212 hw) d35_109 (q := 112) rfl ?_
    refine g_lcmp C X d35_112 (q := 113) rfl (z := (lcmpW (nx xN) (-100000000000 : Int64))) rfl ?_
    refine g_ifY C X d35_113 (by decide) (q := 119) (by decide) (tlt (lcY hx (P := 100000000000) (by decide) (Nat.lt_of_lt_of_le ((lcN hx (P := 10000) (by decide)).1 hc4) (by decide)))).2.2.1 ?_
    refine g_lloadN C X d35_119 (q := 120) rfl rfl ?_
    refine g_ldcJ C X (w213 hw) d35_120 (q := 123) rfl ?_
    refine g_lcmp C X d35_123 (q := 124) rfl (z := (lcmpW (nx xN) (-1000000000000 : Int64))) rfl ?_
    refine g_ifY C X d35_124 (by decide) (q := 130) (by decide) (tlt (lcY hx (P := 1000000000000) (by decide) (Nat.lt_of_lt_of_le ((lcN hx (P := 10000) (by decide)).1 hc4) (by decide)))).2.2.1 ?_
    refine g_lloadN C X d35_130 (q := 131) rfl rfl ?_
    refine g_ldcJ C X (w214 hw) d35_131 (q := 134) rfl ?_
    refine g_lcmp C X d35_134 (q := 135) rfl (z := (lcmpW (nx xN) (-10000000000000 : Int64))) rfl ?_
    refine g_ifY C X d35_135 (by decide) (q := 141) (by decide) (tlt (lcY hx (P := 10000000000000) (by decide) (Nat.lt_of_lt_of_le ((lcN hx (P := 10000) (by decide)).1 hc4) (by decide)))).2.2.1 ?_
    refine g_lloadN C X d35_141 (q := 142) rfl rfl ?_
    refine g_ldcJ C X (w215 hw) d35_142 (q := 145) rfl ?_
    refine g_lcmp C X d35_145 (q := 146) rfl (z := (lcmpW (nx xN) (-100000000000000 : Int64))) rfl ?_
    refine g_ifY C X d35_146 (by decide) (q := 152) (by decide) (tlt (lcY hx (P := 100000000000000) (by decide) (Nat.lt_of_lt_of_le ((lcN hx (P := 10000) (by decide)).1 hc4) (by decide)))).2.2.1 ?_
    refine g_lloadN C X d35_152 (q := 153) rfl rfl ?_
    refine g_ldcJ C X (w216 hw) d35_153 (q := 156) rfl ?_
    refine g_lcmp C X d35_156 (q := 157) rfl (z := (lcmpW (nx xN) (-1000000000000000 : Int64))) rfl ?_
    refine g_ifY C X d35_157 (by decide) (q := 163) (by decide) (tlt (lcY hx (P := 1000000000000000) (by decide) (Nat.lt_of_lt_of_le ((lcN hx (P := 10000) (by decide)).1 hc4) (by decide)))).2.2.1 ?_
    refine g_lloadN C X d35_163 (q := 164) rfl rfl ?_
    refine g_ldcJ C X (w217 hw) d35_164 (q := 167) rfl ?_
    refine g_lcmp C X d35_167 (q := 168) rfl (z := (lcmpW (nx xN) (-10000000000000000 : Int64))) rfl ?_
    refine g_ifY C X d35_168 (by decide) (q := 174) (by decide) (tlt (lcY hx (P := 10000000000000000) (by decide) (Nat.lt_of_lt_of_le ((lcN hx (P := 10000) (by decide)).1 hc4) (by decide)))).2.2.1 ?_
    refine g_lloadN C X d35_174 (q := 175) rfl rfl ?_
    refine g_ldcJ C X (w218 hw) d35_175 (q := 178) rfl ?_
    refine g_lcmp C X d35_178 (q := 179) rfl (z := (lcmpW (nx xN) (-100000000000000000 : Int64))) rfl ?_
    refine g_ifY C X d35_179 (by decide) (q := 185) (by decide) (tlt (lcY hx (P := 100000000000000000) (by decide) (Nat.lt_of_lt_of_le ((lcN hx (P := 10000) (by decide)).1 hc4) (by decide)))).2.2.1 ?_
    refine g_lloadN C X d35_185 (q := 186) rfl rfl ?_
    refine g_ldcJ C X (w219 hw) d35_186 (q := 189) rfl ?_
    refine g_lcmp C X d35_189 (q := 190) rfl (z := (lcmpW (nx xN) (-1000000000000000000 : Int64))) rfl ?_
    refine g_ifY C X d35_190 (by decide) (q := 196) (by decide) (tlt (lcY hx (P := 1000000000000000000) (by decide) (Nat.lt_of_lt_of_le ((lcN hx (P := 10000) (by decide)).1 hc4) (by decide)))).2.2.1 ?_
    refine g_iloadN C X d35_196 (q := 197) rfl rfl ?_
    have hl9 : (DG xN).length = 4 := DG_len 3 ((lcN hx (P := 10000) (by decide)).1 hc4) (Or.inr ((lcN hx (P := 1000) (by decide)).2 hc3))
    exact g_retI C X d35_197 (by decide) (by decide) ⟨_, rfl, by rw [hl9]; first | done | rfl, rfl⟩
  refine g_ifN C X d35_37 (q := 40) rfl (flt hc4).2.2.1 ?_
  refine g_iconst C X d35_40 (q := 41) rfl (z := (5 : Int32)) rfl ?_
  refine g_istoreN C X d35_41 (q := 42) rfl (L' := #[.val (.long (nx xN)), .second, .val (.int (5 : Int32))]) rfl ?_
  refine g_lloadN C X d35_42 (q := 43) rfl rfl ?_
  refine g_ldcJ C X (w206 hw) d35_43 (q := 46) rfl ?_
  refine g_lcmp C X d35_46 (q := 47) rfl (z := (lcmpW (nx xN) (-100000 : Int64))) rfl ?_
  by_cases hc5 : (0 : Int32) < (lcmpW (nx xN) (-100000 : Int64))
  · refine g_ifY C X d35_47 (by decide) (q := 53) (by decide) (tlt hc5).2.2.1 ?_
    refine g_lloadN C X d35_53 (q := 54) rfl rfl ?_
    refine g_ldcJ C X (w207 hw) d35_54 (q := 57) rfl ?_
    refine g_lcmp C X d35_57 (q := 58) rfl (z := (lcmpW (nx xN) (-1000000 : Int64))) rfl ?_
    refine g_ifY C X d35_58 (by decide) (q := 64) (by decide) (tlt (lcY hx (P := 1000000) (by decide) (Nat.lt_of_lt_of_le ((lcN hx (P := 100000) (by decide)).1 hc5) (by decide)))).2.2.1 ?_
    refine g_lloadN C X d35_64 (q := 65) rfl rfl ?_
    refine g_ldcJ C X (w208 hw) d35_65 (q := 68) rfl ?_
    refine g_lcmp C X d35_68 (q := 69) rfl (z := (lcmpW (nx xN) (-10000000 : Int64))) rfl ?_
    refine g_ifY C X d35_69 (by decide) (q := 75) (by decide) (tlt (lcY hx (P := 10000000) (by decide) (Nat.lt_of_lt_of_le ((lcN hx (P := 100000) (by decide)).1 hc5) (by decide)))).2.2.1 ?_
    refine g_lloadN C X d35_75 (q := 76) rfl rfl ?_
    refine g_ldcJ C X (w209 hw) d35_76 (q := 79) rfl ?_
    refine g_lcmp C X d35_79 (q := 80) rfl (z := (lcmpW (nx xN) (-100000000 : Int64))) rfl ?_
    refine g_ifY C X d35_80 (by decide) (q := 86) (by decide) (tlt (lcY hx (P := 100000000) (by decide) (Nat.lt_of_lt_of_le ((lcN hx (P := 100000) (by decide)).1 hc5) (by decide)))).2.2.1 ?_
    refine g_lloadN C X d35_86 (q := 87) rfl rfl ?_
    refine g_ldcJ C X (w210 hw) d35_87 (q := 90) rfl ?_
    refine g_lcmp C X d35_90 (q := 91) rfl (z := (lcmpW (nx xN) (-1000000000 : Int64))) rfl ?_
    refine g_ifY C X d35_91 (by decide) (q := 97) (by decide) (tlt (lcY hx (P := 1000000000) (by decide) (Nat.lt_of_lt_of_le ((lcN hx (P := 100000) (by decide)).1 hc5) (by decide)))).2.2.1 ?_
    refine g_lloadN C X d35_97 (q := 98) rfl rfl ?_
    refine g_ldcJ C X (w211 hw) d35_98 (q := 101) rfl ?_
    refine g_lcmp C X d35_101 (q := 102) rfl (z := (lcmpW (nx xN) (-10000000000 : Int64))) rfl ?_
    refine g_ifY C X d35_102 (by decide) (q := 108) (by decide) (tlt (lcY hx (P := 10000000000) (by decide) (Nat.lt_of_lt_of_le ((lcN hx (P := 100000) (by decide)).1 hc5) (by decide)))).2.2.1 ?_
    refine g_lloadN C X d35_108 (q := 109) rfl rfl ?_
    refine g_ldcJ C X (w212 hw) d35_109 (q := 112) rfl ?_
    refine g_lcmp C X d35_112 (q := 113) rfl (z := (lcmpW (nx xN) (-100000000000 : Int64))) rfl ?_
    refine g_ifY C X d35_113 (by decide) (q := 119) (by decide) (tlt (lcY hx (P := 100000000000) (by decide) (Nat.lt_of_lt_of_le ((lcN hx (P := 100000) (by decide)).1 hc5) (by decide)))).2.2.1 ?_
    refine g_lloadN C X d35_119 (q := 120) rfl rfl ?_
    refine g_ldcJ C X (w213 hw) d35_120 (q := 123) rfl ?_
    refine g_lcmp C X d35_123 (q := 124) rfl (z := (lcmpW (nx xN) (-1000000000000 : Int64))) rfl ?_
    refine g_ifY C X d35_124 (by decide) (q := 130) (by decide) (tlt (lcY hx (P := 1000000000000) (by decide) (Nat.lt_of_lt_of_le ((lcN hx (P := 100000) (by decide)).1 hc5) (by decide)))).2.2.1 ?_
    refine g_lloadN C X d35_130 (q := 131) rfl rfl ?_
    refine g_ldcJ C X (w214 hw) d35_131 (q := 134) rfl ?_
    refine g_lcmp C X d35_134 (q := 135) rfl (z := (lcmpW (nx xN) (-10000000000000 : Int64))) rfl ?_
    refine g_ifY C X d35_135 (by decide) (q := 141) (by decide) (tlt (lcY hx (P := 10000000000000) (by decide) (Nat.lt_of_lt_of_le ((lcN hx (P := 100000) (by decide)).1 hc5) (by decide)))).2.2.1 ?_
    refine g_lloadN C X d35_141 (q := 142) rfl rfl ?_
    refine g_ldcJ C X (w215 hw) d35_142 (q := 145) rfl ?_
    refine g_lcmp C X d35_145 (q := 146) rfl (z := (lcmpW (nx xN) (-100000000000000 : Int64))) rfl ?_
    refine g_ifY C X d35_146 (by decide) (q := 152) (by decide) (tlt (lcY hx (P := 100000000000000) (by decide) (Nat.lt_of_lt_of_le ((lcN hx (P := 100000) (by decide)).1 hc5) (by decide)))).2.2.1 ?_
    refine g_lloadN C X d35_152 (q := 153) rfl rfl ?_
    refine g_ldcJ C X (w216 hw) d35_153 (q := 156) rfl ?_
    refine g_lcmp C X d35_156 (q := 157) rfl (z := (lcmpW (nx xN) (-1000000000000000 : Int64))) rfl ?_
    refine g_ifY C X d35_157 (by decide) (q := 163) (by decide) (tlt (lcY hx (P := 1000000000000000) (by decide) (Nat.lt_of_lt_of_le ((lcN hx (P := 100000) (by decide)).1 hc5) (by decide)))).2.2.1 ?_
    refine g_lloadN C X d35_163 (q := 164) rfl rfl ?_
    refine g_ldcJ C X (w217 hw) d35_164 (q := 167) rfl ?_
    refine g_lcmp C X d35_167 (q := 168) rfl (z := (lcmpW (nx xN) (-10000000000000000 : Int64))) rfl ?_
    refine g_ifY C X d35_168 (by decide) (q := 174) (by decide) (tlt (lcY hx (P := 10000000000000000) (by decide) (Nat.lt_of_lt_of_le ((lcN hx (P := 100000) (by decide)).1 hc5) (by decide)))).2.2.1 ?_
    refine g_lloadN C X d35_174 (q := 175) rfl rfl ?_
    refine g_ldcJ C X (w218 hw) d35_175 (q := 178) rfl ?_
    refine g_lcmp C X d35_178 (q := 179) rfl (z := (lcmpW (nx xN) (-100000000000000000 : Int64))) rfl ?_
    refine g_ifY C X d35_179 (by decide) (q := 185) (by decide) (tlt (lcY hx (P := 100000000000000000) (by decide) (Nat.lt_of_lt_of_le ((lcN hx (P := 100000) (by decide)).1 hc5) (by decide)))).2.2.1 ?_
    refine g_lloadN C X d35_185 (q := 186) rfl rfl ?_
    refine g_ldcJ C X (w219 hw) d35_186 (q := 189) rfl ?_
    refine g_lcmp C X d35_189 (q := 190) rfl (z := (lcmpW (nx xN) (-1000000000000000000 : Int64))) rfl ?_
    refine g_ifY C X d35_190 (by decide) (q := 196) (by decide) (tlt (lcY hx (P := 1000000000000000000) (by decide) (Nat.lt_of_lt_of_le ((lcN hx (P := 100000) (by decide)).1 hc5) (by decide)))).2.2.1 ?_
    refine g_iloadN C X d35_196 (q := 197) rfl rfl ?_
    have hl9 : (DG xN).length = 5 := DG_len 4 ((lcN hx (P := 100000) (by decide)).1 hc5) (Or.inr ((lcN hx (P := 10000) (by decide)).2 hc4))
    exact g_retI C X d35_197 (by decide) (by decide) ⟨_, rfl, by rw [hl9]; first | done | rfl, rfl⟩
  refine g_ifN C X d35_47 (q := 50) rfl (flt hc5).2.2.1 ?_
  refine g_bipush C X d35_50 (q := 52) rfl (z := (6 : Int32)) rfl ?_
  refine g_istoreN C X d35_52 (q := 53) rfl (L' := #[.val (.long (nx xN)), .second, .val (.int (6 : Int32))]) rfl ?_
  refine g_lloadN C X d35_53 (q := 54) rfl rfl ?_
  refine g_ldcJ C X (w207 hw) d35_54 (q := 57) rfl ?_
  refine g_lcmp C X d35_57 (q := 58) rfl (z := (lcmpW (nx xN) (-1000000 : Int64))) rfl ?_
  by_cases hc6 : (0 : Int32) < (lcmpW (nx xN) (-1000000 : Int64))
  · refine g_ifY C X d35_58 (by decide) (q := 64) (by decide) (tlt hc6).2.2.1 ?_
    refine g_lloadN C X d35_64 (q := 65) rfl rfl ?_
    refine g_ldcJ C X (w208 hw) d35_65 (q := 68) rfl ?_
    refine g_lcmp C X d35_68 (q := 69) rfl (z := (lcmpW (nx xN) (-10000000 : Int64))) rfl ?_
    refine g_ifY C X d35_69 (by decide) (q := 75) (by decide) (tlt (lcY hx (P := 10000000) (by decide) (Nat.lt_of_lt_of_le ((lcN hx (P := 1000000) (by decide)).1 hc6) (by decide)))).2.2.1 ?_
    refine g_lloadN C X d35_75 (q := 76) rfl rfl ?_
    refine g_ldcJ C X (w209 hw) d35_76 (q := 79) rfl ?_
    refine g_lcmp C X d35_79 (q := 80) rfl (z := (lcmpW (nx xN) (-100000000 : Int64))) rfl ?_
    refine g_ifY C X d35_80 (by decide) (q := 86) (by decide) (tlt (lcY hx (P := 100000000) (by decide) (Nat.lt_of_lt_of_le ((lcN hx (P := 1000000) (by decide)).1 hc6) (by decide)))).2.2.1 ?_
    refine g_lloadN C X d35_86 (q := 87) rfl rfl ?_
    refine g_ldcJ C X (w210 hw) d35_87 (q := 90) rfl ?_
    refine g_lcmp C X d35_90 (q := 91) rfl (z := (lcmpW (nx xN) (-1000000000 : Int64))) rfl ?_
    refine g_ifY C X d35_91 (by decide) (q := 97) (by decide) (tlt (lcY hx (P := 1000000000) (by decide) (Nat.lt_of_lt_of_le ((lcN hx (P := 1000000) (by decide)).1 hc6) (by decide)))).2.2.1 ?_
    refine g_lloadN C X d35_97 (q := 98) rfl rfl ?_
    refine g_ldcJ C X (w211 hw) d35_98 (q := 101) rfl ?_
    refine g_lcmp C X d35_101 (q := 102) rfl (z := (lcmpW (nx xN) (-10000000000 : Int64))) rfl ?_
    refine g_ifY C X d35_102 (by decide) (q := 108) (by decide) (tlt (lcY hx (P := 10000000000) (by decide) (Nat.lt_of_lt_of_le ((lcN hx (P := 1000000) (by decide)).1 hc6) (by decide)))).2.2.1 ?_
    refine g_lloadN C X d35_108 (q := 109) rfl rfl ?_
    refine g_ldcJ C X (w212 hw) d35_109 (q := 112) rfl ?_
    refine g_lcmp C X d35_112 (q := 113) rfl (z := (lcmpW (nx xN) (-100000000000 : Int64))) rfl ?_
    refine g_ifY C X d35_113 (by decide) (q := 119) (by decide) (tlt (lcY hx (P := 100000000000) (by decide) (Nat.lt_of_lt_of_le ((lcN hx (P := 1000000) (by decide)).1 hc6) (by decide)))).2.2.1 ?_
    refine g_lloadN C X d35_119 (q := 120) rfl rfl ?_
    refine g_ldcJ C X (w213 hw) d35_120 (q := 123) rfl ?_
    refine g_lcmp C X d35_123 (q := 124) rfl (z := (lcmpW (nx xN) (-1000000000000 : Int64))) rfl ?_
    refine g_ifY C X d35_124 (by decide) (q := 130) (by decide) (tlt (lcY hx (P := 1000000000000) (by decide) (Nat.lt_of_lt_of_le ((lcN hx (P := 1000000) (by decide)).1 hc6) (by decide)))).2.2.1 ?_
    refine g_lloadN C X d35_130 (q := 131) rfl rfl ?_
    refine g_ldcJ C X (w214 hw) d35_131 (q := 134) rfl ?_
    refine g_lcmp C X d35_134 (q := 135) rfl (z := (lcmpW (nx xN) (-10000000000000 : Int64))) rfl ?_
    refine g_ifY C X d35_135 (by decide) (q := 141) (by decide) (tlt (lcY hx (P := 10000000000000) (by decide) (Nat.lt_of_lt_of_le ((lcN hx (P := 1000000) (by decide)).1 hc6) (by decide)))).2.2.1 ?_
    refine g_lloadN C X d35_141 (q := 142) rfl rfl ?_
    refine g_ldcJ C X (w215 hw) d35_142 (q := 145) rfl ?_
    refine g_lcmp C X d35_145 (q := 146) rfl (z := (lcmpW (nx xN) (-100000000000000 : Int64))) rfl ?_
    refine g_ifY C X d35_146 (by decide) (q := 152) (by decide) (tlt (lcY hx (P := 100000000000000) (by decide) (Nat.lt_of_lt_of_le ((lcN hx (P := 1000000) (by decide)).1 hc6) (by decide)))).2.2.1 ?_
    refine g_lloadN C X d35_152 (q := 153) rfl rfl ?_
    refine g_ldcJ C X (w216 hw) d35_153 (q := 156) rfl ?_
    refine g_lcmp C X d35_156 (q := 157) rfl (z := (lcmpW (nx xN) (-1000000000000000 : Int64))) rfl ?_
    refine g_ifY C X d35_157 (by decide) (q := 163) (by decide) (tlt (lcY hx (P := 1000000000000000) (by decide) (Nat.lt_of_lt_of_le ((lcN hx (P := 1000000) (by decide)).1 hc6) (by decide)))).2.2.1 ?_
    refine g_lloadN C X d35_163 (q := 164) rfl rfl ?_
    refine g_ldcJ C X (w217 hw) d35_164 (q := 167) rfl ?_
    refine g_lcmp C X d35_167 (q := 168) rfl (z := (lcmpW (nx xN) (-10000000000000000 : Int64))) rfl ?_
    refine g_ifY C X d35_168 (by decide) (q := 174) (by decide) (tlt (lcY hx (P := 10000000000000000) (by decide) (Nat.lt_of_lt_of_le ((lcN hx (P := 1000000) (by decide)).1 hc6) (by decide)))).2.2.1 ?_
    refine g_lloadN C X d35_174 (q := 175) rfl rfl ?_
    refine g_ldcJ C X (w218 hw) d35_175 (q := 178) rfl ?_
    refine g_lcmp C X d35_178 (q := 179) rfl (z := (lcmpW (nx xN) (-100000000000000000 : Int64))) rfl ?_
    refine g_ifY C X d35_179 (by decide) (q := 185) (by decide) (tlt (lcY hx (P := 100000000000000000) (by decide) (Nat.lt_of_lt_of_le ((lcN hx (P := 1000000) (by decide)).1 hc6) (by decide)))).2.2.1 ?_
    refine g_lloadN C X d35_185 (q := 186) rfl rfl ?_
    refine g_ldcJ C X (w219 hw) d35_186 (q := 189) rfl ?_
    refine g_lcmp C X d35_189 (q := 190) rfl (z := (lcmpW (nx xN) (-1000000000000000000 : Int64))) rfl ?_
    refine g_ifY C X d35_190 (by decide) (q := 196) (by decide) (tlt (lcY hx (P := 1000000000000000000) (by decide) (Nat.lt_of_lt_of_le ((lcN hx (P := 1000000) (by decide)).1 hc6) (by decide)))).2.2.1 ?_
    refine g_iloadN C X d35_196 (q := 197) rfl rfl ?_
    have hl9 : (DG xN).length = 6 := DG_len 5 ((lcN hx (P := 1000000) (by decide)).1 hc6) (Or.inr ((lcN hx (P := 100000) (by decide)).2 hc5))
    exact g_retI C X d35_197 (by decide) (by decide) ⟨_, rfl, by rw [hl9]; first | done | rfl, rfl⟩
  refine g_ifN C X d35_58 (q := 61) rfl (flt hc6).2.2.1 ?_
  refine g_bipush C X d35_61 (q := 63) rfl (z := (7 : Int32)) rfl ?_
  refine g_istoreN C X d35_63 (q := 64) rfl (L' := #[.val (.long (nx xN)), .second, .val (.int (7 : Int32))]) rfl ?_
  refine g_lloadN C X d35_64 (q := 65) rfl rfl ?_
  refine g_ldcJ C X (w208 hw) d35_65 (q := 68) rfl ?_
  refine g_lcmp C X d35_68 (q := 69) rfl (z := (lcmpW (nx xN) (-10000000 : Int64))) rfl ?_
  by_cases hc7 : (0 : Int32) < (lcmpW (nx xN) (-10000000 : Int64))
  · refine g_ifY C X d35_69 (by decide) (q := 75) (by decide) (tlt hc7).2.2.1 ?_
    refine g_lloadN C X d35_75 (q := 76) rfl rfl ?_
    refine g_ldcJ C X (w209 hw) d35_76 (q := 79) rfl ?_
    refine g_lcmp C X d35_79 (q := 80) rfl (z := (lcmpW (nx xN) (-100000000 : Int64))) rfl ?_
    refine g_ifY C X d35_80 (by decide) (q := 86) (by decide) (tlt (lcY hx (P := 100000000) (by decide) (Nat.lt_of_lt_of_le ((lcN hx (P := 10000000) (by decide)).1 hc7) (by decide)))).2.2.1 ?_
    refine g_lloadN C X d35_86 (q := 87) rfl rfl ?_
    refine g_ldcJ C X (w210 hw) d35_87 (q := 90) rfl ?_
    refine g_lcmp C X d35_90 (q := 91) rfl (z := (lcmpW (nx xN) (-1000000000 : Int64))) rfl ?_
    refine g_ifY C X d35_91 (by decide) (q := 97) (by decide) (tlt (lcY hx (P := 1000000000) (by decide) (Nat.lt_of_lt_of_le ((lcN hx (P := 10000000) (by decide)).1 hc7) (by decide)))).2.2.1 ?_
    refine g_lloadN C X d35_97 (q := 98) rfl rfl ?_
    refine g_ldcJ C X (w211 hw) d35_98 (q := 101) rfl ?_
    refine g_lcmp C X d35_101 (q := 102) rfl (z := (lcmpW (nx xN) (-10000000000 : Int64))) rfl ?_
    refine g_ifY C X d35_102 (by decide) (q := 108) (by decide) (tlt (lcY hx (P := 10000000000) (by decide) (Nat.lt_of_lt_of_le ((lcN hx (P := 10000000) (by decide)).1 hc7) (by decide)))).2.2.1 ?_
    refine g_lloadN C X d35_108 (q := 109) rfl rfl ?_
    refine g_ldcJ C X (w212 hw) d35_109 (q := 112) rfl ?_
    refine g_lcmp C X d35_112 (q := 113) rfl (z := (lcmpW (nx xN) (-100000000000 : Int64))) rfl ?_
    refine g_ifY C X d35_113 (by decide) (q := 119) (by decide) (tlt (lcY hx (P := 100000000000) (by decide) (Nat.lt_of_lt_of_le ((lcN hx (P := 10000000) (by decide)).1 hc7) (by decide)))).2.2.1 ?_
    refine g_lloadN C X d35_119 (q := 120) rfl rfl ?_
    refine g_ldcJ C X (w213 hw) d35_120 (q := 123) rfl ?_
    refine g_lcmp C X d35_123 (q := 124) rfl (z := (lcmpW (nx xN) (-1000000000000 : Int64))) rfl ?_
    refine g_ifY C X d35_124 (by decide) (q := 130) (by decide) (tlt (lcY hx (P := 1000000000000) (by decide) (Nat.lt_of_lt_of_le ((lcN hx (P := 10000000) (by decide)).1 hc7) (by decide)))).2.2.1 ?_
    refine g_lloadN C X d35_130 (q := 131) rfl rfl ?_
    refine g_ldcJ C X (w214 hw) d35_131 (q := 134) rfl ?_
    refine g_lcmp C X d35_134 (q := 135) rfl (z := (lcmpW (nx xN) (-10000000000000 : Int64))) rfl ?_
    refine g_ifY C X d35_135 (by decide) (q := 141) (by decide) (tlt (lcY hx (P := 10000000000000) (by decide) (Nat.lt_of_lt_of_le ((lcN hx (P := 10000000) (by decide)).1 hc7) (by decide)))).2.2.1 ?_
    refine g_lloadN C X d35_141 (q := 142) rfl rfl ?_
    refine g_ldcJ C X (w215 hw) d35_142 (q := 145) rfl ?_
    refine g_lcmp C X d35_145 (q := 146) rfl (z := (lcmpW (nx xN) (-100000000000000 : Int64))) rfl ?_
    refine g_ifY C X d35_146 (by decide) (q := 152) (by decide) (tlt (lcY hx (P := 100000000000000) (by decide) (Nat.lt_of_lt_of_le ((lcN hx (P := 10000000) (by decide)).1 hc7) (by decide)))).2.2.1 ?_
    refine g_lloadN C X d35_152 (q := 153) rfl rfl ?_
    refine g_ldcJ C X (w216 hw) d35_153 (q := 156) rfl ?_
    refine g_lcmp C X d35_156 (q := 157) rfl (z := (lcmpW (nx xN) (-1000000000000000 : Int64))) rfl ?_
    refine g_ifY C X d35_157 (by decide) (q := 163) (by decide) (tlt (lcY hx (P := 1000000000000000) (by decide) (Nat.lt_of_lt_of_le ((lcN hx (P := 10000000) (by decide)).1 hc7) (by decide)))).2.2.1 ?_
    refine g_lloadN C X d35_163 (q := 164) rfl rfl ?_
    refine g_ldcJ C X (w217 hw) d35_164 (q := 167) rfl ?_
    refine g_lcmp C X d35_167 (q := 168) rfl (z := (lcmpW (nx xN) (-10000000000000000 : Int64))) rfl ?_
    refine g_ifY C X d35_168 (by decide) (q := 174) (by decide) (tlt (lcY hx (P := 10000000000000000) (by decide) (Nat.lt_of_lt_of_le ((lcN hx (P := 10000000) (by decide)).1 hc7) (by decide)))).2.2.1 ?_
    refine g_lloadN C X d35_174 (q := 175) rfl rfl ?_
    refine g_ldcJ C X (w218 hw) d35_175 (q := 178) rfl ?_
    refine g_lcmp C X d35_178 (q := 179) rfl (z := (lcmpW (nx xN) (-100000000000000000 : Int64))) rfl ?_
    refine g_ifY C X d35_179 (by decide) (q := 185) (by decide) (tlt (lcY hx (P := 100000000000000000) (by decide) (Nat.lt_of_lt_of_le ((lcN hx (P := 10000000) (by decide)).1 hc7) (by decide)))).2.2.1 ?_
    refine g_lloadN C X d35_185 (q := 186) rfl rfl ?_
    refine g_ldcJ C X (w219 hw) d35_186 (q := 189) rfl ?_
    refine g_lcmp C X d35_189 (q := 190) rfl (z := (lcmpW (nx xN) (-1000000000000000000 : Int64))) rfl ?_
    refine g_ifY C X d35_190 (by decide) (q := 196) (by decide) (tlt (lcY hx (P := 1000000000000000000) (by decide) (Nat.lt_of_lt_of_le ((lcN hx (P := 10000000) (by decide)).1 hc7) (by decide)))).2.2.1 ?_
    refine g_iloadN C X d35_196 (q := 197) rfl rfl ?_
    have hl9 : (DG xN).length = 7 := DG_len 6 ((lcN hx (P := 10000000) (by decide)).1 hc7) (Or.inr ((lcN hx (P := 1000000) (by decide)).2 hc6))
    exact g_retI C X d35_197 (by decide) (by decide) ⟨_, rfl, by rw [hl9]; first | done | rfl, rfl⟩
  refine g_ifN C X d35_69 (q := 72) rfl (flt hc7).2.2.1 ?_
  refine g_bipush C X d35_72 (q := 74) rfl (z := (8 : Int32)) rfl ?_
  refine g_istoreN C X d35_74 (q := 75) rfl (L' := #[.val (.long (nx xN)), .second, .val (.int (8 : Int32))]) rfl ?_
  refine g_lloadN C X d35_75 (q := 76) rfl rfl ?_
  refine g_ldcJ C X (w209 hw) d35_76 (q := 79) rfl ?_
  refine g_lcmp C X d35_79 (q := 80) rfl (z := (lcmpW (nx xN) (-100000000 : Int64))) rfl ?_
  by_cases hc8 : (0 : Int32) < (lcmpW (nx xN) (-100000000 : Int64))
  · refine g_ifY C X d35_80 (by decide) (q := 86) (by decide) (tlt hc8).2.2.1 ?_
    refine g_lloadN C X d35_86 (q := 87) rfl rfl ?_
    refine g_ldcJ C X (w210 hw) d35_87 (q := 90) rfl ?_
    refine g_lcmp C X d35_90 (q := 91) rfl (z := (lcmpW (nx xN) (-1000000000 : Int64))) rfl ?_
    refine g_ifY C X d35_91 (by decide) (q := 97) (by decide) (tlt (lcY hx (P := 1000000000) (by decide) (Nat.lt_of_lt_of_le ((lcN hx (P := 100000000) (by decide)).1 hc8) (by decide)))).2.2.1 ?_
    refine g_lloadN C X d35_97 (q := 98) rfl rfl ?_
    refine g_ldcJ C X (w211 hw) d35_98 (q := 101) rfl ?_
    refine g_lcmp C X d35_101 (q := 102) rfl (z := (lcmpW (nx xN) (-10000000000 : Int64))) rfl ?_
    refine g_ifY C X d35_102 (by decide) (q := 108) (by decide) (tlt (lcY hx (P := 10000000000) (by decide) (Nat.lt_of_lt_of_le ((lcN hx (P := 100000000) (by decide)).1 hc8) (by decide)))).2.2.1 ?_
    refine g_lloadN C X d35_108 (q := 109) rfl rfl ?_
    refine g_ldcJ C X (w212 hw) d35_109 (q := 112) rfl ?_
    refine g_lcmp C X d35_112 (q := 113) rfl (z := (lcmpW (nx xN) (-100000000000 : Int64))) rfl ?_
    refine g_ifY C X d35_113 (by decide) (q := 119) (by decide) (tlt (lcY hx (P := 100000000000) (by decide) (Nat.lt_of_lt_of_le ((lcN hx (P := 100000000) (by decide)).1 hc8) (by decide)))).2.2.1 ?_
    refine g_lloadN C X d35_119 (q := 120) rfl rfl ?_
    refine g_ldcJ C X (w213 hw) d35_120 (q := 123) rfl ?_
    refine g_lcmp C X d35_123 (q := 124) rfl (z := (lcmpW (nx xN) (-1000000000000 : Int64))) rfl ?_
    refine g_ifY C X d35_124 (by decide) (q := 130) (by decide) (tlt (lcY hx (P := 1000000000000) (by decide) (Nat.lt_of_lt_of_le ((lcN hx (P := 100000000) (by decide)).1 hc8) (by decide)))).2.2.1 ?_
    refine g_lloadN C X d35_130 (q := 131) rfl rfl ?_
    refine g_ldcJ C X (w214 hw) d35_131 (q := 134) rfl ?_
    refine g_lcmp C X d35_134 (q := 135) rfl (z := (lcmpW (nx xN) (-10000000000000 : Int64))) rfl ?_
    refine g_ifY C X d35_135 (by decide) (q := 141) (by decide) (tlt (lcY hx (P := 10000000000000) (by decide) (Nat.lt_of_lt_of_le ((lcN hx (P := 100000000) (by decide)).1 hc8) (by decide)))).2.2.1 ?_
    refine g_lloadN C X d35_141 (q := 142) rfl rfl ?_
    refine g_ldcJ C X (w215 hw) d35_142 (q := 145) rfl ?_
    refine g_lcmp C X d35_145 (q := 146) rfl (z := (lcmpW (nx xN) (-100000000000000 : Int64))) rfl ?_
    refine g_ifY C X d35_146 (by decide) (q := 152) (by decide) (tlt (lcY hx (P := 100000000000000) (by decide) (Nat.lt_of_lt_of_le ((lcN hx (P := 100000000) (by decide)).1 hc8) (by decide)))).2.2.1 ?_
    refine g_lloadN C X d35_152 (q := 153) rfl rfl ?_
    refine g_ldcJ C X (w216 hw) d35_153 (q := 156) rfl ?_
    refine g_lcmp C X d35_156 (q := 157) rfl (z := (lcmpW (nx xN) (-1000000000000000 : Int64))) rfl ?_
    refine g_ifY C X d35_157 (by decide) (q := 163) (by decide) (tlt (lcY hx (P := 1000000000000000) (by decide) (Nat.lt_of_lt_of_le ((lcN hx (P := 100000000) (by decide)).1 hc8) (by decide)))).2.2.1 ?_
    refine g_lloadN C X d35_163 (q := 164) rfl rfl ?_
    refine g_ldcJ C X (w217 hw) d35_164 (q := 167) rfl ?_
    refine g_lcmp C X d35_167 (q := 168) rfl (z := (lcmpW (nx xN) (-10000000000000000 : Int64))) rfl ?_
    refine g_ifY C X d35_168 (by decide) (q := 174) (by decide) (tlt (lcY hx (P := 10000000000000000) (by decide) (Nat.lt_of_lt_of_le ((lcN hx (P := 100000000) (by decide)).1 hc8) (by decide)))).2.2.1 ?_
    refine g_lloadN C X d35_174 (q := 175) rfl rfl ?_
    refine g_ldcJ C X (w218 hw) d35_175 (q := 178) rfl ?_
    refine g_lcmp C X d35_178 (q := 179) rfl (z := (lcmpW (nx xN) (-100000000000000000 : Int64))) rfl ?_
    refine g_ifY C X d35_179 (by decide) (q := 185) (by decide) (tlt (lcY hx (P := 100000000000000000) (by decide) (Nat.lt_of_lt_of_le ((lcN hx (P := 100000000) (by decide)).1 hc8) (by decide)))).2.2.1 ?_
    refine g_lloadN C X d35_185 (q := 186) rfl rfl ?_
    refine g_ldcJ C X (w219 hw) d35_186 (q := 189) rfl ?_
    refine g_lcmp C X d35_189 (q := 190) rfl (z := (lcmpW (nx xN) (-1000000000000000000 : Int64))) rfl ?_
    refine g_ifY C X d35_190 (by decide) (q := 196) (by decide) (tlt (lcY hx (P := 1000000000000000000) (by decide) (Nat.lt_of_lt_of_le ((lcN hx (P := 100000000) (by decide)).1 hc8) (by decide)))).2.2.1 ?_
    refine g_iloadN C X d35_196 (q := 197) rfl rfl ?_
    have hl9 : (DG xN).length = 8 := DG_len 7 ((lcN hx (P := 100000000) (by decide)).1 hc8) (Or.inr ((lcN hx (P := 10000000) (by decide)).2 hc7))
    exact g_retI C X d35_197 (by decide) (by decide) ⟨_, rfl, by rw [hl9]; first | done | rfl, rfl⟩
  refine g_ifN C X d35_80 (q := 83) rfl (flt hc8).2.2.1 ?_
  refine g_bipush C X d35_83 (q := 85) rfl (z := (9 : Int32)) rfl ?_
  refine g_istoreN C X d35_85 (q := 86) rfl (L' := #[.val (.long (nx xN)), .second, .val (.int (9 : Int32))]) rfl ?_
  refine g_lloadN C X d35_86 (q := 87) rfl rfl ?_
  refine g_ldcJ C X (w210 hw) d35_87 (q := 90) rfl ?_
  refine g_lcmp C X d35_90 (q := 91) rfl (z := (lcmpW (nx xN) (-1000000000 : Int64))) rfl ?_
  by_cases hc9 : (0 : Int32) < (lcmpW (nx xN) (-1000000000 : Int64))
  · refine g_ifY C X d35_91 (by decide) (q := 97) (by decide) (tlt hc9).2.2.1 ?_
    refine g_lloadN C X d35_97 (q := 98) rfl rfl ?_
    refine g_ldcJ C X (w211 hw) d35_98 (q := 101) rfl ?_
    refine g_lcmp C X d35_101 (q := 102) rfl (z := (lcmpW (nx xN) (-10000000000 : Int64))) rfl ?_
    refine g_ifY C X d35_102 (by decide) (q := 108) (by decide) (tlt (lcY hx (P := 10000000000) (by decide) (Nat.lt_of_lt_of_le ((lcN hx (P := 1000000000) (by decide)).1 hc9) (by decide)))).2.2.1 ?_
    refine g_lloadN C X d35_108 (q := 109) rfl rfl ?_
    refine g_ldcJ C X (w212 hw) d35_109 (q := 112) rfl ?_
    refine g_lcmp C X d35_112 (q := 113) rfl (z := (lcmpW (nx xN) (-100000000000 : Int64))) rfl ?_
    refine g_ifY C X d35_113 (by decide) (q := 119) (by decide) (tlt (lcY hx (P := 100000000000) (by decide) (Nat.lt_of_lt_of_le ((lcN hx (P := 1000000000) (by decide)).1 hc9) (by decide)))).2.2.1 ?_
    refine g_lloadN C X d35_119 (q := 120) rfl rfl ?_
    refine g_ldcJ C X (w213 hw) d35_120 (q := 123) rfl ?_
    refine g_lcmp C X d35_123 (q := 124) rfl (z := (lcmpW (nx xN) (-1000000000000 : Int64))) rfl ?_
    refine g_ifY C X d35_124 (by decide) (q := 130) (by decide) (tlt (lcY hx (P := 1000000000000) (by decide) (Nat.lt_of_lt_of_le ((lcN hx (P := 1000000000) (by decide)).1 hc9) (by decide)))).2.2.1 ?_
    refine g_lloadN C X d35_130 (q := 131) rfl rfl ?_
    refine g_ldcJ C X (w214 hw) d35_131 (q := 134) rfl ?_
    refine g_lcmp C X d35_134 (q := 135) rfl (z := (lcmpW (nx xN) (-10000000000000 : Int64))) rfl ?_
    refine g_ifY C X d35_135 (by decide) (q := 141) (by decide) (tlt (lcY hx (P := 10000000000000) (by decide) (Nat.lt_of_lt_of_le ((lcN hx (P := 1000000000) (by decide)).1 hc9) (by decide)))).2.2.1 ?_
    refine g_lloadN C X d35_141 (q := 142) rfl rfl ?_
    refine g_ldcJ C X (w215 hw) d35_142 (q := 145) rfl ?_
    refine g_lcmp C X d35_145 (q := 146) rfl (z := (lcmpW (nx xN) (-100000000000000 : Int64))) rfl ?_
    refine g_ifY C X d35_146 (by decide) (q := 152) (by decide) (tlt (lcY hx (P := 100000000000000) (by decide) (Nat.lt_of_lt_of_le ((lcN hx (P := 1000000000) (by decide)).1 hc9) (by decide)))).2.2.1 ?_
    refine g_lloadN C X d35_152 (q := 153) rfl rfl ?_
    refine g_ldcJ C X (w216 hw) d35_153 (q := 156) rfl ?_
    refine g_lcmp C X d35_156 (q := 157) rfl (z := (lcmpW (nx xN) (-1000000000000000 : Int64))) rfl ?_
    refine g_ifY C X d35_157 (by decide) (q := 163) (by decide) (tlt (lcY hx (P := 1000000000000000) (by decide) (Nat.lt_of_lt_of_le ((lcN hx (P := 1000000000) (by decide)).1 hc9) (by decide)))).2.2.1 ?_
    refine g_lloadN C X d35_163 (q := 164) rfl rfl ?_
    refine g_ldcJ C X (w217 hw) d35_164 (q := 167) rfl ?_
    refine g_lcmp C X d35_167 (q := 168) rfl (z := (lcmpW (nx xN) (-10000000000000000 : Int64))) rfl ?_
    refine g_ifY C X d35_168 (by decide) (q := 174) (by decide) (tlt (lcY hx (P := 10000000000000000) (by decide) (Nat.lt_of_lt_of_le ((lcN hx (P := 1000000000) (by decide)).1 hc9) (by decide)))).2.2.1 ?_
    refine g_lloadN C X d35_174 (q := 175) rfl rfl ?_
    refine g_ldcJ C X (w218 hw) d35_175 (q := 178) rfl ?_
    refine g_lcmp C X d35_178 (q := 179) rfl (z := (lcmpW (nx xN) (-100000000000000000 : Int64))) rfl ?_
    refine g_ifY C X d35_179 (by decide) (q := 185) (by decide) (tlt (lcY hx (P := 100000000000000000) (by decide) (Nat.lt_of_lt_of_le ((lcN hx (P := 1000000000) (by decide)).1 hc9) (by decide)))).2.2.1 ?_
    refine g_lloadN C X d35_185 (q := 186) rfl rfl ?_
    refine g_ldcJ C X (w219 hw) d35_186 (q := 189) rfl ?_
    refine g_lcmp C X d35_189 (q := 190) rfl (z := (lcmpW (nx xN) (-1000000000000000000 : Int64))) rfl ?_
    refine g_ifY C X d35_190 (by decide) (q := 196) (by decide) (tlt (lcY hx (P := 1000000000000000000) (by decide) (Nat.lt_of_lt_of_le ((lcN hx (P := 1000000000) (by decide)).1 hc9) (by decide)))).2.2.1 ?_
    refine g_iloadN C X d35_196 (q := 197) rfl rfl ?_
    have hl9 : (DG xN).length = 9 := DG_len 8 ((lcN hx (P := 1000000000) (by decide)).1 hc9) (Or.inr ((lcN hx (P := 100000000) (by decide)).2 hc8))
    exact g_retI C X d35_197 (by decide) (by decide) ⟨_, rfl, by rw [hl9]; first | done | rfl, rfl⟩
  refine g_ifN C X d35_91 (q := 94) rfl (flt hc9).2.2.1 ?_
  refine g_bipush C X d35_94 (q := 96) rfl (z := (10 : Int32)) rfl ?_
  refine g_istoreN C X d35_96 (q := 97) rfl (L' := #[.val (.long (nx xN)), .second, .val (.int (10 : Int32))]) rfl ?_
  refine g_lloadN C X d35_97 (q := 98) rfl rfl ?_
  refine g_ldcJ C X (w211 hw) d35_98 (q := 101) rfl ?_
  refine g_lcmp C X d35_101 (q := 102) rfl (z := (lcmpW (nx xN) (-10000000000 : Int64))) rfl ?_
  by_cases hc10 : (0 : Int32) < (lcmpW (nx xN) (-10000000000 : Int64))
  · refine g_ifY C X d35_102 (by decide) (q := 108) (by decide) (tlt hc10).2.2.1 ?_
    refine g_lloadN C X d35_108 (q := 109) rfl rfl ?_
    refine g_ldcJ C X (w212 hw) d35_109 (q := 112) rfl ?_
    refine g_lcmp C X d35_112 (q := 113) rfl (z := (lcmpW (nx xN) (-100000000000 : Int64))) rfl ?_
    refine g_ifY C X d35_113 (by decide) (q := 119) (by decide) (tlt (lcY hx (P := 100000000000) (by decide) (Nat.lt_of_lt_of_le ((lcN hx (P := 10000000000) (by decide)).1 hc10) (by decide)))).2.2.1 ?_
    refine g_lloadN C X d35_119 (q := 120) rfl rfl ?_
    refine g_ldcJ C X (w213 hw) d35_120 (q := 123) rfl ?_
    refine g_lcmp C X d35_123 (q := 124) rfl (z := (lcmpW (nx xN) (-1000000000000 : Int64))) rfl ?_
    refine g_ifY C X d35_124 (by decide) (q := 130) (by decide) (tlt (lcY hx (P := 1000000000000) (by decide) (Nat.lt_of_lt_of_le ((lcN hx (P := 10000000000) (by decide)).1 hc10) (by decide)))).2.2.1 ?_
    refine g_lloadN C X d35_130 (q := 131) rfl rfl ?_
    refine g_ldcJ C X (w214 hw) d35_131 (q := 134) rfl ?_
    refine g_lcmp C X d35_134 (q := 135) rfl (z := (lcmpW (nx xN) (-10000000000000 : Int64))) rfl ?_
    refine g_ifY C X d35_135 (by decide) (q := 141) (by decide) (tlt (lcY hx (P := 10000000000000) (by decide) (Nat.lt_of_lt_of_le ((lcN hx (P := 10000000000) (by decide)).1 hc10) (by decide)))).2.2.1 ?_
    refine g_lloadN C X d35_141 (q := 142) rfl rfl ?_
    refine g_ldcJ C X (w215 hw) d35_142 (q := 145) rfl ?_
    refine g_lcmp C X d35_145 (q := 146) rfl (z := (lcmpW (nx xN) (-100000000000000 : Int64))) rfl ?_
    refine g_ifY C X d35_146 (by decide) (q := 152) (by decide) (tlt (lcY hx (P := 100000000000000) (by decide) (Nat.lt_of_lt_of_le ((lcN hx (P := 10000000000) (by decide)).1 hc10) (by decide)))).2.2.1 ?_
    refine g_lloadN C X d35_152 (q := 153) rfl rfl ?_
    refine g_ldcJ C X (w216 hw) d35_153 (q := 156) rfl ?_
    refine g_lcmp C X d35_156 (q := 157) rfl (z := (lcmpW (nx xN) (-1000000000000000 : Int64))) rfl ?_
    refine g_ifY C X d35_157 (by decide) (q := 163) (by decide) (tlt (lcY hx (P := 1000000000000000) (by decide) (Nat.lt_of_lt_of_le ((lcN hx (P := 10000000000) (by decide)).1 hc10) (by decide)))).2.2.1 ?_
    refine g_lloadN C X d35_163 (q := 164) rfl rfl ?_
    refine g_ldcJ C X (w217 hw) d35_164 (q := 167) rfl ?_
    refine g_lcmp C X d35_167 (q := 168) rfl (z := (lcmpW (nx xN) (-10000000000000000 : Int64))) rfl ?_
    refine g_ifY C X d35_168 (by decide) (q := 174) (by decide) (tlt (lcY hx (P := 10000000000000000) (by decide) (Nat.lt_of_lt_of_le ((lcN hx (P := 10000000000) (by decide)).1 hc10) (by decide)))).2.2.1 ?_
    refine g_lloadN C X d35_174 (q := 175) rfl rfl ?_
    refine g_ldcJ C X (w218 hw) d35_175 (q := 178) rfl ?_
    refine g_lcmp C X d35_178 (q := 179) rfl (z := (lcmpW (nx xN) (-100000000000000000 : Int64))) rfl ?_
    refine g_ifY C X d35_179 (by decide) (q := 185) (by decide) (tlt (lcY hx (P := 100000000000000000) (by decide) (Nat.lt_of_lt_of_le ((lcN hx (P := 10000000000) (by decide)).1 hc10) (by decide)))).2.2.1 ?_
    refine g_lloadN C X d35_185 (q := 186) rfl rfl ?_
    refine g_ldcJ C X (w219 hw) d35_186 (q := 189) rfl ?_
    refine g_lcmp C X d35_189 (q := 190) rfl (z := (lcmpW (nx xN) (-1000000000000000000 : Int64))) rfl ?_
    refine g_ifY C X d35_190 (by decide) (q := 196) (by decide) (tlt (lcY hx (P := 1000000000000000000) (by decide) (Nat.lt_of_lt_of_le ((lcN hx (P := 10000000000) (by decide)).1 hc10) (by decide)))).2.2.1 ?_
    refine g_iloadN C X d35_196 (q := 197) rfl rfl ?_
    have hl9 : (DG xN).length = 10 := DG_len 9 ((lcN hx (P := 10000000000) (by decide)).1 hc10) (Or.inr ((lcN hx (P := 1000000000) (by decide)).2 hc9))
    exact g_retI C X d35_197 (by decide) (by decide) ⟨_, rfl, by rw [hl9]; first | done | rfl, rfl⟩
  refine g_ifN C X d35_102 (q := 105) rfl (flt hc10).2.2.1 ?_
  refine g_bipush C X d35_105 (q := 107) rfl (z := (11 : Int32)) rfl ?_
  refine g_istoreN C X d35_107 (q := 108) rfl (L' := #[.val (.long (nx xN)), .second, .val (.int (11 : Int32))]) rfl ?_
  refine g_lloadN C X d35_108 (q := 109) rfl rfl ?_
  refine g_ldcJ C X (w212 hw) d35_109 (q := 112) rfl ?_
  refine g_lcmp C X d35_112 (q := 113) rfl (z := (lcmpW (nx xN) (-100000000000 : Int64))) rfl ?_
  by_cases hc11 : (0 : Int32) < (lcmpW (nx xN) (-100000000000 : Int64))
  · refine g_ifY C X d35_113 (by decide) (q := 119) (by decide) (tlt hc11).2.2.1 ?_
    refine g_lloadN C X d35_119 (q := 120) rfl rfl ?_
    refine g_ldcJ C X (w213 hw) d35_120 (q := 123) rfl ?_
    refine g_lcmp C X d35_123 (q := 124) rfl (z := (lcmpW (nx xN) (-1000000000000 : Int64))) rfl ?_
    refine g_ifY C X d35_124 (by decide) (q := 130) (by decide) (tlt (lcY hx (P := 1000000000000) (by decide) (Nat.lt_of_lt_of_le ((lcN hx (P := 100000000000) (by decide)).1 hc11) (by decide)))).2.2.1 ?_
    refine g_lloadN C X d35_130 (q := 131) rfl rfl ?_
    refine g_ldcJ C X (w214 hw) d35_131 (q := 134) rfl ?_
    refine g_lcmp C X d35_134 (q := 135) rfl (z := (lcmpW (nx xN) (-10000000000000 : Int64))) rfl ?_
    refine g_ifY C X d35_135 (by decide) (q := 141) (by decide) (tlt (lcY hx (P := 10000000000000) (by decide) (Nat.lt_of_lt_of_le ((lcN hx (P := 100000000000) (by decide)).1 hc11) (by decide)))).2.2.1 ?_
    refine g_lloadN C X d35_141 (q := 142) rfl rfl ?_
    refine g_ldcJ C X (w215 hw) d35_142 (q := 145) rfl ?_
    refine g_lcmp C X d35_145 (q := 146) rfl (z := (lcmpW (nx xN) (-100000000000000 : Int64))) rfl ?_
    refine g_ifY C X d35_146 (by decide) (q := 152) (by decide) (tlt (lcY hx (P := 100000000000000) (by decide) (Nat.lt_of_lt_of_le ((lcN hx (P := 100000000000) (by decide)).1 hc11) (by decide)))).2.2.1 ?_
    refine g_lloadN C X d35_152 (q := 153) rfl rfl ?_
    refine g_ldcJ C X (w216 hw) d35_153 (q := 156) rfl ?_
    refine g_lcmp C X d35_156 (q := 157) rfl (z := (lcmpW (nx xN) (-1000000000000000 : Int64))) rfl ?_
    refine g_ifY C X d35_157 (by decide) (q := 163) (by decide) (tlt (lcY hx (P := 1000000000000000) (by decide) (Nat.lt_of_lt_of_le ((lcN hx (P := 100000000000) (by decide)).1 hc11) (by decide)))).2.2.1 ?_
    refine g_lloadN C X d35_163 (q := 164) rfl rfl ?_
    refine g_ldcJ C X (w217 hw) d35_164 (q := 167) rfl ?_
    refine g_lcmp C X d35_167 (q := 168) rfl (z := (lcmpW (nx xN) (-10000000000000000 : Int64))) rfl ?_
    refine g_ifY C X d35_168 (by decide) (q := 174) (by decide) (tlt (lcY hx (P := 10000000000000000) (by decide) (Nat.lt_of_lt_of_le ((lcN hx (P := 100000000000) (by decide)).1 hc11) (by decide)))).2.2.1 ?_
    refine g_lloadN C X d35_174 (q := 175) rfl rfl ?_
    refine g_ldcJ C X (w218 hw) d35_175 (q := 178) rfl ?_
    refine g_lcmp C X d35_178 (q := 179) rfl (z := (lcmpW (nx xN) (-100000000000000000 : Int64))) rfl ?_
    refine g_ifY C X d35_179 (by decide) (q := 185) (by decide) (tlt (lcY hx (P := 100000000000000000) (by decide) (Nat.lt_of_lt_of_le ((lcN hx (P := 100000000000) (by decide)).1 hc11) (by decide)))).2.2.1 ?_
    refine g_lloadN C X d35_185 (q := 186) rfl rfl ?_
    refine g_ldcJ C X (w219 hw) d35_186 (q := 189) rfl ?_
    refine g_lcmp C X d35_189 (q := 190) rfl (z := (lcmpW (nx xN) (-1000000000000000000 : Int64))) rfl ?_
    refine g_ifY C X d35_190 (by decide) (q := 196) (by decide) (tlt (lcY hx (P := 1000000000000000000) (by decide) (Nat.lt_of_lt_of_le ((lcN hx (P := 100000000000) (by decide)).1 hc11) (by decide)))).2.2.1 ?_
    refine g_iloadN C X d35_196 (q := 197) rfl rfl ?_
    have hl9 : (DG xN).length = 11 := DG_len 10 ((lcN hx (P := 100000000000) (by decide)).1 hc11) (Or.inr ((lcN hx (P := 10000000000) (by decide)).2 hc10))
    exact g_retI C X d35_197 (by decide) (by decide) ⟨_, rfl, by rw [hl9]; first | done | rfl, rfl⟩
  refine g_ifN C X d35_113 (q := 116) rfl (flt hc11).2.2.1 ?_
  refine g_bipush C X d35_116 (q := 118) rfl (z := (12 : Int32)) rfl ?_
  refine g_istoreN C X d35_118 (q := 119) rfl (L' := #[.val (.long (nx xN)), .second, .val (.int (12 : Int32))]) rfl ?_
  refine g_lloadN C X d35_119 (q := 120) rfl rfl ?_
  refine g_ldcJ C X (w213 hw) d35_120 (q := 123) rfl ?_
  refine g_lcmp C X d35_123 (q := 124) rfl (z := (lcmpW (nx xN) (-1000000000000 : Int64))) rfl ?_
  by_cases hc12 : (0 : Int32) < (lcmpW (nx xN) (-1000000000000 : Int64))
  · refine g_ifY C X d35_124 (by decide) (q := 130) (by decide) (tlt hc12).2.2.1 ?_
    refine g_lloadN C X d35_130 (q := 131) rfl rfl ?_
    refine g_ldcJ C X (w214 hw) d35_131 (q := 134) rfl ?_
    refine g_lcmp C X d35_134 (q := 135) rfl (z := (lcmpW (nx xN) (-10000000000000 : Int64))) rfl ?_
    refine g_ifY C X d35_135 (by decide) (q := 141) (by decide) (tlt (lcY hx (P := 10000000000000) (by decide) (Nat.lt_of_lt_of_le ((lcN hx (P := 1000000000000) (by decide)).1 hc12) (by decide)))).2.2.1 ?_
    refine g_lloadN C X d35_141 (q := 142) rfl rfl ?_
    refine g_ldcJ C X (w215 hw) d35_142 (q := 145) rfl ?_
    refine g_lcmp C X d35_145 (q := 146) rfl (z := (lcmpW (nx xN) (-100000000000000 : Int64))) rfl ?_
    refine g_ifY C X d35_146 (by decide) (q := 152) (by decide) (tlt (lcY hx (P := 100000000000000) (by decide) (Nat.lt_of_lt_of_le ((lcN hx (P := 1000000000000) (by decide)).1 hc12) (by decide)))).2.2.1 ?_
    refine g_lloadN C X d35_152 (q := 153) rfl rfl ?_
    refine g_ldcJ C X (w216 hw) d35_153 (q := 156) rfl ?_
    refine g_lcmp C X d35_156 (q := 157) rfl (z := (lcmpW (nx xN) (-1000000000000000 : Int64))) rfl ?_
    refine g_ifY C X d35_157 (by decide) (q := 163) (by decide) (tlt (lcY hx (P := 1000000000000000) (by decide) (Nat.lt_of_lt_of_le ((lcN hx (P := 1000000000000) (by decide)).1 hc12) (by decide)))).2.2.1 ?_
    refine g_lloadN C X d35_163 (q := 164) rfl rfl ?_
    refine g_ldcJ C X (w217 hw) d35_164 (q := 167) rfl ?_
    refine g_lcmp C X d35_167 (q := 168) rfl (z := (lcmpW (nx xN) (-10000000000000000 : Int64))) rfl ?_
    refine g_ifY C X d35_168 (by decide) (q := 174) (by decide) (tlt (lcY hx (P := 10000000000000000) (by decide) (Nat.lt_of_lt_of_le ((lcN hx (P := 1000000000000) (by decide)).1 hc12) (by decide)))).2.2.1 ?_
    refine g_lloadN C X d35_174 (q := 175) rfl rfl ?_
    refine g_ldcJ C X (w218 hw) d35_175 (q := 178) rfl ?_
    refine g_lcmp C X d35_178 (q := 179) rfl (z := (lcmpW (nx xN) (-100000000000000000 : Int64))) rfl ?_
    refine g_ifY C X d35_179 (by decide) (q := 185) (by decide) (tlt (lcY hx (P := 100000000000000000) (by decide) (Nat.lt_of_lt_of_le ((lcN hx (P := 1000000000000) (by decide)).1 hc12) (by decide)))).2.2.1 ?_
    refine g_lloadN C X d35_185 (q := 186) rfl rfl ?_
    refine g_ldcJ C X (w219 hw) d35_186 (q := 189) rfl ?_
    refine g_lcmp C X d35_189 (q := 190) rfl (z := (lcmpW (nx xN) (-1000000000000000000 : Int64))) rfl ?_
    refine g_ifY C X d35_190 (by decide) (q := 196) (by decide) (tlt (lcY hx (P := 1000000000000000000) (by decide) (Nat.lt_of_lt_of_le ((lcN hx (P := 1000000000000) (by decide)).1 hc12) (by decide)))).2.2.1 ?_
    refine g_iloadN C X d35_196 (q := 197) rfl rfl ?_
    have hl9 : (DG xN).length = 12 := DG_len 11 ((lcN hx (P := 1000000000000) (by decide)).1 hc12) (Or.inr ((lcN hx (P := 100000000000) (by decide)).2 hc11))
    exact g_retI C X d35_197 (by decide) (by decide) ⟨_, rfl, by rw [hl9]; first | done | rfl, rfl⟩
  refine g_ifN C X d35_124 (q := 127) rfl (flt hc12).2.2.1 ?_
  refine g_bipush C X d35_127 (q := 129) rfl (z := (13 : Int32)) rfl ?_
  refine g_istoreN C X d35_129 (q := 130) rfl (L' := #[.val (.long (nx xN)), .second, .val (.int (13 : Int32))]) rfl ?_
  refine g_lloadN C X d35_130 (q := 131) rfl rfl ?_
  refine g_ldcJ C X (w214 hw) d35_131 (q := 134) rfl ?_
  refine g_lcmp C X d35_134 (q := 135) rfl (z := (lcmpW (nx xN) (-10000000000000 : Int64))) rfl ?_
  by_cases hc13 : (0 : Int32) < (lcmpW (nx xN) (-10000000000000 : Int64))
  · refine g_ifY C X d35_135 (by decide) (q := 141) (by decide) (tlt hc13).2.2.1 ?_
    refine g_lloadN C X d35_141 (q := 142) rfl rfl ?_
    refine g_ldcJ C X (w215 hw) d35_142 (q := 145) rfl ?_
    refine g_lcmp C X d35_145 (q := 146) rfl (z := (lcmpW (nx xN) (-100000000000000 : Int64))) rfl ?_
    refine g_ifY C X d35_146 (by decide) (q := 152) (by decide) (tlt (lcY hx (P := 100000000000000) (by decide) (Nat.lt_of_lt_of_le ((lcN hx (P := 10000000000000) (by decide)).1 hc13) (by decide)))).2.2.1 ?_
    refine g_lloadN C X d35_152 (q := 153) rfl rfl ?_
    refine g_ldcJ C X (w216 hw) d35_153 (q := 156) rfl ?_
    refine g_lcmp C X d35_156 (q := 157) rfl (z := (lcmpW (nx xN) (-1000000000000000 : Int64))) rfl ?_
    refine g_ifY C X d35_157 (by decide) (q := 163) (by decide) (tlt (lcY hx (P := 1000000000000000) (by decide) (Nat.lt_of_lt_of_le ((lcN hx (P := 10000000000000) (by decide)).1 hc13) (by decide)))).2.2.1 ?_
    refine g_lloadN C X d35_163 (q := 164) rfl rfl ?_
    refine g_ldcJ C X (w217 hw) d35_164 (q := 167) rfl ?_
    refine g_lcmp C X d35_167 (q := 168) rfl (z := (lcmpW (nx xN) (-10000000000000000 : Int64))) rfl ?_
    refine g_ifY C X d35_168 (by decide) (q := 174) (by decide) (tlt (lcY hx (P := 10000000000000000) (by decide) (Nat.lt_of_lt_of_le ((lcN hx (P := 10000000000000) (by decide)).1 hc13) (by decide)))).2.2.1 ?_
    refine g_lloadN C X d35_174 (q := 175) rfl rfl ?_
    refine g_ldcJ C X (w218 hw) d35_175 (q := 178) rfl ?_
    refine g_lcmp C X d35_178 (q := 179) rfl (z := (lcmpW (nx xN) (-100000000000000000 : Int64))) rfl ?_
    refine g_ifY C X d35_179 (by decide) (q := 185) (by decide) (tlt (lcY hx (P := 100000000000000000) (by decide) (Nat.lt_of_lt_of_le ((lcN hx (P := 10000000000000) (by decide)).1 hc13) (by decide)))).2.2.1 ?_
    refine g_lloadN C X d35_185 (q := 186) rfl rfl ?_
    refine g_ldcJ C X (w219 hw) d35_186 (q := 189) rfl ?_
    refine g_lcmp C X d35_189 (q := 190) rfl (z := (lcmpW (nx xN) (-1000000000000000000 : Int64))) rfl ?_
    refine g_ifY C X d35_190 (by decide) (q := 196) (by decide) (tlt (lcY hx (P := 1000000000000000000) (by decide) (Nat.lt_of_lt_of_le ((lcN hx (P := 10000000000000) (by decide)).1 hc13) (by decide)))).2.2.1 ?_
    refine g_iloadN C X d35_196 (q := 197) rfl rfl ?_
    have hl9 : (DG xN).length = 13 := DG_len 12 ((lcN hx (P := 10000000000000) (by decide)).1 hc13) (Or.inr ((lcN hx (P := 1000000000000) (by decide)).2 hc12))
    exact g_retI C X d35_197 (by decide) (by decide) ⟨_, rfl, by rw [hl9]; first | done | rfl, rfl⟩
  refine g_ifN C X d35_135 (q := 138) rfl (flt hc13).2.2.1 ?_
  refine g_bipush C X d35_138 (q := 140) rfl (z := (14 : Int32)) rfl ?_
  refine g_istoreN C X d35_140 (q := 141) rfl (L' := #[.val (.long (nx xN)), .second, .val (.int (14 : Int32))]) rfl ?_
  refine g_lloadN C X d35_141 (q := 142) rfl rfl ?_
  refine g_ldcJ C X (w215 hw) d35_142 (q := 145) rfl ?_
  refine g_lcmp C X d35_145 (q := 146) rfl (z := (lcmpW (nx xN) (-100000000000000 : Int64))) rfl ?_
  by_cases hc14 : (0 : Int32) < (lcmpW (nx xN) (-100000000000000 : Int64))
  · refine g_ifY C X d35_146 (by decide) (q := 152) (by decide) (tlt hc14).2.2.1 ?_
    refine g_lloadN C X d35_152 (q := 153) rfl rfl ?_
    refine g_ldcJ C X (w216 hw) d35_153 (q := 156) rfl ?_
    refine g_lcmp C X d35_156 (q := 157) rfl (z := (lcmpW (nx xN) (-1000000000000000 : Int64))) rfl ?_
    refine g_ifY C X d35_157 (by decide) (q := 163) (by decide) (tlt (lcY hx (P := 1000000000000000) (by decide) (Nat.lt_of_lt_of_le ((lcN hx (P := 100000000000000) (by decide)).1 hc14) (by decide)))).2.2.1 ?_
    refine g_lloadN C X d35_163 (q := 164) rfl rfl ?_
    refine g_ldcJ C X (w217 hw) d35_164 (q := 167) rfl ?_
    refine g_lcmp C X d35_167 (q := 168) rfl (z := (lcmpW (nx xN) (-10000000000000000 : Int64))) rfl ?_
    refine g_ifY C X d35_168 (by decide) (q := 174) (by decide) (tlt (lcY hx (P := 10000000000000000) (by decide) (Nat.lt_of_lt_of_le ((lcN hx (P := 100000000000000) (by decide)).1 hc14) (by decide)))).2.2.1 ?_
    refine g_lloadN C X d35_174 (q := 175) rfl rfl ?_
    refine g_ldcJ C X (w218 hw) d35_175 (q := 178) rfl ?_
    refine g_lcmp C X d35_178 (q := 179) rfl (z := (lcmpW (nx xN) (-100000000000000000 : Int64))) rfl ?_
    refine g_ifY C X d35_179 (by decide) (q := 185) (by decide) (tlt (lcY hx (P := 100000000000000000) (by decide) (Nat.lt_of_lt_of_le ((lcN hx (P := 100000000000000) (by decide)).1 hc14) (by decide)))).2.2.1 ?_
    refine g_lloadN C X d35_185 (q := 186) rfl rfl ?_
    refine g_ldcJ C X (w219 hw) d35_186 (q := 189) rfl ?_
    refine g_lcmp C X d35_189 (q := 190) rfl (z := (lcmpW (nx xN) (-1000000000000000000 : Int64))) rfl ?_
    refine g_ifY C X d35_190 (by decide) (q := 196) (by decide) (tlt (lcY hx (P := 1000000000000000000) (by decide) (Nat.lt_of_lt_of_le ((lcN hx (P := 100000000000000) (by decide)).1 hc14) (by decide)))).2.2.1 ?_
    refine g_iloadN C X d35_196 (q := 197) rfl rfl ?_
    have hl9 : (DG xN).length = 14 := DG_len 13 ((lcN hx (P := 100000000000000) (by decide)).1 hc14) (Or.inr ((lcN hx (P := 10000000000000) (by decide)).2 hc13))
    exact g_retI C X d35_197 (by decide) (by decide) ⟨_, rfl, by rw [hl9]; first | done | rfl, rfl⟩
  refine g_ifN C X d35_146 (q := 149) rfl (flt hc14).2.2.1 ?_
  refine g_bipush C X d35_149 (q := 151) rfl (z := (15 : Int32)) rfl ?_
  refine g_istoreN C X d35_151 (q := 152) rfl (L' := #[.val (.long (nx xN)), .second, .val (.int (15 : Int32))]) rfl ?_
  refine g_lloadN C X d35_152 (q := 153) rfl rfl ?_
  refine g_ldcJ C X (w216 hw) d35_153 (q := 156) rfl ?_
  refine g_lcmp C X d35_156 (q := 157) rfl (z := (lcmpW (nx xN) (-1000000000000000 : Int64))) rfl ?_
  by_cases hc15 : (0 : Int32) < (lcmpW (nx xN) (-1000000000000000 : Int64))
  · refine g_ifY C X d35_157 (by decide) (q := 163) (by decide) (tlt hc15).2.2.1 ?_
    refine g_lloadN C X d35_163 (q := 164) rfl rfl ?_
    refine g_ldcJ C X (w217 hw) d35_164 (q := 167) rfl ?_
    refine g_lcmp C X d35_167 (q := 168) rfl (z := (lcmpW (nx xN) (-10000000000000000 : Int64))) rfl ?_
    refine g_ifY C X d35_168 (by decide) (q := 174) (by decide) (tlt (lcY hx (P := 10000000000000000) (by decide) (Nat.lt_of_lt_of_le ((lcN hx (P := 1000000000000000) (by decide)).1 hc15) (by decide)))).2.2.1 ?_
    refine g_lloadN C X d35_174 (q := 175) rfl rfl ?_
    refine g_ldcJ C X (w218 hw) d35_175 (q := 178) rfl ?_
    refine g_lcmp C X d35_178 (q := 179) rfl (z := (lcmpW (nx xN) (-100000000000000000 : Int64))) rfl ?_
    refine g_ifY C X d35_179 (by decide) (q := 185) (by decide) (tlt (lcY hx (P := 100000000000000000) (by decide) (Nat.lt_of_lt_of_le ((lcN hx (P := 1000000000000000) (by decide)).1 hc15) (by decide)))).2.2.1 ?_
    refine g_lloadN C X d35_185 (q := 186) rfl rfl ?_
    refine g_ldcJ C X (w219 hw) d35_186 (q := 189) rfl ?_
    refine g_lcmp C X d35_189 (q := 190) rfl (z := (lcmpW (nx xN) (-1000000000000000000 : Int64))) rfl ?_
    refine g_ifY C X d35_190 (by decide) (q := 196) (by decide) (tlt (lcY hx (P := 1000000000000000000) (by decide) (Nat.lt_of_lt_of_le ((lcN hx (P := 1000000000000000) (by decide)).1 hc15) (by decide)))).2.2.1 ?_
    refine g_iloadN C X d35_196 (q := 197) rfl rfl ?_
    have hl9 : (DG xN).length = 15 := DG_len 14 ((lcN hx (P := 1000000000000000) (by decide)).1 hc15) (Or.inr ((lcN hx (P := 100000000000000) (by decide)).2 hc14))
    exact g_retI C X d35_197 (by decide) (by decide) ⟨_, rfl, by rw [hl9]; first | done | rfl, rfl⟩
  refine g_ifN C X d35_157 (q := 160) rfl (flt hc15).2.2.1 ?_
  refine g_bipush C X d35_160 (q := 162) rfl (z := (16 : Int32)) rfl ?_
  refine g_istoreN C X d35_162 (q := 163) rfl (L' := #[.val (.long (nx xN)), .second, .val (.int (16 : Int32))]) rfl ?_
  refine g_lloadN C X d35_163 (q := 164) rfl rfl ?_
  refine g_ldcJ C X (w217 hw) d35_164 (q := 167) rfl ?_
  refine g_lcmp C X d35_167 (q := 168) rfl (z := (lcmpW (nx xN) (-10000000000000000 : Int64))) rfl ?_
  by_cases hc16 : (0 : Int32) < (lcmpW (nx xN) (-10000000000000000 : Int64))
  · refine g_ifY C X d35_168 (by decide) (q := 174) (by decide) (tlt hc16).2.2.1 ?_
    refine g_lloadN C X d35_174 (q := 175) rfl rfl ?_
    refine g_ldcJ C X (w218 hw) d35_175 (q := 178) rfl ?_
    refine g_lcmp C X d35_178 (q := 179) rfl (z := (lcmpW (nx xN) (-100000000000000000 : Int64))) rfl ?_
    refine g_ifY C X d35_179 (by decide) (q := 185) (by decide) (tlt (lcY hx (P := 100000000000000000) (by decide) (Nat.lt_of_lt_of_le ((lcN hx (P := 10000000000000000) (by decide)).1 hc16) (by decide)))).2.2.1 ?_
    refine g_lloadN C X d35_185 (q := 186) rfl rfl ?_
    refine g_ldcJ C X (w219 hw) d35_186 (q := 189) rfl ?_
    refine g_lcmp C X d35_189 (q := 190) rfl (z := (lcmpW (nx xN) (-1000000000000000000 : Int64))) rfl ?_
    refine g_ifY C X d35_190 (by decide) (q := 196) (by decide) (tlt (lcY hx (P := 1000000000000000000) (by decide) (Nat.lt_of_lt_of_le ((lcN hx (P := 10000000000000000) (by decide)).1 hc16) (by decide)))).2.2.1 ?_
    refine g_iloadN C X d35_196 (q := 197) rfl rfl ?_
    have hl9 : (DG xN).length = 16 := DG_len 15 ((lcN hx (P := 10000000000000000) (by decide)).1 hc16) (Or.inr ((lcN hx (P := 1000000000000000) (by decide)).2 hc15))
    exact g_retI C X d35_197 (by decide) (by decide) ⟨_, rfl, by rw [hl9]; first | done | rfl, rfl⟩
  refine g_ifN C X d35_168 (q := 171) rfl (flt hc16).2.2.1 ?_
  refine g_bipush C X d35_171 (q := 173) rfl (z := (17 : Int32)) rfl ?_
  refine g_istoreN C X d35_173 (q := 174) rfl (L' := #[.val (.long (nx xN)), .second, .val (.int (17 : Int32))]) rfl ?_
  refine g_lloadN C X d35_174 (q := 175) rfl rfl ?_
  refine g_ldcJ C X (w218 hw) d35_175 (q := 178) rfl ?_
  refine g_lcmp C X d35_178 (q := 179) rfl (z := (lcmpW (nx xN) (-100000000000000000 : Int64))) rfl ?_
  by_cases hc17 : (0 : Int32) < (lcmpW (nx xN) (-100000000000000000 : Int64))
  · refine g_ifY C X d35_179 (by decide) (q := 185) (by decide) (tlt hc17).2.2.1 ?_
    refine g_lloadN C X d35_185 (q := 186) rfl rfl ?_
    refine g_ldcJ C X (w219 hw) d35_186 (q := 189) rfl ?_
    refine g_lcmp C X d35_189 (q := 190) rfl (z := (lcmpW (nx xN) (-1000000000000000000 : Int64))) rfl ?_
    refine g_ifY C X d35_190 (by decide) (q := 196) (by decide) (tlt (lcY hx (P := 1000000000000000000) (by decide) (Nat.lt_of_lt_of_le ((lcN hx (P := 100000000000000000) (by decide)).1 hc17) (by decide)))).2.2.1 ?_
    refine g_iloadN C X d35_196 (q := 197) rfl rfl ?_
    have hl9 : (DG xN).length = 17 := DG_len 16 ((lcN hx (P := 100000000000000000) (by decide)).1 hc17) (Or.inr ((lcN hx (P := 10000000000000000) (by decide)).2 hc16))
    exact g_retI C X d35_197 (by decide) (by decide) ⟨_, rfl, by rw [hl9]; first | done | rfl, rfl⟩
  refine g_ifN C X d35_179 (q := 182) rfl (flt hc17).2.2.1 ?_
  refine g_bipush C X d35_182 (q := 184) rfl (z := (18 : Int32)) rfl ?_
  refine g_istoreN C X d35_184 (q := 185) rfl (L' := #[.val (.long (nx xN)), .second, .val (.int (18 : Int32))]) rfl ?_
  refine g_lloadN C X d35_185 (q := 186) rfl rfl ?_
  refine g_ldcJ C X (w219 hw) d35_186 (q := 189) rfl ?_
  refine g_lcmp C X d35_189 (q := 190) rfl (z := (lcmpW (nx xN) (-1000000000000000000 : Int64))) rfl ?_
  by_cases hc18 : (0 : Int32) < (lcmpW (nx xN) (-1000000000000000000 : Int64))
  · refine g_ifY C X d35_190 (by decide) (q := 196) (by decide) (tlt hc18).2.2.1 ?_
    refine g_iloadN C X d35_196 (q := 197) rfl rfl ?_
    have hl9 : (DG xN).length = 18 := DG_len 17 ((lcN hx (P := 1000000000000000000) (by decide)).1 hc18) (Or.inr ((lcN hx (P := 100000000000000000) (by decide)).2 hc17))
    exact g_retI C X d35_197 (by decide) (by decide) ⟨_, rfl, by rw [hl9]; first | done | rfl, rfl⟩
  refine g_ifN C X d35_190 (q := 193) rfl (flt hc18).2.2.1 ?_
  refine g_bipush C X d35_193 (q := 195) rfl (z := (19 : Int32)) rfl ?_
  refine g_istoreN C X d35_195 (q := 196) rfl (L' := #[.val (.long (nx xN)), .second, .val (.int (19 : Int32))]) rfl ?_
  refine g_iloadN C X d35_196 (q := 197) rfl rfl ?_
  have hl9 : (DG xN).length = 19 := DG_len 18 (Nat.lt_of_le_of_lt hx (by decide)) (Or.inr ((lcN hx (P := 1000000000000000000) (by decide)).2 hc18))
  exact g_retI C X d35_197 (by decide) (by decide) ⟨_, rfl, by rw [hl9]; first | done | rfl, rfl⟩
set_option maxRecDepth 65536 in
set_option maxHeartbeats 40000000 in
theorem rm_width {l : Launch} {Z : State} {a0 : Array Value} (hw : ∀ d ∈ tables_1, d.before a0 Z = true) {vL : Int64} {xN sgN : Nat} {cz : Int32} {fm : Value} {dO : Addr} {kO : ClassId} {dT : Addr} {kT : ClassId} {h0 : Heap} {n0 : Nat} (O : Old Z n0 h0) (W : Wd Z cz fm dO kO dT kT) (hv : NV vL xN sgN) :
    Met1 l Z (⟨"com/example/large_table_updates/largetableupdates/RunResultSummaryPinLaw", "width", "(J)I"⟩ : MethodName) method_4_code 2 (some .int) ({ frames := 1, cells := 0, slots := 0, locals := 14 } : Room) #[(.long vL)] h0 n0 (fun v h => v = .int (o32 (NB xN sgN).length) ∧ h0 = h) := by
  refine met_of (L := #[.val (.long vL), .second]) (plainFor_of_name pn_458) (fun m => by first | (simp [entryFrame, mkF, argsToLocals, Value.category]; done) | rfl) ?_
  intro p e s m below meth c T C X
  change Cx p s m meth c Z "com/example/large_table_updates/largetableupdates/RunResultSummaryPinLaw" method_4_code 2 (some .int) "width" at C
  have hx := hv.1
  rcases hv.2 with ⟨hv1, hv2, rfl⟩ | ⟨hv1, hv2, rfl⟩
  · subst hv2
    refine g_lloadN C X d34_0 (q := 1) rfl rfl ?_
    refine g_lconst C X d34_1 (q := 2) rfl (z := (0 : Int64)) rfl ?_
    refine g_lcmp C X d34_2 (q := 3) rfl (z := (lcmpW (nx xN) (0 : Int64))) rfl ?_
    refine g_ifN C X d34_3 (q := 6) rfl (tlt hv1).2.1 ?_
    refine g_lloadN C X d34_6 (q := 7) rfl rfl ?_
    refine g_callS1 C X (y := (⟨"com/example/large_table_updates/largetableupdates/RunResultSummaryPinLaw", "digits", "(J)I"⟩ : MethodName)) (by decide) (w199 hw) (w200 hw) (w201 hw) (w197 hw) (rm_digits hw (xN := xN) O W hx) (W := 0) (by decide) (by decide) (k' := 0) rfl (n' := 0) rfl (by decide) (by decide) rfl pd_465 (argsL := [(.long (nx xN))]) rfl (rest := []) rfl rfl rfl d34_7 (q := 10) rfl ?_
    rintro _ T1 _ X2 ⟨rfl, rfl⟩
    refine g_iconst C X2 d34_10 (q := 11) rfl (z := (1 : Int32)) rfl ?_
    refine g_iadd C X2 d34_11 (q := 12) rfl (z := (o32 (NB xN 1).length)) ((r_add _ (by have := DG_19 hx; omega) 1 (by decide)).trans (congrArg o32 (by rw [NB_len]; omega))) ?_
    exact g_retI C X2 d34_12 (by decide) (by decide) ⟨_, rfl, rfl, rfl⟩
  · refine g_lloadN C X d34_0 (q := 1) rfl rfl ?_
    refine g_lconst C X d34_1 (q := 2) rfl (z := (0 : Int64)) rfl ?_
    refine g_lcmp C X d34_2 (q := 3) rfl (z := (lcmpW vL (0 : Int64))) rfl ?_
    refine g_ifY C X d34_3 (by decide) (q := 13) (by decide) (flt hv1).2.1 ?_
    refine g_lloadN C X d34_13 (q := 14) rfl rfl ?_
    refine g_lneg C X d34_14 (q := 15) rfl (z := (nx xN)) hv2 ?_
    refine g_callS1 C X (y := (⟨"com/example/large_table_updates/largetableupdates/RunResultSummaryPinLaw", "digits", "(J)I"⟩ : MethodName)) (by decide) (w199 hw) (w200 hw) (w201 hw) (w197 hw) (rm_digits hw (xN := xN) O W hx) (W := 0) (by decide) (by decide) (k' := 0) rfl (n' := 0) rfl (by decide) (by decide) rfl pd_465 (argsL := [(.long (nx xN))]) rfl (rest := []) rfl rfl rfl d34_15 (q := 18) rfl ?_
    rintro _ T3 _ X4 ⟨rfl, rfl⟩
    exact g_retI C X4 d34_18 (by decide) (by decide) ⟨_, rfl, (by rw [NB_len, Nat.zero_add]), rfl⟩
set_option maxRecDepth 65536 in
set_option maxHeartbeats 40000000 in
theorem rm_isL {l : Launch} {Z : State} {a0 : Array Value} (hw : ∀ d ∈ tables_1, d.before a0 Z = true) {x0 tb : Addr} {kb : ClassId} {ls : List Int32} {cz : Int32} {fm : Value} {dO : Addr} {kO : ClassId} {dT : Addr} {kT : ClassId} {h0 : Heap} {n0 : Nat} (O : Old Z n0 h0) (W : Wd Z cz fm dO kO dT kT) (S0 : Sx Z h0 x0 tb kb ls) (h19 : ls.length < 200) :
    Met1 l Z (⟨"java/lang/String", "isLatin1", "()Z"⟩ : MethodName) jdk_42_method_154_code 1 (some .boolean) ({ frames := 0, cells := 0, slots := 0, locals := 0 } : Room) #[(.ref x0)] h0 n0 (fun v h => v = .int 1 ∧ h0 = h) := by
  refine met_of (L := #[.val (.ref x0)]) (plainFor_of_name pn_113) (fun m => by first | (simp [entryFrame, mkF, argsToLocals, Value.category]; done) | rfl) ?_
  intro p e s m below meth c T C X
  change Cx p s m meth c Z "java/lang/String" jdk_42_method_154_code 1 (some .boolean) "isLatin1" at C
  refine g_getS C X (host := "") (Or.inl (w74 hw)) Via.refl (W.1.ext O.2) d39_0 (q := 3) rfl ?_
  intro T1 X2
  refine g_ifN C X2 d39_3 (q := 6) rfl (feq W.2.1).1 ?_
  refine g_aloadN C X2 d39_6 (q := 7) rfl rfl rfl ?_
  refine g_getF C X2 (host := "") (Or.inl (w75 hw)) Via.refl S0.2.2.1 d39_7 (q := 10) rfl ?_
  intro T3 X4
  refine g_ifN C X4 d39_10 (q := 13) rfl (by decide) ?_
  refine g_iconst C X4 d39_13 (q := 14) rfl (z := (1 : Int32)) rfl ?_
  refine g_goto C X4 d39_14 (by decide) (q := 18) (by decide) ?_
  exact g_retN C X4 (Or.inl rfl) (z' := 1) (by decide) d39_18 (by decide) (by decide) ⟨_, rfl, rfl, rfl⟩
set_option maxRecDepth 65536 in
set_option maxHeartbeats 40000000 in
theorem rm_pck {l : Launch} {Z : State} {a0 : Array Value} (hw : ∀ d ∈ tables_1, d.before a0 Z = true) {x1 x2 : Int32} {f1 : Value} {cz : Int32} {fm : Value} {dO : Addr} {kO : ClassId} {dT : Addr} {kT : ClassId} {h0 : Heap} {n0 : Nat} (O : Old Z n0 h0) (W : Wd Z cz fm dO kO dT kT) (hi0 : ¬ x1 < 0) (hi1 : x1 < x2) (hf1 : f1.isRef = true) :
    Met1 l Z (⟨"jdk/internal/util/Preconditions", "checkIndex", "(IILjava/util/function/BiFunction;)I"⟩ : MethodName) jdk_41_method_11_code 3 (some .int) ({ frames := 0, cells := 0, slots := 0, locals := 0 } : Room) #[(.int x1), (.int x2), f1] h0 n0 (fun v h => v = .int x1 ∧ h0 = h) := by
  refine met_of (L := #[.val (.int x1), .val (.int x2), .val f1]) (plainFor_of_name pn_488) (fun m => by (cases f1 <;> first | exact absurd hf1 Bool.false_ne_true | skip) <;> first | (simp [entryFrame, mkF, argsToLocals, Value.category]; done) | rfl) ?_
  intro p e s m below meth c T C X
  change Cx p s m meth c Z "jdk/internal/util/Preconditions" jdk_41_method_11_code 3 (some .int) "checkIndex" at C
  refine g_iloadN C X d42_0 (q := 1) rfl rfl ?_
  refine g_ifN C X d42_1 (q := 4) rfl (flt hi0).1 ?_
  refine g_iloadN C X d42_4 (q := 5) rfl rfl ?_
  refine g_iloadN C X d42_5 (q := 6) rfl rfl ?_
  refine g_icY C X d42_6 (by decide) (q := 16) (by decide) (tlt hi1).1 ?_
  refine g_iloadN C X d42_16 (q := 17) rfl rfl ?_
  exact g_retI C X d42_17 (by decide) (by decide) ⟨_, rfl, rfl, rfl⟩
set_option maxRecDepth 65536 in
set_option maxHeartbeats 40000000 in
theorem rm_sck {l : Launch} {Z : State} {a0 : Array Value} (hw : ∀ d ∈ tables_1, d.before a0 Z = true) {x1 x2 : Int32} {cz : Int32} {fm : Value} {dO : Addr} {kO : ClassId} {dT : Addr} {kT : ClassId} {h0 : Heap} {n0 : Nat} (O : Old Z n0 h0) (W : Wd Z cz fm dO kO dT kT) (hi0 : ¬ x1 < 0) (hi1 : x1 < x2) :
    Met0 l Z (⟨"java/lang/String", "checkIndex", "(II)V"⟩ : MethodName) jdk_42_method_155_code 2 none ({ frames := 1, cells := 0, slots := 0, locals := 14 } : Room) #[(.int x1), (.int x2)] h0 n0 (fun h => h0 = h) := by
  refine met_of (L := #[.val (.int x1), .val (.int x2)]) (plainFor_of_name pn_113) (fun m => by first | (simp [entryFrame, mkF, argsToLocals, Value.category]; done) | rfl) ?_
  intro p e s m below meth c T C X
  change Cx p s m meth c Z "java/lang/String" jdk_42_method_155_code 2 none "checkIndex" at C
  refine g_iloadN C X d41_0 (q := 1) rfl rfl ?_
  refine g_iloadN C X d41_1 (q := 2) rfl rfl ?_
  refine g_getS C X (host := "") (Or.inl (w243 hw)) Via.refl (W.2.2.1.ext O.2) d41_2 (q := 5) rfl ?_
  intro T1 X2
  refine g_callS1 C X2 (y := (⟨"jdk/internal/util/Preconditions", "checkIndex", "(IILjava/util/function/BiFunction;)I"⟩ : MethodName)) (by decide) (w245 hw) (w246 hw) (w247 hw) (w244 hw) (rm_pck hw O W hi0 hi1 W.2.2.2.1) (W := 0) (by decide) (by decide) (k' := 0) rfl (n' := 0) rfl (by decide) (by decide) rfl pd_493 (argsL := [(.int x1), (.int x2), fm]) rfl (rest := []) rfl rfl rfl d41_5 (q := 8) rfl ?_
  rintro _ T3 _ X4 ⟨rfl, rfl⟩
  refine g_pop C X4 d41_8 (q := 9) rfl rfl ?_
  exact g_retV C X4 d41_9 (by decide) (by decide) ⟨rfl, rfl⟩
set_option maxRecDepth 65536 in
set_option maxHeartbeats 40000000 in
theorem rm_lch {l : Launch} {Z : State} {a0 : Array Value} (hw : ∀ d ∈ tables_1, d.before a0 Z = true) {tb : Addr} {kb : ClassId} {ls : List Int32} {iN : Nat} {cz : Int32} {fm : Value} {dO : Addr} {kO : ClassId} {dT : Addr} {kT : ClassId} {h0 : Heap} {n0 : Nat} (O : Old Z n0 h0) (W : Wd Z cz fm dO kO dT kT) (V0 : Arv Z h0 tb kb .byte (o32 ls.length) (bV ls) (.int 0)) (h19 : ls.length < 200) (hgd : Gd ls) (hil : iN < ls.length) :
    Met1 l Z (⟨"java/lang/StringLatin1", "charAt", "([BI)C"⟩ : MethodName) jdk_43_method_2_code 2 (some .char) ({ frames := 2, cells := 0, slots := 0, locals := 27 } : Room) #[(.ref tb), (.int (o32 iN))] h0 n0 (fun v h => v = .int (ls.getD iN 0) ∧ h0 = h) := by
  refine met_of (L := #[.val (.ref tb), .val (.int (o32 iN))]) (plainFor_of_name pn_507) (fun m => by first | (simp [entryFrame, mkF, argsToLocals, Value.category]; done) | rfl) ?_
  intro p e s m below meth c T C X
  change Cx p s m meth c Z "java/lang/StringLatin1" jdk_43_method_2_code 2 (some .char) "charAt" at C
  refine g_iloadN C X d40_0 (q := 1) rfl rfl ?_
  refine g_aloadN C X d40_1 (q := 2) rfl rfl rfl ?_
  refine g_alen C X V0 d40_2 (q := 3) rfl ?_
  refine g_callS0 C X (y := (⟨"java/lang/String", "checkIndex", "(II)V"⟩ : MethodName)) (by decide) (w240 hw) (w241 hw) (w242 hw) (w27 hw) (rm_sck hw O W (r_n16 iN (by omega)).1 (own_bl hil (by omega))) (W := 0) (by decide) (by decide) (k' := 0) rfl (n' := 0) rfl (by decide) (by decide) rfl pd_236 (argsL := [(.int (o32 iN)), (.int (o32 ls.length))]) rfl (rest := []) rfl rfl rfl d40_3 (q := 6) rfl ?_
  rintro T1 _ X2 rfl
  refine g_aloadN C X2 d40_6 (q := 7) rfl rfl rfl ?_
  refine g_iloadN C X2 d40_7 (q := 8) rfl rfl ?_
  refine g_baload C X2 V0 ⟨(r_n16 iN (by omega)).1, own_bl hil (by omega)⟩ (w := (.int (ls.getD iN 0))) (by rw [(r_n16 iN (by omega)).2.1, bV_getD]) d40_8 (q := 9) rfl ?_
  refine g_sipush C X2 d40_9 (q := 12) rfl (z := (255 : Int32)) rfl ?_
  refine g_iand C X2 d40_12 (q := 13) rfl (z := (ls.getD iN 0)) (r_ff (own_gd hgd iN).1 (own_gd hgd iN).2) ?_
  refine g_i2c C X2 d40_13 (q := 14) rfl (z := (ls.getD iN 0)) (own_i2c (own_gd hgd iN).1 (own_gd hgd iN).2 (by decide) (by decide)) ?_
  exact g_retN C X2 (Or.inr (Or.inr (Or.inl rfl))) (z' := ls.getD iN 0) (own_narC (own_gd hgd iN).1 (own_gd hgd iN).2 (by decide) (by decide)) d40_14 (by decide) (by decide) ⟨_, rfl, rfl, rfl⟩
set_option maxRecDepth 65536 in
set_option maxHeartbeats 40000000 in
theorem rm_chr {l : Launch} {Z : State} {a0 : Array Value} (hw : ∀ d ∈ tables_1, d.before a0 Z = true) {x0 tb : Addr} {kb : ClassId} {ls : List Int32} {iN : Nat} {cz : Int32} {fm : Value} {dO : Addr} {kO : ClassId} {dT : Addr} {kT : ClassId} {h0 : Heap} {n0 : Nat} (O : Old Z n0 h0) (W : Wd Z cz fm dO kO dT kT) (S0 : Sx Z h0 x0 tb kb ls) (h19 : ls.length < 200) (hgd : Gd ls) (hil : iN < ls.length) :
    Met1 l Z (⟨"java/lang/String", "charAt", "(I)C"⟩ : MethodName) jdk_42_method_56_code 2 (some .char) ({ frames := 3, cells := 0, slots := 0, locals := 40 } : Room) #[(.ref x0), (.int (o32 iN))] h0 n0 (fun v h => v = .int (ls.getD iN 0) ∧ h0 = h) := by
  refine met_of (L := #[.val (.ref x0), .val (.int (o32 iN))]) (plainFor_of_name pn_113) (fun m => by first | (simp [entryFrame, mkF, argsToLocals, Value.category]; done) | rfl) ?_
  intro p e s m below meth c T C X
  change Cx p s m meth c Z "java/lang/String" jdk_42_method_56_code 2 (some .char) "charAt" at C
  refine g_aloadN C X d38_0 (q := 1) rfl rfl rfl ?_
  refine g_callV1 C X (y := (⟨"java/lang/String", "isLatin1", "()Z"⟩ : MethodName)) (z := (⟨"java/lang/String", "isLatin1", "()Z"⟩ : MethodName)) (a := x0) (by decide) (w231 hw) (w232 hw) (w234 hw) (w233 hw) (nf_sel (w234 hw)) S0.1 (w235 hw) (w27 hw) (rm_isL hw (x0 := x0) (tb := tb) (kb := kb) (ls := ls) O W ⟨S0.1, S0.2.1, S0.2.2.1, S0.2.2.2⟩ h19) (W := 0) (by decide) (by decide) (k' := 0) rfl (n' := 0) rfl (by decide) (by decide) rfl pd_284 (argsL := []) rfl (rest := []) rfl rfl rfl d38_1 (q := 4) rfl ?_
  rintro _ T1 _ X2 ⟨rfl, rfl⟩
  refine g_ifN C X2 d38_4 (q := 7) rfl (by decide) ?_
  refine g_aloadN C X2 d38_7 (q := 8) rfl rfl rfl ?_
  refine g_getF C X2 (host := "") (Or.inl (w68 hw)) Via.refl S0.2.1 d38_8 (q := 11) rfl ?_
  intro T3 X4
  refine g_iloadN C X4 d38_11 (q := 12) rfl rfl ?_
  refine g_callS1 C X4 (y := (⟨"java/lang/StringLatin1", "charAt", "([BI)C"⟩ : MethodName)) (by decide) (w236 hw) (w237 hw) (w239 hw) (w238 hw) (rm_lch hw (iN := iN) O W S0.2.2.2 h19 hgd hil) (W := 0) (by decide) (by decide) (k' := 0) rfl (n' := 0) rfl (by decide) (by decide) rfl pd_515 (argsL := [(.ref tb), (.int (o32 iN))]) rfl (rest := []) rfl rfl rfl d38_12 (q := 15) rfl ?_
  rintro _ T5 _ X6 ⟨rfl, rfl⟩
  exact g_retN C X6 (Or.inr (Or.inr (Or.inl rfl))) (z' := ls.getD iN 0) (own_narC (own_gd hgd iN).1 (own_gd hgd iN).2 (by decide) (by decide)) d38_15 (by decide) (by decide) ⟨_, rfl, rfl, rfl⟩
set_option maxRecDepth 65536 in
set_option maxHeartbeats 40000000 in
theorem rm_dig {l : Launch} {Z : State} {a0 : Array Value} (hw : ∀ d ∈ tables_1, d.before a0 Z = true) {x0 tb : Addr} {kb : ClassId} {ls : List Int32} {iN yN : Nat} {cz : Int32} {fm : Value} {dO : Addr} {kO : ClassId} {dT : Addr} {kT : ClassId} {h0 : Heap} {n0 : Nat} (O : Old Z n0 h0) (W : Wd Z cz fm dO kO dT kT) (S0 : Sx Z h0 x0 tb kb ls) (h19 : ls.length < 200) (hgd : Gd ls) (hil : iN < ls.length) (hy : yN ≤ 9223372036854775808) (hd : ls.getD iN 0 = o32 (48 + yN % 10)) :
    Met1 l Z (⟨"com/example/large_table_updates/largetableupdates/RunResultSummaryPinLaw", "dig", "(Ljava/lang/String;IJ)Z"⟩ : MethodName) method_5_code 4 (some .boolean) ({ frames := 4, cells := 0, slots := 0, locals := 53 } : Room) #[(.ref x0), (.int (o32 iN)), (.long (nx yN))] h0 n0 (fun v h => v = .int 1 ∧ h0 = h) := by
  refine met_of (L := #[.val (.ref x0), .val (.int (o32 iN)), .val (.long (nx yN)), .second]) (plainFor_of_name pn_458) (fun m => by first | (simp [entryFrame, mkF, argsToLocals, Value.category]; done) | rfl) ?_
  intro p e s m below meth c T C X
  change Cx p s m meth c Z "com/example/large_table_updates/largetableupdates/RunResultSummaryPinLaw" method_5_code 4 (some .boolean) "dig" at C
  refine g_aloadN C X d44_0 (q := 1) rfl rfl rfl ?_
  refine g_iloadN C X d44_1 (q := 2) rfl rfl ?_
  refine g_callV1 C X (y := (⟨"java/lang/String", "charAt", "(I)C"⟩ : MethodName)) (z := (⟨"java/lang/String", "charAt", "(I)C"⟩ : MethodName)) (a := x0) (by decide) (w226 hw) (w227 hw) (w229 hw) (w228 hw) (nf_sel (w229 hw)) S0.1 (w230 hw) (w27 hw) (rm_chr hw (x0 := x0) (tb := tb) (kb := kb) (ls := ls) (iN := iN) O W ⟨S0.1, S0.2.1, S0.2.2.1, S0.2.2.2⟩ h19 hgd (by omega)) (W := 0) (by decide) (by decide) (k' := 0) rfl (n' := 0) rfl (by decide) (by decide) rfl pd_520 (argsL := [(.int (o32 iN))]) rfl (rest := []) rfl rfl rfl d44_2 (q := 5) rfl ?_
  rintro _ T1 _ X2 ⟨rfl, rfl⟩
  refine g_bipush C X2 d44_5 (q := 7) rfl (z := (48 : Int32)) rfl ?_
  refine g_lloadN C X2 d44_7 (q := 8) rfl rfl ?_
  refine g_ldcJ C X2 (w254 hw) d44_8 (q := 11) rfl ?_
  refine g_lrem C X2 d44_11 (q := 12) rfl (by decide) (z := ((nx yN) % (10 : Int64))) rfl ?_
  refine g_l2i C X2 d44_12 (q := 13) rfl (z := (((nx yN) % (10 : Int64)).toInt32)) rfl ?_
  refine g_isub C X2 d44_13 (q := 14) rfl (z := (o32 (48 + yN % 10))) (dgE hy) ?_
  refine g_i2c C X2 d44_14 (q := 15) rfl (z := (o32 (48 + yN % 10))) (own_i2c (o32_gd (n := 48 + yN % 10) (by omega)).1 (o32_gd (n := 48 + yN % 10) (by omega)).2 (by decide) (by decide)) ?_
  refine g_icN C X2 d44_15 (q := 18) rfl (teq hd).2 ?_
  refine g_iconst C X2 d44_18 (q := 19) rfl (z := (1 : Int32)) rfl ?_
  refine g_goto C X2 d44_19 (by decide) (q := 23) (by decide) ?_
  exact g_retN C X2 (Or.inl rfl) (z' := 1) (by decide) d44_23 (by decide) (by decide) ⟨_, rfl, rfl, rfl⟩
set_option maxRecDepth 65536 in
set_option maxHeartbeats 40000000 in
theorem rm_naJ {l : Launch} {Z : State} {a0 : Array Value} (hw : ∀ d ∈ tables_1, d.before a0 Z = true) {x0 tb : Addr} {kb : ClassId} {ls : List Int32} {eN xN sgN : Nat} {vL : Int64} {cz : Int32} {fm : Value} {dO : Addr} {kO : ClassId} {dT : Addr} {kT : ClassId} {h0 : Heap} {n0 : Nat} {p : Program} {e : Env} {s : State} {m : MethodId} {below : List Frame} {meth : Method} {c : Code} {args : Array Value} {T : State} (W : Wd Z cz fm dO kO dT kT) (S0 : Sx Z h0 x0 tb kb ls) (h19 : ls.length < 200) (hgd : Gd ls) (hx : xN ≤ 9223372036854775808) (hsg : sgN = 0 ∨ sgN = 1) (he1 : (NB xN sgN).length ≤ eN) (he2 : eN ≤ ls.length) (hdg : ∀ i, i < (DG xN).length → ls.getD (eN - 1 - i) 0 = o32 (48 + xN / 10 ^ i % 10)) (hsgn : sgN = 1 → ls.getD (eN - 1 - (DG xN).length) 0 = 45) (C : Cx p s m meth c Z "com/example/large_table_updates/largetableupdates/RunResultSummaryPinLaw" method_6_code 10 (some .boolean) "numAt") (X : St p l e ({ frames := 5, cells := 0, slots := 0, locals := 68 } : Room) s m args below meth c n0 T h0 0 0) (O : Old Z n0 h0) :
    Goes p e below (FinN (fun v h => ∃ w, v = some w ∧ (fun v h => v = .int 1 ∧ h0 = h) w h) s n0 0 0) (T.setTop (mkF m 26 #[.val (.ref x0), .val (.int (o32 eN)), .val (.long vL), .second, .val (.int (o32 sgN)), .val (.long (nx xN)), .second, .unset, .unset, .unset] [])) := by
  have hnl := NB_len xN sgN
  have hp0 := DG_pos xN
  refine g_lload C X d43_26 (q := 28) rfl rfl ?_
  refine g_callS1 C X (y := (⟨"com/example/large_table_updates/largetableupdates/RunResultSummaryPinLaw", "digits", "(J)I"⟩ : MethodName)) (by decide) (w199 hw) (w200 hw) (w201 hw) (w197 hw) (rm_digits hw (xN := xN) O W hx) (W := 0) (by decide) (by decide) (k' := 0) rfl (n' := 0) rfl (by decide) (by decide) rfl pd_465 (argsL := [(.long (nx xN))]) rfl (rest := []) rfl rfl rfl d43_28 (q := 31) rfl ?_
  rintro _ T1 _ X2 ⟨rfl, rfl⟩
  refine g_istore C X2 d43_31 (q := 33) rfl (L' := #[.val (.ref x0), .val (.int (o32 eN)), .val (.long vL), .second, .val (.int (o32 sgN)), .val (.long (nx xN)), .second, .val (.int (o32 (DG xN).length)), .unset, .unset]) rfl ?_
  refine g_iloadN C X2 d43_33 (q := 34) rfl rfl ?_
  refine g_iconst C X2 d43_34 (q := 35) rfl (z := (1 : Int32)) rfl ?_
  refine g_isub C X2 d43_35 (q := 36) rfl (z := (o32 (eN - 1))) (r_sub eN (by omega) 1 (by omega)) ?_
  refine g_istore C X2 d43_36 (q := 38) rfl (L' := #[.val (.ref x0), .val (.int (o32 eN)), .val (.long vL), .second, .val (.int (o32 sgN)), .val (.long (nx xN)), .second, .val (.int (o32 (DG xN).length)), .val (.int (o32 (eN - 1))), .unset]) rfl ?_
  refine g_aloadN C X2 d43_38 (q := 39) rfl rfl rfl ?_
  refine g_iload C X2 d43_39 (q := 41) rfl rfl ?_
  refine g_lload C X2 d43_41 (q := 43) rfl rfl ?_
  have hp3 := DG_pos xN
  refine g_callS1 C X2 (y := (⟨"com/example/large_table_updates/largetableupdates/RunResultSummaryPinLaw", "dig", "(Ljava/lang/String;IJ)Z"⟩ : MethodName)) (by decide) (w251 hw) (w252 hw) (w253 hw) (w197 hw) (rm_dig hw (iN := (eN - 1)) (yN := xN) O W ⟨S0.1, S0.2.1, S0.2.2.1, S0.2.2.2⟩ h19 hgd (by omega) hx (by have := hdg 0 (DG_pos xN); simpa using this)) (W := 0) (by decide) (by decide) (k' := 0) rfl (n' := 0) rfl (by decide) (by decide) rfl pd_543 (argsL := [(.ref x0), (.int (o32 (eN - 1))), (.long (nx xN))]) rfl (rest := []) rfl rfl rfl d43_43 (q := 46) rfl ?_
  rintro _ T4 _ X5 ⟨rfl, rfl⟩
  refine g_istore C X5 d43_46 (q := 48) rfl (L' := #[.val (.ref x0), .val (.int (o32 eN)), .val (.long vL), .second, .val (.int (o32 sgN)), .val (.long (nx xN)), .second, .val (.int (o32 (DG xN).length)), .val (.int (o32 (eN - 1))), .val (.int (1 : Int32))]) rfl ?_
  refine g_iload C X5 d43_48 (q := 50) rfl rfl ?_
  refine g_iconst C X5 d43_50 (q := 51) rfl (z := (1 : Int32)) rfl ?_
  by_cases hc6 : (1 : Int32) < (o32 (DG xN).length)
  rotate_left
  · refine g_icY C X5 d43_51 (by decide) (q := 83) (by decide) (flt hc6).2.2.2 ?_
    refine g_iload C X5 d43_83 (q := 85) rfl rfl ?_
    refine g_iconst C X5 d43_85 (q := 86) rfl (z := (2 : Int32)) rfl ?_
    refine g_icY C X5 d43_86 (by decide) (q := 118) (by decide) (flt (own_nlt (i := 1) (j := 2) (by decide) (by decide) hc6 (by have := DG_19 hx; omega))).2.2.2 ?_
    refine g_iload C X5 d43_118 (q := 120) rfl rfl ?_
    refine g_iconst C X5 d43_120 (q := 121) rfl (z := (3 : Int32)) rfl ?_
    refine g_icY C X5 d43_121 (by decide) (q := 153) (by decide) (flt (own_nlt (i := 1) (j := 3) (by decide) (by decide) hc6 (by have := DG_19 hx; omega))).2.2.2 ?_
    refine g_iload C X5 d43_153 (q := 155) rfl rfl ?_
    refine g_iconst C X5 d43_155 (q := 156) rfl (z := (4 : Int32)) rfl ?_
    refine g_icY C X5 d43_156 (by decide) (q := 188) (by decide) (flt (own_nlt (i := 1) (j := 4) (by decide) (by decide) hc6 (by have := DG_19 hx; omega))).2.2.2 ?_
    refine g_iload C X5 d43_188 (q := 190) rfl rfl ?_
    refine g_iconst C X5 d43_190 (q := 191) rfl (z := (5 : Int32)) rfl ?_
    refine g_icY C X5 d43_191 (by decide) (q := 223) (by decide) (flt (own_nlt (i := 1) (j := 5) (by decide) (by decide) hc6 (by have := DG_19 hx; omega))).2.2.2 ?_
    refine g_iload C X5 d43_223 (q := 225) rfl rfl ?_
    refine g_bipush C X5 d43_225 (q := 227) rfl (z := (6 : Int32)) rfl ?_
    refine g_icY C X5 d43_227 (by decide) (q := 260) (by decide) (flt (own_nlt (i := 1) (j := 6) (by decide) (by decide) hc6 (by have := DG_19 hx; omega))).2.2.2 ?_
    refine g_iload C X5 d43_260 (q := 262) rfl rfl ?_
    refine g_bipush C X5 d43_262 (q := 264) rfl (z := (7 : Int32)) rfl ?_
    refine g_icY C X5 d43_264 (by decide) (q := 297) (by decide) (flt (own_nlt (i := 1) (j := 7) (by decide) (by decide) hc6 (by have := DG_19 hx; omega))).2.2.2 ?_
    refine g_iload C X5 d43_297 (q := 299) rfl rfl ?_
    refine g_bipush C X5 d43_299 (q := 301) rfl (z := (8 : Int32)) rfl ?_
    refine g_icY C X5 d43_301 (by decide) (q := 334) (by decide) (flt (own_nlt (i := 1) (j := 8) (by decide) (by decide) hc6 (by have := DG_19 hx; omega))).2.2.2 ?_
    refine g_iload C X5 d43_334 (q := 336) rfl rfl ?_
    refine g_bipush C X5 d43_336 (q := 338) rfl (z := (9 : Int32)) rfl ?_
    refine g_icY C X5 d43_338 (by decide) (q := 371) (by decide) (flt (own_nlt (i := 1) (j := 9) (by decide) (by decide) hc6 (by have := DG_19 hx; omega))).2.2.2 ?_
    refine g_iload C X5 d43_371 (q := 373) rfl rfl ?_
    refine g_bipush C X5 d43_373 (q := 375) rfl (z := (10 : Int32)) rfl ?_
    refine g_icY C X5 d43_375 (by decide) (q := 408) (by decide) (flt (own_nlt (i := 1) (j := 10) (by decide) (by decide) hc6 (by have := DG_19 hx; omega))).2.2.2 ?_
    refine g_iload C X5 d43_408 (q := 410) rfl rfl ?_
    refine g_bipush C X5 d43_410 (q := 412) rfl (z := (11 : Int32)) rfl ?_
    refine g_icY C X5 d43_412 (by decide) (q := 445) (by decide) (flt (own_nlt (i := 1) (j := 11) (by decide) (by decide) hc6 (by have := DG_19 hx; omega))).2.2.2 ?_
    refine g_iload C X5 d43_445 (q := 447) rfl rfl ?_
    refine g_bipush C X5 d43_447 (q := 449) rfl (z := (12 : Int32)) rfl ?_
    refine g_icY C X5 d43_449 (by decide) (q := 482) (by decide) (flt (own_nlt (i := 1) (j := 12) (by decide) (by decide) hc6 (by have := DG_19 hx; omega))).2.2.2 ?_
    refine g_iload C X5 d43_482 (q := 484) rfl rfl ?_
    refine g_bipush C X5 d43_484 (q := 486) rfl (z := (13 : Int32)) rfl ?_
    refine g_icY C X5 d43_486 (by decide) (q := 519) (by decide) (flt (own_nlt (i := 1) (j := 13) (by decide) (by decide) hc6 (by have := DG_19 hx; omega))).2.2.2 ?_
    refine g_iload C X5 d43_519 (q := 521) rfl rfl ?_
    refine g_bipush C X5 d43_521 (q := 523) rfl (z := (14 : Int32)) rfl ?_
    refine g_icY C X5 d43_523 (by decide) (q := 556) (by decide) (flt (own_nlt (i := 1) (j := 14) (by decide) (by decide) hc6 (by have := DG_19 hx; omega))).2.2.2 ?_
    refine g_iload C X5 d43_556 (q := 558) rfl rfl ?_
    refine g_bipush C X5 d43_558 (q := 560) rfl (z := (15 : Int32)) rfl ?_
    refine g_icY C X5 d43_560 (by decide) (q := 593) (by decide) (flt (own_nlt (i := 1) (j := 15) (by decide) (by decide) hc6 (by have := DG_19 hx; omega))).2.2.2 ?_
    refine g_iload C X5 d43_593 (q := 595) rfl rfl ?_
    refine g_bipush C X5 d43_595 (q := 597) rfl (z := (16 : Int32)) rfl ?_
    refine g_icY C X5 d43_597 (by decide) (q := 630) (by decide) (flt (own_nlt (i := 1) (j := 16) (by decide) (by decide) hc6 (by have := DG_19 hx; omega))).2.2.2 ?_
    refine g_iload C X5 d43_630 (q := 632) rfl rfl ?_
    refine g_bipush C X5 d43_632 (q := 634) rfl (z := (17 : Int32)) rfl ?_
    refine g_icY C X5 d43_634 (by decide) (q := 667) (by decide) (flt (own_nlt (i := 1) (j := 17) (by decide) (by decide) hc6 (by have := DG_19 hx; omega))).2.2.2 ?_
    refine g_iload C X5 d43_667 (q := 669) rfl rfl ?_
    refine g_bipush C X5 d43_669 (q := 671) rfl (z := (18 : Int32)) rfl ?_
    refine g_icY C X5 d43_671 (by decide) (q := 704) (by decide) (flt (own_nlt (i := 1) (j := 18) (by decide) (by decide) hc6 (by have := DG_19 hx; omega))).2.2.2 ?_
    refine g_iload C X5 d43_704 (q := 706) rfl rfl ?_
    by_cases hc7 : (o32 sgN) = (0 : Int32)
    rotate_left
    · refine g_ifN C X5 d43_706 (q := 709) rfl (feq hc7).1 ?_
      obtain rfl : sgN = 1 := hsg.elim (fun z => by subst z; exact absurd rfl hc7) id
      refine g_iload C X5 d43_709 (q := 711) rfl rfl ?_
      refine g_ifN C X5 d43_711 (q := 714) rfl (by decide) ?_
      refine g_aloadN C X5 d43_714 (q := 715) rfl rfl rfl ?_
      refine g_iload C X5 d43_715 (q := 717) rfl rfl ?_
      refine g_iload C X5 d43_717 (q := 719) rfl rfl ?_
      refine g_isub C X5 d43_719 (q := 720) rfl (z := (o32 (eN - 1 - (DG xN).length))) (r_sub (eN - 1) (by omega) _ (by omega)) ?_
      refine g_callV1 C X5 (y := (⟨"java/lang/String", "charAt", "(I)C"⟩ : MethodName)) (z := (⟨"java/lang/String", "charAt", "(I)C"⟩ : MethodName)) (a := x0) (by decide) (w226 hw) (w227 hw) (w229 hw) (w228 hw) (nf_sel (w229 hw)) S0.1 (w230 hw) (w27 hw) (rm_chr hw (x0 := x0) (tb := tb) (kb := kb) (ls := ls) (iN := (eN - 1 - (DG xN).length)) O W ⟨S0.1, S0.2.1, S0.2.2.1, S0.2.2.2⟩ h19 hgd (by omega)) (W := 0) (by decide) (by decide) (k' := 0) rfl (n' := 0) rfl (by decide) (by decide) rfl pd_520 (argsL := [(.int (o32 (eN - 1 - (DG xN).length)))]) rfl (rest := []) rfl rfl rfl d43_720 (q := 723) rfl ?_
      rintro _ T8 _ X9 ⟨rfl, rfl⟩
      refine g_bipush C X9 d43_723 (q := 725) rfl (z := (45 : Int32)) rfl ?_
      refine g_icN C X9 d43_725 (q := 728) rfl (teq (hsgn rfl)).2 ?_
      refine g_iconst C X9 d43_728 (q := 729) rfl (z := (1 : Int32)) rfl ?_
      refine g_goto C X9 d43_729 (by decide) (q := 733) (by decide) ?_
      refine g_istore C X9 d43_733 (q := 735) rfl (L' := #[.val (.ref x0), .val (.int (o32 eN)), .val (.long vL), .second, .val (.int (o32 1)), .val (.long (nx xN)), .second, .val (.int (o32 (DG xN).length)), .val (.int (o32 (eN - 1))), .val (.int (1 : Int32))]) rfl ?_
      refine g_iload C X9 d43_735 (q := 737) rfl rfl ?_
      exact g_retN C X9 (Or.inl rfl) (z' := 1) (by decide) d43_737 (by decide) (by decide) ⟨_, rfl, rfl, rfl⟩
    refine g_ifY C X5 d43_706 (by decide) (q := 735) (by decide) (teq hc7).1 ?_
    refine g_iload C X5 d43_735 (q := 737) rfl rfl ?_
    exact g_retN C X5 (Or.inl rfl) (z' := 1) (by decide) d43_737 (by decide) (by decide) ⟨_, rfl, rfl, rfl⟩
  refine g_icN C X5 d43_51 (q := 54) rfl (tlt hc6).2.2.2 ?_
  refine g_iload C X5 d43_54 (q := 56) rfl rfl ?_
  refine g_ifN C X5 d43_56 (q := 59) rfl (by decide) ?_
  refine g_aloadN C X5 d43_59 (q := 60) rfl rfl rfl ?_
  refine g_iload C X5 d43_60 (q := 62) rfl rfl ?_
  refine g_iconst C X5 d43_62 (q := 63) rfl (z := (1 : Int32)) rfl ?_
  have hk10 : 1 < (DG xN).length := (r_lt 1 (by decide) _ (by have := DG_19 hx; omega)).1 hc6
  refine g_isub C X5 d43_63 (q := 64) rfl (z := (o32 (eN - 1 - 1))) (r_sub (eN - 1) (by omega) 1 (by omega)) ?_
  refine g_lload C X5 d43_64 (q := 66) rfl rfl ?_
  refine g_ldcJ C X5 (w254 hw) d43_66 (q := 69) rfl ?_
  refine g_ldiv C X5 d43_69 (q := 70) rfl (by decide) (z := (nx (xN / 10))) (nxdiv hx (P := 10) (by decide)) ?_
  have hp11 := DG_pos xN
  refine g_callS1 C X5 (y := (⟨"com/example/large_table_updates/largetableupdates/RunResultSummaryPinLaw", "dig", "(Ljava/lang/String;IJ)Z"⟩ : MethodName)) (by decide) (w251 hw) (w252 hw) (w253 hw) (w197 hw) (rm_dig hw (iN := (eN - 1 - 1)) (yN := (xN / 10)) O W ⟨S0.1, S0.2.1, S0.2.2.1, S0.2.2.2⟩ h19 hgd (by omega) (Nat.le_trans (Nat.div_le_self ..) hx) (hdg 1 hk10)) (W := 0) (by decide) (by decide) (k' := 0) rfl (n' := 0) rfl (by decide) (by decide) rfl pd_543 (argsL := [(.ref x0), (.int (o32 (eN - 1 - 1))), (.long (nx (xN / 10)))]) rfl (rest := []) rfl rfl rfl d43_70 (q := 73) rfl ?_
  rintro _ T12 _ X13 ⟨rfl, rfl⟩
  refine g_ifN C X13 d43_73 (q := 76) rfl (by decide) ?_
  refine g_iconst C X13 d43_76 (q := 77) rfl (z := (1 : Int32)) rfl ?_
  refine g_goto C X13 d43_77 (by decide) (q := 81) (by decide) ?_
  refine g_istore C X13 d43_81 (q := 83) rfl (L' := #[.val (.ref x0), .val (.int (o32 eN)), .val (.long vL), .second, .val (.int (o32 sgN)), .val (.long (nx xN)), .second, .val (.int (o32 (DG xN).length)), .val (.int (o32 (eN - 1))), .val (.int (1 : Int32))]) rfl ?_
  refine g_iload C X13 d43_83 (q := 85) rfl rfl ?_
  refine g_iconst C X13 d43_85 (q := 86) rfl (z := (2 : Int32)) rfl ?_
  by_cases hc14 : (2 : Int32) < (o32 (DG xN).length)
  rotate_left
  · refine g_icY C X13 d43_86 (by decide) (q := 118) (by decide) (flt hc14).2.2.2 ?_
    refine g_iload C X13 d43_118 (q := 120) rfl rfl ?_
    refine g_iconst C X13 d43_120 (q := 121) rfl (z := (3 : Int32)) rfl ?_
    refine g_icY C X13 d43_121 (by decide) (q := 153) (by decide) (flt (own_nlt (i := 2) (j := 3) (by decide) (by decide) hc14 (by have := DG_19 hx; omega))).2.2.2 ?_
    refine g_iload C X13 d43_153 (q := 155) rfl rfl ?_
    refine g_iconst C X13 d43_155 (q := 156) rfl (z := (4 : Int32)) rfl ?_
    refine g_icY C X13 d43_156 (by decide) (q := 188) (by decide) (flt (own_nlt (i := 2) (j := 4) (by decide) (by decide) hc14 (by have := DG_19 hx; omega))).2.2.2 ?_
    refine g_iload C X13 d43_188 (q := 190) rfl rfl ?_
    refine g_iconst C X13 d43_190 (q := 191) rfl (z := (5 : Int32)) rfl ?_
    refine g_icY C X13 d43_191 (by decide) (q := 223) (by decide) (flt (own_nlt (i := 2) (j := 5) (by decide) (by decide) hc14 (by have := DG_19 hx; omega))).2.2.2 ?_
    refine g_iload C X13 d43_223 (q := 225) rfl rfl ?_
    refine g_bipush C X13 d43_225 (q := 227) rfl (z := (6 : Int32)) rfl ?_
    refine g_icY C X13 d43_227 (by decide) (q := 260) (by decide) (flt (own_nlt (i := 2) (j := 6) (by decide) (by decide) hc14 (by have := DG_19 hx; omega))).2.2.2 ?_
    refine g_iload C X13 d43_260 (q := 262) rfl rfl ?_
    refine g_bipush C X13 d43_262 (q := 264) rfl (z := (7 : Int32)) rfl ?_
    refine g_icY C X13 d43_264 (by decide) (q := 297) (by decide) (flt (own_nlt (i := 2) (j := 7) (by decide) (by decide) hc14 (by have := DG_19 hx; omega))).2.2.2 ?_
    refine g_iload C X13 d43_297 (q := 299) rfl rfl ?_
    refine g_bipush C X13 d43_299 (q := 301) rfl (z := (8 : Int32)) rfl ?_
    refine g_icY C X13 d43_301 (by decide) (q := 334) (by decide) (flt (own_nlt (i := 2) (j := 8) (by decide) (by decide) hc14 (by have := DG_19 hx; omega))).2.2.2 ?_
    refine g_iload C X13 d43_334 (q := 336) rfl rfl ?_
    refine g_bipush C X13 d43_336 (q := 338) rfl (z := (9 : Int32)) rfl ?_
    refine g_icY C X13 d43_338 (by decide) (q := 371) (by decide) (flt (own_nlt (i := 2) (j := 9) (by decide) (by decide) hc14 (by have := DG_19 hx; omega))).2.2.2 ?_
    refine g_iload C X13 d43_371 (q := 373) rfl rfl ?_
    refine g_bipush C X13 d43_373 (q := 375) rfl (z := (10 : Int32)) rfl ?_
    refine g_icY C X13 d43_375 (by decide) (q := 408) (by decide) (flt (own_nlt (i := 2) (j := 10) (by decide) (by decide) hc14 (by have := DG_19 hx; omega))).2.2.2 ?_
    refine g_iload C X13 d43_408 (q := 410) rfl rfl ?_
    refine g_bipush C X13 d43_410 (q := 412) rfl (z := (11 : Int32)) rfl ?_
    refine g_icY C X13 d43_412 (by decide) (q := 445) (by decide) (flt (own_nlt (i := 2) (j := 11) (by decide) (by decide) hc14 (by have := DG_19 hx; omega))).2.2.2 ?_
    refine g_iload C X13 d43_445 (q := 447) rfl rfl ?_
    refine g_bipush C X13 d43_447 (q := 449) rfl (z := (12 : Int32)) rfl ?_
    refine g_icY C X13 d43_449 (by decide) (q := 482) (by decide) (flt (own_nlt (i := 2) (j := 12) (by decide) (by decide) hc14 (by have := DG_19 hx; omega))).2.2.2 ?_
    refine g_iload C X13 d43_482 (q := 484) rfl rfl ?_
    refine g_bipush C X13 d43_484 (q := 486) rfl (z := (13 : Int32)) rfl ?_
    refine g_icY C X13 d43_486 (by decide) (q := 519) (by decide) (flt (own_nlt (i := 2) (j := 13) (by decide) (by decide) hc14 (by have := DG_19 hx; omega))).2.2.2 ?_
    refine g_iload C X13 d43_519 (q := 521) rfl rfl ?_
    refine g_bipush C X13 d43_521 (q := 523) rfl (z := (14 : Int32)) rfl ?_
    refine g_icY C X13 d43_523 (by decide) (q := 556) (by decide) (flt (own_nlt (i := 2) (j := 14) (by decide) (by decide) hc14 (by have := DG_19 hx; omega))).2.2.2 ?_
    refine g_iload C X13 d43_556 (q := 558) rfl rfl ?_
    refine g_bipush C X13 d43_558 (q := 560) rfl (z := (15 : Int32)) rfl ?_
    refine g_icY C X13 d43_560 (by decide) (q := 593) (by decide) (flt (own_nlt (i := 2) (j := 15) (by decide) (by decide) hc14 (by have := DG_19 hx; omega))).2.2.2 ?_
    refine g_iload C X13 d43_593 (q := 595) rfl rfl ?_
    refine g_bipush C X13 d43_595 (q := 597) rfl (z := (16 : Int32)) rfl ?_
    refine g_icY C X13 d43_597 (by decide) (q := 630) (by decide) (flt (own_nlt (i := 2) (j := 16) (by decide) (by decide) hc14 (by have := DG_19 hx; omega))).2.2.2 ?_
    refine g_iload C X13 d43_630 (q := 632) rfl rfl ?_
    refine g_bipush C X13 d43_632 (q := 634) rfl (z := (17 : Int32)) rfl ?_
    refine g_icY C X13 d43_634 (by decide) (q := 667) (by decide) (flt (own_nlt (i := 2) (j := 17) (by decide) (by decide) hc14 (by have := DG_19 hx; omega))).2.2.2 ?_
    refine g_iload C X13 d43_667 (q := 669) rfl rfl ?_
    refine g_bipush C X13 d43_669 (q := 671) rfl (z := (18 : Int32)) rfl ?_
    refine g_icY C X13 d43_671 (by decide) (q := 704) (by decide) (flt (own_nlt (i := 2) (j := 18) (by decide) (by decide) hc14 (by have := DG_19 hx; omega))).2.2.2 ?_
    refine g_iload C X13 d43_704 (q := 706) rfl rfl ?_
    by_cases hc15 : (o32 sgN) = (0 : Int32)
    rotate_left
    · refine g_ifN C X13 d43_706 (q := 709) rfl (feq hc15).1 ?_
      obtain rfl : sgN = 1 := hsg.elim (fun z => by subst z; exact absurd rfl hc15) id
      refine g_iload C X13 d43_709 (q := 711) rfl rfl ?_
      refine g_ifN C X13 d43_711 (q := 714) rfl (by decide) ?_
      refine g_aloadN C X13 d43_714 (q := 715) rfl rfl rfl ?_
      refine g_iload C X13 d43_715 (q := 717) rfl rfl ?_
      refine g_iload C X13 d43_717 (q := 719) rfl rfl ?_
      refine g_isub C X13 d43_719 (q := 720) rfl (z := (o32 (eN - 1 - (DG xN).length))) (r_sub (eN - 1) (by omega) _ (by omega)) ?_
      refine g_callV1 C X13 (y := (⟨"java/lang/String", "charAt", "(I)C"⟩ : MethodName)) (z := (⟨"java/lang/String", "charAt", "(I)C"⟩ : MethodName)) (a := x0) (by decide) (w226 hw) (w227 hw) (w229 hw) (w228 hw) (nf_sel (w229 hw)) S0.1 (w230 hw) (w27 hw) (rm_chr hw (x0 := x0) (tb := tb) (kb := kb) (ls := ls) (iN := (eN - 1 - (DG xN).length)) O W ⟨S0.1, S0.2.1, S0.2.2.1, S0.2.2.2⟩ h19 hgd (by omega)) (W := 0) (by decide) (by decide) (k' := 0) rfl (n' := 0) rfl (by decide) (by decide) rfl pd_520 (argsL := [(.int (o32 (eN - 1 - (DG xN).length)))]) rfl (rest := []) rfl rfl rfl d43_720 (q := 723) rfl ?_
      rintro _ T16 _ X17 ⟨rfl, rfl⟩
      refine g_bipush C X17 d43_723 (q := 725) rfl (z := (45 : Int32)) rfl ?_
      refine g_icN C X17 d43_725 (q := 728) rfl (teq (hsgn rfl)).2 ?_
      refine g_iconst C X17 d43_728 (q := 729) rfl (z := (1 : Int32)) rfl ?_
      refine g_goto C X17 d43_729 (by decide) (q := 733) (by decide) ?_
      refine g_istore C X17 d43_733 (q := 735) rfl (L' := #[.val (.ref x0), .val (.int (o32 eN)), .val (.long vL), .second, .val (.int (o32 1)), .val (.long (nx xN)), .second, .val (.int (o32 (DG xN).length)), .val (.int (o32 (eN - 1))), .val (.int (1 : Int32))]) rfl ?_
      refine g_iload C X17 d43_735 (q := 737) rfl rfl ?_
      exact g_retN C X17 (Or.inl rfl) (z' := 1) (by decide) d43_737 (by decide) (by decide) ⟨_, rfl, rfl, rfl⟩
    refine g_ifY C X13 d43_706 (by decide) (q := 735) (by decide) (teq hc15).1 ?_
    refine g_iload C X13 d43_735 (q := 737) rfl rfl ?_
    exact g_retN C X13 (Or.inl rfl) (z' := 1) (by decide) d43_737 (by decide) (by decide) ⟨_, rfl, rfl, rfl⟩
  refine g_icN C X13 d43_86 (q := 89) rfl (tlt hc14).2.2.2 ?_
  refine g_iload C X13 d43_89 (q := 91) rfl rfl ?_
  refine g_ifN C X13 d43_91 (q := 94) rfl (by decide) ?_
  refine g_aloadN C X13 d43_94 (q := 95) rfl rfl rfl ?_
  refine g_iload C X13 d43_95 (q := 97) rfl rfl ?_
  refine g_iconst C X13 d43_97 (q := 98) rfl (z := (2 : Int32)) rfl ?_
  have hk18 : 2 < (DG xN).length := (r_lt 2 (by decide) _ (by have := DG_19 hx; omega)).1 hc14
  refine g_isub C X13 d43_98 (q := 99) rfl (z := (o32 (eN - 1 - 2))) (r_sub (eN - 1) (by omega) 2 (by omega)) ?_
  refine g_lload C X13 d43_99 (q := 101) rfl rfl ?_
  refine g_ldcJ C X13 (w260 hw) d43_101 (q := 104) rfl ?_
  refine g_ldiv C X13 d43_104 (q := 105) rfl (by decide) (z := (nx (xN / 100))) (nxdiv hx (P := 100) (by decide)) ?_
  have hp19 := DG_pos xN
  refine g_callS1 C X13 (y := (⟨"com/example/large_table_updates/largetableupdates/RunResultSummaryPinLaw", "dig", "(Ljava/lang/String;IJ)Z"⟩ : MethodName)) (by decide) (w251 hw) (w252 hw) (w253 hw) (w197 hw) (rm_dig hw (iN := (eN - 1 - 2)) (yN := (xN / 100)) O W ⟨S0.1, S0.2.1, S0.2.2.1, S0.2.2.2⟩ h19 hgd (by omega) (Nat.le_trans (Nat.div_le_self ..) hx) (hdg 2 hk18)) (W := 0) (by decide) (by decide) (k' := 0) rfl (n' := 0) rfl (by decide) (by decide) rfl pd_543 (argsL := [(.ref x0), (.int (o32 (eN - 1 - 2))), (.long (nx (xN / 100)))]) rfl (rest := []) rfl rfl rfl d43_105 (q := 108) rfl ?_
  rintro _ T20 _ X21 ⟨rfl, rfl⟩
  refine g_ifN C X21 d43_108 (q := 111) rfl (by decide) ?_
  refine g_iconst C X21 d43_111 (q := 112) rfl (z := (1 : Int32)) rfl ?_
  refine g_goto C X21 d43_112 (by decide) (q := 116) (by decide) ?_
  refine g_istore C X21 d43_116 (q := 118) rfl (L' := #[.val (.ref x0), .val (.int (o32 eN)), .val (.long vL), .second, .val (.int (o32 sgN)), .val (.long (nx xN)), .second, .val (.int (o32 (DG xN).length)), .val (.int (o32 (eN - 1))), .val (.int (1 : Int32))]) rfl ?_
  refine g_iload C X21 d43_118 (q := 120) rfl rfl ?_
  refine g_iconst C X21 d43_120 (q := 121) rfl (z := (3 : Int32)) rfl ?_
  by_cases hc22 : (3 : Int32) < (o32 (DG xN).length)
  rotate_left
  · refine g_icY C X21 d43_121 (by decide) (q := 153) (by decide) (flt hc22).2.2.2 ?_
    refine g_iload C X21 d43_153 (q := 155) rfl rfl ?_
    refine g_iconst C X21 d43_155 (q := 156) rfl (z := (4 : Int32)) rfl ?_
    refine g_icY C X21 d43_156 (by decide) (q := 188) (by decide) (flt (own_nlt (i := 3) (j := 4) (by decide) (by decide) hc22 (by have := DG_19 hx; omega))).2.2.2 ?_
    refine g_iload C X21 d43_188 (q := 190) rfl rfl ?_
    refine g_iconst C X21 d43_190 (q := 191) rfl (z := (5 : Int32)) rfl ?_
    refine g_icY C X21 d43_191 (by decide) (q := 223) (by decide) (flt (own_nlt (i := 3) (j := 5) (by decide) (by decide) hc22 (by have := DG_19 hx; omega))).2.2.2 ?_
    refine g_iload C X21 d43_223 (q := 225) rfl rfl ?_
    refine g_bipush C X21 d43_225 (q := 227) rfl (z := (6 : Int32)) rfl ?_
    refine g_icY C X21 d43_227 (by decide) (q := 260) (by decide) (flt (own_nlt (i := 3) (j := 6) (by decide) (by decide) hc22 (by have := DG_19 hx; omega))).2.2.2 ?_
    refine g_iload C X21 d43_260 (q := 262) rfl rfl ?_
    refine g_bipush C X21 d43_262 (q := 264) rfl (z := (7 : Int32)) rfl ?_
    refine g_icY C X21 d43_264 (by decide) (q := 297) (by decide) (flt (own_nlt (i := 3) (j := 7) (by decide) (by decide) hc22 (by have := DG_19 hx; omega))).2.2.2 ?_
    refine g_iload C X21 d43_297 (q := 299) rfl rfl ?_
    refine g_bipush C X21 d43_299 (q := 301) rfl (z := (8 : Int32)) rfl ?_
    refine g_icY C X21 d43_301 (by decide) (q := 334) (by decide) (flt (own_nlt (i := 3) (j := 8) (by decide) (by decide) hc22 (by have := DG_19 hx; omega))).2.2.2 ?_
    refine g_iload C X21 d43_334 (q := 336) rfl rfl ?_
    refine g_bipush C X21 d43_336 (q := 338) rfl (z := (9 : Int32)) rfl ?_
    refine g_icY C X21 d43_338 (by decide) (q := 371) (by decide) (flt (own_nlt (i := 3) (j := 9) (by decide) (by decide) hc22 (by have := DG_19 hx; omega))).2.2.2 ?_
    refine g_iload C X21 d43_371 (q := 373) rfl rfl ?_
    refine g_bipush C X21 d43_373 (q := 375) rfl (z := (10 : Int32)) rfl ?_
    refine g_icY C X21 d43_375 (by decide) (q := 408) (by decide) (flt (own_nlt (i := 3) (j := 10) (by decide) (by decide) hc22 (by have := DG_19 hx; omega))).2.2.2 ?_
    refine g_iload C X21 d43_408 (q := 410) rfl rfl ?_
    refine g_bipush C X21 d43_410 (q := 412) rfl (z := (11 : Int32)) rfl ?_
    refine g_icY C X21 d43_412 (by decide) (q := 445) (by decide) (flt (own_nlt (i := 3) (j := 11) (by decide) (by decide) hc22 (by have := DG_19 hx; omega))).2.2.2 ?_
    refine g_iload C X21 d43_445 (q := 447) rfl rfl ?_
    refine g_bipush C X21 d43_447 (q := 449) rfl (z := (12 : Int32)) rfl ?_
    refine g_icY C X21 d43_449 (by decide) (q := 482) (by decide) (flt (own_nlt (i := 3) (j := 12) (by decide) (by decide) hc22 (by have := DG_19 hx; omega))).2.2.2 ?_
    refine g_iload C X21 d43_482 (q := 484) rfl rfl ?_
    refine g_bipush C X21 d43_484 (q := 486) rfl (z := (13 : Int32)) rfl ?_
    refine g_icY C X21 d43_486 (by decide) (q := 519) (by decide) (flt (own_nlt (i := 3) (j := 13) (by decide) (by decide) hc22 (by have := DG_19 hx; omega))).2.2.2 ?_
    refine g_iload C X21 d43_519 (q := 521) rfl rfl ?_
    refine g_bipush C X21 d43_521 (q := 523) rfl (z := (14 : Int32)) rfl ?_
    refine g_icY C X21 d43_523 (by decide) (q := 556) (by decide) (flt (own_nlt (i := 3) (j := 14) (by decide) (by decide) hc22 (by have := DG_19 hx; omega))).2.2.2 ?_
    refine g_iload C X21 d43_556 (q := 558) rfl rfl ?_
    refine g_bipush C X21 d43_558 (q := 560) rfl (z := (15 : Int32)) rfl ?_
    refine g_icY C X21 d43_560 (by decide) (q := 593) (by decide) (flt (own_nlt (i := 3) (j := 15) (by decide) (by decide) hc22 (by have := DG_19 hx; omega))).2.2.2 ?_
    refine g_iload C X21 d43_593 (q := 595) rfl rfl ?_
    refine g_bipush C X21 d43_595 (q := 597) rfl (z := (16 : Int32)) rfl ?_
    refine g_icY C X21 d43_597 (by decide) (q := 630) (by decide) (flt (own_nlt (i := 3) (j := 16) (by decide) (by decide) hc22 (by have := DG_19 hx; omega))).2.2.2 ?_
    refine g_iload C X21 d43_630 (q := 632) rfl rfl ?_
    refine g_bipush C X21 d43_632 (q := 634) rfl (z := (17 : Int32)) rfl ?_
    refine g_icY C X21 d43_634 (by decide) (q := 667) (by decide) (flt (own_nlt (i := 3) (j := 17) (by decide) (by decide) hc22 (by have := DG_19 hx; omega))).2.2.2 ?_
    refine g_iload C X21 d43_667 (q := 669) rfl rfl ?_
    refine g_bipush C X21 d43_669 (q := 671) rfl (z := (18 : Int32)) rfl ?_
    refine g_icY C X21 d43_671 (by decide) (q := 704) (by decide) (flt (own_nlt (i := 3) (j := 18) (by decide) (by decide) hc22 (by have := DG_19 hx; omega))).2.2.2 ?_
    refine g_iload C X21 d43_704 (q := 706) rfl rfl ?_
    by_cases hc23 : (o32 sgN) = (0 : Int32)
    rotate_left
    · refine g_ifN C X21 d43_706 (q := 709) rfl (feq hc23).1 ?_
      obtain rfl : sgN = 1 := hsg.elim (fun z => by subst z; exact absurd rfl hc23) id
      refine g_iload C X21 d43_709 (q := 711) rfl rfl ?_
      refine g_ifN C X21 d43_711 (q := 714) rfl (by decide) ?_
      refine g_aloadN C X21 d43_714 (q := 715) rfl rfl rfl ?_
      refine g_iload C X21 d43_715 (q := 717) rfl rfl ?_
      refine g_iload C X21 d43_717 (q := 719) rfl rfl ?_
      refine g_isub C X21 d43_719 (q := 720) rfl (z := (o32 (eN - 1 - (DG xN).length))) (r_sub (eN - 1) (by omega) _ (by omega)) ?_
      refine g_callV1 C X21 (y := (⟨"java/lang/String", "charAt", "(I)C"⟩ : MethodName)) (z := (⟨"java/lang/String", "charAt", "(I)C"⟩ : MethodName)) (a := x0) (by decide) (w226 hw) (w227 hw) (w229 hw) (w228 hw) (nf_sel (w229 hw)) S0.1 (w230 hw) (w27 hw) (rm_chr hw (x0 := x0) (tb := tb) (kb := kb) (ls := ls) (iN := (eN - 1 - (DG xN).length)) O W ⟨S0.1, S0.2.1, S0.2.2.1, S0.2.2.2⟩ h19 hgd (by omega)) (W := 0) (by decide) (by decide) (k' := 0) rfl (n' := 0) rfl (by decide) (by decide) rfl pd_520 (argsL := [(.int (o32 (eN - 1 - (DG xN).length)))]) rfl (rest := []) rfl rfl rfl d43_720 (q := 723) rfl ?_
      rintro _ T24 _ X25 ⟨rfl, rfl⟩
      refine g_bipush C X25 d43_723 (q := 725) rfl (z := (45 : Int32)) rfl ?_
      refine g_icN C X25 d43_725 (q := 728) rfl (teq (hsgn rfl)).2 ?_
      refine g_iconst C X25 d43_728 (q := 729) rfl (z := (1 : Int32)) rfl ?_
      refine g_goto C X25 d43_729 (by decide) (q := 733) (by decide) ?_
      refine g_istore C X25 d43_733 (q := 735) rfl (L' := #[.val (.ref x0), .val (.int (o32 eN)), .val (.long vL), .second, .val (.int (o32 1)), .val (.long (nx xN)), .second, .val (.int (o32 (DG xN).length)), .val (.int (o32 (eN - 1))), .val (.int (1 : Int32))]) rfl ?_
      refine g_iload C X25 d43_735 (q := 737) rfl rfl ?_
      exact g_retN C X25 (Or.inl rfl) (z' := 1) (by decide) d43_737 (by decide) (by decide) ⟨_, rfl, rfl, rfl⟩
    refine g_ifY C X21 d43_706 (by decide) (q := 735) (by decide) (teq hc23).1 ?_
    refine g_iload C X21 d43_735 (q := 737) rfl rfl ?_
    exact g_retN C X21 (Or.inl rfl) (z' := 1) (by decide) d43_737 (by decide) (by decide) ⟨_, rfl, rfl, rfl⟩
  refine g_icN C X21 d43_121 (q := 124) rfl (tlt hc22).2.2.2 ?_
  refine g_iload C X21 d43_124 (q := 126) rfl rfl ?_
  refine g_ifN C X21 d43_126 (q := 129) rfl (by decide) ?_
  refine g_aloadN C X21 d43_129 (q := 130) rfl rfl rfl ?_
  refine g_iload C X21 d43_130 (q := 132) rfl rfl ?_
  refine g_iconst C X21 d43_132 (q := 133) rfl (z := (3 : Int32)) rfl ?_
  have hk26 : 3 < (DG xN).length := (r_lt 3 (by decide) _ (by have := DG_19 hx; omega)).1 hc22
  refine g_isub C X21 d43_133 (q := 134) rfl (z := (o32 (eN - 1 - 3))) (r_sub (eN - 1) (by omega) 3 (by omega)) ?_
  refine g_lload C X21 d43_134 (q := 136) rfl rfl ?_
  refine g_ldcJ C X21 (w261 hw) d43_136 (q := 139) rfl ?_
  refine g_ldiv C X21 d43_139 (q := 140) rfl (by decide) (z := (nx (xN / 1000))) (nxdiv hx (P := 1000) (by decide)) ?_
  have hp27 := DG_pos xN
  refine g_callS1 C X21 (y := (⟨"com/example/large_table_updates/largetableupdates/RunResultSummaryPinLaw", "dig", "(Ljava/lang/String;IJ)Z"⟩ : MethodName)) (by decide) (w251 hw) (w252 hw) (w253 hw) (w197 hw) (rm_dig hw (iN := (eN - 1 - 3)) (yN := (xN / 1000)) O W ⟨S0.1, S0.2.1, S0.2.2.1, S0.2.2.2⟩ h19 hgd (by omega) (Nat.le_trans (Nat.div_le_self ..) hx) (hdg 3 hk26)) (W := 0) (by decide) (by decide) (k' := 0) rfl (n' := 0) rfl (by decide) (by decide) rfl pd_543 (argsL := [(.ref x0), (.int (o32 (eN - 1 - 3))), (.long (nx (xN / 1000)))]) rfl (rest := []) rfl rfl rfl d43_140 (q := 143) rfl ?_
  rintro _ T28 _ X29 ⟨rfl, rfl⟩
  refine g_ifN C X29 d43_143 (q := 146) rfl (by decide) ?_
  refine g_iconst C X29 d43_146 (q := 147) rfl (z := (1 : Int32)) rfl ?_
  refine g_goto C X29 d43_147 (by decide) (q := 151) (by decide) ?_
  refine g_istore C X29 d43_151 (q := 153) rfl (L' := #[.val (.ref x0), .val (.int (o32 eN)), .val (.long vL), .second, .val (.int (o32 sgN)), .val (.long (nx xN)), .second, .val (.int (o32 (DG xN).length)), .val (.int (o32 (eN - 1))), .val (.int (1 : Int32))]) rfl ?_
  refine g_iload C X29 d43_153 (q := 155) rfl rfl ?_
  refine g_iconst C X29 d43_155 (q := 156) rfl (z := (4 : Int32)) rfl ?_
  by_cases hc30 : (4 : Int32) < (o32 (DG xN).length)
  rotate_left
  · refine g_icY C X29 d43_156 (by decide) (q := 188) (by decide) (flt hc30).2.2.2 ?_
    refine g_iload C X29 d43_188 (q := 190) rfl rfl ?_
    refine g_iconst C X29 d43_190 (q := 191) rfl (z := (5 : Int32)) rfl ?_
    refine g_icY C X29 d43_191 (by decide) (q := 223) (by decide) (flt (own_nlt (i := 4) (j := 5) (by decide) (by decide) hc30 (by have := DG_19 hx; omega))).2.2.2 ?_
    refine g_iload C X29 d43_223 (q := 225) rfl rfl ?_
    refine g_bipush C X29 d43_225 (q := 227) rfl (z := (6 : Int32)) rfl ?_
    refine g_icY C X29 d43_227 (by decide) (q := 260) (by decide) (flt (own_nlt (i := 4) (j := 6) (by decide) (by decide) hc30 (by have := DG_19 hx; omega))).2.2.2 ?_
    refine g_iload C X29 d43_260 (q := 262) rfl rfl ?_
    refine g_bipush C X29 d43_262 (q := 264) rfl (z := (7 : Int32)) rfl ?_
    refine g_icY C X29 d43_264 (by decide) (q := 297) (by decide) (flt (own_nlt (i := 4) (j := 7) (by decide) (by decide) hc30 (by have := DG_19 hx; omega))).2.2.2 ?_
    refine g_iload C X29 d43_297 (q := 299) rfl rfl ?_
    refine g_bipush C X29 d43_299 (q := 301) rfl (z := (8 : Int32)) rfl ?_
    refine g_icY C X29 d43_301 (by decide) (q := 334) (by decide) (flt (own_nlt (i := 4) (j := 8) (by decide) (by decide) hc30 (by have := DG_19 hx; omega))).2.2.2 ?_
    refine g_iload C X29 d43_334 (q := 336) rfl rfl ?_
    refine g_bipush C X29 d43_336 (q := 338) rfl (z := (9 : Int32)) rfl ?_
    refine g_icY C X29 d43_338 (by decide) (q := 371) (by decide) (flt (own_nlt (i := 4) (j := 9) (by decide) (by decide) hc30 (by have := DG_19 hx; omega))).2.2.2 ?_
    refine g_iload C X29 d43_371 (q := 373) rfl rfl ?_
    refine g_bipush C X29 d43_373 (q := 375) rfl (z := (10 : Int32)) rfl ?_
    refine g_icY C X29 d43_375 (by decide) (q := 408) (by decide) (flt (own_nlt (i := 4) (j := 10) (by decide) (by decide) hc30 (by have := DG_19 hx; omega))).2.2.2 ?_
    refine g_iload C X29 d43_408 (q := 410) rfl rfl ?_
    refine g_bipush C X29 d43_410 (q := 412) rfl (z := (11 : Int32)) rfl ?_
    refine g_icY C X29 d43_412 (by decide) (q := 445) (by decide) (flt (own_nlt (i := 4) (j := 11) (by decide) (by decide) hc30 (by have := DG_19 hx; omega))).2.2.2 ?_
    refine g_iload C X29 d43_445 (q := 447) rfl rfl ?_
    refine g_bipush C X29 d43_447 (q := 449) rfl (z := (12 : Int32)) rfl ?_
    refine g_icY C X29 d43_449 (by decide) (q := 482) (by decide) (flt (own_nlt (i := 4) (j := 12) (by decide) (by decide) hc30 (by have := DG_19 hx; omega))).2.2.2 ?_
    refine g_iload C X29 d43_482 (q := 484) rfl rfl ?_
    refine g_bipush C X29 d43_484 (q := 486) rfl (z := (13 : Int32)) rfl ?_
    refine g_icY C X29 d43_486 (by decide) (q := 519) (by decide) (flt (own_nlt (i := 4) (j := 13) (by decide) (by decide) hc30 (by have := DG_19 hx; omega))).2.2.2 ?_
    refine g_iload C X29 d43_519 (q := 521) rfl rfl ?_
    refine g_bipush C X29 d43_521 (q := 523) rfl (z := (14 : Int32)) rfl ?_
    refine g_icY C X29 d43_523 (by decide) (q := 556) (by decide) (flt (own_nlt (i := 4) (j := 14) (by decide) (by decide) hc30 (by have := DG_19 hx; omega))).2.2.2 ?_
    refine g_iload C X29 d43_556 (q := 558) rfl rfl ?_
    refine g_bipush C X29 d43_558 (q := 560) rfl (z := (15 : Int32)) rfl ?_
    refine g_icY C X29 d43_560 (by decide) (q := 593) (by decide) (flt (own_nlt (i := 4) (j := 15) (by decide) (by decide) hc30 (by have := DG_19 hx; omega))).2.2.2 ?_
    refine g_iload C X29 d43_593 (q := 595) rfl rfl ?_
    refine g_bipush C X29 d43_595 (q := 597) rfl (z := (16 : Int32)) rfl ?_
    refine g_icY C X29 d43_597 (by decide) (q := 630) (by decide) (flt (own_nlt (i := 4) (j := 16) (by decide) (by decide) hc30 (by have := DG_19 hx; omega))).2.2.2 ?_
    refine g_iload C X29 d43_630 (q := 632) rfl rfl ?_
    refine g_bipush C X29 d43_632 (q := 634) rfl (z := (17 : Int32)) rfl ?_
    refine g_icY C X29 d43_634 (by decide) (q := 667) (by decide) (flt (own_nlt (i := 4) (j := 17) (by decide) (by decide) hc30 (by have := DG_19 hx; omega))).2.2.2 ?_
    refine g_iload C X29 d43_667 (q := 669) rfl rfl ?_
    refine g_bipush C X29 d43_669 (q := 671) rfl (z := (18 : Int32)) rfl ?_
    refine g_icY C X29 d43_671 (by decide) (q := 704) (by decide) (flt (own_nlt (i := 4) (j := 18) (by decide) (by decide) hc30 (by have := DG_19 hx; omega))).2.2.2 ?_
    refine g_iload C X29 d43_704 (q := 706) rfl rfl ?_
    by_cases hc31 : (o32 sgN) = (0 : Int32)
    rotate_left
    · refine g_ifN C X29 d43_706 (q := 709) rfl (feq hc31).1 ?_
      obtain rfl : sgN = 1 := hsg.elim (fun z => by subst z; exact absurd rfl hc31) id
      refine g_iload C X29 d43_709 (q := 711) rfl rfl ?_
      refine g_ifN C X29 d43_711 (q := 714) rfl (by decide) ?_
      refine g_aloadN C X29 d43_714 (q := 715) rfl rfl rfl ?_
      refine g_iload C X29 d43_715 (q := 717) rfl rfl ?_
      refine g_iload C X29 d43_717 (q := 719) rfl rfl ?_
      refine g_isub C X29 d43_719 (q := 720) rfl (z := (o32 (eN - 1 - (DG xN).length))) (r_sub (eN - 1) (by omega) _ (by omega)) ?_
      refine g_callV1 C X29 (y := (⟨"java/lang/String", "charAt", "(I)C"⟩ : MethodName)) (z := (⟨"java/lang/String", "charAt", "(I)C"⟩ : MethodName)) (a := x0) (by decide) (w226 hw) (w227 hw) (w229 hw) (w228 hw) (nf_sel (w229 hw)) S0.1 (w230 hw) (w27 hw) (rm_chr hw (x0 := x0) (tb := tb) (kb := kb) (ls := ls) (iN := (eN - 1 - (DG xN).length)) O W ⟨S0.1, S0.2.1, S0.2.2.1, S0.2.2.2⟩ h19 hgd (by omega)) (W := 0) (by decide) (by decide) (k' := 0) rfl (n' := 0) rfl (by decide) (by decide) rfl pd_520 (argsL := [(.int (o32 (eN - 1 - (DG xN).length)))]) rfl (rest := []) rfl rfl rfl d43_720 (q := 723) rfl ?_
      rintro _ T32 _ X33 ⟨rfl, rfl⟩
      refine g_bipush C X33 d43_723 (q := 725) rfl (z := (45 : Int32)) rfl ?_
      refine g_icN C X33 d43_725 (q := 728) rfl (teq (hsgn rfl)).2 ?_
      refine g_iconst C X33 d43_728 (q := 729) rfl (z := (1 : Int32)) rfl ?_
      refine g_goto C X33 d43_729 (by decide) (q := 733) (by decide) ?_
      refine g_istore C X33 d43_733 (q := 735) rfl (L' := #[.val (.ref x0), .val (.int (o32 eN)), .val (.long vL), .second, .val (.int (o32 1)), .val (.long (nx xN)), .second, .val (.int (o32 (DG xN).length)), .val (.int (o32 (eN - 1))), .val (.int (1 : Int32))]) rfl ?_
      refine g_iload C X33 d43_735 (q := 737) rfl rfl ?_
      exact g_retN C X33 (Or.inl rfl) (z' := 1) (by decide) d43_737 (by decide) (by decide) ⟨_, rfl, rfl, rfl⟩
    refine g_ifY C X29 d43_706 (by decide) (q := 735) (by decide) (teq hc31).1 ?_
    refine g_iload C X29 d43_735 (q := 737) rfl rfl ?_
    exact g_retN C X29 (Or.inl rfl) (z' := 1) (by decide) d43_737 (by decide) (by decide) ⟨_, rfl, rfl, rfl⟩
  refine g_icN C X29 d43_156 (q := 159) rfl (tlt hc30).2.2.2 ?_
  refine g_iload C X29 d43_159 (q := 161) rfl rfl ?_
  refine g_ifN C X29 d43_161 (q := 164) rfl (by decide) ?_
  refine g_aloadN C X29 d43_164 (q := 165) rfl rfl rfl ?_
  refine g_iload C X29 d43_165 (q := 167) rfl rfl ?_
  refine g_iconst C X29 d43_167 (q := 168) rfl (z := (4 : Int32)) rfl ?_
  have hk34 : 4 < (DG xN).length := (r_lt 4 (by decide) _ (by have := DG_19 hx; omega)).1 hc30
  refine g_isub C X29 d43_168 (q := 169) rfl (z := (o32 (eN - 1 - 4))) (r_sub (eN - 1) (by omega) 4 (by omega)) ?_
  refine g_lload C X29 d43_169 (q := 171) rfl rfl ?_
  refine g_ldcJ C X29 (w262 hw) d43_171 (q := 174) rfl ?_
  refine g_ldiv C X29 d43_174 (q := 175) rfl (by decide) (z := (nx (xN / 10000))) (nxdiv hx (P := 10000) (by decide)) ?_
  have hp35 := DG_pos xN
  refine g_callS1 C X29 (y := (⟨"com/example/large_table_updates/largetableupdates/RunResultSummaryPinLaw", "dig", "(Ljava/lang/String;IJ)Z"⟩ : MethodName)) (by decide) (w251 hw) (w252 hw) (w253 hw) (w197 hw) (rm_dig hw (iN := (eN - 1 - 4)) (yN := (xN / 10000)) O W ⟨S0.1, S0.2.1, S0.2.2.1, S0.2.2.2⟩ h19 hgd (by omega) (Nat.le_trans (Nat.div_le_self ..) hx) (hdg 4 hk34)) (W := 0) (by decide) (by decide) (k' := 0) rfl (n' := 0) rfl (by decide) (by decide) rfl pd_543 (argsL := [(.ref x0), (.int (o32 (eN - 1 - 4))), (.long (nx (xN / 10000)))]) rfl (rest := []) rfl rfl rfl d43_175 (q := 178) rfl ?_
  rintro _ T36 _ X37 ⟨rfl, rfl⟩
  refine g_ifN C X37 d43_178 (q := 181) rfl (by decide) ?_
  refine g_iconst C X37 d43_181 (q := 182) rfl (z := (1 : Int32)) rfl ?_
  refine g_goto C X37 d43_182 (by decide) (q := 186) (by decide) ?_
  refine g_istore C X37 d43_186 (q := 188) rfl (L' := #[.val (.ref x0), .val (.int (o32 eN)), .val (.long vL), .second, .val (.int (o32 sgN)), .val (.long (nx xN)), .second, .val (.int (o32 (DG xN).length)), .val (.int (o32 (eN - 1))), .val (.int (1 : Int32))]) rfl ?_
  refine g_iload C X37 d43_188 (q := 190) rfl rfl ?_
  refine g_iconst C X37 d43_190 (q := 191) rfl (z := (5 : Int32)) rfl ?_
  by_cases hc38 : (5 : Int32) < (o32 (DG xN).length)
  rotate_left
  · refine g_icY C X37 d43_191 (by decide) (q := 223) (by decide) (flt hc38).2.2.2 ?_
    refine g_iload C X37 d43_223 (q := 225) rfl rfl ?_
    refine g_bipush C X37 d43_225 (q := 227) rfl (z := (6 : Int32)) rfl ?_
    refine g_icY C X37 d43_227 (by decide) (q := 260) (by decide) (flt (own_nlt (i := 5) (j := 6) (by decide) (by decide) hc38 (by have := DG_19 hx; omega))).2.2.2 ?_
    refine g_iload C X37 d43_260 (q := 262) rfl rfl ?_
    refine g_bipush C X37 d43_262 (q := 264) rfl (z := (7 : Int32)) rfl ?_
    refine g_icY C X37 d43_264 (by decide) (q := 297) (by decide) (flt (own_nlt (i := 5) (j := 7) (by decide) (by decide) hc38 (by have := DG_19 hx; omega))).2.2.2 ?_
    refine g_iload C X37 d43_297 (q := 299) rfl rfl ?_
    refine g_bipush C X37 d43_299 (q := 301) rfl (z := (8 : Int32)) rfl ?_
    refine g_icY C X37 d43_301 (by decide) (q := 334) (by decide) (flt (own_nlt (i := 5) (j := 8) (by decide) (by decide) hc38 (by have := DG_19 hx; omega))).2.2.2 ?_
    refine g_iload C X37 d43_334 (q := 336) rfl rfl ?_
    refine g_bipush C X37 d43_336 (q := 338) rfl (z := (9 : Int32)) rfl ?_
    refine g_icY C X37 d43_338 (by decide) (q := 371) (by decide) (flt (own_nlt (i := 5) (j := 9) (by decide) (by decide) hc38 (by have := DG_19 hx; omega))).2.2.2 ?_
    refine g_iload C X37 d43_371 (q := 373) rfl rfl ?_
    refine g_bipush C X37 d43_373 (q := 375) rfl (z := (10 : Int32)) rfl ?_
    refine g_icY C X37 d43_375 (by decide) (q := 408) (by decide) (flt (own_nlt (i := 5) (j := 10) (by decide) (by decide) hc38 (by have := DG_19 hx; omega))).2.2.2 ?_
    refine g_iload C X37 d43_408 (q := 410) rfl rfl ?_
    refine g_bipush C X37 d43_410 (q := 412) rfl (z := (11 : Int32)) rfl ?_
    refine g_icY C X37 d43_412 (by decide) (q := 445) (by decide) (flt (own_nlt (i := 5) (j := 11) (by decide) (by decide) hc38 (by have := DG_19 hx; omega))).2.2.2 ?_
    refine g_iload C X37 d43_445 (q := 447) rfl rfl ?_
    refine g_bipush C X37 d43_447 (q := 449) rfl (z := (12 : Int32)) rfl ?_
    refine g_icY C X37 d43_449 (by decide) (q := 482) (by decide) (flt (own_nlt (i := 5) (j := 12) (by decide) (by decide) hc38 (by have := DG_19 hx; omega))).2.2.2 ?_
    refine g_iload C X37 d43_482 (q := 484) rfl rfl ?_
    refine g_bipush C X37 d43_484 (q := 486) rfl (z := (13 : Int32)) rfl ?_
    refine g_icY C X37 d43_486 (by decide) (q := 519) (by decide) (flt (own_nlt (i := 5) (j := 13) (by decide) (by decide) hc38 (by have := DG_19 hx; omega))).2.2.2 ?_
    refine g_iload C X37 d43_519 (q := 521) rfl rfl ?_
    refine g_bipush C X37 d43_521 (q := 523) rfl (z := (14 : Int32)) rfl ?_
    refine g_icY C X37 d43_523 (by decide) (q := 556) (by decide) (flt (own_nlt (i := 5) (j := 14) (by decide) (by decide) hc38 (by have := DG_19 hx; omega))).2.2.2 ?_
    refine g_iload C X37 d43_556 (q := 558) rfl rfl ?_
    refine g_bipush C X37 d43_558 (q := 560) rfl (z := (15 : Int32)) rfl ?_
    refine g_icY C X37 d43_560 (by decide) (q := 593) (by decide) (flt (own_nlt (i := 5) (j := 15) (by decide) (by decide) hc38 (by have := DG_19 hx; omega))).2.2.2 ?_
    refine g_iload C X37 d43_593 (q := 595) rfl rfl ?_
    refine g_bipush C X37 d43_595 (q := 597) rfl (z := (16 : Int32)) rfl ?_
    refine g_icY C X37 d43_597 (by decide) (q := 630) (by decide) (flt (own_nlt (i := 5) (j := 16) (by decide) (by decide) hc38 (by have := DG_19 hx; omega))).2.2.2 ?_
    refine g_iload C X37 d43_630 (q := 632) rfl rfl ?_
    refine g_bipush C X37 d43_632 (q := 634) rfl (z := (17 : Int32)) rfl ?_
    refine g_icY C X37 d43_634 (by decide) (q := 667) (by decide) (flt (own_nlt (i := 5) (j := 17) (by decide) (by decide) hc38 (by have := DG_19 hx; omega))).2.2.2 ?_
    refine g_iload C X37 d43_667 (q := 669) rfl rfl ?_
    refine g_bipush C X37 d43_669 (q := 671) rfl (z := (18 : Int32)) rfl ?_
    refine g_icY C X37 d43_671 (by decide) (q := 704) (by decide) (flt (own_nlt (i := 5) (j := 18) (by decide) (by decide) hc38 (by have := DG_19 hx; omega))).2.2.2 ?_
    refine g_iload C X37 d43_704 (q := 706) rfl rfl ?_
    by_cases hc39 : (o32 sgN) = (0 : Int32)
    rotate_left
    · refine g_ifN C X37 d43_706 (q := 709) rfl (feq hc39).1 ?_
      obtain rfl : sgN = 1 := hsg.elim (fun z => by subst z; exact absurd rfl hc39) id
      refine g_iload C X37 d43_709 (q := 711) rfl rfl ?_
      refine g_ifN C X37 d43_711 (q := 714) rfl (by decide) ?_
      refine g_aloadN C X37 d43_714 (q := 715) rfl rfl rfl ?_
      refine g_iload C X37 d43_715 (q := 717) rfl rfl ?_
      refine g_iload C X37 d43_717 (q := 719) rfl rfl ?_
      refine g_isub C X37 d43_719 (q := 720) rfl (z := (o32 (eN - 1 - (DG xN).length))) (r_sub (eN - 1) (by omega) _ (by omega)) ?_
      refine g_callV1 C X37 (y := (⟨"java/lang/String", "charAt", "(I)C"⟩ : MethodName)) (z := (⟨"java/lang/String", "charAt", "(I)C"⟩ : MethodName)) (a := x0) (by decide) (w226 hw) (w227 hw) (w229 hw) (w228 hw) (nf_sel (w229 hw)) S0.1 (w230 hw) (w27 hw) (rm_chr hw (x0 := x0) (tb := tb) (kb := kb) (ls := ls) (iN := (eN - 1 - (DG xN).length)) O W ⟨S0.1, S0.2.1, S0.2.2.1, S0.2.2.2⟩ h19 hgd (by omega)) (W := 0) (by decide) (by decide) (k' := 0) rfl (n' := 0) rfl (by decide) (by decide) rfl pd_520 (argsL := [(.int (o32 (eN - 1 - (DG xN).length)))]) rfl (rest := []) rfl rfl rfl d43_720 (q := 723) rfl ?_
      rintro _ T40 _ X41 ⟨rfl, rfl⟩
      refine g_bipush C X41 d43_723 (q := 725) rfl (z := (45 : Int32)) rfl ?_
      refine g_icN C X41 d43_725 (q := 728) rfl (teq (hsgn rfl)).2 ?_
      refine g_iconst C X41 d43_728 (q := 729) rfl (z := (1 : Int32)) rfl ?_
      refine g_goto C X41 d43_729 (by decide) (q := 733) (by decide) ?_
      refine g_istore C X41 d43_733 (q := 735) rfl (L' := #[.val (.ref x0), .val (.int (o32 eN)), .val (.long vL), .second, .val (.int (o32 1)), .val (.long (nx xN)), .second, .val (.int (o32 (DG xN).length)), .val (.int (o32 (eN - 1))), .val (.int (1 : Int32))]) rfl ?_
      refine g_iload C X41 d43_735 (q := 737) rfl rfl ?_
      exact g_retN C X41 (Or.inl rfl) (z' := 1) (by decide) d43_737 (by decide) (by decide) ⟨_, rfl, rfl, rfl⟩
    refine g_ifY C X37 d43_706 (by decide) (q := 735) (by decide) (teq hc39).1 ?_
    refine g_iload C X37 d43_735 (q := 737) rfl rfl ?_
    exact g_retN C X37 (Or.inl rfl) (z' := 1) (by decide) d43_737 (by decide) (by decide) ⟨_, rfl, rfl, rfl⟩
  refine g_icN C X37 d43_191 (q := 194) rfl (tlt hc38).2.2.2 ?_
  refine g_iload C X37 d43_194 (q := 196) rfl rfl ?_
  refine g_ifN C X37 d43_196 (q := 199) rfl (by decide) ?_
  refine g_aloadN C X37 d43_199 (q := 200) rfl rfl rfl ?_
  refine g_iload C X37 d43_200 (q := 202) rfl rfl ?_
  refine g_iconst C X37 d43_202 (q := 203) rfl (z := (5 : Int32)) rfl ?_
  have hk42 : 5 < (DG xN).length := (r_lt 5 (by decide) _ (by have := DG_19 hx; omega)).1 hc38
  refine g_isub C X37 d43_203 (q := 204) rfl (z := (o32 (eN - 1 - 5))) (r_sub (eN - 1) (by omega) 5 (by omega)) ?_
  refine g_lload C X37 d43_204 (q := 206) rfl rfl ?_
  refine g_ldcJ C X37 (w263 hw) d43_206 (q := 209) rfl ?_
  refine g_ldiv C X37 d43_209 (q := 210) rfl (by decide) (z := (nx (xN / 100000))) (nxdiv hx (P := 100000) (by decide)) ?_
  have hp43 := DG_pos xN
  refine g_callS1 C X37 (y := (⟨"com/example/large_table_updates/largetableupdates/RunResultSummaryPinLaw", "dig", "(Ljava/lang/String;IJ)Z"⟩ : MethodName)) (by decide) (w251 hw) (w252 hw) (w253 hw) (w197 hw) (rm_dig hw (iN := (eN - 1 - 5)) (yN := (xN / 100000)) O W ⟨S0.1, S0.2.1, S0.2.2.1, S0.2.2.2⟩ h19 hgd (by omega) (Nat.le_trans (Nat.div_le_self ..) hx) (hdg 5 hk42)) (W := 0) (by decide) (by decide) (k' := 0) rfl (n' := 0) rfl (by decide) (by decide) rfl pd_543 (argsL := [(.ref x0), (.int (o32 (eN - 1 - 5))), (.long (nx (xN / 100000)))]) rfl (rest := []) rfl rfl rfl d43_210 (q := 213) rfl ?_
  rintro _ T44 _ X45 ⟨rfl, rfl⟩
  refine g_ifN C X45 d43_213 (q := 216) rfl (by decide) ?_
  refine g_iconst C X45 d43_216 (q := 217) rfl (z := (1 : Int32)) rfl ?_
  refine g_goto C X45 d43_217 (by decide) (q := 221) (by decide) ?_
  refine g_istore C X45 d43_221 (q := 223) rfl (L' := #[.val (.ref x0), .val (.int (o32 eN)), .val (.long vL), .second, .val (.int (o32 sgN)), .val (.long (nx xN)), .second, .val (.int (o32 (DG xN).length)), .val (.int (o32 (eN - 1))), .val (.int (1 : Int32))]) rfl ?_
  refine g_iload C X45 d43_223 (q := 225) rfl rfl ?_
  refine g_bipush C X45 d43_225 (q := 227) rfl (z := (6 : Int32)) rfl ?_
  by_cases hc46 : (6 : Int32) < (o32 (DG xN).length)
  rotate_left
  · refine g_icY C X45 d43_227 (by decide) (q := 260) (by decide) (flt hc46).2.2.2 ?_
    refine g_iload C X45 d43_260 (q := 262) rfl rfl ?_
    refine g_bipush C X45 d43_262 (q := 264) rfl (z := (7 : Int32)) rfl ?_
    refine g_icY C X45 d43_264 (by decide) (q := 297) (by decide) (flt (own_nlt (i := 6) (j := 7) (by decide) (by decide) hc46 (by have := DG_19 hx; omega))).2.2.2 ?_
    refine g_iload C X45 d43_297 (q := 299) rfl rfl ?_
    refine g_bipush C X45 d43_299 (q := 301) rfl (z := (8 : Int32)) rfl ?_
    refine g_icY C X45 d43_301 (by decide) (q := 334) (by decide) (flt (own_nlt (i := 6) (j := 8) (by decide) (by decide) hc46 (by have := DG_19 hx; omega))).2.2.2 ?_
    refine g_iload C X45 d43_334 (q := 336) rfl rfl ?_
    refine g_bipush C X45 d43_336 (q := 338) rfl (z := (9 : Int32)) rfl ?_
    refine g_icY C X45 d43_338 (by decide) (q := 371) (by decide) (flt (own_nlt (i := 6) (j := 9) (by decide) (by decide) hc46 (by have := DG_19 hx; omega))).2.2.2 ?_
    refine g_iload C X45 d43_371 (q := 373) rfl rfl ?_
    refine g_bipush C X45 d43_373 (q := 375) rfl (z := (10 : Int32)) rfl ?_
    refine g_icY C X45 d43_375 (by decide) (q := 408) (by decide) (flt (own_nlt (i := 6) (j := 10) (by decide) (by decide) hc46 (by have := DG_19 hx; omega))).2.2.2 ?_
    refine g_iload C X45 d43_408 (q := 410) rfl rfl ?_
    refine g_bipush C X45 d43_410 (q := 412) rfl (z := (11 : Int32)) rfl ?_
    refine g_icY C X45 d43_412 (by decide) (q := 445) (by decide) (flt (own_nlt (i := 6) (j := 11) (by decide) (by decide) hc46 (by have := DG_19 hx; omega))).2.2.2 ?_
    refine g_iload C X45 d43_445 (q := 447) rfl rfl ?_
    refine g_bipush C X45 d43_447 (q := 449) rfl (z := (12 : Int32)) rfl ?_
    refine g_icY C X45 d43_449 (by decide) (q := 482) (by decide) (flt (own_nlt (i := 6) (j := 12) (by decide) (by decide) hc46 (by have := DG_19 hx; omega))).2.2.2 ?_
    refine g_iload C X45 d43_482 (q := 484) rfl rfl ?_
    refine g_bipush C X45 d43_484 (q := 486) rfl (z := (13 : Int32)) rfl ?_
    refine g_icY C X45 d43_486 (by decide) (q := 519) (by decide) (flt (own_nlt (i := 6) (j := 13) (by decide) (by decide) hc46 (by have := DG_19 hx; omega))).2.2.2 ?_
    refine g_iload C X45 d43_519 (q := 521) rfl rfl ?_
    refine g_bipush C X45 d43_521 (q := 523) rfl (z := (14 : Int32)) rfl ?_
    refine g_icY C X45 d43_523 (by decide) (q := 556) (by decide) (flt (own_nlt (i := 6) (j := 14) (by decide) (by decide) hc46 (by have := DG_19 hx; omega))).2.2.2 ?_
    refine g_iload C X45 d43_556 (q := 558) rfl rfl ?_
    refine g_bipush C X45 d43_558 (q := 560) rfl (z := (15 : Int32)) rfl ?_
    refine g_icY C X45 d43_560 (by decide) (q := 593) (by decide) (flt (own_nlt (i := 6) (j := 15) (by decide) (by decide) hc46 (by have := DG_19 hx; omega))).2.2.2 ?_
    refine g_iload C X45 d43_593 (q := 595) rfl rfl ?_
    refine g_bipush C X45 d43_595 (q := 597) rfl (z := (16 : Int32)) rfl ?_
    refine g_icY C X45 d43_597 (by decide) (q := 630) (by decide) (flt (own_nlt (i := 6) (j := 16) (by decide) (by decide) hc46 (by have := DG_19 hx; omega))).2.2.2 ?_
    refine g_iload C X45 d43_630 (q := 632) rfl rfl ?_
    refine g_bipush C X45 d43_632 (q := 634) rfl (z := (17 : Int32)) rfl ?_
    refine g_icY C X45 d43_634 (by decide) (q := 667) (by decide) (flt (own_nlt (i := 6) (j := 17) (by decide) (by decide) hc46 (by have := DG_19 hx; omega))).2.2.2 ?_
    refine g_iload C X45 d43_667 (q := 669) rfl rfl ?_
    refine g_bipush C X45 d43_669 (q := 671) rfl (z := (18 : Int32)) rfl ?_
    refine g_icY C X45 d43_671 (by decide) (q := 704) (by decide) (flt (own_nlt (i := 6) (j := 18) (by decide) (by decide) hc46 (by have := DG_19 hx; omega))).2.2.2 ?_
    refine g_iload C X45 d43_704 (q := 706) rfl rfl ?_
    by_cases hc47 : (o32 sgN) = (0 : Int32)
    rotate_left
    · refine g_ifN C X45 d43_706 (q := 709) rfl (feq hc47).1 ?_
      obtain rfl : sgN = 1 := hsg.elim (fun z => by subst z; exact absurd rfl hc47) id
      refine g_iload C X45 d43_709 (q := 711) rfl rfl ?_
      refine g_ifN C X45 d43_711 (q := 714) rfl (by decide) ?_
      refine g_aloadN C X45 d43_714 (q := 715) rfl rfl rfl ?_
      refine g_iload C X45 d43_715 (q := 717) rfl rfl ?_
      refine g_iload C X45 d43_717 (q := 719) rfl rfl ?_
      refine g_isub C X45 d43_719 (q := 720) rfl (z := (o32 (eN - 1 - (DG xN).length))) (r_sub (eN - 1) (by omega) _ (by omega)) ?_
      refine g_callV1 C X45 (y := (⟨"java/lang/String", "charAt", "(I)C"⟩ : MethodName)) (z := (⟨"java/lang/String", "charAt", "(I)C"⟩ : MethodName)) (a := x0) (by decide) (w226 hw) (w227 hw) (w229 hw) (w228 hw) (nf_sel (w229 hw)) S0.1 (w230 hw) (w27 hw) (rm_chr hw (x0 := x0) (tb := tb) (kb := kb) (ls := ls) (iN := (eN - 1 - (DG xN).length)) O W ⟨S0.1, S0.2.1, S0.2.2.1, S0.2.2.2⟩ h19 hgd (by omega)) (W := 0) (by decide) (by decide) (k' := 0) rfl (n' := 0) rfl (by decide) (by decide) rfl pd_520 (argsL := [(.int (o32 (eN - 1 - (DG xN).length)))]) rfl (rest := []) rfl rfl rfl d43_720 (q := 723) rfl ?_
      rintro _ T48 _ X49 ⟨rfl, rfl⟩
      refine g_bipush C X49 d43_723 (q := 725) rfl (z := (45 : Int32)) rfl ?_
      refine g_icN C X49 d43_725 (q := 728) rfl (teq (hsgn rfl)).2 ?_
      refine g_iconst C X49 d43_728 (q := 729) rfl (z := (1 : Int32)) rfl ?_
      refine g_goto C X49 d43_729 (by decide) (q := 733) (by decide) ?_
      refine g_istore C X49 d43_733 (q := 735) rfl (L' := #[.val (.ref x0), .val (.int (o32 eN)), .val (.long vL), .second, .val (.int (o32 1)), .val (.long (nx xN)), .second, .val (.int (o32 (DG xN).length)), .val (.int (o32 (eN - 1))), .val (.int (1 : Int32))]) rfl ?_
      refine g_iload C X49 d43_735 (q := 737) rfl rfl ?_
      exact g_retN C X49 (Or.inl rfl) (z' := 1) (by decide) d43_737 (by decide) (by decide) ⟨_, rfl, rfl, rfl⟩
    refine g_ifY C X45 d43_706 (by decide) (q := 735) (by decide) (teq hc47).1 ?_
    refine g_iload C X45 d43_735 (q := 737) rfl rfl ?_
    exact g_retN C X45 (Or.inl rfl) (z' := 1) (by decide) d43_737 (by decide) (by decide) ⟨_, rfl, rfl, rfl⟩
  refine g_icN C X45 d43_227 (q := 230) rfl (tlt hc46).2.2.2 ?_
  refine g_iload C X45 d43_230 (q := 232) rfl rfl ?_
  refine g_ifN C X45 d43_232 (q := 235) rfl (by decide) ?_
  refine g_aloadN C X45 d43_235 (q := 236) rfl rfl rfl ?_
  refine g_iload C X45 d43_236 (q := 238) rfl rfl ?_
  refine g_bipush C X45 d43_238 (q := 240) rfl (z := (6 : Int32)) rfl ?_
  have hk50 : 6 < (DG xN).length := (r_lt 6 (by decide) _ (by have := DG_19 hx; omega)).1 hc46
  refine g_isub C X45 d43_240 (q := 241) rfl (z := (o32 (eN - 1 - 6))) (r_sub (eN - 1) (by omega) 6 (by omega)) ?_
  refine g_lload C X45 d43_241 (q := 243) rfl rfl ?_
  refine g_ldcJ C X45 (w264 hw) d43_243 (q := 246) rfl ?_
  refine g_ldiv C X45 d43_246 (q := 247) rfl (by decide) (z := (nx (xN / 1000000))) (nxdiv hx (P := 1000000) (by decide)) ?_
  have hp51 := DG_pos xN
  refine g_callS1 C X45 (y := (⟨"com/example/large_table_updates/largetableupdates/RunResultSummaryPinLaw", "dig", "(Ljava/lang/String;IJ)Z"⟩ : MethodName)) (by decide) (w251 hw) (w252 hw) (w253 hw) (w197 hw) (rm_dig hw (iN := (eN - 1 - 6)) (yN := (xN / 1000000)) O W ⟨S0.1, S0.2.1, S0.2.2.1, S0.2.2.2⟩ h19 hgd (by omega) (Nat.le_trans (Nat.div_le_self ..) hx) (hdg 6 hk50)) (W := 0) (by decide) (by decide) (k' := 0) rfl (n' := 0) rfl (by decide) (by decide) rfl pd_543 (argsL := [(.ref x0), (.int (o32 (eN - 1 - 6))), (.long (nx (xN / 1000000)))]) rfl (rest := []) rfl rfl rfl d43_247 (q := 250) rfl ?_
  rintro _ T52 _ X53 ⟨rfl, rfl⟩
  refine g_ifN C X53 d43_250 (q := 253) rfl (by decide) ?_
  refine g_iconst C X53 d43_253 (q := 254) rfl (z := (1 : Int32)) rfl ?_
  refine g_goto C X53 d43_254 (by decide) (q := 258) (by decide) ?_
  refine g_istore C X53 d43_258 (q := 260) rfl (L' := #[.val (.ref x0), .val (.int (o32 eN)), .val (.long vL), .second, .val (.int (o32 sgN)), .val (.long (nx xN)), .second, .val (.int (o32 (DG xN).length)), .val (.int (o32 (eN - 1))), .val (.int (1 : Int32))]) rfl ?_
  refine g_iload C X53 d43_260 (q := 262) rfl rfl ?_
  refine g_bipush C X53 d43_262 (q := 264) rfl (z := (7 : Int32)) rfl ?_
  by_cases hc54 : (7 : Int32) < (o32 (DG xN).length)
  rotate_left
  · refine g_icY C X53 d43_264 (by decide) (q := 297) (by decide) (flt hc54).2.2.2 ?_
    refine g_iload C X53 d43_297 (q := 299) rfl rfl ?_
    refine g_bipush C X53 d43_299 (q := 301) rfl (z := (8 : Int32)) rfl ?_
    refine g_icY C X53 d43_301 (by decide) (q := 334) (by decide) (flt (own_nlt (i := 7) (j := 8) (by decide) (by decide) hc54 (by have := DG_19 hx; omega))).2.2.2 ?_
    refine g_iload C X53 d43_334 (q := 336) rfl rfl ?_
    refine g_bipush C X53 d43_336 (q := 338) rfl (z := (9 : Int32)) rfl ?_
    refine g_icY C X53 d43_338 (by decide) (q := 371) (by decide) (flt (own_nlt (i := 7) (j := 9) (by decide) (by decide) hc54 (by have := DG_19 hx; omega))).2.2.2 ?_
    refine g_iload C X53 d43_371 (q := 373) rfl rfl ?_
    refine g_bipush C X53 d43_373 (q := 375) rfl (z := (10 : Int32)) rfl ?_
    refine g_icY C X53 d43_375 (by decide) (q := 408) (by decide) (flt (own_nlt (i := 7) (j := 10) (by decide) (by decide) hc54 (by have := DG_19 hx; omega))).2.2.2 ?_
    refine g_iload C X53 d43_408 (q := 410) rfl rfl ?_
    refine g_bipush C X53 d43_410 (q := 412) rfl (z := (11 : Int32)) rfl ?_
    refine g_icY C X53 d43_412 (by decide) (q := 445) (by decide) (flt (own_nlt (i := 7) (j := 11) (by decide) (by decide) hc54 (by have := DG_19 hx; omega))).2.2.2 ?_
    refine g_iload C X53 d43_445 (q := 447) rfl rfl ?_
    refine g_bipush C X53 d43_447 (q := 449) rfl (z := (12 : Int32)) rfl ?_
    refine g_icY C X53 d43_449 (by decide) (q := 482) (by decide) (flt (own_nlt (i := 7) (j := 12) (by decide) (by decide) hc54 (by have := DG_19 hx; omega))).2.2.2 ?_
    refine g_iload C X53 d43_482 (q := 484) rfl rfl ?_
    refine g_bipush C X53 d43_484 (q := 486) rfl (z := (13 : Int32)) rfl ?_
    refine g_icY C X53 d43_486 (by decide) (q := 519) (by decide) (flt (own_nlt (i := 7) (j := 13) (by decide) (by decide) hc54 (by have := DG_19 hx; omega))).2.2.2 ?_
    refine g_iload C X53 d43_519 (q := 521) rfl rfl ?_
    refine g_bipush C X53 d43_521 (q := 523) rfl (z := (14 : Int32)) rfl ?_
    refine g_icY C X53 d43_523 (by decide) (q := 556) (by decide) (flt (own_nlt (i := 7) (j := 14) (by decide) (by decide) hc54 (by have := DG_19 hx; omega))).2.2.2 ?_
    refine g_iload C X53 d43_556 (q := 558) rfl rfl ?_
    refine g_bipush C X53 d43_558 (q := 560) rfl (z := (15 : Int32)) rfl ?_
    refine g_icY C X53 d43_560 (by decide) (q := 593) (by decide) (flt (own_nlt (i := 7) (j := 15) (by decide) (by decide) hc54 (by have := DG_19 hx; omega))).2.2.2 ?_
    refine g_iload C X53 d43_593 (q := 595) rfl rfl ?_
    refine g_bipush C X53 d43_595 (q := 597) rfl (z := (16 : Int32)) rfl ?_
    refine g_icY C X53 d43_597 (by decide) (q := 630) (by decide) (flt (own_nlt (i := 7) (j := 16) (by decide) (by decide) hc54 (by have := DG_19 hx; omega))).2.2.2 ?_
    refine g_iload C X53 d43_630 (q := 632) rfl rfl ?_
    refine g_bipush C X53 d43_632 (q := 634) rfl (z := (17 : Int32)) rfl ?_
    refine g_icY C X53 d43_634 (by decide) (q := 667) (by decide) (flt (own_nlt (i := 7) (j := 17) (by decide) (by decide) hc54 (by have := DG_19 hx; omega))).2.2.2 ?_
    refine g_iload C X53 d43_667 (q := 669) rfl rfl ?_
    refine g_bipush C X53 d43_669 (q := 671) rfl (z := (18 : Int32)) rfl ?_
    refine g_icY C X53 d43_671 (by decide) (q := 704) (by decide) (flt (own_nlt (i := 7) (j := 18) (by decide) (by decide) hc54 (by have := DG_19 hx; omega))).2.2.2 ?_
    refine g_iload C X53 d43_704 (q := 706) rfl rfl ?_
    by_cases hc55 : (o32 sgN) = (0 : Int32)
    rotate_left
    · refine g_ifN C X53 d43_706 (q := 709) rfl (feq hc55).1 ?_
      obtain rfl : sgN = 1 := hsg.elim (fun z => by subst z; exact absurd rfl hc55) id
      refine g_iload C X53 d43_709 (q := 711) rfl rfl ?_
      refine g_ifN C X53 d43_711 (q := 714) rfl (by decide) ?_
      refine g_aloadN C X53 d43_714 (q := 715) rfl rfl rfl ?_
      refine g_iload C X53 d43_715 (q := 717) rfl rfl ?_
      refine g_iload C X53 d43_717 (q := 719) rfl rfl ?_
      refine g_isub C X53 d43_719 (q := 720) rfl (z := (o32 (eN - 1 - (DG xN).length))) (r_sub (eN - 1) (by omega) _ (by omega)) ?_
      refine g_callV1 C X53 (y := (⟨"java/lang/String", "charAt", "(I)C"⟩ : MethodName)) (z := (⟨"java/lang/String", "charAt", "(I)C"⟩ : MethodName)) (a := x0) (by decide) (w226 hw) (w227 hw) (w229 hw) (w228 hw) (nf_sel (w229 hw)) S0.1 (w230 hw) (w27 hw) (rm_chr hw (x0 := x0) (tb := tb) (kb := kb) (ls := ls) (iN := (eN - 1 - (DG xN).length)) O W ⟨S0.1, S0.2.1, S0.2.2.1, S0.2.2.2⟩ h19 hgd (by omega)) (W := 0) (by decide) (by decide) (k' := 0) rfl (n' := 0) rfl (by decide) (by decide) rfl pd_520 (argsL := [(.int (o32 (eN - 1 - (DG xN).length)))]) rfl (rest := []) rfl rfl rfl d43_720 (q := 723) rfl ?_
      rintro _ T56 _ X57 ⟨rfl, rfl⟩
      refine g_bipush C X57 d43_723 (q := 725) rfl (z := (45 : Int32)) rfl ?_
      refine g_icN C X57 d43_725 (q := 728) rfl (teq (hsgn rfl)).2 ?_
      refine g_iconst C X57 d43_728 (q := 729) rfl (z := (1 : Int32)) rfl ?_
      refine g_goto C X57 d43_729 (by decide) (q := 733) (by decide) ?_
      refine g_istore C X57 d43_733 (q := 735) rfl (L' := #[.val (.ref x0), .val (.int (o32 eN)), .val (.long vL), .second, .val (.int (o32 1)), .val (.long (nx xN)), .second, .val (.int (o32 (DG xN).length)), .val (.int (o32 (eN - 1))), .val (.int (1 : Int32))]) rfl ?_
      refine g_iload C X57 d43_735 (q := 737) rfl rfl ?_
      exact g_retN C X57 (Or.inl rfl) (z' := 1) (by decide) d43_737 (by decide) (by decide) ⟨_, rfl, rfl, rfl⟩
    refine g_ifY C X53 d43_706 (by decide) (q := 735) (by decide) (teq hc55).1 ?_
    refine g_iload C X53 d43_735 (q := 737) rfl rfl ?_
    exact g_retN C X53 (Or.inl rfl) (z' := 1) (by decide) d43_737 (by decide) (by decide) ⟨_, rfl, rfl, rfl⟩
  refine g_icN C X53 d43_264 (q := 267) rfl (tlt hc54).2.2.2 ?_
  refine g_iload C X53 d43_267 (q := 269) rfl rfl ?_
  refine g_ifN C X53 d43_269 (q := 272) rfl (by decide) ?_
  refine g_aloadN C X53 d43_272 (q := 273) rfl rfl rfl ?_
  refine g_iload C X53 d43_273 (q := 275) rfl rfl ?_
  refine g_bipush C X53 d43_275 (q := 277) rfl (z := (7 : Int32)) rfl ?_
  have hk58 : 7 < (DG xN).length := (r_lt 7 (by decide) _ (by have := DG_19 hx; omega)).1 hc54
  refine g_isub C X53 d43_277 (q := 278) rfl (z := (o32 (eN - 1 - 7))) (r_sub (eN - 1) (by omega) 7 (by omega)) ?_
  refine g_lload C X53 d43_278 (q := 280) rfl rfl ?_
  refine g_ldcJ C X53 (w265 hw) d43_280 (q := 283) rfl ?_
  refine g_ldiv C X53 d43_283 (q := 284) rfl (by decide) (z := (nx (xN / 10000000))) (nxdiv hx (P := 10000000) (by decide)) ?_
  have hp59 := DG_pos xN
  refine g_callS1 C X53 (y := (⟨"com/example/large_table_updates/largetableupdates/RunResultSummaryPinLaw", "dig", "(Ljava/lang/String;IJ)Z"⟩ : MethodName)) (by decide) (w251 hw) (w252 hw) (w253 hw) (w197 hw) (rm_dig hw (iN := (eN - 1 - 7)) (yN := (xN / 10000000)) O W ⟨S0.1, S0.2.1, S0.2.2.1, S0.2.2.2⟩ h19 hgd (by omega) (Nat.le_trans (Nat.div_le_self ..) hx) (hdg 7 hk58)) (W := 0) (by decide) (by decide) (k' := 0) rfl (n' := 0) rfl (by decide) (by decide) rfl pd_543 (argsL := [(.ref x0), (.int (o32 (eN - 1 - 7))), (.long (nx (xN / 10000000)))]) rfl (rest := []) rfl rfl rfl d43_284 (q := 287) rfl ?_
  rintro _ T60 _ X61 ⟨rfl, rfl⟩
  refine g_ifN C X61 d43_287 (q := 290) rfl (by decide) ?_
  refine g_iconst C X61 d43_290 (q := 291) rfl (z := (1 : Int32)) rfl ?_
  refine g_goto C X61 d43_291 (by decide) (q := 295) (by decide) ?_
  refine g_istore C X61 d43_295 (q := 297) rfl (L' := #[.val (.ref x0), .val (.int (o32 eN)), .val (.long vL), .second, .val (.int (o32 sgN)), .val (.long (nx xN)), .second, .val (.int (o32 (DG xN).length)), .val (.int (o32 (eN - 1))), .val (.int (1 : Int32))]) rfl ?_
  refine g_iload C X61 d43_297 (q := 299) rfl rfl ?_
  refine g_bipush C X61 d43_299 (q := 301) rfl (z := (8 : Int32)) rfl ?_
  by_cases hc62 : (8 : Int32) < (o32 (DG xN).length)
  rotate_left
  · refine g_icY C X61 d43_301 (by decide) (q := 334) (by decide) (flt hc62).2.2.2 ?_
    refine g_iload C X61 d43_334 (q := 336) rfl rfl ?_
    refine g_bipush C X61 d43_336 (q := 338) rfl (z := (9 : Int32)) rfl ?_
    refine g_icY C X61 d43_338 (by decide) (q := 371) (by decide) (flt (own_nlt (i := 8) (j := 9) (by decide) (by decide) hc62 (by have := DG_19 hx; omega))).2.2.2 ?_
    refine g_iload C X61 d43_371 (q := 373) rfl rfl ?_
    refine g_bipush C X61 d43_373 (q := 375) rfl (z := (10 : Int32)) rfl ?_
    refine g_icY C X61 d43_375 (by decide) (q := 408) (by decide) (flt (own_nlt (i := 8) (j := 10) (by decide) (by decide) hc62 (by have := DG_19 hx; omega))).2.2.2 ?_
    refine g_iload C X61 d43_408 (q := 410) rfl rfl ?_
    refine g_bipush C X61 d43_410 (q := 412) rfl (z := (11 : Int32)) rfl ?_
    refine g_icY C X61 d43_412 (by decide) (q := 445) (by decide) (flt (own_nlt (i := 8) (j := 11) (by decide) (by decide) hc62 (by have := DG_19 hx; omega))).2.2.2 ?_
    refine g_iload C X61 d43_445 (q := 447) rfl rfl ?_
    refine g_bipush C X61 d43_447 (q := 449) rfl (z := (12 : Int32)) rfl ?_
    refine g_icY C X61 d43_449 (by decide) (q := 482) (by decide) (flt (own_nlt (i := 8) (j := 12) (by decide) (by decide) hc62 (by have := DG_19 hx; omega))).2.2.2 ?_
    refine g_iload C X61 d43_482 (q := 484) rfl rfl ?_
    refine g_bipush C X61 d43_484 (q := 486) rfl (z := (13 : Int32)) rfl ?_
    refine g_icY C X61 d43_486 (by decide) (q := 519) (by decide) (flt (own_nlt (i := 8) (j := 13) (by decide) (by decide) hc62 (by have := DG_19 hx; omega))).2.2.2 ?_
    refine g_iload C X61 d43_519 (q := 521) rfl rfl ?_
    refine g_bipush C X61 d43_521 (q := 523) rfl (z := (14 : Int32)) rfl ?_
    refine g_icY C X61 d43_523 (by decide) (q := 556) (by decide) (flt (own_nlt (i := 8) (j := 14) (by decide) (by decide) hc62 (by have := DG_19 hx; omega))).2.2.2 ?_
    refine g_iload C X61 d43_556 (q := 558) rfl rfl ?_
    refine g_bipush C X61 d43_558 (q := 560) rfl (z := (15 : Int32)) rfl ?_
    refine g_icY C X61 d43_560 (by decide) (q := 593) (by decide) (flt (own_nlt (i := 8) (j := 15) (by decide) (by decide) hc62 (by have := DG_19 hx; omega))).2.2.2 ?_
    refine g_iload C X61 d43_593 (q := 595) rfl rfl ?_
    refine g_bipush C X61 d43_595 (q := 597) rfl (z := (16 : Int32)) rfl ?_
    refine g_icY C X61 d43_597 (by decide) (q := 630) (by decide) (flt (own_nlt (i := 8) (j := 16) (by decide) (by decide) hc62 (by have := DG_19 hx; omega))).2.2.2 ?_
    refine g_iload C X61 d43_630 (q := 632) rfl rfl ?_
    refine g_bipush C X61 d43_632 (q := 634) rfl (z := (17 : Int32)) rfl ?_
    refine g_icY C X61 d43_634 (by decide) (q := 667) (by decide) (flt (own_nlt (i := 8) (j := 17) (by decide) (by decide) hc62 (by have := DG_19 hx; omega))).2.2.2 ?_
    refine g_iload C X61 d43_667 (q := 669) rfl rfl ?_
    refine g_bipush C X61 d43_669 (q := 671) rfl (z := (18 : Int32)) rfl ?_
    refine g_icY C X61 d43_671 (by decide) (q := 704) (by decide) (flt (own_nlt (i := 8) (j := 18) (by decide) (by decide) hc62 (by have := DG_19 hx; omega))).2.2.2 ?_
    refine g_iload C X61 d43_704 (q := 706) rfl rfl ?_
    by_cases hc63 : (o32 sgN) = (0 : Int32)
    rotate_left
    · refine g_ifN C X61 d43_706 (q := 709) rfl (feq hc63).1 ?_
      obtain rfl : sgN = 1 := hsg.elim (fun z => by subst z; exact absurd rfl hc63) id
      refine g_iload C X61 d43_709 (q := 711) rfl rfl ?_
      refine g_ifN C X61 d43_711 (q := 714) rfl (by decide) ?_
      refine g_aloadN C X61 d43_714 (q := 715) rfl rfl rfl ?_
      refine g_iload C X61 d43_715 (q := 717) rfl rfl ?_
      refine g_iload C X61 d43_717 (q := 719) rfl rfl ?_
      refine g_isub C X61 d43_719 (q := 720) rfl (z := (o32 (eN - 1 - (DG xN).length))) (r_sub (eN - 1) (by omega) _ (by omega)) ?_
      refine g_callV1 C X61 (y := (⟨"java/lang/String", "charAt", "(I)C"⟩ : MethodName)) (z := (⟨"java/lang/String", "charAt", "(I)C"⟩ : MethodName)) (a := x0) (by decide) (w226 hw) (w227 hw) (w229 hw) (w228 hw) (nf_sel (w229 hw)) S0.1 (w230 hw) (w27 hw) (rm_chr hw (x0 := x0) (tb := tb) (kb := kb) (ls := ls) (iN := (eN - 1 - (DG xN).length)) O W ⟨S0.1, S0.2.1, S0.2.2.1, S0.2.2.2⟩ h19 hgd (by omega)) (W := 0) (by decide) (by decide) (k' := 0) rfl (n' := 0) rfl (by decide) (by decide) rfl pd_520 (argsL := [(.int (o32 (eN - 1 - (DG xN).length)))]) rfl (rest := []) rfl rfl rfl d43_720 (q := 723) rfl ?_
      rintro _ T64 _ X65 ⟨rfl, rfl⟩
      refine g_bipush C X65 d43_723 (q := 725) rfl (z := (45 : Int32)) rfl ?_
      refine g_icN C X65 d43_725 (q := 728) rfl (teq (hsgn rfl)).2 ?_
      refine g_iconst C X65 d43_728 (q := 729) rfl (z := (1 : Int32)) rfl ?_
      refine g_goto C X65 d43_729 (by decide) (q := 733) (by decide) ?_
      refine g_istore C X65 d43_733 (q := 735) rfl (L' := #[.val (.ref x0), .val (.int (o32 eN)), .val (.long vL), .second, .val (.int (o32 1)), .val (.long (nx xN)), .second, .val (.int (o32 (DG xN).length)), .val (.int (o32 (eN - 1))), .val (.int (1 : Int32))]) rfl ?_
      refine g_iload C X65 d43_735 (q := 737) rfl rfl ?_
      exact g_retN C X65 (Or.inl rfl) (z' := 1) (by decide) d43_737 (by decide) (by decide) ⟨_, rfl, rfl, rfl⟩
    refine g_ifY C X61 d43_706 (by decide) (q := 735) (by decide) (teq hc63).1 ?_
    refine g_iload C X61 d43_735 (q := 737) rfl rfl ?_
    exact g_retN C X61 (Or.inl rfl) (z' := 1) (by decide) d43_737 (by decide) (by decide) ⟨_, rfl, rfl, rfl⟩
  refine g_icN C X61 d43_301 (q := 304) rfl (tlt hc62).2.2.2 ?_
  refine g_iload C X61 d43_304 (q := 306) rfl rfl ?_
  refine g_ifN C X61 d43_306 (q := 309) rfl (by decide) ?_
  refine g_aloadN C X61 d43_309 (q := 310) rfl rfl rfl ?_
  refine g_iload C X61 d43_310 (q := 312) rfl rfl ?_
  refine g_bipush C X61 d43_312 (q := 314) rfl (z := (8 : Int32)) rfl ?_
  have hk66 : 8 < (DG xN).length := (r_lt 8 (by decide) _ (by have := DG_19 hx; omega)).1 hc62
  refine g_isub C X61 d43_314 (q := 315) rfl (z := (o32 (eN - 1 - 8))) (r_sub (eN - 1) (by omega) 8 (by omega)) ?_
  refine g_lload C X61 d43_315 (q := 317) rfl rfl ?_
  refine g_ldcJ C X61 (w266 hw) d43_317 (q := 320) rfl ?_
  refine g_ldiv C X61 d43_320 (q := 321) rfl (by decide) (z := (nx (xN / 100000000))) (nxdiv hx (P := 100000000) (by decide)) ?_
  have hp67 := DG_pos xN
  refine g_callS1 C X61 (y := (⟨"com/example/large_table_updates/largetableupdates/RunResultSummaryPinLaw", "dig", "(Ljava/lang/String;IJ)Z"⟩ : MethodName)) (by decide) (w251 hw) (w252 hw) (w253 hw) (w197 hw) (rm_dig hw (iN := (eN - 1 - 8)) (yN := (xN / 100000000)) O W ⟨S0.1, S0.2.1, S0.2.2.1, S0.2.2.2⟩ h19 hgd (by omega) (Nat.le_trans (Nat.div_le_self ..) hx) (hdg 8 hk66)) (W := 0) (by decide) (by decide) (k' := 0) rfl (n' := 0) rfl (by decide) (by decide) rfl pd_543 (argsL := [(.ref x0), (.int (o32 (eN - 1 - 8))), (.long (nx (xN / 100000000)))]) rfl (rest := []) rfl rfl rfl d43_321 (q := 324) rfl ?_
  rintro _ T68 _ X69 ⟨rfl, rfl⟩
  refine g_ifN C X69 d43_324 (q := 327) rfl (by decide) ?_
  refine g_iconst C X69 d43_327 (q := 328) rfl (z := (1 : Int32)) rfl ?_
  refine g_goto C X69 d43_328 (by decide) (q := 332) (by decide) ?_
  refine g_istore C X69 d43_332 (q := 334) rfl (L' := #[.val (.ref x0), .val (.int (o32 eN)), .val (.long vL), .second, .val (.int (o32 sgN)), .val (.long (nx xN)), .second, .val (.int (o32 (DG xN).length)), .val (.int (o32 (eN - 1))), .val (.int (1 : Int32))]) rfl ?_
  refine g_iload C X69 d43_334 (q := 336) rfl rfl ?_
  refine g_bipush C X69 d43_336 (q := 338) rfl (z := (9 : Int32)) rfl ?_
  by_cases hc70 : (9 : Int32) < (o32 (DG xN).length)
  rotate_left
  · refine g_icY C X69 d43_338 (by decide) (q := 371) (by decide) (flt hc70).2.2.2 ?_
    refine g_iload C X69 d43_371 (q := 373) rfl rfl ?_
    refine g_bipush C X69 d43_373 (q := 375) rfl (z := (10 : Int32)) rfl ?_
    refine g_icY C X69 d43_375 (by decide) (q := 408) (by decide) (flt (own_nlt (i := 9) (j := 10) (by decide) (by decide) hc70 (by have := DG_19 hx; omega))).2.2.2 ?_
    refine g_iload C X69 d43_408 (q := 410) rfl rfl ?_
    refine g_bipush C X69 d43_410 (q := 412) rfl (z := (11 : Int32)) rfl ?_
    refine g_icY C X69 d43_412 (by decide) (q := 445) (by decide) (flt (own_nlt (i := 9) (j := 11) (by decide) (by decide) hc70 (by have := DG_19 hx; omega))).2.2.2 ?_
    refine g_iload C X69 d43_445 (q := 447) rfl rfl ?_
    refine g_bipush C X69 d43_447 (q := 449) rfl (z := (12 : Int32)) rfl ?_
    refine g_icY C X69 d43_449 (by decide) (q := 482) (by decide) (flt (own_nlt (i := 9) (j := 12) (by decide) (by decide) hc70 (by have := DG_19 hx; omega))).2.2.2 ?_
    refine g_iload C X69 d43_482 (q := 484) rfl rfl ?_
    refine g_bipush C X69 d43_484 (q := 486) rfl (z := (13 : Int32)) rfl ?_
    refine g_icY C X69 d43_486 (by decide) (q := 519) (by decide) (flt (own_nlt (i := 9) (j := 13) (by decide) (by decide) hc70 (by have := DG_19 hx; omega))).2.2.2 ?_
    refine g_iload C X69 d43_519 (q := 521) rfl rfl ?_
    refine g_bipush C X69 d43_521 (q := 523) rfl (z := (14 : Int32)) rfl ?_
    refine g_icY C X69 d43_523 (by decide) (q := 556) (by decide) (flt (own_nlt (i := 9) (j := 14) (by decide) (by decide) hc70 (by have := DG_19 hx; omega))).2.2.2 ?_
    refine g_iload C X69 d43_556 (q := 558) rfl rfl ?_
    refine g_bipush C X69 d43_558 (q := 560) rfl (z := (15 : Int32)) rfl ?_
    refine g_icY C X69 d43_560 (by decide) (q := 593) (by decide) (flt (own_nlt (i := 9) (j := 15) (by decide) (by decide) hc70 (by have := DG_19 hx; omega))).2.2.2 ?_
    refine g_iload C X69 d43_593 (q := 595) rfl rfl ?_
    refine g_bipush C X69 d43_595 (q := 597) rfl (z := (16 : Int32)) rfl ?_
    refine g_icY C X69 d43_597 (by decide) (q := 630) (by decide) (flt (own_nlt (i := 9) (j := 16) (by decide) (by decide) hc70 (by have := DG_19 hx; omega))).2.2.2 ?_
    refine g_iload C X69 d43_630 (q := 632) rfl rfl ?_
    refine g_bipush C X69 d43_632 (q := 634) rfl (z := (17 : Int32)) rfl ?_
    refine g_icY C X69 d43_634 (by decide) (q := 667) (by decide) (flt (own_nlt (i := 9) (j := 17) (by decide) (by decide) hc70 (by have := DG_19 hx; omega))).2.2.2 ?_
    refine g_iload C X69 d43_667 (q := 669) rfl rfl ?_
    refine g_bipush C X69 d43_669 (q := 671) rfl (z := (18 : Int32)) rfl ?_
    refine g_icY C X69 d43_671 (by decide) (q := 704) (by decide) (flt (own_nlt (i := 9) (j := 18) (by decide) (by decide) hc70 (by have := DG_19 hx; omega))).2.2.2 ?_
    refine g_iload C X69 d43_704 (q := 706) rfl rfl ?_
    by_cases hc71 : (o32 sgN) = (0 : Int32)
    rotate_left
    · refine g_ifN C X69 d43_706 (q := 709) rfl (feq hc71).1 ?_
      obtain rfl : sgN = 1 := hsg.elim (fun z => by subst z; exact absurd rfl hc71) id
      refine g_iload C X69 d43_709 (q := 711) rfl rfl ?_
      refine g_ifN C X69 d43_711 (q := 714) rfl (by decide) ?_
      refine g_aloadN C X69 d43_714 (q := 715) rfl rfl rfl ?_
      refine g_iload C X69 d43_715 (q := 717) rfl rfl ?_
      refine g_iload C X69 d43_717 (q := 719) rfl rfl ?_
      refine g_isub C X69 d43_719 (q := 720) rfl (z := (o32 (eN - 1 - (DG xN).length))) (r_sub (eN - 1) (by omega) _ (by omega)) ?_
      refine g_callV1 C X69 (y := (⟨"java/lang/String", "charAt", "(I)C"⟩ : MethodName)) (z := (⟨"java/lang/String", "charAt", "(I)C"⟩ : MethodName)) (a := x0) (by decide) (w226 hw) (w227 hw) (w229 hw) (w228 hw) (nf_sel (w229 hw)) S0.1 (w230 hw) (w27 hw) (rm_chr hw (x0 := x0) (tb := tb) (kb := kb) (ls := ls) (iN := (eN - 1 - (DG xN).length)) O W ⟨S0.1, S0.2.1, S0.2.2.1, S0.2.2.2⟩ h19 hgd (by omega)) (W := 0) (by decide) (by decide) (k' := 0) rfl (n' := 0) rfl (by decide) (by decide) rfl pd_520 (argsL := [(.int (o32 (eN - 1 - (DG xN).length)))]) rfl (rest := []) rfl rfl rfl d43_720 (q := 723) rfl ?_
      rintro _ T72 _ X73 ⟨rfl, rfl⟩
      refine g_bipush C X73 d43_723 (q := 725) rfl (z := (45 : Int32)) rfl ?_
      refine g_icN C X73 d43_725 (q := 728) rfl (teq (hsgn rfl)).2 ?_
      refine g_iconst C X73 d43_728 (q := 729) rfl (z := (1 : Int32)) rfl ?_
      refine g_goto C X73 d43_729 (by decide) (q := 733) (by decide) ?_
      refine g_istore C X73 d43_733 (q := 735) rfl (L' := #[.val (.ref x0), .val (.int (o32 eN)), .val (.long vL), .second, .val (.int (o32 1)), .val (.long (nx xN)), .second, .val (.int (o32 (DG xN).length)), .val (.int (o32 (eN - 1))), .val (.int (1 : Int32))]) rfl ?_
      refine g_iload C X73 d43_735 (q := 737) rfl rfl ?_
      exact g_retN C X73 (Or.inl rfl) (z' := 1) (by decide) d43_737 (by decide) (by decide) ⟨_, rfl, rfl, rfl⟩
    refine g_ifY C X69 d43_706 (by decide) (q := 735) (by decide) (teq hc71).1 ?_
    refine g_iload C X69 d43_735 (q := 737) rfl rfl ?_
    exact g_retN C X69 (Or.inl rfl) (z' := 1) (by decide) d43_737 (by decide) (by decide) ⟨_, rfl, rfl, rfl⟩
  refine g_icN C X69 d43_338 (q := 341) rfl (tlt hc70).2.2.2 ?_
  refine g_iload C X69 d43_341 (q := 343) rfl rfl ?_
  refine g_ifN C X69 d43_343 (q := 346) rfl (by decide) ?_
  refine g_aloadN C X69 d43_346 (q := 347) rfl rfl rfl ?_
  refine g_iload C X69 d43_347 (q := 349) rfl rfl ?_
  refine g_bipush C X69 d43_349 (q := 351) rfl (z := (9 : Int32)) rfl ?_
  have hk74 : 9 < (DG xN).length := (r_lt 9 (by decide) _ (by have := DG_19 hx; omega)).1 hc70
  refine g_isub C X69 d43_351 (q := 352) rfl (z := (o32 (eN - 1 - 9))) (r_sub (eN - 1) (by omega) 9 (by omega)) ?_
  refine g_lload C X69 d43_352 (q := 354) rfl rfl ?_
  refine g_ldcJ C X69 (w267 hw) d43_354 (q := 357) rfl ?_
  refine g_ldiv C X69 d43_357 (q := 358) rfl (by decide) (z := (nx (xN / 1000000000))) (nxdiv hx (P := 1000000000) (by decide)) ?_
  have hp75 := DG_pos xN
  refine g_callS1 C X69 (y := (⟨"com/example/large_table_updates/largetableupdates/RunResultSummaryPinLaw", "dig", "(Ljava/lang/String;IJ)Z"⟩ : MethodName)) (by decide) (w251 hw) (w252 hw) (w253 hw) (w197 hw) (rm_dig hw (iN := (eN - 1 - 9)) (yN := (xN / 1000000000)) O W ⟨S0.1, S0.2.1, S0.2.2.1, S0.2.2.2⟩ h19 hgd (by omega) (Nat.le_trans (Nat.div_le_self ..) hx) (hdg 9 hk74)) (W := 0) (by decide) (by decide) (k' := 0) rfl (n' := 0) rfl (by decide) (by decide) rfl pd_543 (argsL := [(.ref x0), (.int (o32 (eN - 1 - 9))), (.long (nx (xN / 1000000000)))]) rfl (rest := []) rfl rfl rfl d43_358 (q := 361) rfl ?_
  rintro _ T76 _ X77 ⟨rfl, rfl⟩
  refine g_ifN C X77 d43_361 (q := 364) rfl (by decide) ?_
  refine g_iconst C X77 d43_364 (q := 365) rfl (z := (1 : Int32)) rfl ?_
  refine g_goto C X77 d43_365 (by decide) (q := 369) (by decide) ?_
  refine g_istore C X77 d43_369 (q := 371) rfl (L' := #[.val (.ref x0), .val (.int (o32 eN)), .val (.long vL), .second, .val (.int (o32 sgN)), .val (.long (nx xN)), .second, .val (.int (o32 (DG xN).length)), .val (.int (o32 (eN - 1))), .val (.int (1 : Int32))]) rfl ?_
  refine g_iload C X77 d43_371 (q := 373) rfl rfl ?_
  refine g_bipush C X77 d43_373 (q := 375) rfl (z := (10 : Int32)) rfl ?_
  by_cases hc78 : (10 : Int32) < (o32 (DG xN).length)
  rotate_left
  · refine g_icY C X77 d43_375 (by decide) (q := 408) (by decide) (flt hc78).2.2.2 ?_
    refine g_iload C X77 d43_408 (q := 410) rfl rfl ?_
    refine g_bipush C X77 d43_410 (q := 412) rfl (z := (11 : Int32)) rfl ?_
    refine g_icY C X77 d43_412 (by decide) (q := 445) (by decide) (flt (own_nlt (i := 10) (j := 11) (by decide) (by decide) hc78 (by have := DG_19 hx; omega))).2.2.2 ?_
    refine g_iload C X77 d43_445 (q := 447) rfl rfl ?_
    refine g_bipush C X77 d43_447 (q := 449) rfl (z := (12 : Int32)) rfl ?_
    refine g_icY C X77 d43_449 (by decide) (q := 482) (by decide) (flt (own_nlt (i := 10) (j := 12) (by decide) (by decide) hc78 (by have := DG_19 hx; omega))).2.2.2 ?_
    refine g_iload C X77 d43_482 (q := 484) rfl rfl ?_
    refine g_bipush C X77 d43_484 (q := 486) rfl (z := (13 : Int32)) rfl ?_
    refine g_icY C X77 d43_486 (by decide) (q := 519) (by decide) (flt (own_nlt (i := 10) (j := 13) (by decide) (by decide) hc78 (by have := DG_19 hx; omega))).2.2.2 ?_
    refine g_iload C X77 d43_519 (q := 521) rfl rfl ?_
    refine g_bipush C X77 d43_521 (q := 523) rfl (z := (14 : Int32)) rfl ?_
    refine g_icY C X77 d43_523 (by decide) (q := 556) (by decide) (flt (own_nlt (i := 10) (j := 14) (by decide) (by decide) hc78 (by have := DG_19 hx; omega))).2.2.2 ?_
    refine g_iload C X77 d43_556 (q := 558) rfl rfl ?_
    refine g_bipush C X77 d43_558 (q := 560) rfl (z := (15 : Int32)) rfl ?_
    refine g_icY C X77 d43_560 (by decide) (q := 593) (by decide) (flt (own_nlt (i := 10) (j := 15) (by decide) (by decide) hc78 (by have := DG_19 hx; omega))).2.2.2 ?_
    refine g_iload C X77 d43_593 (q := 595) rfl rfl ?_
    refine g_bipush C X77 d43_595 (q := 597) rfl (z := (16 : Int32)) rfl ?_
    refine g_icY C X77 d43_597 (by decide) (q := 630) (by decide) (flt (own_nlt (i := 10) (j := 16) (by decide) (by decide) hc78 (by have := DG_19 hx; omega))).2.2.2 ?_
    refine g_iload C X77 d43_630 (q := 632) rfl rfl ?_
    refine g_bipush C X77 d43_632 (q := 634) rfl (z := (17 : Int32)) rfl ?_
    refine g_icY C X77 d43_634 (by decide) (q := 667) (by decide) (flt (own_nlt (i := 10) (j := 17) (by decide) (by decide) hc78 (by have := DG_19 hx; omega))).2.2.2 ?_
    refine g_iload C X77 d43_667 (q := 669) rfl rfl ?_
    refine g_bipush C X77 d43_669 (q := 671) rfl (z := (18 : Int32)) rfl ?_
    refine g_icY C X77 d43_671 (by decide) (q := 704) (by decide) (flt (own_nlt (i := 10) (j := 18) (by decide) (by decide) hc78 (by have := DG_19 hx; omega))).2.2.2 ?_
    refine g_iload C X77 d43_704 (q := 706) rfl rfl ?_
    by_cases hc79 : (o32 sgN) = (0 : Int32)
    rotate_left
    · refine g_ifN C X77 d43_706 (q := 709) rfl (feq hc79).1 ?_
      obtain rfl : sgN = 1 := hsg.elim (fun z => by subst z; exact absurd rfl hc79) id
      refine g_iload C X77 d43_709 (q := 711) rfl rfl ?_
      refine g_ifN C X77 d43_711 (q := 714) rfl (by decide) ?_
      refine g_aloadN C X77 d43_714 (q := 715) rfl rfl rfl ?_
      refine g_iload C X77 d43_715 (q := 717) rfl rfl ?_
      refine g_iload C X77 d43_717 (q := 719) rfl rfl ?_
      refine g_isub C X77 d43_719 (q := 720) rfl (z := (o32 (eN - 1 - (DG xN).length))) (r_sub (eN - 1) (by omega) _ (by omega)) ?_
      refine g_callV1 C X77 (y := (⟨"java/lang/String", "charAt", "(I)C"⟩ : MethodName)) (z := (⟨"java/lang/String", "charAt", "(I)C"⟩ : MethodName)) (a := x0) (by decide) (w226 hw) (w227 hw) (w229 hw) (w228 hw) (nf_sel (w229 hw)) S0.1 (w230 hw) (w27 hw) (rm_chr hw (x0 := x0) (tb := tb) (kb := kb) (ls := ls) (iN := (eN - 1 - (DG xN).length)) O W ⟨S0.1, S0.2.1, S0.2.2.1, S0.2.2.2⟩ h19 hgd (by omega)) (W := 0) (by decide) (by decide) (k' := 0) rfl (n' := 0) rfl (by decide) (by decide) rfl pd_520 (argsL := [(.int (o32 (eN - 1 - (DG xN).length)))]) rfl (rest := []) rfl rfl rfl d43_720 (q := 723) rfl ?_
      rintro _ T80 _ X81 ⟨rfl, rfl⟩
      refine g_bipush C X81 d43_723 (q := 725) rfl (z := (45 : Int32)) rfl ?_
      refine g_icN C X81 d43_725 (q := 728) rfl (teq (hsgn rfl)).2 ?_
      refine g_iconst C X81 d43_728 (q := 729) rfl (z := (1 : Int32)) rfl ?_
      refine g_goto C X81 d43_729 (by decide) (q := 733) (by decide) ?_
      refine g_istore C X81 d43_733 (q := 735) rfl (L' := #[.val (.ref x0), .val (.int (o32 eN)), .val (.long vL), .second, .val (.int (o32 1)), .val (.long (nx xN)), .second, .val (.int (o32 (DG xN).length)), .val (.int (o32 (eN - 1))), .val (.int (1 : Int32))]) rfl ?_
      refine g_iload C X81 d43_735 (q := 737) rfl rfl ?_
      exact g_retN C X81 (Or.inl rfl) (z' := 1) (by decide) d43_737 (by decide) (by decide) ⟨_, rfl, rfl, rfl⟩
    refine g_ifY C X77 d43_706 (by decide) (q := 735) (by decide) (teq hc79).1 ?_
    refine g_iload C X77 d43_735 (q := 737) rfl rfl ?_
    exact g_retN C X77 (Or.inl rfl) (z' := 1) (by decide) d43_737 (by decide) (by decide) ⟨_, rfl, rfl, rfl⟩
  refine g_icN C X77 d43_375 (q := 378) rfl (tlt hc78).2.2.2 ?_
  refine g_iload C X77 d43_378 (q := 380) rfl rfl ?_
  refine g_ifN C X77 d43_380 (q := 383) rfl (by decide) ?_
  refine g_aloadN C X77 d43_383 (q := 384) rfl rfl rfl ?_
  refine g_iload C X77 d43_384 (q := 386) rfl rfl ?_
  refine g_bipush C X77 d43_386 (q := 388) rfl (z := (10 : Int32)) rfl ?_
  have hk82 : 10 < (DG xN).length := (r_lt 10 (by decide) _ (by have := DG_19 hx; omega)).1 hc78
  refine g_isub C X77 d43_388 (q := 389) rfl (z := (o32 (eN - 1 - 10))) (r_sub (eN - 1) (by omega) 10 (by omega)) ?_
  refine g_lload C X77 d43_389 (q := 391) rfl rfl ?_
  refine g_ldcJ C X77 (w268 hw) d43_391 (q := 394) rfl ?_
  refine g_ldiv C X77 d43_394 (q := 395) rfl (by decide) (z := (nx (xN / 10000000000))) (nxdiv hx (P := 10000000000) (by decide)) ?_
  have hp83 := DG_pos xN
  refine g_callS1 C X77 (y := (⟨"com/example/large_table_updates/largetableupdates/RunResultSummaryPinLaw", "dig", "(Ljava/lang/String;IJ)Z"⟩ : MethodName)) (by decide) (w251 hw) (w252 hw) (w253 hw) (w197 hw) (rm_dig hw (iN := (eN - 1 - 10)) (yN := (xN / 10000000000)) O W ⟨S0.1, S0.2.1, S0.2.2.1, S0.2.2.2⟩ h19 hgd (by omega) (Nat.le_trans (Nat.div_le_self ..) hx) (hdg 10 hk82)) (W := 0) (by decide) (by decide) (k' := 0) rfl (n' := 0) rfl (by decide) (by decide) rfl pd_543 (argsL := [(.ref x0), (.int (o32 (eN - 1 - 10))), (.long (nx (xN / 10000000000)))]) rfl (rest := []) rfl rfl rfl d43_395 (q := 398) rfl ?_
  rintro _ T84 _ X85 ⟨rfl, rfl⟩
  refine g_ifN C X85 d43_398 (q := 401) rfl (by decide) ?_
  refine g_iconst C X85 d43_401 (q := 402) rfl (z := (1 : Int32)) rfl ?_
  refine g_goto C X85 d43_402 (by decide) (q := 406) (by decide) ?_
  refine g_istore C X85 d43_406 (q := 408) rfl (L' := #[.val (.ref x0), .val (.int (o32 eN)), .val (.long vL), .second, .val (.int (o32 sgN)), .val (.long (nx xN)), .second, .val (.int (o32 (DG xN).length)), .val (.int (o32 (eN - 1))), .val (.int (1 : Int32))]) rfl ?_
  refine g_iload C X85 d43_408 (q := 410) rfl rfl ?_
  refine g_bipush C X85 d43_410 (q := 412) rfl (z := (11 : Int32)) rfl ?_
  by_cases hc86 : (11 : Int32) < (o32 (DG xN).length)
  rotate_left
  · refine g_icY C X85 d43_412 (by decide) (q := 445) (by decide) (flt hc86).2.2.2 ?_
    refine g_iload C X85 d43_445 (q := 447) rfl rfl ?_
    refine g_bipush C X85 d43_447 (q := 449) rfl (z := (12 : Int32)) rfl ?_
    refine g_icY C X85 d43_449 (by decide) (q := 482) (by decide) (flt (own_nlt (i := 11) (j := 12) (by decide) (by decide) hc86 (by have := DG_19 hx; omega))).2.2.2 ?_
    refine g_iload C X85 d43_482 (q := 484) rfl rfl ?_
    refine g_bipush C X85 d43_484 (q := 486) rfl (z := (13 : Int32)) rfl ?_
    refine g_icY C X85 d43_486 (by decide) (q := 519) (by decide) (flt (own_nlt (i := 11) (j := 13) (by decide) (by decide) hc86 (by have := DG_19 hx; omega))).2.2.2 ?_
    refine g_iload C X85 d43_519 (q := 521) rfl rfl ?_
    refine g_bipush C X85 d43_521 (q := 523) rfl (z := (14 : Int32)) rfl ?_
    refine g_icY C X85 d43_523 (by decide) (q := 556) (by decide) (flt (own_nlt (i := 11) (j := 14) (by decide) (by decide) hc86 (by have := DG_19 hx; omega))).2.2.2 ?_
    refine g_iload C X85 d43_556 (q := 558) rfl rfl ?_
    refine g_bipush C X85 d43_558 (q := 560) rfl (z := (15 : Int32)) rfl ?_
    refine g_icY C X85 d43_560 (by decide) (q := 593) (by decide) (flt (own_nlt (i := 11) (j := 15) (by decide) (by decide) hc86 (by have := DG_19 hx; omega))).2.2.2 ?_
    refine g_iload C X85 d43_593 (q := 595) rfl rfl ?_
    refine g_bipush C X85 d43_595 (q := 597) rfl (z := (16 : Int32)) rfl ?_
    refine g_icY C X85 d43_597 (by decide) (q := 630) (by decide) (flt (own_nlt (i := 11) (j := 16) (by decide) (by decide) hc86 (by have := DG_19 hx; omega))).2.2.2 ?_
    refine g_iload C X85 d43_630 (q := 632) rfl rfl ?_
    refine g_bipush C X85 d43_632 (q := 634) rfl (z := (17 : Int32)) rfl ?_
    refine g_icY C X85 d43_634 (by decide) (q := 667) (by decide) (flt (own_nlt (i := 11) (j := 17) (by decide) (by decide) hc86 (by have := DG_19 hx; omega))).2.2.2 ?_
    refine g_iload C X85 d43_667 (q := 669) rfl rfl ?_
    refine g_bipush C X85 d43_669 (q := 671) rfl (z := (18 : Int32)) rfl ?_
    refine g_icY C X85 d43_671 (by decide) (q := 704) (by decide) (flt (own_nlt (i := 11) (j := 18) (by decide) (by decide) hc86 (by have := DG_19 hx; omega))).2.2.2 ?_
    refine g_iload C X85 d43_704 (q := 706) rfl rfl ?_
    by_cases hc87 : (o32 sgN) = (0 : Int32)
    rotate_left
    · refine g_ifN C X85 d43_706 (q := 709) rfl (feq hc87).1 ?_
      obtain rfl : sgN = 1 := hsg.elim (fun z => by subst z; exact absurd rfl hc87) id
      refine g_iload C X85 d43_709 (q := 711) rfl rfl ?_
      refine g_ifN C X85 d43_711 (q := 714) rfl (by decide) ?_
      refine g_aloadN C X85 d43_714 (q := 715) rfl rfl rfl ?_
      refine g_iload C X85 d43_715 (q := 717) rfl rfl ?_
      refine g_iload C X85 d43_717 (q := 719) rfl rfl ?_
      refine g_isub C X85 d43_719 (q := 720) rfl (z := (o32 (eN - 1 - (DG xN).length))) (r_sub (eN - 1) (by omega) _ (by omega)) ?_
      refine g_callV1 C X85 (y := (⟨"java/lang/String", "charAt", "(I)C"⟩ : MethodName)) (z := (⟨"java/lang/String", "charAt", "(I)C"⟩ : MethodName)) (a := x0) (by decide) (w226 hw) (w227 hw) (w229 hw) (w228 hw) (nf_sel (w229 hw)) S0.1 (w230 hw) (w27 hw) (rm_chr hw (x0 := x0) (tb := tb) (kb := kb) (ls := ls) (iN := (eN - 1 - (DG xN).length)) O W ⟨S0.1, S0.2.1, S0.2.2.1, S0.2.2.2⟩ h19 hgd (by omega)) (W := 0) (by decide) (by decide) (k' := 0) rfl (n' := 0) rfl (by decide) (by decide) rfl pd_520 (argsL := [(.int (o32 (eN - 1 - (DG xN).length)))]) rfl (rest := []) rfl rfl rfl d43_720 (q := 723) rfl ?_
      rintro _ T88 _ X89 ⟨rfl, rfl⟩
      refine g_bipush C X89 d43_723 (q := 725) rfl (z := (45 : Int32)) rfl ?_
      refine g_icN C X89 d43_725 (q := 728) rfl (teq (hsgn rfl)).2 ?_
      refine g_iconst C X89 d43_728 (q := 729) rfl (z := (1 : Int32)) rfl ?_
      refine g_goto C X89 d43_729 (by decide) (q := 733) (by decide) ?_
      refine g_istore C X89 d43_733 (q := 735) rfl (L' := #[.val (.ref x0), .val (.int (o32 eN)), .val (.long vL), .second, .val (.int (o32 1)), .val (.long (nx xN)), .second, .val (.int (o32 (DG xN).length)), .val (.int (o32 (eN - 1))), .val (.int (1 : Int32))]) rfl ?_
      refine g_iload C X89 d43_735 (q := 737) rfl rfl ?_
      exact g_retN C X89 (Or.inl rfl) (z' := 1) (by decide) d43_737 (by decide) (by decide) ⟨_, rfl, rfl, rfl⟩
    refine g_ifY C X85 d43_706 (by decide) (q := 735) (by decide) (teq hc87).1 ?_
    refine g_iload C X85 d43_735 (q := 737) rfl rfl ?_
    exact g_retN C X85 (Or.inl rfl) (z' := 1) (by decide) d43_737 (by decide) (by decide) ⟨_, rfl, rfl, rfl⟩
  refine g_icN C X85 d43_412 (q := 415) rfl (tlt hc86).2.2.2 ?_
  refine g_iload C X85 d43_415 (q := 417) rfl rfl ?_
  refine g_ifN C X85 d43_417 (q := 420) rfl (by decide) ?_
  refine g_aloadN C X85 d43_420 (q := 421) rfl rfl rfl ?_
  refine g_iload C X85 d43_421 (q := 423) rfl rfl ?_
  refine g_bipush C X85 d43_423 (q := 425) rfl (z := (11 : Int32)) rfl ?_
  have hk90 : 11 < (DG xN).length := (r_lt 11 (by decide) _ (by have := DG_19 hx; omega)).1 hc86
  refine g_isub C X85 d43_425 (q := 426) rfl (z := (o32 (eN - 1 - 11))) (r_sub (eN - 1) (by omega) 11 (by omega)) ?_
  refine g_lload C X85 d43_426 (q := 428) rfl rfl ?_
  refine g_ldcJ C X85 (w269 hw) d43_428 (q := 431) rfl ?_
  refine g_ldiv C X85 d43_431 (q := 432) rfl (by decide) (z := (nx (xN / 100000000000))) (nxdiv hx (P := 100000000000) (by decide)) ?_
  have hp91 := DG_pos xN
  refine g_callS1 C X85 (y := (⟨"com/example/large_table_updates/largetableupdates/RunResultSummaryPinLaw", "dig", "(Ljava/lang/String;IJ)Z"⟩ : MethodName)) (by decide) (w251 hw) (w252 hw) (w253 hw) (w197 hw) (rm_dig hw (iN := (eN - 1 - 11)) (yN := (xN / 100000000000)) O W ⟨S0.1, S0.2.1, S0.2.2.1, S0.2.2.2⟩ h19 hgd (by omega) (Nat.le_trans (Nat.div_le_self ..) hx) (hdg 11 hk90)) (W := 0) (by decide) (by decide) (k' := 0) rfl (n' := 0) rfl (by decide) (by decide) rfl pd_543 (argsL := [(.ref x0), (.int (o32 (eN - 1 - 11))), (.long (nx (xN / 100000000000)))]) rfl (rest := []) rfl rfl rfl d43_432 (q := 435) rfl ?_
  rintro _ T92 _ X93 ⟨rfl, rfl⟩
  refine g_ifN C X93 d43_435 (q := 438) rfl (by decide) ?_
  refine g_iconst C X93 d43_438 (q := 439) rfl (z := (1 : Int32)) rfl ?_
  refine g_goto C X93 d43_439 (by decide) (q := 443) (by decide) ?_
  refine g_istore C X93 d43_443 (q := 445) rfl (L' := #[.val (.ref x0), .val (.int (o32 eN)), .val (.long vL), .second, .val (.int (o32 sgN)), .val (.long (nx xN)), .second, .val (.int (o32 (DG xN).length)), .val (.int (o32 (eN - 1))), .val (.int (1 : Int32))]) rfl ?_
  refine g_iload C X93 d43_445 (q := 447) rfl rfl ?_
  refine g_bipush C X93 d43_447 (q := 449) rfl (z := (12 : Int32)) rfl ?_
  by_cases hc94 : (12 : Int32) < (o32 (DG xN).length)
  rotate_left
  · refine g_icY C X93 d43_449 (by decide) (q := 482) (by decide) (flt hc94).2.2.2 ?_
    refine g_iload C X93 d43_482 (q := 484) rfl rfl ?_
    refine g_bipush C X93 d43_484 (q := 486) rfl (z := (13 : Int32)) rfl ?_
    refine g_icY C X93 d43_486 (by decide) (q := 519) (by decide) (flt (own_nlt (i := 12) (j := 13) (by decide) (by decide) hc94 (by have := DG_19 hx; omega))).2.2.2 ?_
    refine g_iload C X93 d43_519 (q := 521) rfl rfl ?_
    refine g_bipush C X93 d43_521 (q := 523) rfl (z := (14 : Int32)) rfl ?_
    refine g_icY C X93 d43_523 (by decide) (q := 556) (by decide) (flt (own_nlt (i := 12) (j := 14) (by decide) (by decide) hc94 (by have := DG_19 hx; omega))).2.2.2 ?_
    refine g_iload C X93 d43_556 (q := 558) rfl rfl ?_
    refine g_bipush C X93 d43_558 (q := 560) rfl (z := (15 : Int32)) rfl ?_
    refine g_icY C X93 d43_560 (by decide) (q := 593) (by decide) (flt (own_nlt (i := 12) (j := 15) (by decide) (by decide) hc94 (by have := DG_19 hx; omega))).2.2.2 ?_
    refine g_iload C X93 d43_593 (q := 595) rfl rfl ?_
    refine g_bipush C X93 d43_595 (q := 597) rfl (z := (16 : Int32)) rfl ?_
    refine g_icY C X93 d43_597 (by decide) (q := 630) (by decide) (flt (own_nlt (i := 12) (j := 16) (by decide) (by decide) hc94 (by have := DG_19 hx; omega))).2.2.2 ?_
    refine g_iload C X93 d43_630 (q := 632) rfl rfl ?_
    refine g_bipush C X93 d43_632 (q := 634) rfl (z := (17 : Int32)) rfl ?_
    refine g_icY C X93 d43_634 (by decide) (q := 667) (by decide) (flt (own_nlt (i := 12) (j := 17) (by decide) (by decide) hc94 (by have := DG_19 hx; omega))).2.2.2 ?_
    refine g_iload C X93 d43_667 (q := 669) rfl rfl ?_
    refine g_bipush C X93 d43_669 (q := 671) rfl (z := (18 : Int32)) rfl ?_
    refine g_icY C X93 d43_671 (by decide) (q := 704) (by decide) (flt (own_nlt (i := 12) (j := 18) (by decide) (by decide) hc94 (by have := DG_19 hx; omega))).2.2.2 ?_
    refine g_iload C X93 d43_704 (q := 706) rfl rfl ?_
    by_cases hc95 : (o32 sgN) = (0 : Int32)
    rotate_left
    · refine g_ifN C X93 d43_706 (q := 709) rfl (feq hc95).1 ?_
      obtain rfl : sgN = 1 := hsg.elim (fun z => by subst z; exact absurd rfl hc95) id
      refine g_iload C X93 d43_709 (q := 711) rfl rfl ?_
      refine g_ifN C X93 d43_711 (q := 714) rfl (by decide) ?_
      refine g_aloadN C X93 d43_714 (q := 715) rfl rfl rfl ?_
      refine g_iload C X93 d43_715 (q := 717) rfl rfl ?_
      refine g_iload C X93 d43_717 (q := 719) rfl rfl ?_
      refine g_isub C X93 d43_719 (q := 720) rfl (z := (o32 (eN - 1 - (DG xN).length))) (r_sub (eN - 1) (by omega) _ (by omega)) ?_
      refine g_callV1 C X93 (y := (⟨"java/lang/String", "charAt", "(I)C"⟩ : MethodName)) (z := (⟨"java/lang/String", "charAt", "(I)C"⟩ : MethodName)) (a := x0) (by decide) (w226 hw) (w227 hw) (w229 hw) (w228 hw) (nf_sel (w229 hw)) S0.1 (w230 hw) (w27 hw) (rm_chr hw (x0 := x0) (tb := tb) (kb := kb) (ls := ls) (iN := (eN - 1 - (DG xN).length)) O W ⟨S0.1, S0.2.1, S0.2.2.1, S0.2.2.2⟩ h19 hgd (by omega)) (W := 0) (by decide) (by decide) (k' := 0) rfl (n' := 0) rfl (by decide) (by decide) rfl pd_520 (argsL := [(.int (o32 (eN - 1 - (DG xN).length)))]) rfl (rest := []) rfl rfl rfl d43_720 (q := 723) rfl ?_
      rintro _ T96 _ X97 ⟨rfl, rfl⟩
      refine g_bipush C X97 d43_723 (q := 725) rfl (z := (45 : Int32)) rfl ?_
      refine g_icN C X97 d43_725 (q := 728) rfl (teq (hsgn rfl)).2 ?_
      refine g_iconst C X97 d43_728 (q := 729) rfl (z := (1 : Int32)) rfl ?_
      refine g_goto C X97 d43_729 (by decide) (q := 733) (by decide) ?_
      refine g_istore C X97 d43_733 (q := 735) rfl (L' := #[.val (.ref x0), .val (.int (o32 eN)), .val (.long vL), .second, .val (.int (o32 1)), .val (.long (nx xN)), .second, .val (.int (o32 (DG xN).length)), .val (.int (o32 (eN - 1))), .val (.int (1 : Int32))]) rfl ?_
      refine g_iload C X97 d43_735 (q := 737) rfl rfl ?_
      exact g_retN C X97 (Or.inl rfl) (z' := 1) (by decide) d43_737 (by decide) (by decide) ⟨_, rfl, rfl, rfl⟩
    refine g_ifY C X93 d43_706 (by decide) (q := 735) (by decide) (teq hc95).1 ?_
    refine g_iload C X93 d43_735 (q := 737) rfl rfl ?_
    exact g_retN C X93 (Or.inl rfl) (z' := 1) (by decide) d43_737 (by decide) (by decide) ⟨_, rfl, rfl, rfl⟩
  refine g_icN C X93 d43_449 (q := 452) rfl (tlt hc94).2.2.2 ?_
  refine g_iload C X93 d43_452 (q := 454) rfl rfl ?_
  refine g_ifN C X93 d43_454 (q := 457) rfl (by decide) ?_
  refine g_aloadN C X93 d43_457 (q := 458) rfl rfl rfl ?_
  refine g_iload C X93 d43_458 (q := 460) rfl rfl ?_
  refine g_bipush C X93 d43_460 (q := 462) rfl (z := (12 : Int32)) rfl ?_
  have hk98 : 12 < (DG xN).length := (r_lt 12 (by decide) _ (by have := DG_19 hx; omega)).1 hc94
  refine g_isub C X93 d43_462 (q := 463) rfl (z := (o32 (eN - 1 - 12))) (r_sub (eN - 1) (by omega) 12 (by omega)) ?_
  refine g_lload C X93 d43_463 (q := 465) rfl rfl ?_
  refine g_ldcJ C X93 (w270 hw) d43_465 (q := 468) rfl ?_
  refine g_ldiv C X93 d43_468 (q := 469) rfl (by decide) (z := (nx (xN / 1000000000000))) (nxdiv hx (P := 1000000000000) (by decide)) ?_
  have hp99 := DG_pos xN
  refine g_callS1 C X93 (y := (⟨"com/example/large_table_updates/largetableupdates/RunResultSummaryPinLaw", "dig", "(Ljava/lang/String;IJ)Z"⟩ : MethodName)) (by decide) (w251 hw) (w252 hw) (w253 hw) (w197 hw) (rm_dig hw (iN := (eN - 1 - 12)) (yN := (xN / 1000000000000)) O W ⟨S0.1, S0.2.1, S0.2.2.1, S0.2.2.2⟩ h19 hgd (by omega) (Nat.le_trans (Nat.div_le_self ..) hx) (hdg 12 hk98)) (W := 0) (by decide) (by decide) (k' := 0) rfl (n' := 0) rfl (by decide) (by decide) rfl pd_543 (argsL := [(.ref x0), (.int (o32 (eN - 1 - 12))), (.long (nx (xN / 1000000000000)))]) rfl (rest := []) rfl rfl rfl d43_469 (q := 472) rfl ?_
  rintro _ T100 _ X101 ⟨rfl, rfl⟩
  refine g_ifN C X101 d43_472 (q := 475) rfl (by decide) ?_
  refine g_iconst C X101 d43_475 (q := 476) rfl (z := (1 : Int32)) rfl ?_
  refine g_goto C X101 d43_476 (by decide) (q := 480) (by decide) ?_
  refine g_istore C X101 d43_480 (q := 482) rfl (L' := #[.val (.ref x0), .val (.int (o32 eN)), .val (.long vL), .second, .val (.int (o32 sgN)), .val (.long (nx xN)), .second, .val (.int (o32 (DG xN).length)), .val (.int (o32 (eN - 1))), .val (.int (1 : Int32))]) rfl ?_
  refine g_iload C X101 d43_482 (q := 484) rfl rfl ?_
  refine g_bipush C X101 d43_484 (q := 486) rfl (z := (13 : Int32)) rfl ?_
  by_cases hc102 : (13 : Int32) < (o32 (DG xN).length)
  rotate_left
  · refine g_icY C X101 d43_486 (by decide) (q := 519) (by decide) (flt hc102).2.2.2 ?_
    refine g_iload C X101 d43_519 (q := 521) rfl rfl ?_
    refine g_bipush C X101 d43_521 (q := 523) rfl (z := (14 : Int32)) rfl ?_
    refine g_icY C X101 d43_523 (by decide) (q := 556) (by decide) (flt (own_nlt (i := 13) (j := 14) (by decide) (by decide) hc102 (by have := DG_19 hx; omega))).2.2.2 ?_
    refine g_iload C X101 d43_556 (q := 558) rfl rfl ?_
    refine g_bipush C X101 d43_558 (q := 560) rfl (z := (15 : Int32)) rfl ?_
    refine g_icY C X101 d43_560 (by decide) (q := 593) (by decide) (flt (own_nlt (i := 13) (j := 15) (by decide) (by decide) hc102 (by have := DG_19 hx; omega))).2.2.2 ?_
    refine g_iload C X101 d43_593 (q := 595) rfl rfl ?_
    refine g_bipush C X101 d43_595 (q := 597) rfl (z := (16 : Int32)) rfl ?_
    refine g_icY C X101 d43_597 (by decide) (q := 630) (by decide) (flt (own_nlt (i := 13) (j := 16) (by decide) (by decide) hc102 (by have := DG_19 hx; omega))).2.2.2 ?_
    refine g_iload C X101 d43_630 (q := 632) rfl rfl ?_
    refine g_bipush C X101 d43_632 (q := 634) rfl (z := (17 : Int32)) rfl ?_
    refine g_icY C X101 d43_634 (by decide) (q := 667) (by decide) (flt (own_nlt (i := 13) (j := 17) (by decide) (by decide) hc102 (by have := DG_19 hx; omega))).2.2.2 ?_
    refine g_iload C X101 d43_667 (q := 669) rfl rfl ?_
    refine g_bipush C X101 d43_669 (q := 671) rfl (z := (18 : Int32)) rfl ?_
    refine g_icY C X101 d43_671 (by decide) (q := 704) (by decide) (flt (own_nlt (i := 13) (j := 18) (by decide) (by decide) hc102 (by have := DG_19 hx; omega))).2.2.2 ?_
    refine g_iload C X101 d43_704 (q := 706) rfl rfl ?_
    by_cases hc103 : (o32 sgN) = (0 : Int32)
    rotate_left
    · refine g_ifN C X101 d43_706 (q := 709) rfl (feq hc103).1 ?_
      obtain rfl : sgN = 1 := hsg.elim (fun z => by subst z; exact absurd rfl hc103) id
      refine g_iload C X101 d43_709 (q := 711) rfl rfl ?_
      refine g_ifN C X101 d43_711 (q := 714) rfl (by decide) ?_
      refine g_aloadN C X101 d43_714 (q := 715) rfl rfl rfl ?_
      refine g_iload C X101 d43_715 (q := 717) rfl rfl ?_
      refine g_iload C X101 d43_717 (q := 719) rfl rfl ?_
      refine g_isub C X101 d43_719 (q := 720) rfl (z := (o32 (eN - 1 - (DG xN).length))) (r_sub (eN - 1) (by omega) _ (by omega)) ?_
      refine g_callV1 C X101 (y := (⟨"java/lang/String", "charAt", "(I)C"⟩ : MethodName)) (z := (⟨"java/lang/String", "charAt", "(I)C"⟩ : MethodName)) (a := x0) (by decide) (w226 hw) (w227 hw) (w229 hw) (w228 hw) (nf_sel (w229 hw)) S0.1 (w230 hw) (w27 hw) (rm_chr hw (x0 := x0) (tb := tb) (kb := kb) (ls := ls) (iN := (eN - 1 - (DG xN).length)) O W ⟨S0.1, S0.2.1, S0.2.2.1, S0.2.2.2⟩ h19 hgd (by omega)) (W := 0) (by decide) (by decide) (k' := 0) rfl (n' := 0) rfl (by decide) (by decide) rfl pd_520 (argsL := [(.int (o32 (eN - 1 - (DG xN).length)))]) rfl (rest := []) rfl rfl rfl d43_720 (q := 723) rfl ?_
      rintro _ T104 _ X105 ⟨rfl, rfl⟩
      refine g_bipush C X105 d43_723 (q := 725) rfl (z := (45 : Int32)) rfl ?_
      refine g_icN C X105 d43_725 (q := 728) rfl (teq (hsgn rfl)).2 ?_
      refine g_iconst C X105 d43_728 (q := 729) rfl (z := (1 : Int32)) rfl ?_
      refine g_goto C X105 d43_729 (by decide) (q := 733) (by decide) ?_
      refine g_istore C X105 d43_733 (q := 735) rfl (L' := #[.val (.ref x0), .val (.int (o32 eN)), .val (.long vL), .second, .val (.int (o32 1)), .val (.long (nx xN)), .second, .val (.int (o32 (DG xN).length)), .val (.int (o32 (eN - 1))), .val (.int (1 : Int32))]) rfl ?_
      refine g_iload C X105 d43_735 (q := 737) rfl rfl ?_
      exact g_retN C X105 (Or.inl rfl) (z' := 1) (by decide) d43_737 (by decide) (by decide) ⟨_, rfl, rfl, rfl⟩
    refine g_ifY C X101 d43_706 (by decide) (q := 735) (by decide) (teq hc103).1 ?_
    refine g_iload C X101 d43_735 (q := 737) rfl rfl ?_
    exact g_retN C X101 (Or.inl rfl) (z' := 1) (by decide) d43_737 (by decide) (by decide) ⟨_, rfl, rfl, rfl⟩
  refine g_icN C X101 d43_486 (q := 489) rfl (tlt hc102).2.2.2 ?_
  refine g_iload C X101 d43_489 (q := 491) rfl rfl ?_
  refine g_ifN C X101 d43_491 (q := 494) rfl (by decide) ?_
  refine g_aloadN C X101 d43_494 (q := 495) rfl rfl rfl ?_
  refine g_iload C X101 d43_495 (q := 497) rfl rfl ?_
  refine g_bipush C X101 d43_497 (q := 499) rfl (z := (13 : Int32)) rfl ?_
  have hk106 : 13 < (DG xN).length := (r_lt 13 (by decide) _ (by have := DG_19 hx; omega)).1 hc102
  refine g_isub C X101 d43_499 (q := 500) rfl (z := (o32 (eN - 1 - 13))) (r_sub (eN - 1) (by omega) 13 (by omega)) ?_
  refine g_lload C X101 d43_500 (q := 502) rfl rfl ?_
  refine g_ldcJ C X101 (w271 hw) d43_502 (q := 505) rfl ?_
  refine g_ldiv C X101 d43_505 (q := 506) rfl (by decide) (z := (nx (xN / 10000000000000))) (nxdiv hx (P := 10000000000000) (by decide)) ?_
  have hp107 := DG_pos xN
  refine g_callS1 C X101 (y := (⟨"com/example/large_table_updates/largetableupdates/RunResultSummaryPinLaw", "dig", "(Ljava/lang/String;IJ)Z"⟩ : MethodName)) (by decide) (w251 hw) (w252 hw) (w253 hw) (w197 hw) (rm_dig hw (iN := (eN - 1 - 13)) (yN := (xN / 10000000000000)) O W ⟨S0.1, S0.2.1, S0.2.2.1, S0.2.2.2⟩ h19 hgd (by omega) (Nat.le_trans (Nat.div_le_self ..) hx) (hdg 13 hk106)) (W := 0) (by decide) (by decide) (k' := 0) rfl (n' := 0) rfl (by decide) (by decide) rfl pd_543 (argsL := [(.ref x0), (.int (o32 (eN - 1 - 13))), (.long (nx (xN / 10000000000000)))]) rfl (rest := []) rfl rfl rfl d43_506 (q := 509) rfl ?_
  rintro _ T108 _ X109 ⟨rfl, rfl⟩
  refine g_ifN C X109 d43_509 (q := 512) rfl (by decide) ?_
  refine g_iconst C X109 d43_512 (q := 513) rfl (z := (1 : Int32)) rfl ?_
  refine g_goto C X109 d43_513 (by decide) (q := 517) (by decide) ?_
  refine g_istore C X109 d43_517 (q := 519) rfl (L' := #[.val (.ref x0), .val (.int (o32 eN)), .val (.long vL), .second, .val (.int (o32 sgN)), .val (.long (nx xN)), .second, .val (.int (o32 (DG xN).length)), .val (.int (o32 (eN - 1))), .val (.int (1 : Int32))]) rfl ?_
  refine g_iload C X109 d43_519 (q := 521) rfl rfl ?_
  refine g_bipush C X109 d43_521 (q := 523) rfl (z := (14 : Int32)) rfl ?_
  by_cases hc110 : (14 : Int32) < (o32 (DG xN).length)
  rotate_left
  · refine g_icY C X109 d43_523 (by decide) (q := 556) (by decide) (flt hc110).2.2.2 ?_
    refine g_iload C X109 d43_556 (q := 558) rfl rfl ?_
    refine g_bipush C X109 d43_558 (q := 560) rfl (z := (15 : Int32)) rfl ?_
    refine g_icY C X109 d43_560 (by decide) (q := 593) (by decide) (flt (own_nlt (i := 14) (j := 15) (by decide) (by decide) hc110 (by have := DG_19 hx; omega))).2.2.2 ?_
    refine g_iload C X109 d43_593 (q := 595) rfl rfl ?_
    refine g_bipush C X109 d43_595 (q := 597) rfl (z := (16 : Int32)) rfl ?_
    refine g_icY C X109 d43_597 (by decide) (q := 630) (by decide) (flt (own_nlt (i := 14) (j := 16) (by decide) (by decide) hc110 (by have := DG_19 hx; omega))).2.2.2 ?_
    refine g_iload C X109 d43_630 (q := 632) rfl rfl ?_
    refine g_bipush C X109 d43_632 (q := 634) rfl (z := (17 : Int32)) rfl ?_
    refine g_icY C X109 d43_634 (by decide) (q := 667) (by decide) (flt (own_nlt (i := 14) (j := 17) (by decide) (by decide) hc110 (by have := DG_19 hx; omega))).2.2.2 ?_
    refine g_iload C X109 d43_667 (q := 669) rfl rfl ?_
    refine g_bipush C X109 d43_669 (q := 671) rfl (z := (18 : Int32)) rfl ?_
    refine g_icY C X109 d43_671 (by decide) (q := 704) (by decide) (flt (own_nlt (i := 14) (j := 18) (by decide) (by decide) hc110 (by have := DG_19 hx; omega))).2.2.2 ?_
    refine g_iload C X109 d43_704 (q := 706) rfl rfl ?_
    by_cases hc111 : (o32 sgN) = (0 : Int32)
    rotate_left
    · refine g_ifN C X109 d43_706 (q := 709) rfl (feq hc111).1 ?_
      obtain rfl : sgN = 1 := hsg.elim (fun z => by subst z; exact absurd rfl hc111) id
      refine g_iload C X109 d43_709 (q := 711) rfl rfl ?_
      refine g_ifN C X109 d43_711 (q := 714) rfl (by decide) ?_
      refine g_aloadN C X109 d43_714 (q := 715) rfl rfl rfl ?_
      refine g_iload C X109 d43_715 (q := 717) rfl rfl ?_
      refine g_iload C X109 d43_717 (q := 719) rfl rfl ?_
      refine g_isub C X109 d43_719 (q := 720) rfl (z := (o32 (eN - 1 - (DG xN).length))) (r_sub (eN - 1) (by omega) _ (by omega)) ?_
      refine g_callV1 C X109 (y := (⟨"java/lang/String", "charAt", "(I)C"⟩ : MethodName)) (z := (⟨"java/lang/String", "charAt", "(I)C"⟩ : MethodName)) (a := x0) (by decide) (w226 hw) (w227 hw) (w229 hw) (w228 hw) (nf_sel (w229 hw)) S0.1 (w230 hw) (w27 hw) (rm_chr hw (x0 := x0) (tb := tb) (kb := kb) (ls := ls) (iN := (eN - 1 - (DG xN).length)) O W ⟨S0.1, S0.2.1, S0.2.2.1, S0.2.2.2⟩ h19 hgd (by omega)) (W := 0) (by decide) (by decide) (k' := 0) rfl (n' := 0) rfl (by decide) (by decide) rfl pd_520 (argsL := [(.int (o32 (eN - 1 - (DG xN).length)))]) rfl (rest := []) rfl rfl rfl d43_720 (q := 723) rfl ?_
      rintro _ T112 _ X113 ⟨rfl, rfl⟩
      refine g_bipush C X113 d43_723 (q := 725) rfl (z := (45 : Int32)) rfl ?_
      refine g_icN C X113 d43_725 (q := 728) rfl (teq (hsgn rfl)).2 ?_
      refine g_iconst C X113 d43_728 (q := 729) rfl (z := (1 : Int32)) rfl ?_
      refine g_goto C X113 d43_729 (by decide) (q := 733) (by decide) ?_
      refine g_istore C X113 d43_733 (q := 735) rfl (L' := #[.val (.ref x0), .val (.int (o32 eN)), .val (.long vL), .second, .val (.int (o32 1)), .val (.long (nx xN)), .second, .val (.int (o32 (DG xN).length)), .val (.int (o32 (eN - 1))), .val (.int (1 : Int32))]) rfl ?_
      refine g_iload C X113 d43_735 (q := 737) rfl rfl ?_
      exact g_retN C X113 (Or.inl rfl) (z' := 1) (by decide) d43_737 (by decide) (by decide) ⟨_, rfl, rfl, rfl⟩
    refine g_ifY C X109 d43_706 (by decide) (q := 735) (by decide) (teq hc111).1 ?_
    refine g_iload C X109 d43_735 (q := 737) rfl rfl ?_
    exact g_retN C X109 (Or.inl rfl) (z' := 1) (by decide) d43_737 (by decide) (by decide) ⟨_, rfl, rfl, rfl⟩
  refine g_icN C X109 d43_523 (q := 526) rfl (tlt hc110).2.2.2 ?_
  refine g_iload C X109 d43_526 (q := 528) rfl rfl ?_
  refine g_ifN C X109 d43_528 (q := 531) rfl (by decide) ?_
  refine g_aloadN C X109 d43_531 (q := 532) rfl rfl rfl ?_
  refine g_iload C X109 d43_532 (q := 534) rfl rfl ?_
  refine g_bipush C X109 d43_534 (q := 536) rfl (z := (14 : Int32)) rfl ?_
  have hk114 : 14 < (DG xN).length := (r_lt 14 (by decide) _ (by have := DG_19 hx; omega)).1 hc110
  refine g_isub C X109 d43_536 (q := 537) rfl (z := (o32 (eN - 1 - 14))) (r_sub (eN - 1) (by omega) 14 (by omega)) ?_
  refine g_lload C X109 d43_537 (q := 539) rfl rfl ?_
  refine g_ldcJ C X109 (w272 hw) d43_539 (q := 542) rfl ?_
  refine g_ldiv C X109 d43_542 (q := 543) rfl (by decide) (z := (nx (xN / 100000000000000))) (nxdiv hx (P := 100000000000000) (by decide)) ?_
  have hp115 := DG_pos xN
  refine g_callS1 C X109 (y := (⟨"com/example/large_table_updates/largetableupdates/RunResultSummaryPinLaw", "dig", "(Ljava/lang/String;IJ)Z"⟩ : MethodName)) (by decide) (w251 hw) (w252 hw) (w253 hw) (w197 hw) (rm_dig hw (iN := (eN - 1 - 14)) (yN := (xN / 100000000000000)) O W ⟨S0.1, S0.2.1, S0.2.2.1, S0.2.2.2⟩ h19 hgd (by omega) (Nat.le_trans (Nat.div_le_self ..) hx) (hdg 14 hk114)) (W := 0) (by decide) (by decide) (k' := 0) rfl (n' := 0) rfl (by decide) (by decide) rfl pd_543 (argsL := [(.ref x0), (.int (o32 (eN - 1 - 14))), (.long (nx (xN / 100000000000000)))]) rfl (rest := []) rfl rfl rfl d43_543 (q := 546) rfl ?_
  rintro _ T116 _ X117 ⟨rfl, rfl⟩
  refine g_ifN C X117 d43_546 (q := 549) rfl (by decide) ?_
  refine g_iconst C X117 d43_549 (q := 550) rfl (z := (1 : Int32)) rfl ?_
  refine g_goto C X117 d43_550 (by decide) (q := 554) (by decide) ?_
  refine g_istore C X117 d43_554 (q := 556) rfl (L' := #[.val (.ref x0), .val (.int (o32 eN)), .val (.long vL), .second, .val (.int (o32 sgN)), .val (.long (nx xN)), .second, .val (.int (o32 (DG xN).length)), .val (.int (o32 (eN - 1))), .val (.int (1 : Int32))]) rfl ?_
  refine g_iload C X117 d43_556 (q := 558) rfl rfl ?_
  refine g_bipush C X117 d43_558 (q := 560) rfl (z := (15 : Int32)) rfl ?_
  by_cases hc118 : (15 : Int32) < (o32 (DG xN).length)
  rotate_left
  · refine g_icY C X117 d43_560 (by decide) (q := 593) (by decide) (flt hc118).2.2.2 ?_
    refine g_iload C X117 d43_593 (q := 595) rfl rfl ?_
    refine g_bipush C X117 d43_595 (q := 597) rfl (z := (16 : Int32)) rfl ?_
    refine g_icY C X117 d43_597 (by decide) (q := 630) (by decide) (flt (own_nlt (i := 15) (j := 16) (by decide) (by decide) hc118 (by have := DG_19 hx; omega))).2.2.2 ?_
    refine g_iload C X117 d43_630 (q := 632) rfl rfl ?_
    refine g_bipush C X117 d43_632 (q := 634) rfl (z := (17 : Int32)) rfl ?_
    refine g_icY C X117 d43_634 (by decide) (q := 667) (by decide) (flt (own_nlt (i := 15) (j := 17) (by decide) (by decide) hc118 (by have := DG_19 hx; omega))).2.2.2 ?_
    refine g_iload C X117 d43_667 (q := 669) rfl rfl ?_
    refine g_bipush C X117 d43_669 (q := 671) rfl (z := (18 : Int32)) rfl ?_
    refine g_icY C X117 d43_671 (by decide) (q := 704) (by decide) (flt (own_nlt (i := 15) (j := 18) (by decide) (by decide) hc118 (by have := DG_19 hx; omega))).2.2.2 ?_
    refine g_iload C X117 d43_704 (q := 706) rfl rfl ?_
    by_cases hc119 : (o32 sgN) = (0 : Int32)
    rotate_left
    · refine g_ifN C X117 d43_706 (q := 709) rfl (feq hc119).1 ?_
      obtain rfl : sgN = 1 := hsg.elim (fun z => by subst z; exact absurd rfl hc119) id
      refine g_iload C X117 d43_709 (q := 711) rfl rfl ?_
      refine g_ifN C X117 d43_711 (q := 714) rfl (by decide) ?_
      refine g_aloadN C X117 d43_714 (q := 715) rfl rfl rfl ?_
      refine g_iload C X117 d43_715 (q := 717) rfl rfl ?_
      refine g_iload C X117 d43_717 (q := 719) rfl rfl ?_
      refine g_isub C X117 d43_719 (q := 720) rfl (z := (o32 (eN - 1 - (DG xN).length))) (r_sub (eN - 1) (by omega) _ (by omega)) ?_
      refine g_callV1 C X117 (y := (⟨"java/lang/String", "charAt", "(I)C"⟩ : MethodName)) (z := (⟨"java/lang/String", "charAt", "(I)C"⟩ : MethodName)) (a := x0) (by decide) (w226 hw) (w227 hw) (w229 hw) (w228 hw) (nf_sel (w229 hw)) S0.1 (w230 hw) (w27 hw) (rm_chr hw (x0 := x0) (tb := tb) (kb := kb) (ls := ls) (iN := (eN - 1 - (DG xN).length)) O W ⟨S0.1, S0.2.1, S0.2.2.1, S0.2.2.2⟩ h19 hgd (by omega)) (W := 0) (by decide) (by decide) (k' := 0) rfl (n' := 0) rfl (by decide) (by decide) rfl pd_520 (argsL := [(.int (o32 (eN - 1 - (DG xN).length)))]) rfl (rest := []) rfl rfl rfl d43_720 (q := 723) rfl ?_
      rintro _ T120 _ X121 ⟨rfl, rfl⟩
      refine g_bipush C X121 d43_723 (q := 725) rfl (z := (45 : Int32)) rfl ?_
      refine g_icN C X121 d43_725 (q := 728) rfl (teq (hsgn rfl)).2 ?_
      refine g_iconst C X121 d43_728 (q := 729) rfl (z := (1 : Int32)) rfl ?_
      refine g_goto C X121 d43_729 (by decide) (q := 733) (by decide) ?_
      refine g_istore C X121 d43_733 (q := 735) rfl (L' := #[.val (.ref x0), .val (.int (o32 eN)), .val (.long vL), .second, .val (.int (o32 1)), .val (.long (nx xN)), .second, .val (.int (o32 (DG xN).length)), .val (.int (o32 (eN - 1))), .val (.int (1 : Int32))]) rfl ?_
      refine g_iload C X121 d43_735 (q := 737) rfl rfl ?_
      exact g_retN C X121 (Or.inl rfl) (z' := 1) (by decide) d43_737 (by decide) (by decide) ⟨_, rfl, rfl, rfl⟩
    refine g_ifY C X117 d43_706 (by decide) (q := 735) (by decide) (teq hc119).1 ?_
    refine g_iload C X117 d43_735 (q := 737) rfl rfl ?_
    exact g_retN C X117 (Or.inl rfl) (z' := 1) (by decide) d43_737 (by decide) (by decide) ⟨_, rfl, rfl, rfl⟩
  refine g_icN C X117 d43_560 (q := 563) rfl (tlt hc118).2.2.2 ?_
  refine g_iload C X117 d43_563 (q := 565) rfl rfl ?_
  refine g_ifN C X117 d43_565 (q := 568) rfl (by decide) ?_
  refine g_aloadN C X117 d43_568 (q := 569) rfl rfl rfl ?_
  refine g_iload C X117 d43_569 (q := 571) rfl rfl ?_
  refine g_bipush C X117 d43_571 (q := 573) rfl (z := (15 : Int32)) rfl ?_
  have hk122 : 15 < (DG xN).length := (r_lt 15 (by decide) _ (by have := DG_19 hx; omega)).1 hc118
  refine g_isub C X117 d43_573 (q := 574) rfl (z := (o32 (eN - 1 - 15))) (r_sub (eN - 1) (by omega) 15 (by omega)) ?_
  refine g_lload C X117 d43_574 (q := 576) rfl rfl ?_
  refine g_ldcJ C X117 (w273 hw) d43_576 (q := 579) rfl ?_
  refine g_ldiv C X117 d43_579 (q := 580) rfl (by decide) (z := (nx (xN / 1000000000000000))) (nxdiv hx (P := 1000000000000000) (by decide)) ?_
  have hp123 := DG_pos xN
  refine g_callS1 C X117 (y := (⟨"com/example/large_table_updates/largetableupdates/RunResultSummaryPinLaw", "dig", "(Ljava/lang/String;IJ)Z"⟩ : MethodName)) (by decide) (w251 hw) (w252 hw) (w253 hw) (w197 hw) (rm_dig hw (iN := (eN - 1 - 15)) (yN := (xN / 1000000000000000)) O W ⟨S0.1, S0.2.1, S0.2.2.1, S0.2.2.2⟩ h19 hgd (by omega) (Nat.le_trans (Nat.div_le_self ..) hx) (hdg 15 hk122)) (W := 0) (by decide) (by decide) (k' := 0) rfl (n' := 0) rfl (by decide) (by decide) rfl pd_543 (argsL := [(.ref x0), (.int (o32 (eN - 1 - 15))), (.long (nx (xN / 1000000000000000)))]) rfl (rest := []) rfl rfl rfl d43_580 (q := 583) rfl ?_
  rintro _ T124 _ X125 ⟨rfl, rfl⟩
  refine g_ifN C X125 d43_583 (q := 586) rfl (by decide) ?_
  refine g_iconst C X125 d43_586 (q := 587) rfl (z := (1 : Int32)) rfl ?_
  refine g_goto C X125 d43_587 (by decide) (q := 591) (by decide) ?_
  refine g_istore C X125 d43_591 (q := 593) rfl (L' := #[.val (.ref x0), .val (.int (o32 eN)), .val (.long vL), .second, .val (.int (o32 sgN)), .val (.long (nx xN)), .second, .val (.int (o32 (DG xN).length)), .val (.int (o32 (eN - 1))), .val (.int (1 : Int32))]) rfl ?_
  refine g_iload C X125 d43_593 (q := 595) rfl rfl ?_
  refine g_bipush C X125 d43_595 (q := 597) rfl (z := (16 : Int32)) rfl ?_
  by_cases hc126 : (16 : Int32) < (o32 (DG xN).length)
  rotate_left
  · refine g_icY C X125 d43_597 (by decide) (q := 630) (by decide) (flt hc126).2.2.2 ?_
    refine g_iload C X125 d43_630 (q := 632) rfl rfl ?_
    refine g_bipush C X125 d43_632 (q := 634) rfl (z := (17 : Int32)) rfl ?_
    refine g_icY C X125 d43_634 (by decide) (q := 667) (by decide) (flt (own_nlt (i := 16) (j := 17) (by decide) (by decide) hc126 (by have := DG_19 hx; omega))).2.2.2 ?_
    refine g_iload C X125 d43_667 (q := 669) rfl rfl ?_
    refine g_bipush C X125 d43_669 (q := 671) rfl (z := (18 : Int32)) rfl ?_
    refine g_icY C X125 d43_671 (by decide) (q := 704) (by decide) (flt (own_nlt (i := 16) (j := 18) (by decide) (by decide) hc126 (by have := DG_19 hx; omega))).2.2.2 ?_
    refine g_iload C X125 d43_704 (q := 706) rfl rfl ?_
    by_cases hc127 : (o32 sgN) = (0 : Int32)
    rotate_left
    · refine g_ifN C X125 d43_706 (q := 709) rfl (feq hc127).1 ?_
      obtain rfl : sgN = 1 := hsg.elim (fun z => by subst z; exact absurd rfl hc127) id
      refine g_iload C X125 d43_709 (q := 711) rfl rfl ?_
      refine g_ifN C X125 d43_711 (q := 714) rfl (by decide) ?_
      refine g_aloadN C X125 d43_714 (q := 715) rfl rfl rfl ?_
      refine g_iload C X125 d43_715 (q := 717) rfl rfl ?_
      refine g_iload C X125 d43_717 (q := 719) rfl rfl ?_
      refine g_isub C X125 d43_719 (q := 720) rfl (z := (o32 (eN - 1 - (DG xN).length))) (r_sub (eN - 1) (by omega) _ (by omega)) ?_
      refine g_callV1 C X125 (y := (⟨"java/lang/String", "charAt", "(I)C"⟩ : MethodName)) (z := (⟨"java/lang/String", "charAt", "(I)C"⟩ : MethodName)) (a := x0) (by decide) (w226 hw) (w227 hw) (w229 hw) (w228 hw) (nf_sel (w229 hw)) S0.1 (w230 hw) (w27 hw) (rm_chr hw (x0 := x0) (tb := tb) (kb := kb) (ls := ls) (iN := (eN - 1 - (DG xN).length)) O W ⟨S0.1, S0.2.1, S0.2.2.1, S0.2.2.2⟩ h19 hgd (by omega)) (W := 0) (by decide) (by decide) (k' := 0) rfl (n' := 0) rfl (by decide) (by decide) rfl pd_520 (argsL := [(.int (o32 (eN - 1 - (DG xN).length)))]) rfl (rest := []) rfl rfl rfl d43_720 (q := 723) rfl ?_
      rintro _ T128 _ X129 ⟨rfl, rfl⟩
      refine g_bipush C X129 d43_723 (q := 725) rfl (z := (45 : Int32)) rfl ?_
      refine g_icN C X129 d43_725 (q := 728) rfl (teq (hsgn rfl)).2 ?_
      refine g_iconst C X129 d43_728 (q := 729) rfl (z := (1 : Int32)) rfl ?_
      refine g_goto C X129 d43_729 (by decide) (q := 733) (by decide) ?_
      refine g_istore C X129 d43_733 (q := 735) rfl (L' := #[.val (.ref x0), .val (.int (o32 eN)), .val (.long vL), .second, .val (.int (o32 1)), .val (.long (nx xN)), .second, .val (.int (o32 (DG xN).length)), .val (.int (o32 (eN - 1))), .val (.int (1 : Int32))]) rfl ?_
      refine g_iload C X129 d43_735 (q := 737) rfl rfl ?_
      exact g_retN C X129 (Or.inl rfl) (z' := 1) (by decide) d43_737 (by decide) (by decide) ⟨_, rfl, rfl, rfl⟩
    refine g_ifY C X125 d43_706 (by decide) (q := 735) (by decide) (teq hc127).1 ?_
    refine g_iload C X125 d43_735 (q := 737) rfl rfl ?_
    exact g_retN C X125 (Or.inl rfl) (z' := 1) (by decide) d43_737 (by decide) (by decide) ⟨_, rfl, rfl, rfl⟩
  refine g_icN C X125 d43_597 (q := 600) rfl (tlt hc126).2.2.2 ?_
  refine g_iload C X125 d43_600 (q := 602) rfl rfl ?_
  refine g_ifN C X125 d43_602 (q := 605) rfl (by decide) ?_
  refine g_aloadN C X125 d43_605 (q := 606) rfl rfl rfl ?_
  refine g_iload C X125 d43_606 (q := 608) rfl rfl ?_
  refine g_bipush C X125 d43_608 (q := 610) rfl (z := (16 : Int32)) rfl ?_
  have hk130 : 16 < (DG xN).length := (r_lt 16 (by decide) _ (by have := DG_19 hx; omega)).1 hc126
  refine g_isub C X125 d43_610 (q := 611) rfl (z := (o32 (eN - 1 - 16))) (r_sub (eN - 1) (by omega) 16 (by omega)) ?_
  refine g_lload C X125 d43_611 (q := 613) rfl rfl ?_
  refine g_ldcJ C X125 (w274 hw) d43_613 (q := 616) rfl ?_
  refine g_ldiv C X125 d43_616 (q := 617) rfl (by decide) (z := (nx (xN / 10000000000000000))) (nxdiv hx (P := 10000000000000000) (by decide)) ?_
  have hp131 := DG_pos xN
  refine g_callS1 C X125 (y := (⟨"com/example/large_table_updates/largetableupdates/RunResultSummaryPinLaw", "dig", "(Ljava/lang/String;IJ)Z"⟩ : MethodName)) (by decide) (w251 hw) (w252 hw) (w253 hw) (w197 hw) (rm_dig hw (iN := (eN - 1 - 16)) (yN := (xN / 10000000000000000)) O W ⟨S0.1, S0.2.1, S0.2.2.1, S0.2.2.2⟩ h19 hgd (by omega) (Nat.le_trans (Nat.div_le_self ..) hx) (hdg 16 hk130)) (W := 0) (by decide) (by decide) (k' := 0) rfl (n' := 0) rfl (by decide) (by decide) rfl pd_543 (argsL := [(.ref x0), (.int (o32 (eN - 1 - 16))), (.long (nx (xN / 10000000000000000)))]) rfl (rest := []) rfl rfl rfl d43_617 (q := 620) rfl ?_
  rintro _ T132 _ X133 ⟨rfl, rfl⟩
  refine g_ifN C X133 d43_620 (q := 623) rfl (by decide) ?_
  refine g_iconst C X133 d43_623 (q := 624) rfl (z := (1 : Int32)) rfl ?_
  refine g_goto C X133 d43_624 (by decide) (q := 628) (by decide) ?_
  refine g_istore C X133 d43_628 (q := 630) rfl (L' := #[.val (.ref x0), .val (.int (o32 eN)), .val (.long vL), .second, .val (.int (o32 sgN)), .val (.long (nx xN)), .second, .val (.int (o32 (DG xN).length)), .val (.int (o32 (eN - 1))), .val (.int (1 : Int32))]) rfl ?_
  refine g_iload C X133 d43_630 (q := 632) rfl rfl ?_
  refine g_bipush C X133 d43_632 (q := 634) rfl (z := (17 : Int32)) rfl ?_
  by_cases hc134 : (17 : Int32) < (o32 (DG xN).length)
  rotate_left
  · refine g_icY C X133 d43_634 (by decide) (q := 667) (by decide) (flt hc134).2.2.2 ?_
    refine g_iload C X133 d43_667 (q := 669) rfl rfl ?_
    refine g_bipush C X133 d43_669 (q := 671) rfl (z := (18 : Int32)) rfl ?_
    refine g_icY C X133 d43_671 (by decide) (q := 704) (by decide) (flt (own_nlt (i := 17) (j := 18) (by decide) (by decide) hc134 (by have := DG_19 hx; omega))).2.2.2 ?_
    refine g_iload C X133 d43_704 (q := 706) rfl rfl ?_
    by_cases hc135 : (o32 sgN) = (0 : Int32)
    rotate_left
    · refine g_ifN C X133 d43_706 (q := 709) rfl (feq hc135).1 ?_
      obtain rfl : sgN = 1 := hsg.elim (fun z => by subst z; exact absurd rfl hc135) id
      refine g_iload C X133 d43_709 (q := 711) rfl rfl ?_
      refine g_ifN C X133 d43_711 (q := 714) rfl (by decide) ?_
      refine g_aloadN C X133 d43_714 (q := 715) rfl rfl rfl ?_
      refine g_iload C X133 d43_715 (q := 717) rfl rfl ?_
      refine g_iload C X133 d43_717 (q := 719) rfl rfl ?_
      refine g_isub C X133 d43_719 (q := 720) rfl (z := (o32 (eN - 1 - (DG xN).length))) (r_sub (eN - 1) (by omega) _ (by omega)) ?_
      refine g_callV1 C X133 (y := (⟨"java/lang/String", "charAt", "(I)C"⟩ : MethodName)) (z := (⟨"java/lang/String", "charAt", "(I)C"⟩ : MethodName)) (a := x0) (by decide) (w226 hw) (w227 hw) (w229 hw) (w228 hw) (nf_sel (w229 hw)) S0.1 (w230 hw) (w27 hw) (rm_chr hw (x0 := x0) (tb := tb) (kb := kb) (ls := ls) (iN := (eN - 1 - (DG xN).length)) O W ⟨S0.1, S0.2.1, S0.2.2.1, S0.2.2.2⟩ h19 hgd (by omega)) (W := 0) (by decide) (by decide) (k' := 0) rfl (n' := 0) rfl (by decide) (by decide) rfl pd_520 (argsL := [(.int (o32 (eN - 1 - (DG xN).length)))]) rfl (rest := []) rfl rfl rfl d43_720 (q := 723) rfl ?_
      rintro _ T136 _ X137 ⟨rfl, rfl⟩
      refine g_bipush C X137 d43_723 (q := 725) rfl (z := (45 : Int32)) rfl ?_
      refine g_icN C X137 d43_725 (q := 728) rfl (teq (hsgn rfl)).2 ?_
      refine g_iconst C X137 d43_728 (q := 729) rfl (z := (1 : Int32)) rfl ?_
      refine g_goto C X137 d43_729 (by decide) (q := 733) (by decide) ?_
      refine g_istore C X137 d43_733 (q := 735) rfl (L' := #[.val (.ref x0), .val (.int (o32 eN)), .val (.long vL), .second, .val (.int (o32 1)), .val (.long (nx xN)), .second, .val (.int (o32 (DG xN).length)), .val (.int (o32 (eN - 1))), .val (.int (1 : Int32))]) rfl ?_
      refine g_iload C X137 d43_735 (q := 737) rfl rfl ?_
      exact g_retN C X137 (Or.inl rfl) (z' := 1) (by decide) d43_737 (by decide) (by decide) ⟨_, rfl, rfl, rfl⟩
    refine g_ifY C X133 d43_706 (by decide) (q := 735) (by decide) (teq hc135).1 ?_
    refine g_iload C X133 d43_735 (q := 737) rfl rfl ?_
    exact g_retN C X133 (Or.inl rfl) (z' := 1) (by decide) d43_737 (by decide) (by decide) ⟨_, rfl, rfl, rfl⟩
  refine g_icN C X133 d43_634 (q := 637) rfl (tlt hc134).2.2.2 ?_
  refine g_iload C X133 d43_637 (q := 639) rfl rfl ?_
  refine g_ifN C X133 d43_639 (q := 642) rfl (by decide) ?_
  refine g_aloadN C X133 d43_642 (q := 643) rfl rfl rfl ?_
  refine g_iload C X133 d43_643 (q := 645) rfl rfl ?_
  refine g_bipush C X133 d43_645 (q := 647) rfl (z := (17 : Int32)) rfl ?_
  have hk138 : 17 < (DG xN).length := (r_lt 17 (by decide) _ (by have := DG_19 hx; omega)).1 hc134
  refine g_isub C X133 d43_647 (q := 648) rfl (z := (o32 (eN - 1 - 17))) (r_sub (eN - 1) (by omega) 17 (by omega)) ?_
  refine g_lload C X133 d43_648 (q := 650) rfl rfl ?_
  refine g_ldcJ C X133 (w275 hw) d43_650 (q := 653) rfl ?_
  refine g_ldiv C X133 d43_653 (q := 654) rfl (by decide) (z := (nx (xN / 100000000000000000))) (nxdiv hx (P := 100000000000000000) (by decide)) ?_
  have hp139 := DG_pos xN
  refine g_callS1 C X133 (y := (⟨"com/example/large_table_updates/largetableupdates/RunResultSummaryPinLaw", "dig", "(Ljava/lang/String;IJ)Z"⟩ : MethodName)) (by decide) (w251 hw) (w252 hw) (w253 hw) (w197 hw) (rm_dig hw (iN := (eN - 1 - 17)) (yN := (xN / 100000000000000000)) O W ⟨S0.1, S0.2.1, S0.2.2.1, S0.2.2.2⟩ h19 hgd (by omega) (Nat.le_trans (Nat.div_le_self ..) hx) (hdg 17 hk138)) (W := 0) (by decide) (by decide) (k' := 0) rfl (n' := 0) rfl (by decide) (by decide) rfl pd_543 (argsL := [(.ref x0), (.int (o32 (eN - 1 - 17))), (.long (nx (xN / 100000000000000000)))]) rfl (rest := []) rfl rfl rfl d43_654 (q := 657) rfl ?_
  rintro _ T140 _ X141 ⟨rfl, rfl⟩
  refine g_ifN C X141 d43_657 (q := 660) rfl (by decide) ?_
  refine g_iconst C X141 d43_660 (q := 661) rfl (z := (1 : Int32)) rfl ?_
  refine g_goto C X141 d43_661 (by decide) (q := 665) (by decide) ?_
  refine g_istore C X141 d43_665 (q := 667) rfl (L' := #[.val (.ref x0), .val (.int (o32 eN)), .val (.long vL), .second, .val (.int (o32 sgN)), .val (.long (nx xN)), .second, .val (.int (o32 (DG xN).length)), .val (.int (o32 (eN - 1))), .val (.int (1 : Int32))]) rfl ?_
  refine g_iload C X141 d43_667 (q := 669) rfl rfl ?_
  refine g_bipush C X141 d43_669 (q := 671) rfl (z := (18 : Int32)) rfl ?_
  by_cases hc142 : (18 : Int32) < (o32 (DG xN).length)
  rotate_left
  · refine g_icY C X141 d43_671 (by decide) (q := 704) (by decide) (flt hc142).2.2.2 ?_
    refine g_iload C X141 d43_704 (q := 706) rfl rfl ?_
    by_cases hc143 : (o32 sgN) = (0 : Int32)
    rotate_left
    · refine g_ifN C X141 d43_706 (q := 709) rfl (feq hc143).1 ?_
      obtain rfl : sgN = 1 := hsg.elim (fun z => by subst z; exact absurd rfl hc143) id
      refine g_iload C X141 d43_709 (q := 711) rfl rfl ?_
      refine g_ifN C X141 d43_711 (q := 714) rfl (by decide) ?_
      refine g_aloadN C X141 d43_714 (q := 715) rfl rfl rfl ?_
      refine g_iload C X141 d43_715 (q := 717) rfl rfl ?_
      refine g_iload C X141 d43_717 (q := 719) rfl rfl ?_
      refine g_isub C X141 d43_719 (q := 720) rfl (z := (o32 (eN - 1 - (DG xN).length))) (r_sub (eN - 1) (by omega) _ (by omega)) ?_
      refine g_callV1 C X141 (y := (⟨"java/lang/String", "charAt", "(I)C"⟩ : MethodName)) (z := (⟨"java/lang/String", "charAt", "(I)C"⟩ : MethodName)) (a := x0) (by decide) (w226 hw) (w227 hw) (w229 hw) (w228 hw) (nf_sel (w229 hw)) S0.1 (w230 hw) (w27 hw) (rm_chr hw (x0 := x0) (tb := tb) (kb := kb) (ls := ls) (iN := (eN - 1 - (DG xN).length)) O W ⟨S0.1, S0.2.1, S0.2.2.1, S0.2.2.2⟩ h19 hgd (by omega)) (W := 0) (by decide) (by decide) (k' := 0) rfl (n' := 0) rfl (by decide) (by decide) rfl pd_520 (argsL := [(.int (o32 (eN - 1 - (DG xN).length)))]) rfl (rest := []) rfl rfl rfl d43_720 (q := 723) rfl ?_
      rintro _ T144 _ X145 ⟨rfl, rfl⟩
      refine g_bipush C X145 d43_723 (q := 725) rfl (z := (45 : Int32)) rfl ?_
      refine g_icN C X145 d43_725 (q := 728) rfl (teq (hsgn rfl)).2 ?_
      refine g_iconst C X145 d43_728 (q := 729) rfl (z := (1 : Int32)) rfl ?_
      refine g_goto C X145 d43_729 (by decide) (q := 733) (by decide) ?_
      refine g_istore C X145 d43_733 (q := 735) rfl (L' := #[.val (.ref x0), .val (.int (o32 eN)), .val (.long vL), .second, .val (.int (o32 1)), .val (.long (nx xN)), .second, .val (.int (o32 (DG xN).length)), .val (.int (o32 (eN - 1))), .val (.int (1 : Int32))]) rfl ?_
      refine g_iload C X145 d43_735 (q := 737) rfl rfl ?_
      exact g_retN C X145 (Or.inl rfl) (z' := 1) (by decide) d43_737 (by decide) (by decide) ⟨_, rfl, rfl, rfl⟩
    refine g_ifY C X141 d43_706 (by decide) (q := 735) (by decide) (teq hc143).1 ?_
    refine g_iload C X141 d43_735 (q := 737) rfl rfl ?_
    exact g_retN C X141 (Or.inl rfl) (z' := 1) (by decide) d43_737 (by decide) (by decide) ⟨_, rfl, rfl, rfl⟩
  refine g_icN C X141 d43_671 (q := 674) rfl (tlt hc142).2.2.2 ?_
  refine g_iload C X141 d43_674 (q := 676) rfl rfl ?_
  refine g_ifN C X141 d43_676 (q := 679) rfl (by decide) ?_
  refine g_aloadN C X141 d43_679 (q := 680) rfl rfl rfl ?_
  refine g_iload C X141 d43_680 (q := 682) rfl rfl ?_
  refine g_bipush C X141 d43_682 (q := 684) rfl (z := (18 : Int32)) rfl ?_
  have hk146 : 18 < (DG xN).length := (r_lt 18 (by decide) _ (by have := DG_19 hx; omega)).1 hc142
  refine g_isub C X141 d43_684 (q := 685) rfl (z := (o32 (eN - 1 - 18))) (r_sub (eN - 1) (by omega) 18 (by omega)) ?_
  refine g_lload C X141 d43_685 (q := 687) rfl rfl ?_
  refine g_ldcJ C X141 (w276 hw) d43_687 (q := 690) rfl ?_
  refine g_ldiv C X141 d43_690 (q := 691) rfl (by decide) (z := (nx (xN / 1000000000000000000))) (nxdiv hx (P := 1000000000000000000) (by decide)) ?_
  have hp147 := DG_pos xN
  refine g_callS1 C X141 (y := (⟨"com/example/large_table_updates/largetableupdates/RunResultSummaryPinLaw", "dig", "(Ljava/lang/String;IJ)Z"⟩ : MethodName)) (by decide) (w251 hw) (w252 hw) (w253 hw) (w197 hw) (rm_dig hw (iN := (eN - 1 - 18)) (yN := (xN / 1000000000000000000)) O W ⟨S0.1, S0.2.1, S0.2.2.1, S0.2.2.2⟩ h19 hgd (by omega) (Nat.le_trans (Nat.div_le_self ..) hx) (hdg 18 hk146)) (W := 0) (by decide) (by decide) (k' := 0) rfl (n' := 0) rfl (by decide) (by decide) rfl pd_543 (argsL := [(.ref x0), (.int (o32 (eN - 1 - 18))), (.long (nx (xN / 1000000000000000000)))]) rfl (rest := []) rfl rfl rfl d43_691 (q := 694) rfl ?_
  rintro _ T148 _ X149 ⟨rfl, rfl⟩
  refine g_ifN C X149 d43_694 (q := 697) rfl (by decide) ?_
  refine g_iconst C X149 d43_697 (q := 698) rfl (z := (1 : Int32)) rfl ?_
  refine g_goto C X149 d43_698 (by decide) (q := 702) (by decide) ?_
  refine g_istore C X149 d43_702 (q := 704) rfl (L' := #[.val (.ref x0), .val (.int (o32 eN)), .val (.long vL), .second, .val (.int (o32 sgN)), .val (.long (nx xN)), .second, .val (.int (o32 (DG xN).length)), .val (.int (o32 (eN - 1))), .val (.int (1 : Int32))]) rfl ?_
  refine g_iload C X149 d43_704 (q := 706) rfl rfl ?_
  by_cases hc150 : (o32 sgN) = (0 : Int32)
  rotate_left
  · refine g_ifN C X149 d43_706 (q := 709) rfl (feq hc150).1 ?_
    obtain rfl : sgN = 1 := hsg.elim (fun z => by subst z; exact absurd rfl hc150) id
    refine g_iload C X149 d43_709 (q := 711) rfl rfl ?_
    refine g_ifN C X149 d43_711 (q := 714) rfl (by decide) ?_
    refine g_aloadN C X149 d43_714 (q := 715) rfl rfl rfl ?_
    refine g_iload C X149 d43_715 (q := 717) rfl rfl ?_
    refine g_iload C X149 d43_717 (q := 719) rfl rfl ?_
    refine g_isub C X149 d43_719 (q := 720) rfl (z := (o32 (eN - 1 - (DG xN).length))) (r_sub (eN - 1) (by omega) _ (by omega)) ?_
    refine g_callV1 C X149 (y := (⟨"java/lang/String", "charAt", "(I)C"⟩ : MethodName)) (z := (⟨"java/lang/String", "charAt", "(I)C"⟩ : MethodName)) (a := x0) (by decide) (w226 hw) (w227 hw) (w229 hw) (w228 hw) (nf_sel (w229 hw)) S0.1 (w230 hw) (w27 hw) (rm_chr hw (x0 := x0) (tb := tb) (kb := kb) (ls := ls) (iN := (eN - 1 - (DG xN).length)) O W ⟨S0.1, S0.2.1, S0.2.2.1, S0.2.2.2⟩ h19 hgd (by omega)) (W := 0) (by decide) (by decide) (k' := 0) rfl (n' := 0) rfl (by decide) (by decide) rfl pd_520 (argsL := [(.int (o32 (eN - 1 - (DG xN).length)))]) rfl (rest := []) rfl rfl rfl d43_720 (q := 723) rfl ?_
    rintro _ T151 _ X152 ⟨rfl, rfl⟩
    refine g_bipush C X152 d43_723 (q := 725) rfl (z := (45 : Int32)) rfl ?_
    refine g_icN C X152 d43_725 (q := 728) rfl (teq (hsgn rfl)).2 ?_
    refine g_iconst C X152 d43_728 (q := 729) rfl (z := (1 : Int32)) rfl ?_
    refine g_goto C X152 d43_729 (by decide) (q := 733) (by decide) ?_
    refine g_istore C X152 d43_733 (q := 735) rfl (L' := #[.val (.ref x0), .val (.int (o32 eN)), .val (.long vL), .second, .val (.int (o32 1)), .val (.long (nx xN)), .second, .val (.int (o32 (DG xN).length)), .val (.int (o32 (eN - 1))), .val (.int (1 : Int32))]) rfl ?_
    refine g_iload C X152 d43_735 (q := 737) rfl rfl ?_
    exact g_retN C X152 (Or.inl rfl) (z' := 1) (by decide) d43_737 (by decide) (by decide) ⟨_, rfl, rfl, rfl⟩
  refine g_ifY C X149 d43_706 (by decide) (q := 735) (by decide) (teq hc150).1 ?_
  refine g_iload C X149 d43_735 (q := 737) rfl rfl ?_
  exact g_retN C X149 (Or.inl rfl) (z' := 1) (by decide) d43_737 (by decide) (by decide) ⟨_, rfl, rfl, rfl⟩
set_option maxRecDepth 65536 in
set_option maxHeartbeats 40000000 in
theorem rm_numAt {l : Launch} {Z : State} {a0 : Array Value} (hw : ∀ d ∈ tables_1, d.before a0 Z = true) {x0 tb : Addr} {kb : ClassId} {ls : List Int32} {eN : Nat} {vL : Int64} {xN sgN : Nat} {cz : Int32} {fm : Value} {dO : Addr} {kO : ClassId} {dT : Addr} {kT : ClassId} {h0 : Heap} {n0 : Nat} (O : Old Z n0 h0) (W : Wd Z cz fm dO kO dT kT) (S0 : Sx Z h0 x0 tb kb ls) (h19 : ls.length < 200) (hgd : Gd ls) (hv : NV vL xN sgN) (he1 : (NB xN sgN).length ≤ eN) (he2 : eN ≤ ls.length) (hdg : ∀ i, i < (DG xN).length → ls.getD (eN - 1 - i) 0 = o32 (48 + xN / 10 ^ i % 10)) (hsgn : sgN = 1 → ls.getD (eN - 1 - (DG xN).length) 0 = 45) :
    Met1 l Z (⟨"com/example/large_table_updates/largetableupdates/RunResultSummaryPinLaw", "numAt", "(Ljava/lang/String;IJ)Z"⟩ : MethodName) method_6_code 10 (some .boolean) ({ frames := 5, cells := 0, slots := 0, locals := 68 } : Room) #[(.ref x0), (.int (o32 eN)), (.long vL)] h0 n0 (fun v h => v = .int 1 ∧ h0 = h) := by
  refine met_of (L := #[.val (.ref x0), .val (.int (o32 eN)), .val (.long vL), .second, .unset, .unset, .unset, .unset, .unset, .unset]) (plainFor_of_name pn_458) (fun m => by first | (simp [entryFrame, mkF, argsToLocals, Value.category]; done) | rfl) ?_
  intro p e s m below meth c T C X
  change Cx p s m meth c Z "com/example/large_table_updates/largetableupdates/RunResultSummaryPinLaw" method_6_code 10 (some .boolean) "numAt" at C
  have hx := hv.1
  rcases hv.2 with ⟨hv1, hv2, rfl⟩ | ⟨hv1, hv2, rfl⟩
  · subst hv2
    refine g_lloadN C X d43_0 (q := 1) rfl rfl ?_
    refine g_lconst C X d43_1 (q := 2) rfl (z := (0 : Int64)) rfl ?_
    refine g_lcmp C X d43_2 (q := 3) rfl (z := (lcmpW (nx xN) (0 : Int64))) rfl ?_
    refine g_ifN C X d43_3 (q := 6) rfl (tlt hv1).2.1 ?_
    refine g_iconst C X d43_6 (q := 7) rfl (z := (1 : Int32)) rfl ?_
    refine g_goto C X d43_7 (by decide) (q := 11) (by decide) ?_
    refine g_istore C X d43_11 (q := 13) rfl (L' := #[.val (.ref x0), .val (.int (o32 eN)), .val (.long (nx xN)), .second, .val (.int (1 : Int32)), .unset, .unset, .unset, .unset, .unset]) rfl ?_
    refine g_iload C X d43_13 (q := 15) rfl rfl ?_
    refine g_ifN C X d43_15 (q := 18) rfl (by decide) ?_
    refine g_lloadN C X d43_18 (q := 19) rfl rfl ?_
    refine g_goto C X d43_19 (by decide) (q := 24) (by decide) ?_
    refine g_lstore C X d43_24 (q := 26) rfl (L' := #[.val (.ref x0), .val (.int (o32 eN)), .val (.long (nx xN)), .second, .val (.int (1 : Int32)), .val (.long (nx xN)), .second, .unset, .unset, .unset]) rfl ?_
    exact rm_naJ hw W S0 h19 hgd hx (Or.inr rfl) he1 he2 hdg hsgn C X O
  · refine g_lloadN C X d43_0 (q := 1) rfl rfl ?_
    refine g_lconst C X d43_1 (q := 2) rfl (z := (0 : Int64)) rfl ?_
    refine g_lcmp C X d43_2 (q := 3) rfl (z := (lcmpW vL (0 : Int64))) rfl ?_
    refine g_ifY C X d43_3 (by decide) (q := 10) (by decide) (flt hv1).2.1 ?_
    refine g_iconst C X d43_10 (q := 11) rfl (z := (0 : Int32)) rfl ?_
    refine g_istore C X d43_11 (q := 13) rfl (L' := #[.val (.ref x0), .val (.int (o32 eN)), .val (.long vL), .second, .val (.int (0 : Int32)), .unset, .unset, .unset, .unset, .unset]) rfl ?_
    refine g_iload C X d43_13 (q := 15) rfl rfl ?_
    refine g_ifY C X d43_15 (by decide) (q := 22) (by decide) (by decide) ?_
    refine g_lloadN C X d43_22 (q := 23) rfl rfl ?_
    refine g_lneg C X d43_23 (q := 24) rfl (z := (nx xN)) hv2 ?_
    refine g_lstore C X d43_24 (q := 26) rfl (L' := #[.val (.ref x0), .val (.int (o32 eN)), .val (.long vL), .second, .val (.int (0 : Int32)), .val (.long (nx xN)), .second, .unset, .unset, .unset]) rfl ?_
    exact rm_naJ hw W S0 h19 hgd hx (Or.inl rfl) he1 he2 hdg hsgn C X O
set_option maxRecDepth 65536 in
set_option maxHeartbeats 40000000 in
theorem rm_at {l : Launch} {Z : State} {a0 : Array Value} (hw : ∀ d ∈ tables_1, d.before a0 Z = true) {x0 tb : Addr} {kb : ClassId} {ls : List Int32} {x1 tc : Addr} {kc : ClassId} {l1 : List Int32} {pN : Nat} {kN : Nat} {cz : Int32} {fm : Value} {dO : Addr} {kO : ClassId} {dT : Addr} {kT : ClassId} {h0 : Heap} {n0 : Nat} (O : Old Z n0 h0) (W : Wd Z cz fm dO kO dT kT) (S0 : Sx Z h0 x0 tb kb ls) (h19 : ls.length < 200) (hgd : Gd ls) (S1 : Sx Z h0 x1 tc kc l1) (h18 : l1.length < 100) (hgd1 : Gd l1) (hfit : pN + l1.length ≤ ls.length) (hm : ∀ i, i < l1.length → ls.getD (pN + i) 0 = l1.getD i 0) (hk18 : kN < 100) :
    Met1 l Z (⟨"com/example/large_table_updates/largetableupdates/RunResultSummaryPinLaw", "at", "(Ljava/lang/String;ILjava/lang/String;I)Z"⟩ : MethodName) method_7_code 4 (some .boolean) ({ frames := 4, cells := 0, slots := 0, locals := 54 } : Room) #[(.ref x0), (.int (o32 pN)), (.ref x1), (.int (o32 kN))] h0 n0 (fun v h => v = .int 1 ∧ h0 = h) := by
  refine met_of (L := #[.val (.ref x0), .val (.int (o32 pN)), .val (.ref x1), .val (.int (o32 kN))]) (plainFor_of_name pn_458) (fun m => by first | (simp [entryFrame, mkF, argsToLocals, Value.category]; done) | rfl) ?_
  intro p e s m below meth c T C X
  change Cx p s m meth c Z "com/example/large_table_updates/largetableupdates/RunResultSummaryPinLaw" method_7_code 4 (some .boolean) "at" at C
  refine g_iloadN C X d37_0 (q := 1) rfl rfl ?_
  refine g_aloadN C X d37_1 (q := 2) rfl rfl rfl ?_
  refine g_callV1 C X (y := (⟨"java/lang/String", "length", "()I"⟩ : MethodName)) (z := (⟨"java/lang/String", "length", "()I"⟩ : MethodName)) (a := x1) (by decide) (w194 hw) (w64 hw) (w66 hw) (w65 hw) (nf_sel (w66 hw)) S1.1 (w67 hw) (w27 hw) (rm_slen hw (x0 := x1) (tb := tc) (kb := kc) (ls := l1) O W ⟨S1.1, S1.2.1, S1.2.2.1, S1.2.2.2⟩ (by omega)) (W := 1) (by decide) (by decide) (k' := 0) rfl (n' := 0) rfl (by decide) (by decide) rfl pd_164 (argsL := []) rfl (rest := [(.int (o32 kN))]) rfl rfl rfl d37_2 (q := 5) rfl ?_
  rintro _ T1 _ X2 ⟨rfl, rfl⟩
  by_cases hc3 : (o32 kN) < (o32 l1.length)
  · refine g_icN C X2 d37_5 (q := 8) rfl (tlt hc3).2.1 ?_
    have hk9 : kN < l1.length := (r_lt kN (by omega) _ (by omega)).1 hc3
    refine g_aloadN C X2 d37_8 (q := 9) rfl rfl rfl ?_
    refine g_iloadN C X2 d37_9 (q := 10) rfl rfl ?_
    refine g_iloadN C X2 d37_10 (q := 11) rfl rfl ?_
    refine g_iadd C X2 d37_11 (q := 12) rfl (z := (o32 (pN + kN))) (r_add pN (by omega) kN (by omega)) ?_
    refine g_callV1 C X2 (y := (⟨"java/lang/String", "charAt", "(I)C"⟩ : MethodName)) (z := (⟨"java/lang/String", "charAt", "(I)C"⟩ : MethodName)) (a := x0) (by decide) (w226 hw) (w227 hw) (w229 hw) (w228 hw) (nf_sel (w229 hw)) S0.1 (w230 hw) (w27 hw) (rm_chr hw (x0 := x0) (tb := tb) (kb := kb) (ls := ls) (iN := (pN + kN)) O W ⟨S0.1, S0.2.1, S0.2.2.1, S0.2.2.2⟩ h19 hgd (by omega)) (W := 0) (by decide) (by decide) (k' := 0) rfl (n' := 0) rfl (by decide) (by decide) rfl pd_520 (argsL := [(.int (o32 (pN + kN)))]) rfl (rest := []) rfl rfl rfl d37_12 (q := 15) rfl ?_
    rintro _ T4 _ X5 ⟨rfl, rfl⟩
    refine g_aloadN C X5 d37_15 (q := 16) rfl rfl rfl ?_
    refine g_iloadN C X5 d37_16 (q := 17) rfl rfl ?_
    refine g_callV1 C X5 (y := (⟨"java/lang/String", "charAt", "(I)C"⟩ : MethodName)) (z := (⟨"java/lang/String", "charAt", "(I)C"⟩ : MethodName)) (a := x1) (by decide) (w226 hw) (w227 hw) (w229 hw) (w228 hw) (nf_sel (w229 hw)) S1.1 (w230 hw) (w27 hw) (rm_chr hw (x0 := x1) (tb := tc) (kb := kc) (ls := l1) (iN := kN) O W ⟨S1.1, S1.2.1, S1.2.2.1, S1.2.2.2⟩ (by omega) hgd1 (by omega)) (W := 1) (by decide) (by decide) (k' := 0) rfl (n' := 0) rfl (by decide) (by decide) rfl pd_520 (argsL := [(.int (o32 kN))]) rfl (rest := [(.int (ls.getD (pN + kN) 0))]) rfl rfl rfl d37_17 (q := 20) rfl ?_
    rintro _ T6 _ X7 ⟨rfl, rfl⟩
    refine g_icN C X7 d37_20 (q := 23) rfl (teq (hm kN hk9)).2 ?_
    refine g_iconst C X7 d37_23 (q := 24) rfl (z := (1 : Int32)) rfl ?_
    refine g_goto C X7 d37_24 (by decide) (q := 28) (by decide) ?_
    exact g_retN C X7 (Or.inl rfl) (z' := 1) (by decide) d37_28 (by decide) (by decide) ⟨_, rfl, rfl, rfl⟩
  · refine g_icY C X2 d37_5 (by decide) (q := 23) (by decide) (flt hc3).2.1 ?_
    refine g_iconst C X2 d37_23 (q := 24) rfl (z := (1 : Int32)) rfl ?_
    refine g_goto C X2 d37_24 (by decide) (q := 28) (by decide) ?_
    exact g_retN C X2 (Or.inl rfl) (z' := 1) (by decide) d37_28 (by decide) (by decide) ⟨_, rfl, rfl, rfl⟩
set_option maxRecDepth 65536 in
set_option maxHeartbeats 40000000 in
theorem rm_litAt {l : Launch} {Z : State} {a0 : Array Value} (hw : ∀ d ∈ tables_1, d.before a0 Z = true) {x0 tb : Addr} {kb : ClassId} {ls : List Int32} {x1 tc : Addr} {kc : ClassId} {l1 : List Int32} {pN : Nat} {cz : Int32} {fm : Value} {dO : Addr} {kO : ClassId} {dT : Addr} {kT : ClassId} {h0 : Heap} {n0 : Nat} (O : Old Z n0 h0) (W : Wd Z cz fm dO kO dT kT) (S0 : Sx Z h0 x0 tb kb ls) (h19 : ls.length < 200) (hgd : Gd ls) (S1 : Sx Z h0 x1 tc kc l1) (h18 : l1.length < 100) (hgd1 : Gd l1) (hfit : pN + l1.length ≤ ls.length) (hm : ∀ i, i < l1.length → ls.getD (pN + i) 0 = l1.getD i 0) :
    Met1 l Z (⟨"com/example/large_table_updates/largetableupdates/RunResultSummaryPinLaw", "litAt", "(Ljava/lang/String;ILjava/lang/String;)Z"⟩ : MethodName) method_8_code 3 (some .boolean) ({ frames := 5, cells := 0, slots := 0, locals := 69 } : Room) #[(.ref x0), (.int (o32 pN)), (.ref x1)] h0 n0 (fun v h => v = .int 1 ∧ h0 = h) := by
  refine met_of (L := #[.val (.ref x0), .val (.int (o32 pN)), .val (.ref x1)]) (plainFor_of_name pn_458) (fun m => by first | (simp [entryFrame, mkF, argsToLocals, Value.category]; done) | rfl) ?_
  intro p e s m below meth c T C X
  change Cx p s m meth c Z "com/example/large_table_updates/largetableupdates/RunResultSummaryPinLaw" method_8_code 3 (some .boolean) "litAt" at C
  refine g_aloadN C X d36_0 (q := 1) rfl rfl rfl ?_
  refine g_iloadN C X d36_1 (q := 2) rfl rfl ?_
  refine g_aloadN C X d36_2 (q := 3) rfl rfl rfl ?_
  refine g_iconst C X d36_3 (q := 4) rfl (z := (0 : Int32)) rfl ?_
  refine g_callS1 C X (y := (⟨"com/example/large_table_updates/largetableupdates/RunResultSummaryPinLaw", "at", "(Ljava/lang/String;ILjava/lang/String;I)Z"⟩ : MethodName)) (by decide) (w223 hw) (w224 hw) (w225 hw) (w197 hw) (rm_at hw (pN := pN) (kN := 0) O W ⟨S0.1, S0.2.1, S0.2.2.1, S0.2.2.2⟩ h19 hgd ⟨S1.1, S1.2.1, S1.2.2.1, S1.2.2.2⟩ h18 hgd1 hfit hm (by decide)) (W := 0) (by decide) (by decide) (k' := 0) rfl (n' := 0) rfl (by decide) (by decide) rfl pd_903 (argsL := [(.ref x0), (.int (o32 pN)), (.ref x1), (.int (0 : Int32))]) rfl (rest := []) rfl rfl rfl d36_4 (q := 7) rfl ?_
  rintro _ T1 _ X2 ⟨rfl, rfl⟩
  refine g_ifN C X2 d36_7 (q := 10) rfl (by decide) ?_
  refine g_aloadN C X2 d36_10 (q := 11) rfl rfl rfl ?_
  refine g_iloadN C X2 d36_11 (q := 12) rfl rfl ?_
  refine g_aloadN C X2 d36_12 (q := 13) rfl rfl rfl ?_
  refine g_iconst C X2 d36_13 (q := 14) rfl (z := (1 : Int32)) rfl ?_
  refine g_callS1 C X2 (y := (⟨"com/example/large_table_updates/largetableupdates/RunResultSummaryPinLaw", "at", "(Ljava/lang/String;ILjava/lang/String;I)Z"⟩ : MethodName)) (by decide) (w223 hw) (w224 hw) (w225 hw) (w197 hw) (rm_at hw (pN := pN) (kN := 1) O W ⟨S0.1, S0.2.1, S0.2.2.1, S0.2.2.2⟩ h19 hgd ⟨S1.1, S1.2.1, S1.2.2.1, S1.2.2.2⟩ h18 hgd1 hfit hm (by decide)) (W := 0) (by decide) (by decide) (k' := 0) rfl (n' := 0) rfl (by decide) (by decide) rfl pd_903 (argsL := [(.ref x0), (.int (o32 pN)), (.ref x1), (.int (1 : Int32))]) rfl (rest := []) rfl rfl rfl d36_14 (q := 17) rfl ?_
  rintro _ T3 _ X4 ⟨rfl, rfl⟩
  refine g_ifN C X4 d36_17 (q := 20) rfl (by decide) ?_
  refine g_aloadN C X4 d36_20 (q := 21) rfl rfl rfl ?_
  refine g_iloadN C X4 d36_21 (q := 22) rfl rfl ?_
  refine g_aloadN C X4 d36_22 (q := 23) rfl rfl rfl ?_
  refine g_iconst C X4 d36_23 (q := 24) rfl (z := (2 : Int32)) rfl ?_
  refine g_callS1 C X4 (y := (⟨"com/example/large_table_updates/largetableupdates/RunResultSummaryPinLaw", "at", "(Ljava/lang/String;ILjava/lang/String;I)Z"⟩ : MethodName)) (by decide) (w223 hw) (w224 hw) (w225 hw) (w197 hw) (rm_at hw (pN := pN) (kN := 2) O W ⟨S0.1, S0.2.1, S0.2.2.1, S0.2.2.2⟩ h19 hgd ⟨S1.1, S1.2.1, S1.2.2.1, S1.2.2.2⟩ h18 hgd1 hfit hm (by decide)) (W := 0) (by decide) (by decide) (k' := 0) rfl (n' := 0) rfl (by decide) (by decide) rfl pd_903 (argsL := [(.ref x0), (.int (o32 pN)), (.ref x1), (.int (2 : Int32))]) rfl (rest := []) rfl rfl rfl d36_24 (q := 27) rfl ?_
  rintro _ T5 _ X6 ⟨rfl, rfl⟩
  refine g_ifN C X6 d36_27 (q := 30) rfl (by decide) ?_
  refine g_aloadN C X6 d36_30 (q := 31) rfl rfl rfl ?_
  refine g_iloadN C X6 d36_31 (q := 32) rfl rfl ?_
  refine g_aloadN C X6 d36_32 (q := 33) rfl rfl rfl ?_
  refine g_iconst C X6 d36_33 (q := 34) rfl (z := (3 : Int32)) rfl ?_
  refine g_callS1 C X6 (y := (⟨"com/example/large_table_updates/largetableupdates/RunResultSummaryPinLaw", "at", "(Ljava/lang/String;ILjava/lang/String;I)Z"⟩ : MethodName)) (by decide) (w223 hw) (w224 hw) (w225 hw) (w197 hw) (rm_at hw (pN := pN) (kN := 3) O W ⟨S0.1, S0.2.1, S0.2.2.1, S0.2.2.2⟩ h19 hgd ⟨S1.1, S1.2.1, S1.2.2.1, S1.2.2.2⟩ h18 hgd1 hfit hm (by decide)) (W := 0) (by decide) (by decide) (k' := 0) rfl (n' := 0) rfl (by decide) (by decide) rfl pd_903 (argsL := [(.ref x0), (.int (o32 pN)), (.ref x1), (.int (3 : Int32))]) rfl (rest := []) rfl rfl rfl d36_34 (q := 37) rfl ?_
  rintro _ T7 _ X8 ⟨rfl, rfl⟩
  refine g_ifN C X8 d36_37 (q := 40) rfl (by decide) ?_
  refine g_aloadN C X8 d36_40 (q := 41) rfl rfl rfl ?_
  refine g_iloadN C X8 d36_41 (q := 42) rfl rfl ?_
  refine g_aloadN C X8 d36_42 (q := 43) rfl rfl rfl ?_
  refine g_iconst C X8 d36_43 (q := 44) rfl (z := (4 : Int32)) rfl ?_
  refine g_callS1 C X8 (y := (⟨"com/example/large_table_updates/largetableupdates/RunResultSummaryPinLaw", "at", "(Ljava/lang/String;ILjava/lang/String;I)Z"⟩ : MethodName)) (by decide) (w223 hw) (w224 hw) (w225 hw) (w197 hw) (rm_at hw (pN := pN) (kN := 4) O W ⟨S0.1, S0.2.1, S0.2.2.1, S0.2.2.2⟩ h19 hgd ⟨S1.1, S1.2.1, S1.2.2.1, S1.2.2.2⟩ h18 hgd1 hfit hm (by decide)) (W := 0) (by decide) (by decide) (k' := 0) rfl (n' := 0) rfl (by decide) (by decide) rfl pd_903 (argsL := [(.ref x0), (.int (o32 pN)), (.ref x1), (.int (4 : Int32))]) rfl (rest := []) rfl rfl rfl d36_44 (q := 47) rfl ?_
  rintro _ T9 _ X10 ⟨rfl, rfl⟩
  refine g_ifN C X10 d36_47 (q := 50) rfl (by decide) ?_
  refine g_aloadN C X10 d36_50 (q := 51) rfl rfl rfl ?_
  refine g_iloadN C X10 d36_51 (q := 52) rfl rfl ?_
  refine g_aloadN C X10 d36_52 (q := 53) rfl rfl rfl ?_
  refine g_iconst C X10 d36_53 (q := 54) rfl (z := (5 : Int32)) rfl ?_
  refine g_callS1 C X10 (y := (⟨"com/example/large_table_updates/largetableupdates/RunResultSummaryPinLaw", "at", "(Ljava/lang/String;ILjava/lang/String;I)Z"⟩ : MethodName)) (by decide) (w223 hw) (w224 hw) (w225 hw) (w197 hw) (rm_at hw (pN := pN) (kN := 5) O W ⟨S0.1, S0.2.1, S0.2.2.1, S0.2.2.2⟩ h19 hgd ⟨S1.1, S1.2.1, S1.2.2.1, S1.2.2.2⟩ h18 hgd1 hfit hm (by decide)) (W := 0) (by decide) (by decide) (k' := 0) rfl (n' := 0) rfl (by decide) (by decide) rfl pd_903 (argsL := [(.ref x0), (.int (o32 pN)), (.ref x1), (.int (5 : Int32))]) rfl (rest := []) rfl rfl rfl d36_54 (q := 57) rfl ?_
  rintro _ T11 _ X12 ⟨rfl, rfl⟩
  refine g_ifN C X12 d36_57 (q := 60) rfl (by decide) ?_
  refine g_aloadN C X12 d36_60 (q := 61) rfl rfl rfl ?_
  refine g_iloadN C X12 d36_61 (q := 62) rfl rfl ?_
  refine g_aloadN C X12 d36_62 (q := 63) rfl rfl rfl ?_
  refine g_bipush C X12 d36_63 (q := 65) rfl (z := (6 : Int32)) rfl ?_
  refine g_callS1 C X12 (y := (⟨"com/example/large_table_updates/largetableupdates/RunResultSummaryPinLaw", "at", "(Ljava/lang/String;ILjava/lang/String;I)Z"⟩ : MethodName)) (by decide) (w223 hw) (w224 hw) (w225 hw) (w197 hw) (rm_at hw (pN := pN) (kN := 6) O W ⟨S0.1, S0.2.1, S0.2.2.1, S0.2.2.2⟩ h19 hgd ⟨S1.1, S1.2.1, S1.2.2.1, S1.2.2.2⟩ h18 hgd1 hfit hm (by decide)) (W := 0) (by decide) (by decide) (k' := 0) rfl (n' := 0) rfl (by decide) (by decide) rfl pd_903 (argsL := [(.ref x0), (.int (o32 pN)), (.ref x1), (.int (6 : Int32))]) rfl (rest := []) rfl rfl rfl d36_65 (q := 68) rfl ?_
  rintro _ T13 _ X14 ⟨rfl, rfl⟩
  refine g_ifN C X14 d36_68 (q := 71) rfl (by decide) ?_
  refine g_aloadN C X14 d36_71 (q := 72) rfl rfl rfl ?_
  refine g_iloadN C X14 d36_72 (q := 73) rfl rfl ?_
  refine g_aloadN C X14 d36_73 (q := 74) rfl rfl rfl ?_
  refine g_bipush C X14 d36_74 (q := 76) rfl (z := (7 : Int32)) rfl ?_
  refine g_callS1 C X14 (y := (⟨"com/example/large_table_updates/largetableupdates/RunResultSummaryPinLaw", "at", "(Ljava/lang/String;ILjava/lang/String;I)Z"⟩ : MethodName)) (by decide) (w223 hw) (w224 hw) (w225 hw) (w197 hw) (rm_at hw (pN := pN) (kN := 7) O W ⟨S0.1, S0.2.1, S0.2.2.1, S0.2.2.2⟩ h19 hgd ⟨S1.1, S1.2.1, S1.2.2.1, S1.2.2.2⟩ h18 hgd1 hfit hm (by decide)) (W := 0) (by decide) (by decide) (k' := 0) rfl (n' := 0) rfl (by decide) (by decide) rfl pd_903 (argsL := [(.ref x0), (.int (o32 pN)), (.ref x1), (.int (7 : Int32))]) rfl (rest := []) rfl rfl rfl d36_76 (q := 79) rfl ?_
  rintro _ T15 _ X16 ⟨rfl, rfl⟩
  refine g_ifN C X16 d36_79 (q := 82) rfl (by decide) ?_
  refine g_aloadN C X16 d36_82 (q := 83) rfl rfl rfl ?_
  refine g_iloadN C X16 d36_83 (q := 84) rfl rfl ?_
  refine g_aloadN C X16 d36_84 (q := 85) rfl rfl rfl ?_
  refine g_bipush C X16 d36_85 (q := 87) rfl (z := (8 : Int32)) rfl ?_
  refine g_callS1 C X16 (y := (⟨"com/example/large_table_updates/largetableupdates/RunResultSummaryPinLaw", "at", "(Ljava/lang/String;ILjava/lang/String;I)Z"⟩ : MethodName)) (by decide) (w223 hw) (w224 hw) (w225 hw) (w197 hw) (rm_at hw (pN := pN) (kN := 8) O W ⟨S0.1, S0.2.1, S0.2.2.1, S0.2.2.2⟩ h19 hgd ⟨S1.1, S1.2.1, S1.2.2.1, S1.2.2.2⟩ h18 hgd1 hfit hm (by decide)) (W := 0) (by decide) (by decide) (k' := 0) rfl (n' := 0) rfl (by decide) (by decide) rfl pd_903 (argsL := [(.ref x0), (.int (o32 pN)), (.ref x1), (.int (8 : Int32))]) rfl (rest := []) rfl rfl rfl d36_87 (q := 90) rfl ?_
  rintro _ T17 _ X18 ⟨rfl, rfl⟩
  refine g_ifN C X18 d36_90 (q := 93) rfl (by decide) ?_
  refine g_aloadN C X18 d36_93 (q := 94) rfl rfl rfl ?_
  refine g_iloadN C X18 d36_94 (q := 95) rfl rfl ?_
  refine g_aloadN C X18 d36_95 (q := 96) rfl rfl rfl ?_
  refine g_bipush C X18 d36_96 (q := 98) rfl (z := (9 : Int32)) rfl ?_
  refine g_callS1 C X18 (y := (⟨"com/example/large_table_updates/largetableupdates/RunResultSummaryPinLaw", "at", "(Ljava/lang/String;ILjava/lang/String;I)Z"⟩ : MethodName)) (by decide) (w223 hw) (w224 hw) (w225 hw) (w197 hw) (rm_at hw (pN := pN) (kN := 9) O W ⟨S0.1, S0.2.1, S0.2.2.1, S0.2.2.2⟩ h19 hgd ⟨S1.1, S1.2.1, S1.2.2.1, S1.2.2.2⟩ h18 hgd1 hfit hm (by decide)) (W := 0) (by decide) (by decide) (k' := 0) rfl (n' := 0) rfl (by decide) (by decide) rfl pd_903 (argsL := [(.ref x0), (.int (o32 pN)), (.ref x1), (.int (9 : Int32))]) rfl (rest := []) rfl rfl rfl d36_98 (q := 101) rfl ?_
  rintro _ T19 _ X20 ⟨rfl, rfl⟩
  refine g_ifN C X20 d36_101 (q := 104) rfl (by decide) ?_
  refine g_aloadN C X20 d36_104 (q := 105) rfl rfl rfl ?_
  refine g_iloadN C X20 d36_105 (q := 106) rfl rfl ?_
  refine g_aloadN C X20 d36_106 (q := 107) rfl rfl rfl ?_
  refine g_bipush C X20 d36_107 (q := 109) rfl (z := (10 : Int32)) rfl ?_
  refine g_callS1 C X20 (y := (⟨"com/example/large_table_updates/largetableupdates/RunResultSummaryPinLaw", "at", "(Ljava/lang/String;ILjava/lang/String;I)Z"⟩ : MethodName)) (by decide) (w223 hw) (w224 hw) (w225 hw) (w197 hw) (rm_at hw (pN := pN) (kN := 10) O W ⟨S0.1, S0.2.1, S0.2.2.1, S0.2.2.2⟩ h19 hgd ⟨S1.1, S1.2.1, S1.2.2.1, S1.2.2.2⟩ h18 hgd1 hfit hm (by decide)) (W := 0) (by decide) (by decide) (k' := 0) rfl (n' := 0) rfl (by decide) (by decide) rfl pd_903 (argsL := [(.ref x0), (.int (o32 pN)), (.ref x1), (.int (10 : Int32))]) rfl (rest := []) rfl rfl rfl d36_109 (q := 112) rfl ?_
  rintro _ T21 _ X22 ⟨rfl, rfl⟩
  refine g_ifN C X22 d36_112 (q := 115) rfl (by decide) ?_
  refine g_aloadN C X22 d36_115 (q := 116) rfl rfl rfl ?_
  refine g_iloadN C X22 d36_116 (q := 117) rfl rfl ?_
  refine g_aloadN C X22 d36_117 (q := 118) rfl rfl rfl ?_
  refine g_bipush C X22 d36_118 (q := 120) rfl (z := (11 : Int32)) rfl ?_
  refine g_callS1 C X22 (y := (⟨"com/example/large_table_updates/largetableupdates/RunResultSummaryPinLaw", "at", "(Ljava/lang/String;ILjava/lang/String;I)Z"⟩ : MethodName)) (by decide) (w223 hw) (w224 hw) (w225 hw) (w197 hw) (rm_at hw (pN := pN) (kN := 11) O W ⟨S0.1, S0.2.1, S0.2.2.1, S0.2.2.2⟩ h19 hgd ⟨S1.1, S1.2.1, S1.2.2.1, S1.2.2.2⟩ h18 hgd1 hfit hm (by decide)) (W := 0) (by decide) (by decide) (k' := 0) rfl (n' := 0) rfl (by decide) (by decide) rfl pd_903 (argsL := [(.ref x0), (.int (o32 pN)), (.ref x1), (.int (11 : Int32))]) rfl (rest := []) rfl rfl rfl d36_120 (q := 123) rfl ?_
  rintro _ T23 _ X24 ⟨rfl, rfl⟩
  refine g_ifN C X24 d36_123 (q := 126) rfl (by decide) ?_
  refine g_aloadN C X24 d36_126 (q := 127) rfl rfl rfl ?_
  refine g_iloadN C X24 d36_127 (q := 128) rfl rfl ?_
  refine g_aloadN C X24 d36_128 (q := 129) rfl rfl rfl ?_
  refine g_bipush C X24 d36_129 (q := 131) rfl (z := (12 : Int32)) rfl ?_
  refine g_callS1 C X24 (y := (⟨"com/example/large_table_updates/largetableupdates/RunResultSummaryPinLaw", "at", "(Ljava/lang/String;ILjava/lang/String;I)Z"⟩ : MethodName)) (by decide) (w223 hw) (w224 hw) (w225 hw) (w197 hw) (rm_at hw (pN := pN) (kN := 12) O W ⟨S0.1, S0.2.1, S0.2.2.1, S0.2.2.2⟩ h19 hgd ⟨S1.1, S1.2.1, S1.2.2.1, S1.2.2.2⟩ h18 hgd1 hfit hm (by decide)) (W := 0) (by decide) (by decide) (k' := 0) rfl (n' := 0) rfl (by decide) (by decide) rfl pd_903 (argsL := [(.ref x0), (.int (o32 pN)), (.ref x1), (.int (12 : Int32))]) rfl (rest := []) rfl rfl rfl d36_131 (q := 134) rfl ?_
  rintro _ T25 _ X26 ⟨rfl, rfl⟩
  refine g_ifN C X26 d36_134 (q := 137) rfl (by decide) ?_
  refine g_aloadN C X26 d36_137 (q := 138) rfl rfl rfl ?_
  refine g_iloadN C X26 d36_138 (q := 139) rfl rfl ?_
  refine g_aloadN C X26 d36_139 (q := 140) rfl rfl rfl ?_
  refine g_bipush C X26 d36_140 (q := 142) rfl (z := (13 : Int32)) rfl ?_
  refine g_callS1 C X26 (y := (⟨"com/example/large_table_updates/largetableupdates/RunResultSummaryPinLaw", "at", "(Ljava/lang/String;ILjava/lang/String;I)Z"⟩ : MethodName)) (by decide) (w223 hw) (w224 hw) (w225 hw) (w197 hw) (rm_at hw (pN := pN) (kN := 13) O W ⟨S0.1, S0.2.1, S0.2.2.1, S0.2.2.2⟩ h19 hgd ⟨S1.1, S1.2.1, S1.2.2.1, S1.2.2.2⟩ h18 hgd1 hfit hm (by decide)) (W := 0) (by decide) (by decide) (k' := 0) rfl (n' := 0) rfl (by decide) (by decide) rfl pd_903 (argsL := [(.ref x0), (.int (o32 pN)), (.ref x1), (.int (13 : Int32))]) rfl (rest := []) rfl rfl rfl d36_142 (q := 145) rfl ?_
  rintro _ T27 _ X28 ⟨rfl, rfl⟩
  refine g_ifN C X28 d36_145 (q := 148) rfl (by decide) ?_
  refine g_aloadN C X28 d36_148 (q := 149) rfl rfl rfl ?_
  refine g_iloadN C X28 d36_149 (q := 150) rfl rfl ?_
  refine g_aloadN C X28 d36_150 (q := 151) rfl rfl rfl ?_
  refine g_bipush C X28 d36_151 (q := 153) rfl (z := (14 : Int32)) rfl ?_
  refine g_callS1 C X28 (y := (⟨"com/example/large_table_updates/largetableupdates/RunResultSummaryPinLaw", "at", "(Ljava/lang/String;ILjava/lang/String;I)Z"⟩ : MethodName)) (by decide) (w223 hw) (w224 hw) (w225 hw) (w197 hw) (rm_at hw (pN := pN) (kN := 14) O W ⟨S0.1, S0.2.1, S0.2.2.1, S0.2.2.2⟩ h19 hgd ⟨S1.1, S1.2.1, S1.2.2.1, S1.2.2.2⟩ h18 hgd1 hfit hm (by decide)) (W := 0) (by decide) (by decide) (k' := 0) rfl (n' := 0) rfl (by decide) (by decide) rfl pd_903 (argsL := [(.ref x0), (.int (o32 pN)), (.ref x1), (.int (14 : Int32))]) rfl (rest := []) rfl rfl rfl d36_153 (q := 156) rfl ?_
  rintro _ T29 _ X30 ⟨rfl, rfl⟩
  refine g_ifN C X30 d36_156 (q := 159) rfl (by decide) ?_
  refine g_aloadN C X30 d36_159 (q := 160) rfl rfl rfl ?_
  refine g_iloadN C X30 d36_160 (q := 161) rfl rfl ?_
  refine g_aloadN C X30 d36_161 (q := 162) rfl rfl rfl ?_
  refine g_bipush C X30 d36_162 (q := 164) rfl (z := (15 : Int32)) rfl ?_
  refine g_callS1 C X30 (y := (⟨"com/example/large_table_updates/largetableupdates/RunResultSummaryPinLaw", "at", "(Ljava/lang/String;ILjava/lang/String;I)Z"⟩ : MethodName)) (by decide) (w223 hw) (w224 hw) (w225 hw) (w197 hw) (rm_at hw (pN := pN) (kN := 15) O W ⟨S0.1, S0.2.1, S0.2.2.1, S0.2.2.2⟩ h19 hgd ⟨S1.1, S1.2.1, S1.2.2.1, S1.2.2.2⟩ h18 hgd1 hfit hm (by decide)) (W := 0) (by decide) (by decide) (k' := 0) rfl (n' := 0) rfl (by decide) (by decide) rfl pd_903 (argsL := [(.ref x0), (.int (o32 pN)), (.ref x1), (.int (15 : Int32))]) rfl (rest := []) rfl rfl rfl d36_164 (q := 167) rfl ?_
  rintro _ T31 _ X32 ⟨rfl, rfl⟩
  refine g_ifN C X32 d36_167 (q := 170) rfl (by decide) ?_
  refine g_aloadN C X32 d36_170 (q := 171) rfl rfl rfl ?_
  refine g_iloadN C X32 d36_171 (q := 172) rfl rfl ?_
  refine g_aloadN C X32 d36_172 (q := 173) rfl rfl rfl ?_
  refine g_bipush C X32 d36_173 (q := 175) rfl (z := (16 : Int32)) rfl ?_
  refine g_callS1 C X32 (y := (⟨"com/example/large_table_updates/largetableupdates/RunResultSummaryPinLaw", "at", "(Ljava/lang/String;ILjava/lang/String;I)Z"⟩ : MethodName)) (by decide) (w223 hw) (w224 hw) (w225 hw) (w197 hw) (rm_at hw (pN := pN) (kN := 16) O W ⟨S0.1, S0.2.1, S0.2.2.1, S0.2.2.2⟩ h19 hgd ⟨S1.1, S1.2.1, S1.2.2.1, S1.2.2.2⟩ h18 hgd1 hfit hm (by decide)) (W := 0) (by decide) (by decide) (k' := 0) rfl (n' := 0) rfl (by decide) (by decide) rfl pd_903 (argsL := [(.ref x0), (.int (o32 pN)), (.ref x1), (.int (16 : Int32))]) rfl (rest := []) rfl rfl rfl d36_175 (q := 178) rfl ?_
  rintro _ T33 _ X34 ⟨rfl, rfl⟩
  refine g_ifN C X34 d36_178 (q := 181) rfl (by decide) ?_
  refine g_aloadN C X34 d36_181 (q := 182) rfl rfl rfl ?_
  refine g_iloadN C X34 d36_182 (q := 183) rfl rfl ?_
  refine g_aloadN C X34 d36_183 (q := 184) rfl rfl rfl ?_
  refine g_bipush C X34 d36_184 (q := 186) rfl (z := (17 : Int32)) rfl ?_
  refine g_callS1 C X34 (y := (⟨"com/example/large_table_updates/largetableupdates/RunResultSummaryPinLaw", "at", "(Ljava/lang/String;ILjava/lang/String;I)Z"⟩ : MethodName)) (by decide) (w223 hw) (w224 hw) (w225 hw) (w197 hw) (rm_at hw (pN := pN) (kN := 17) O W ⟨S0.1, S0.2.1, S0.2.2.1, S0.2.2.2⟩ h19 hgd ⟨S1.1, S1.2.1, S1.2.2.1, S1.2.2.2⟩ h18 hgd1 hfit hm (by decide)) (W := 0) (by decide) (by decide) (k' := 0) rfl (n' := 0) rfl (by decide) (by decide) rfl pd_903 (argsL := [(.ref x0), (.int (o32 pN)), (.ref x1), (.int (17 : Int32))]) rfl (rest := []) rfl rfl rfl d36_186 (q := 189) rfl ?_
  rintro _ T35 _ X36 ⟨rfl, rfl⟩
  refine g_ifN C X36 d36_189 (q := 192) rfl (by decide) ?_
  refine g_iconst C X36 d36_192 (q := 193) rfl (z := (1 : Int32)) rfl ?_
  refine g_goto C X36 d36_193 (by decide) (q := 197) (by decide) ?_
  exact g_retN C X36 (Or.inl rfl) (z' := 1) (by decide) d36_197 (by decide) (by decide) ⟨_, rfl, rfl, rfl⟩
set_option maxRecDepth 65536 in
set_option maxHeartbeats 40000000 in
theorem rm_gc2 {l : Launch} {Z : State} {a0 : Array Value} (hw : ∀ d ∈ tables_1, d.before a0 Z = true) {v0 : Addr} {kv : ClassId} {cs : List Int32} {xN sgN nB iN : Nat} {cz : Int32} {fm : Value} {dO : Addr} {kO : ClassId} {dT : Addr} {kT : ClassId} {h0 : Heap} {n0 : Nat} {p : Program} {e : Env} {s : State} {m : MethodId} {below : List Frame} {meth : Method} {c : Code} {args : Array Value} (W : Wd Z cz fm dO kO dT kT) (hx : xN ≤ 9223372036854775808) (hsg : sgN = 0 ∨ sgN = 1) (hcs : cs.length < 500) (hiN : nB + (NB xN sgN).length = iN) (hil : iN ≤ cs.length) (gv : n0 ≤ v0) :
    ∀ (yN : Nat), yN < 2147483648 → ∀ {tl : List Int32} {nN : Nat} {T : State} {h : Heap} {vj : Int64} {x4 x5 x6 x9 : Slot}, Cx p s m meth c Z "java/lang/Long" jdk_35_method_14_code 11 (some .int) "getChars" → St p l e ({ frames := 0, cells := 0, slots := 0, locals := 0 } : Room) s m args below meth c n0 T h 0 0 → Old Z n0 h → Keep h0 h [v0] → Arv Z h v0 kv .byte (o32 cs.length) (bV (bf cs tl nN)) (.int 0) → DG yN ++ tl = DG xN → nN + tl.length = iN → (x6 = .unset ∨ ∃ w, x6 = .val (.int w)) → (x9 = .unset ∨ ∃ w, x9 = .val (.int w)) →
      Goes p e below (FinN (fun v h => ∃ w, v = some w ∧ (fun v h => (∃ w, v = .int w) ∧ Keep h0 h [v0] ∧ Arv Z h v0 kv .byte (o32 cs.length) (bV (bf cs (NB xN sgN) nB)) (.int 0)) w h) s n0 0 0) (T.setTop (mkF m 86 #[.val (.long vj), .second, .val (.int (o32 iN)), .val (.ref v0), x4, x5, x6, .val (.int (o32 nN)), .val (.int (o32 sgN)), x9, .val (.int (ni yN))] [])) := by
  intro yN
  induction yN using Nat.strongRecOn with
  | _ yN ih =>
    intro hy tl nN T h vj x4 x5 x6 x9 C X O K0 V0 hD hn hx6 hx9
    have hl1 : (DG yN).length + tl.length = (DG xN).length := by rw [← hD, List.length_append]
    have hl2 := DG_pos yN
    have hl3 := NB_len xN sgN
    refine g_iload C X d24_86 (q := 88) rfl rfl ?_
    refine g_bipush C X d24_88 (q := 90) rfl (z := (-100 : Int32)) rfl ?_
    by_cases hc1 : (-100 : Int32) < (ni yN)
    · refine g_icY C X d24_90 (by decide) (q := 143) (by decide) (tlt hc1).2.2.1 ?_
      have h99 : yN < 100 := (niA (by omega)).1 hc1
      refine g_aloadN C X d24_143 (q := 144) rfl rfl rfl ?_
      refine g_iinc C X d24_144 (q := 147) rfl rfl (z := (o32 (nN - 1))) ((r_n16 nN (by omega)).2.2.1 (by omega)).2.2 (L' := #[.val (.long vj), .second, .val (.int (o32 iN)), .val (.ref v0), x4, x5, x6, .val (.int (o32 (nN - 1))), .val (.int (o32 sgN)), x9, .val (.int (ni yN))]) rfl ?_
      refine g_iload C X d24_147 (q := 149) rfl rfl ?_
      refine g_getS C X (host := "") (Or.inl (w149 hw)) Via.refl (W.2.2.2.2.1.ext O.2) d24_149 (q := 152) rfl ?_
      intro T2 X3
      refine g_iload C X3 d24_152 (q := 154) rfl rfl ?_
      refine g_ineg C X3 d24_154 (q := 155) rfl (z := (o32 yN)) (nineg h99) ?_
      refine g_baload C X3 (W.2.2.2.2.2.1.ext O.2) ⟨(r_n16 yN (by omega)).1, own_bl (b := 100) h99 (by decide)⟩ (w := (.int (o32 (48 + yN % 10)))) (by rw [(r_n16 yN (by omega)).2.1, bV_getD, dO_at h99]) d24_155 (q := 156) rfl ?_
      refine g_bastore C X3 V0 ⟨(r_n16 (nN - 1) (by omega)).1, own_bl (by omega) (by omega)⟩ (r_n16 (nN - 1) (by omega)).2.1 (bf_lt (by first | omega | (simp only [List.length_cons]; omega)) (by omega)) (vs' := bV (bf cs ((o32 (48 + yN % 10)) :: tl) (nN - 1))) (bf_set (by omega) (by first | omega | (simp only [List.length_cons]; omega)) (o32_gd (n := (48 + yN % 10)) (by omega)).1 (o32_gd (n := (48 + yN % 10)) (by omega)).2) gv d24_156 (q := 157) rfl ?_
      intro T4 h5 X6 W7 V8
      have O9 := O.wr W7 gv
      refine g_iload C X6 d24_157 (q := 159) rfl rfl ?_
      refine g_bipush C X6 d24_159 (q := 161) rfl (z := (-9 : Int32)) rfl ?_
      by_cases hc10 : (ni yN) < (-9 : Int32)
      · refine g_icN C X6 d24_161 (q := 164) rfl (tlt hc10).2.1 ?_
        have h10 : 10 ≤ yN := (niA (by omega)).2.2.1 hc10
        have hl6 : (DG yN).length = 2 := by rw [DG_10 h10 h99]; rfl
        refine g_aloadN C X6 d24_164 (q := 165) rfl rfl rfl ?_
        refine g_iinc C X6 d24_165 (q := 168) rfl rfl (z := (o32 ((nN - 1) - 1))) ((r_n16 (nN - 1) (by omega)).2.2.1 (by omega)).2.2 (L' := #[.val (.long vj), .second, .val (.int (o32 iN)), .val (.ref v0), x4, x5, x6, .val (.int (o32 ((nN - 1) - 1))), .val (.int (o32 sgN)), x9, .val (.int (ni yN))]) rfl ?_
        refine g_iload C X6 d24_168 (q := 170) rfl rfl ?_
        refine g_getS C X6 (host := "") (Or.inl (w257 hw)) Via.refl (W.2.2.2.2.2.2.1.ext O9.2) d24_170 (q := 173) rfl ?_
        intro T11 X12
        refine g_iload C X12 d24_173 (q := 175) rfl rfl ?_
        refine g_ineg C X12 d24_175 (q := 176) rfl (z := (o32 yN)) (nineg h99) ?_
        refine g_baload C X12 (W.2.2.2.2.2.2.2.ext O9.2) ⟨(r_n16 yN (by omega)).1, own_bl (b := 100) h99 (by decide)⟩ (w := (.int (o32 (48 + yN / 10)))) (by rw [(r_n16 yN (by omega)).2.1, bV_getD, dT_at h99]) d24_176 (q := 177) rfl ?_
        refine g_bastore C X12 V8 ⟨(r_n16 ((nN - 1) - 1) (by omega)).1, own_bl (by omega) (by omega)⟩ (r_n16 ((nN - 1) - 1) (by omega)).2.1 (bf_lt (by first | omega | (simp only [List.length_cons]; omega)) (by omega)) (vs' := bV (bf cs ((o32 (48 + yN / 10)) :: ((o32 (48 + yN % 10)) :: tl)) ((nN - 1) - 1))) (bf_set (by omega) (by first | omega | (simp only [List.length_cons]; omega)) (o32_gd (n := (48 + yN / 10)) (by omega)).1 (o32_gd (n := (48 + yN / 10)) (by omega)).2) gv d24_177 (q := 178) rfl ?_
        intro T13 h14 X15 W16 V17
        have O18 := O9.wr W16 gv
        refine g_iload C X15 d24_178 (q := 180) rfl rfl ?_
        by_cases hc19 : (o32 sgN) = (0 : Int32)
        · refine g_ifY C X15 d24_180 (by decide) (q := 192) (by decide) (teq hc19).1 ?_
          refine g_iload C X15 d24_192 (q := 194) rfl rfl ?_
          obtain rfl : sgN = 0 := (r_lt sgN (by omega) 0 (by decide)).2.2 hc19
          have e1 : ((o32 (48 + yN / 10)) :: ((o32 (48 + yN % 10)) :: tl)) = NB xN 0 := by unfold NB; rw [← hD, DG_10 h10 h99]; rfl
          have e2 : ((nN - 1) - 1) = nB := by omega
          exact g_retI C X15 d24_194 (by decide) (by decide) ⟨_, rfl, ⟨_, rfl⟩, ((K0.wr W7 (Or.inl (List.mem_of_getElem? (i := 0) rfl))).wr W16 (Or.inl (List.mem_of_getElem? (i := 0) rfl))), by rw [← e1, ← e2]; exact V17⟩
        · refine g_ifN C X15 d24_180 (q := 183) rfl (feq hc19).1 ?_
          obtain rfl : sgN = 1 := hsg.elim (fun z => by subst z; exact absurd rfl hc19) id
          refine g_aloadN C X15 d24_183 (q := 184) rfl rfl rfl ?_
          refine g_iinc C X15 d24_184 (q := 187) rfl rfl (z := (o32 (((nN - 1) - 1) - 1))) ((r_n16 ((nN - 1) - 1) (by omega)).2.2.1 (by omega)).2.2 (L' := #[.val (.long vj), .second, .val (.int (o32 iN)), .val (.ref v0), x4, x5, x6, .val (.int (o32 (((nN - 1) - 1) - 1))), .val (.int (o32 1)), x9, .val (.int (ni yN))]) rfl ?_
          refine g_iload C X15 d24_187 (q := 189) rfl rfl ?_
          refine g_bipush C X15 d24_189 (q := 191) rfl (z := (45 : Int32)) rfl ?_
          refine g_bastore C X15 V17 ⟨(r_n16 (((nN - 1) - 1) - 1) (by omega)).1, own_bl (by omega) (by omega)⟩ (r_n16 (((nN - 1) - 1) - 1) (by omega)).2.1 (bf_lt (by first | omega | (simp only [List.length_cons]; omega)) (by omega)) (vs' := bV (bf cs ((45 : Int32) :: ((o32 (48 + yN / 10)) :: ((o32 (48 + yN % 10)) :: tl))) (((nN - 1) - 1) - 1))) (bf_set (by omega) (by first | omega | (simp only [List.length_cons]; omega)) (by decide : 0 ≤ (45 : Int32).toInt ∧ (45 : Int32).toInt ≤ 127).1 (by decide : 0 ≤ (45 : Int32).toInt ∧ (45 : Int32).toInt ≤ 127).2) gv d24_191 (q := 192) rfl ?_
          intro T20 h21 X22 W23 V24
          have O25 := O18.wr W23 gv
          refine g_iload C X22 d24_192 (q := 194) rfl rfl ?_
          have e1 : ((45 : Int32) :: ((o32 (48 + yN / 10)) :: ((o32 (48 + yN % 10)) :: tl))) = NB xN 1 := by unfold NB; rw [← hD, DG_10 h10 h99]; rfl
          have e2 : (((nN - 1) - 1) - 1) = nB := by omega
          exact g_retI C X22 d24_194 (by decide) (by decide) ⟨_, rfl, ⟨_, rfl⟩, (((K0.wr W7 (Or.inl (List.mem_of_getElem? (i := 0) rfl))).wr W16 (Or.inl (List.mem_of_getElem? (i := 0) rfl))).wr W23 (Or.inl (List.mem_of_getElem? (i := 0) rfl))), by rw [← e1, ← e2]; exact V24⟩
      · refine g_icY C X6 d24_161 (by decide) (q := 178) (by decide) (flt hc10).2.1 ?_
        have h10 : yN < 10 := (niA (by omega)).2.2.2 hc10
        have hl6 : (DG yN).length = 1 := by rw [DG_s h10]; rfl
        refine g_iload C X6 d24_178 (q := 180) rfl rfl ?_
        by_cases hc26 : (o32 sgN) = (0 : Int32)
        · refine g_ifY C X6 d24_180 (by decide) (q := 192) (by decide) (teq hc26).1 ?_
          refine g_iload C X6 d24_192 (q := 194) rfl rfl ?_
          obtain rfl : sgN = 0 := (r_lt sgN (by omega) 0 (by decide)).2.2 hc26
          have e1 : ((o32 (48 + yN % 10)) :: tl) = NB xN 0 := by unfold NB; rw [← hD, DG_s h10]; rfl
          have e2 : (nN - 1) = nB := by omega
          exact g_retI C X6 d24_194 (by decide) (by decide) ⟨_, rfl, ⟨_, rfl⟩, (K0.wr W7 (Or.inl (List.mem_of_getElem? (i := 0) rfl))), by rw [← e1, ← e2]; exact V8⟩
        · refine g_ifN C X6 d24_180 (q := 183) rfl (feq hc26).1 ?_
          obtain rfl : sgN = 1 := hsg.elim (fun z => by subst z; exact absurd rfl hc26) id
          refine g_aloadN C X6 d24_183 (q := 184) rfl rfl rfl ?_
          refine g_iinc C X6 d24_184 (q := 187) rfl rfl (z := (o32 ((nN - 1) - 1))) ((r_n16 (nN - 1) (by omega)).2.2.1 (by omega)).2.2 (L' := #[.val (.long vj), .second, .val (.int (o32 iN)), .val (.ref v0), x4, x5, x6, .val (.int (o32 ((nN - 1) - 1))), .val (.int (o32 1)), x9, .val (.int (ni yN))]) rfl ?_
          refine g_iload C X6 d24_187 (q := 189) rfl rfl ?_
          refine g_bipush C X6 d24_189 (q := 191) rfl (z := (45 : Int32)) rfl ?_
          refine g_bastore C X6 V8 ⟨(r_n16 ((nN - 1) - 1) (by omega)).1, own_bl (by omega) (by omega)⟩ (r_n16 ((nN - 1) - 1) (by omega)).2.1 (bf_lt (by first | omega | (simp only [List.length_cons]; omega)) (by omega)) (vs' := bV (bf cs ((45 : Int32) :: ((o32 (48 + yN % 10)) :: tl)) ((nN - 1) - 1))) (bf_set (by omega) (by first | omega | (simp only [List.length_cons]; omega)) (by decide : 0 ≤ (45 : Int32).toInt ∧ (45 : Int32).toInt ≤ 127).1 (by decide : 0 ≤ (45 : Int32).toInt ∧ (45 : Int32).toInt ≤ 127).2) gv d24_191 (q := 192) rfl ?_
          intro T27 h28 X29 W30 V31
          have O32 := O9.wr W30 gv
          refine g_iload C X29 d24_192 (q := 194) rfl rfl ?_
          have e1 : ((45 : Int32) :: ((o32 (48 + yN % 10)) :: tl)) = NB xN 1 := by unfold NB; rw [← hD, DG_s h10]; rfl
          have e2 : ((nN - 1) - 1) = nB := by omega
          exact g_retI C X29 d24_194 (by decide) (by decide) ⟨_, rfl, ⟨_, rfl⟩, ((K0.wr W7 (Or.inl (List.mem_of_getElem? (i := 0) rfl))).wr W30 (Or.inl (List.mem_of_getElem? (i := 0) rfl))), by rw [← e1, ← e2]; exact V31⟩
    · refine g_icN C X d24_90 (q := 93) rfl (flt hc1).2.2.1 ?_
      have h100 : 100 ≤ yN := (niA (by omega)).2.1 hc1
      have hl4 : (DG yN).length = (DG (yN / 100)).length + 2 := by rw [DG_100 h100]; simp
      have hl5 := DG_pos (yN / 100)
      refine g_iload C X d24_93 (q := 95) rfl rfl ?_
      refine g_bipush C X d24_95 (q := 97) rfl (z := (100 : Int32)) rfl ?_
      refine g_idiv C X d24_97 (q := 98) rfl (by decide) (z := (ni (yN / 100))) (nidiv (by omega) (P := 100) (by decide)) ?_
      refine g_istore C X d24_98 (q := 100) rfl (L' := #[.val (.long vj), .second, .val (.int (o32 iN)), .val (.ref v0), x4, x5, x6, .val (.int (o32 nN)), .val (.int (o32 sgN)), .val (.int (ni (yN / 100))), .val (.int (ni yN))]) (by rcases hx9 with rfl | ⟨w, rfl⟩ <;> rfl) ?_
      refine g_iload C X d24_100 (q := 102) rfl rfl ?_
      refine g_bipush C X d24_102 (q := 104) rfl (z := (100 : Int32)) rfl ?_
      refine g_imul C X d24_104 (q := 105) rfl (z := ((ni (yN / 100)) * (100 : Int32))) rfl ?_
      refine g_iload C X d24_105 (q := 107) rfl rfl ?_
      refine g_isub C X d24_107 (q := 108) rfl (z := (o32 (yN % 100))) (gcI (by omega)) ?_
      refine g_istore C X d24_108 (q := 110) rfl (L' := #[.val (.long vj), .second, .val (.int (o32 iN)), .val (.ref v0), x4, x5, .val (.int (o32 (yN % 100))), .val (.int (o32 nN)), .val (.int (o32 sgN)), .val (.int (ni (yN / 100))), .val (.int (ni yN))]) (by rcases hx6 with rfl | ⟨w, rfl⟩ <;> rfl) ?_
      refine g_iload C X d24_110 (q := 112) rfl rfl ?_
      refine g_istore C X d24_112 (q := 114) rfl (L' := #[.val (.long vj), .second, .val (.int (o32 iN)), .val (.ref v0), x4, x5, .val (.int (o32 (yN % 100))), .val (.int (o32 nN)), .val (.int (o32 sgN)), .val (.int (ni (yN / 100))), .val (.int (ni (yN / 100)))]) rfl ?_
      refine g_aloadN C X d24_114 (q := 115) rfl rfl rfl ?_
      refine g_iinc C X d24_115 (q := 118) rfl rfl (z := (o32 (nN - 1))) ((r_n16 nN (by omega)).2.2.1 (by omega)).2.2 (L' := #[.val (.long vj), .second, .val (.int (o32 iN)), .val (.ref v0), x4, x5, .val (.int (o32 (yN % 100))), .val (.int (o32 (nN - 1))), .val (.int (o32 sgN)), .val (.int (ni (yN / 100))), .val (.int (ni (yN / 100)))]) rfl ?_
      refine g_iload C X d24_118 (q := 120) rfl rfl ?_
      refine g_getS C X (host := "") (Or.inl (w149 hw)) Via.refl (W.2.2.2.2.1.ext O.2) d24_120 (q := 123) rfl ?_
      intro T33 X34
      refine g_iload C X34 d24_123 (q := 125) rfl rfl ?_
      refine g_baload C X34 (W.2.2.2.2.2.1.ext O.2) ⟨(r_n16 (yN % 100) (by omega)).1, own_bl (b := 100) (by omega) (by decide)⟩ (w := (.int (o32 (48 + (yN % 100) % 10)))) (by rw [(r_n16 (yN % 100) (by omega)).2.1, bV_getD, dO_at (by omega)]) d24_125 (q := 126) rfl ?_
      refine g_bastore C X34 V0 ⟨(r_n16 (nN - 1) (by omega)).1, own_bl (by omega) (by omega)⟩ (r_n16 (nN - 1) (by omega)).2.1 (bf_lt (by first | omega | (simp only [List.length_cons]; omega)) (by omega)) (vs' := bV (bf cs ((o32 (48 + (yN % 100) % 10)) :: tl) (nN - 1))) (bf_set (by omega) (by first | omega | (simp only [List.length_cons]; omega)) (o32_gd (n := (48 + (yN % 100) % 10)) (by omega)).1 (o32_gd (n := (48 + (yN % 100) % 10)) (by omega)).2) gv d24_126 (q := 127) rfl ?_
      intro T35 h36 X37 W38 V39
      have O40 := O.wr W38 gv
      refine g_aloadN C X37 d24_127 (q := 128) rfl rfl rfl ?_
      refine g_iinc C X37 d24_128 (q := 131) rfl rfl (z := (o32 ((nN - 1) - 1))) ((r_n16 (nN - 1) (by omega)).2.2.1 (by omega)).2.2 (L' := #[.val (.long vj), .second, .val (.int (o32 iN)), .val (.ref v0), x4, x5, .val (.int (o32 (yN % 100))), .val (.int (o32 ((nN - 1) - 1))), .val (.int (o32 sgN)), .val (.int (ni (yN / 100))), .val (.int (ni (yN / 100)))]) rfl ?_
      refine g_iload C X37 d24_131 (q := 133) rfl rfl ?_
      refine g_getS C X37 (host := "") (Or.inl (w257 hw)) Via.refl (W.2.2.2.2.2.2.1.ext O40.2) d24_133 (q := 136) rfl ?_
      intro T41 X42
      refine g_iload C X42 d24_136 (q := 138) rfl rfl ?_
      refine g_baload C X42 (W.2.2.2.2.2.2.2.ext O40.2) ⟨(r_n16 (yN % 100) (by omega)).1, own_bl (b := 100) (by omega) (by decide)⟩ (w := (.int (o32 (48 + (yN % 100) / 10)))) (by rw [(r_n16 (yN % 100) (by omega)).2.1, bV_getD, dT_at (by omega)]) d24_138 (q := 139) rfl ?_
      refine g_bastore C X42 V39 ⟨(r_n16 ((nN - 1) - 1) (by omega)).1, own_bl (by omega) (by omega)⟩ (r_n16 ((nN - 1) - 1) (by omega)).2.1 (bf_lt (by first | omega | (simp only [List.length_cons]; omega)) (by omega)) (vs' := bV (bf cs ((o32 (48 + (yN % 100) / 10)) :: ((o32 (48 + (yN % 100) % 10)) :: tl)) ((nN - 1) - 1))) (bf_set (by omega) (by first | omega | (simp only [List.length_cons]; omega)) (o32_gd (n := (48 + (yN % 100) / 10)) (by omega)).1 (o32_gd (n := (48 + (yN % 100) / 10)) (by omega)).2) gv d24_139 (q := 140) rfl ?_
      intro T43 h44 X45 W46 V47
      have O48 := O40.wr W46 gv
      refine g_goto C X45 d24_140 (by decide) (q := 86) (by decide) ?_
      exact ih (yN / 100) (by omega) (by omega) C X45 O48 ((K0.wr W38 (Or.inl (List.mem_of_getElem? (i := 0) rfl))).wr W46 (Or.inl (List.mem_of_getElem? (i := 0) rfl))) V47 (by rw [DG_100 h100] at hD; simpa using hD) (by simp only [List.length_cons]; omega) (Or.inr ⟨_, rfl⟩) (Or.inr ⟨_, rfl⟩)
set_option maxRecDepth 65536 in
set_option maxHeartbeats 40000000 in
theorem rm_gc1 {l : Launch} {Z : State} {a0 : Array Value} (hw : ∀ d ∈ tables_1, d.before a0 Z = true) {v0 : Addr} {kv : ClassId} {cs : List Int32} {xN sgN nB iN : Nat} {cz : Int32} {fm : Value} {dO : Addr} {kO : ClassId} {dT : Addr} {kT : ClassId} {h0 : Heap} {n0 : Nat} {p : Program} {e : Env} {s : State} {m : MethodId} {below : List Frame} {meth : Method} {c : Code} {args : Array Value} (W : Wd Z cz fm dO kO dT kT) (hx : xN ≤ 9223372036854775808) (hsg : sgN = 0 ∨ sgN = 1) (hcs : cs.length < 500) (hiN : nB + (NB xN sgN).length = iN) (hil : iN ≤ cs.length) (gv : n0 ≤ v0) :
    ∀ (yN : Nat), yN ≤ 9223372036854775808 → ∀ {tl : List Int32} {nN : Nat} {T : State} {h : Heap} {x4 x5 x6 : Slot}, Cx p s m meth c Z "java/lang/Long" jdk_35_method_14_code 11 (some .int) "getChars" → St p l e ({ frames := 0, cells := 0, slots := 0, locals := 0 } : Room) s m args below meth c n0 T h 0 0 → Old Z n0 h → Keep h0 h [v0] → Arv Z h v0 kv .byte (o32 cs.length) (bV (bf cs tl nN)) (.int 0) → DG yN ++ tl = DG xN → nN + tl.length = iN → ((x4 = .unset ∧ x5 = .unset) ∨ ∃ w, x4 = .val (.long w) ∧ x5 = .second) → (x6 = .unset ∨ ∃ w, x6 = .val (.int w)) →
      Goes p e below (FinN (fun v h => ∃ w, v = some w ∧ (fun v h => (∃ w, v = .int w) ∧ Keep h0 h [v0] ∧ Arv Z h v0 kv .byte (o32 cs.length) (bV (bf cs (NB xN sgN) nB)) (.int 0)) w h) s n0 0 0) (T.setTop (mkF m 24 #[.val (.long (nx yN)), .second, .val (.int (o32 iN)), .val (.ref v0), x4, x5, x6, .val (.int (o32 nN)), .val (.int (o32 sgN)), .unset, .unset] [])) := by
  intro yN
  induction yN using Nat.strongRecOn with
  | _ yN ih =>
    intro hy tl nN T h x4 x5 x6 C X O K0 V0 hD hn hx4 hx6
    have hl1 : (DG yN).length + tl.length = (DG xN).length := by rw [← hD, List.length_append]
    have hl2 := DG_pos yN
    have hl3 := NB_len xN sgN
    refine g_lloadN C X d24_24 (q := 25) rfl rfl ?_
    refine g_ldcJ C X (w148 hw) d24_25 (q := 28) rfl ?_
    refine g_lcmp C X d24_28 (q := 29) rfl (z := (lcmpW (nx yN) (-2147483648 : Int64))) rfl ?_
    by_cases hc1 : (0 : Int32) < (lcmpW (nx yN) (-2147483648 : Int64))
    · refine g_ifY C X d24_29 (by decide) (q := 82) (by decide) (tlt hc1).2.2.1 ?_
      have h31 : yN < 2147483648 := (lcN hy (P := 2147483648) (by decide)).1 hc1
      refine g_lloadN C X d24_82 (q := 83) rfl rfl ?_
      refine g_l2i C X d24_83 (q := 84) rfl (z := (ni yN)) (nx32 (by omega)) ?_
      refine g_istore C X d24_84 (q := 86) rfl (L' := #[.val (.long (nx yN)), .second, .val (.int (o32 iN)), .val (.ref v0), x4, x5, x6, .val (.int (o32 nN)), .val (.int (o32 sgN)), .unset, .val (.int (ni yN))]) rfl ?_
      exact rm_gc2 hw W hx hsg hcs hiN hil gv yN h31 C X O K0 V0 hD hn hx6 (Or.inl rfl)
    · refine g_ifN C X d24_29 (q := 32) rfl (flt hc1).2.2.1 ?_
      have h31 : 2147483648 ≤ yN := (lcN hy (P := 2147483648) (by decide)).2 hc1
      have h100 : 100 ≤ yN := by omega
      have hl4 : (DG yN).length = (DG (yN / 100)).length + 2 := by rw [DG_100 h100]; simp
      have hl5 := DG_pos (yN / 100)
      refine g_lloadN C X d24_32 (q := 33) rfl rfl ?_
      refine g_ldcJ C X (w259 hw) d24_33 (q := 36) rfl ?_
      refine g_ldiv C X d24_36 (q := 37) rfl (by decide) (z := (nx (yN / 100))) (nxdiv hy (P := 100) (by decide)) ?_
      refine g_lstore C X d24_37 (q := 39) rfl (L' := #[.val (.long (nx yN)), .second, .val (.int (o32 iN)), .val (.ref v0), .val (.long (nx (yN / 100))), .second, x6, .val (.int (o32 nN)), .val (.int (o32 sgN)), .unset, .unset]) (by rcases hx4 with ⟨rfl, rfl⟩ | ⟨w, rfl, rfl⟩ <;> rfl) ?_
      refine g_lload C X d24_39 (q := 41) rfl rfl ?_
      refine g_ldcJ C X (w259 hw) d24_41 (q := 44) rfl ?_
      refine g_lmul C X d24_44 (q := 45) rfl (z := ((nx (yN / 100)) * (100 : Int64))) rfl ?_
      refine g_lloadN C X d24_45 (q := 46) rfl rfl ?_
      refine g_lsub C X d24_46 (q := 47) rfl (z := (((nx (yN / 100)) * (100 : Int64)) - (nx yN))) rfl ?_
      refine g_l2i C X d24_47 (q := 48) rfl (z := (o32 (yN % 100))) (gcJ hy) ?_
      refine g_istore C X d24_48 (q := 50) rfl (L' := #[.val (.long (nx yN)), .second, .val (.int (o32 iN)), .val (.ref v0), .val (.long (nx (yN / 100))), .second, .val (.int (o32 (yN % 100))), .val (.int (o32 nN)), .val (.int (o32 sgN)), .unset, .unset]) (by rcases hx6 with rfl | ⟨w, rfl⟩ <;> rfl) ?_
      refine g_lload C X d24_50 (q := 52) rfl rfl ?_
      refine g_lstoreN C X d24_52 (q := 53) rfl (L' := #[.val (.long (nx (yN / 100))), .second, .val (.int (o32 iN)), .val (.ref v0), .val (.long (nx (yN / 100))), .second, .val (.int (o32 (yN % 100))), .val (.int (o32 nN)), .val (.int (o32 sgN)), .unset, .unset]) rfl ?_
      refine g_aloadN C X d24_53 (q := 54) rfl rfl rfl ?_
      refine g_iinc C X d24_54 (q := 57) rfl rfl (z := (o32 (nN - 1))) ((r_n16 nN (by omega)).2.2.1 (by omega)).2.2 (L' := #[.val (.long (nx (yN / 100))), .second, .val (.int (o32 iN)), .val (.ref v0), .val (.long (nx (yN / 100))), .second, .val (.int (o32 (yN % 100))), .val (.int (o32 (nN - 1))), .val (.int (o32 sgN)), .unset, .unset]) rfl ?_
      refine g_iload C X d24_57 (q := 59) rfl rfl ?_
      refine g_getS C X (host := "") (Or.inl (w149 hw)) Via.refl (W.2.2.2.2.1.ext O.2) d24_59 (q := 62) rfl ?_
      intro T2 X3
      refine g_iload C X3 d24_62 (q := 64) rfl rfl ?_
      refine g_baload C X3 (W.2.2.2.2.2.1.ext O.2) ⟨(r_n16 (yN % 100) (by omega)).1, own_bl (b := 100) (by omega) (by decide)⟩ (w := (.int (o32 (48 + (yN % 100) % 10)))) (by rw [(r_n16 (yN % 100) (by omega)).2.1, bV_getD, dO_at (by omega)]) d24_64 (q := 65) rfl ?_
      refine g_bastore C X3 V0 ⟨(r_n16 (nN - 1) (by omega)).1, own_bl (by omega) (by omega)⟩ (r_n16 (nN - 1) (by omega)).2.1 (bf_lt (by first | omega | (simp only [List.length_cons]; omega)) (by omega)) (vs' := bV (bf cs ((o32 (48 + (yN % 100) % 10)) :: tl) (nN - 1))) (bf_set (by omega) (by first | omega | (simp only [List.length_cons]; omega)) (o32_gd (n := (48 + (yN % 100) % 10)) (by omega)).1 (o32_gd (n := (48 + (yN % 100) % 10)) (by omega)).2) gv d24_65 (q := 66) rfl ?_
      intro T4 h5 X6 W7 V8
      have O9 := O.wr W7 gv
      refine g_aloadN C X6 d24_66 (q := 67) rfl rfl rfl ?_
      refine g_iinc C X6 d24_67 (q := 70) rfl rfl (z := (o32 ((nN - 1) - 1))) ((r_n16 (nN - 1) (by omega)).2.2.1 (by omega)).2.2 (L' := #[.val (.long (nx (yN / 100))), .second, .val (.int (o32 iN)), .val (.ref v0), .val (.long (nx (yN / 100))), .second, .val (.int (o32 (yN % 100))), .val (.int (o32 ((nN - 1) - 1))), .val (.int (o32 sgN)), .unset, .unset]) rfl ?_
      refine g_iload C X6 d24_70 (q := 72) rfl rfl ?_
      refine g_getS C X6 (host := "") (Or.inl (w257 hw)) Via.refl (W.2.2.2.2.2.2.1.ext O9.2) d24_72 (q := 75) rfl ?_
      intro T10 X11
      refine g_iload C X11 d24_75 (q := 77) rfl rfl ?_
      refine g_baload C X11 (W.2.2.2.2.2.2.2.ext O9.2) ⟨(r_n16 (yN % 100) (by omega)).1, own_bl (b := 100) (by omega) (by decide)⟩ (w := (.int (o32 (48 + (yN % 100) / 10)))) (by rw [(r_n16 (yN % 100) (by omega)).2.1, bV_getD, dT_at (by omega)]) d24_77 (q := 78) rfl ?_
      refine g_bastore C X11 V8 ⟨(r_n16 ((nN - 1) - 1) (by omega)).1, own_bl (by omega) (by omega)⟩ (r_n16 ((nN - 1) - 1) (by omega)).2.1 (bf_lt (by first | omega | (simp only [List.length_cons]; omega)) (by omega)) (vs' := bV (bf cs ((o32 (48 + (yN % 100) / 10)) :: ((o32 (48 + (yN % 100) % 10)) :: tl)) ((nN - 1) - 1))) (bf_set (by omega) (by first | omega | (simp only [List.length_cons]; omega)) (o32_gd (n := (48 + (yN % 100) / 10)) (by omega)).1 (o32_gd (n := (48 + (yN % 100) / 10)) (by omega)).2) gv d24_78 (q := 79) rfl ?_
      intro T12 h13 X14 W15 V16
      have O17 := O9.wr W15 gv
      refine g_goto C X14 d24_79 (by decide) (q := 24) (by decide) ?_
      exact ih (yN / 100) (by omega) (by omega) C X14 O17 ((K0.wr W7 (Or.inl (List.mem_of_getElem? (i := 0) rfl))).wr W15 (Or.inl (List.mem_of_getElem? (i := 0) rfl))) V16 (by rw [DG_100 h100] at hD; simpa using hD) (by simp only [List.length_cons]; omega) (Or.inr ⟨_, rfl, rfl⟩) (Or.inr ⟨_, rfl⟩)
set_option maxRecDepth 65536 in
set_option maxHeartbeats 40000000 in
theorem rm_getChars {l : Launch} {Z : State} {a0 : Array Value} (hw : ∀ d ∈ tables_1, d.before a0 Z = true) {vL : Int64}  {v0 : Addr} {kv : ClassId} {cs : List Int32} {xN sgN nB iN : Nat} {cz : Int32} {fm : Value} {dO : Addr} {kO : ClassId} {dT : Addr} {kT : ClassId} {h0 : Heap} {n0 : Nat} (O : Old Z n0 h0) (W : Wd Z cz fm dO kO dT kT) (hv : NV vL xN sgN) (hcs : cs.length < 500) (hiN : nB + (NB xN sgN).length = iN) (hil : iN ≤ cs.length) (gv : n0 ≤ v0) (V0 : Arv Z h0 v0 kv .byte (o32 cs.length) (bV cs) (.int 0)) :
    Met1 l Z (⟨"java/lang/Long", "getChars", "(JI[B)I"⟩ : MethodName) jdk_35_method_14_code 11 (some .int) ({ frames := 0, cells := 0, slots := 0, locals := 0 } : Room) #[(.long vL), (.int (o32 iN)), (.ref v0)] h0 n0 (fun v h => (∃ w, v = .int w) ∧ Keep h0 h [v0] ∧ Arv Z h v0 kv .byte (o32 cs.length) (bV (bf cs (NB xN sgN) nB)) (.int 0)) := by
  refine met_of (L := #[.val (.long vL), .second, .val (.int (o32 iN)), .val (.ref v0), .unset, .unset, .unset, .unset, .unset, .unset, .unset]) (plainFor_of_name pn_345) (fun m => by first | (simp [entryFrame, mkF, argsToLocals, Value.category]; done) | rfl) ?_
  intro p e s m below meth c T C X
  change Cx p s m meth c Z "java/lang/Long" jdk_35_method_14_code 11 (some .int) "getChars" at C
  have hx := hv.1
  rcases hv.2 with ⟨hv1, hv2, rfl⟩ | ⟨hv1, hv2, rfl⟩
  · subst hv2
    refine g_iloadN C X d24_0 (q := 1) rfl rfl ?_
    refine g_istore C X d24_1 (q := 3) rfl (L' := #[.val (.long (nx xN)), .second, .val (.int (o32 iN)), .val (.ref v0), .unset, .unset, .unset, .val (.int (o32 iN)), .unset, .unset, .unset]) rfl ?_
    refine g_lloadN C X d24_3 (q := 4) rfl rfl ?_
    refine g_lconst C X d24_4 (q := 5) rfl (z := (0 : Int64)) rfl ?_
    refine g_lcmp C X d24_5 (q := 6) rfl (z := (lcmpW (nx xN) (0 : Int64))) rfl ?_
    refine g_ifN C X d24_6 (q := 9) rfl (tlt hv1).2.1 ?_
    refine g_iconst C X d24_9 (q := 10) rfl (z := (1 : Int32)) rfl ?_
    refine g_goto C X d24_10 (by decide) (q := 14) (by decide) ?_
    refine g_istore C X d24_14 (q := 16) rfl (L' := #[.val (.long (nx xN)), .second, .val (.int (o32 iN)), .val (.ref v0), .unset, .unset, .unset, .val (.int (o32 iN)), .val (.int (1 : Int32)), .unset, .unset]) rfl ?_
    refine g_iload C X d24_16 (q := 18) rfl rfl ?_
    refine g_ifY C X d24_18 (by decide) (q := 24) (by decide) (by decide) ?_
    exact rm_gc1 hw W hx (Or.inr rfl) hcs hiN hil gv xN hx C X O (Keep.refl _ _) (by rw [bf_nil]; exact V0) (List.append_nil _) (Nat.add_zero _) (Or.inl ⟨rfl, rfl⟩) (Or.inl rfl)
  · refine g_iloadN C X d24_0 (q := 1) rfl rfl ?_
    refine g_istore C X d24_1 (q := 3) rfl (L' := #[.val (.long vL), .second, .val (.int (o32 iN)), .val (.ref v0), .unset, .unset, .unset, .val (.int (o32 iN)), .unset, .unset, .unset]) rfl ?_
    refine g_lloadN C X d24_3 (q := 4) rfl rfl ?_
    refine g_lconst C X d24_4 (q := 5) rfl (z := (0 : Int64)) rfl ?_
    refine g_lcmp C X d24_5 (q := 6) rfl (z := (lcmpW vL (0 : Int64))) rfl ?_
    refine g_ifY C X d24_6 (by decide) (q := 13) (by decide) (flt hv1).2.1 ?_
    refine g_iconst C X d24_13 (q := 14) rfl (z := (0 : Int32)) rfl ?_
    refine g_istore C X d24_14 (q := 16) rfl (L' := #[.val (.long vL), .second, .val (.int (o32 iN)), .val (.ref v0), .unset, .unset, .unset, .val (.int (o32 iN)), .val (.int (0 : Int32)), .unset, .unset]) rfl ?_
    refine g_iload C X d24_16 (q := 18) rfl rfl ?_
    refine g_ifN C X d24_18 (q := 21) rfl (by decide) ?_
    refine g_lloadN C X d24_21 (q := 22) rfl rfl ?_
    refine g_lneg C X d24_22 (q := 23) rfl (z := (nx xN)) hv2 ?_
    refine g_lstoreN C X d24_23 (q := 24) rfl (L' := #[.val (.long (nx xN)), .second, .val (.int (o32 iN)), .val (.ref v0), .unset, .unset, .unset, .val (.int (o32 iN)), .val (.int (0 : Int32)), .unset, .unset]) rfl ?_
    exact rm_gc1 hw W hx (Or.inl rfl) hcs hiN hil gv xN hx C X O (Keep.refl _ _) (by rw [bf_nil]; exact V0) (List.append_nil _) (Nat.add_zero _) (Or.inl ⟨rfl, rfl⟩) (Or.inl rfl)
set_option maxRecDepth 65536 in
set_option maxHeartbeats 40000000 in
theorem rm_asbJ {l : Launch} {Z : State} {a0 : Array Value} (hw : ∀ d ∈ tables_1, d.before a0 Z = true) {b0 v0 : Addr} {kv : ClassId} {cs : List Int32} {nC : Nat} {vL : Int64} {xN sgN : Nat} {cz : Int32} {fm : Value} {dO : Addr} {kO : ClassId} {dT : Addr} {kT : ClassId} {h0 : Heap} {n0 : Nat} (O : Old Z n0 h0) (W : Wd Z cz fm dO kO dT kT) (R0 : SBf Z h0 b0 v0 (o32 nC)) (A0 : BA Z h0 v0 kv cs) (hcs : cs.length < 500) (hn0 : nC ≤ cs.length) (nvb : v0 ≠ b0) (g0 : n0 ≤ b0) (gv : n0 ≤ v0) (hv : NV vL xN sgN) (hsm : nC + (NB xN sgN).length ≤ 200) :
    Met1 l Z (⟨"java/lang/AbstractStringBuilder", "append", "(J)Ljava/lang/AbstractStringBuilder;"⟩ : MethodName) jdk_68_method_33_code 5 (some (.object "java/lang/AbstractStringBuilder")) ({ frames := 4, cells := 1, slots := 500, locals := 62 } : Room) #[(.ref b0), (.long vL)] h0 n0 (fun v h => v = .ref b0 ∧ Keep h0 h [b0, v0] ∧ ∃ v' k' cs', (v' = v0 ∨ h0.size ≤ v') ∧ v' ≠ b0 ∧ SBf Z h b0 v' (o32 (nC + List.length (NB xN sgN))) ∧ BA Z h v' k' cs' ∧ cs'.length < 500 ∧ nC + List.length (NB xN sgN) ≤ cs'.length ∧ cs'.take (nC + List.length (NB xN sgN)) = cs.take nC ++ (NB xN sgN)) := by
  refine met_of (L := #[.val (.ref b0), .val (.long vL), .second, .unset, .unset]) (plainFor_of_name pn_62) (fun m => by first | (simp [entryFrame, mkF, argsToLocals, Value.category]; done) | rfl) ?_
  intro p e s m below meth c T C X
  change Cx p s m meth c Z "java/lang/AbstractStringBuilder" jdk_68_method_33_code 5 (some (.object "java/lang/AbstractStringBuilder")) "append" at C
  refine g_aloadN C X d21_0 (q := 1) rfl rfl rfl ?_
  refine g_getF C X (host := "") (Or.inl (w76 hw)) Via.refl R0.2.2.2 d21_1 (q := 4) rfl ?_
  intro T1 X2
  refine g_istoreN C X2 d21_4 (q := 5) rfl (L' := #[.val (.ref b0), .val (.long vL), .second, .val (.int (o32 nC)), .unset]) rfl ?_
  refine g_iloadN C X2 d21_5 (q := 6) rfl rfl ?_
  refine g_lloadN C X2 d21_6 (q := 7) rfl rfl ?_
  refine g_callS1 C X2 (y := (⟨"java/lang/Long", "stringSize", "(J)I"⟩ : MethodName)) (by decide) (w135 hw) (w136 hw) (w138 hw) (w137 hw) (rm_ssize hw O W hv) (W := 1) (by decide) (by decide) (k' := 0) rfl (n' := 0) rfl (by decide) (by decide) rfl pd_465 (argsL := [(.long vL)]) rfl (rest := [(.int (o32 nC))]) rfl rfl rfl d21_7 (q := 10) rfl ?_
  rintro _ T3 _ X4 ⟨rfl, rfl⟩
  refine g_iadd C X4 d21_10 (q := 11) rfl (z := (o32 (nC + (NB xN sgN).length))) (r_add nC (by omega) _ (by omega)) ?_
  refine g_istore C X4 d21_11 (q := 13) rfl (L' := #[.val (.ref b0), .val (.long vL), .second, .val (.int (o32 nC)), .val (.int (o32 (nC + (NB xN sgN).length)))]) rfl ?_
  refine g_aloadN C X4 d21_13 (q := 14) rfl rfl rfl ?_
  refine g_iload C X4 d21_14 (q := 16) rfl rfl ?_
  refine g_callP0 C X4 (y := (⟨"java/lang/AbstractStringBuilder", "ensureCapacityInternal", "(I)V"⟩ : MethodName)) (a := b0) (by decide) (w78 hw) (own_selP (w81 hw) (w79 hw) (w80 hw) (by decide)) (w79 hw) (w80 hw) R0.1 (w82 hw) (w44 hw) (rm_ensure hw (v0 := v0) (kv := kv) (cs := cs) (nC := nC) (mN := (nC + (NB xN sgN).length)) O W ⟨R0.1, R0.2.1, R0.2.2.1, R0.2.2.2⟩ ⟨A0.1, A0.2⟩ hcs hn0 nvb g0 gv (by omega)) (W := 0) (by decide) (by decide) (k' := 1) rfl (n' := 500) rfl (by decide) (by decide) rfl pd_172 (argsL := [(.int (o32 (nC + (NB xN sgN).length)))]) rfl (rest := []) rfl rfl rfl d21_16 (q := 19) rfl ?_
  rintro T5 h6 X7 ⟨K8, v9, k10, cs11, q12, nv13, R14, BA15, hm16, h517, tk18⟩
  have ge19 := own_geA O gv q12
  have O20 := O.keep K8 (allS g0 all0)
  refine g_aloadN C X7 d21_19 (q := 20) rfl rfl rfl ?_
  refine g_callV1 C X7 (y := (⟨"java/lang/AbstractStringBuilder", "isLatin1", "()Z"⟩ : MethodName)) (z := (⟨"java/lang/AbstractStringBuilder", "isLatin1", "()Z"⟩ : MethodName)) (a := b0) (by decide) (w140 hw) (w141 hw) (w143 hw) (w142 hw) (nf_sel (w143 hw)) R14.1 (w144 hw) (w44 hw) (rm_bL hw O20 W ⟨R14.1, R14.2.1, R14.2.2.1, R14.2.2.2⟩ ⟨BA15.1, BA15.2⟩ h517 (by omega) nv13 g0 ge19) (W := 0) (by decide) (by decide) (k' := 1) rfl (n' := 500) rfl (by decide) (by decide) rfl pd_284 (argsL := []) rfl (rest := []) rfl rfl rfl d21_20 (q := 23) rfl ?_
  rintro _ T21 _ X22 ⟨rfl, rfl⟩
  refine g_ifN C X22 d21_23 (q := 26) rfl (by decide) ?_
  refine g_lloadN C X22 d21_26 (q := 27) rfl rfl ?_
  refine g_iload C X22 d21_27 (q := 29) rfl rfl ?_
  refine g_aloadN C X22 d21_29 (q := 30) rfl rfl rfl ?_
  refine g_getF C X22 (host := "") (Or.inl (w48 hw)) Via.refl R14.2.1 d21_30 (q := 33) rfl ?_
  intro T23 X24
  refine g_callS1 C X24 (y := (⟨"java/lang/Long", "getChars", "(JI[B)I"⟩ : MethodName)) (by decide) (w145 hw) (w146 hw) (w147 hw) (w137 hw) (rm_getChars hw (v0 := v9) (kv := k10) (cs := cs11) (nB := nC) O20 W hv h517 rfl hm16 ge19 BA15.2) (W := 0) (by decide) (by decide) (k' := 1) rfl (n' := 500) rfl (by decide) (by decide) rfl pd_1137 (argsL := [(.long vL), (.int (o32 (nC + (NB xN sgN).length))), (.ref v9)]) rfl (rest := []) rfl rfl rfl d21_33 (q := 36) rfl ?_
  rintro _ T25 h26 X27 ⟨⟨w28, rfl⟩, K29, V30⟩
  have O31 := O20.keep K29 (allS ge19 all0)
  refine g_pop C X27 d21_36 (q := 37) rfl rfl ?_
  refine g_goto C X27 d21_37 (by decide) (q := 52) (by decide) ?_
  refine g_aloadN C X27 d21_52 (q := 53) rfl rfl rfl ?_
  refine g_iload C X27 d21_53 (q := 55) rfl rfl ?_
  have f32 := (R14.2.2.2.keep K29 (ninS (Ne.symm nv13) nin0))
  have f33 := (R14.1.keep K29)
  refine g_putF C X27 (host := "") (Or.inl (w76 hw)) Via.refl f32 f33 (Or.inl (w77 hw)) (w35 hw) (ty := .int) (by decide) rfl rfl d21_55 (q := 58) rfl g0 ?_
  intro T34 h36 X35 W37
  have FW37 := Fld.same W37 f32
  have O38 := O31.wr W37 g0
  refine g_aloadN C X35 d21_58 (q := 59) rfl rfl rfl ?_
  have pt39 := own_putB (cs := cs11) (ls := (NB xN sgN)) (n := nC) hm16
  have hK9 : Keep h0 h36 [b0, v0] := own_kp ((((Keep.refl h0 [b0, v9]).trans K8 (allS (Or.inl (List.mem_of_getElem? (i := 0) rfl)) all0)).trans K29 (allS (Or.inl (List.mem_of_getElem? (i := 1) rfl)) all0)).wr W37 (Or.inl (List.mem_of_getElem? (i := 0) rfl))) q12
  exact g_retA C X35 rfl rfl d21_59 (by decide) (by decide) ⟨_, rfl, rfl, hK9, v9, k10, _, q12, nv13, ⟨(f33.wr W37), ((R14.2.1.keep K29 (ninS (Ne.symm nv13) nin0)).other W37 (Or.inr (slot_ne (Or.inl (w49 hw)) (Or.inl (w77 hw)) (by decide) (t := (.array .byte)) (t' := .int) (by decide) (by decide)))), ((R14.2.2.1.keep K29 (ninS (Ne.symm nv13) nin0)).other W37 (Or.inr (slot_ne (Or.inl (w51 hw)) (Or.inl (w77 hw)) (by decide) (t := .byte) (t' := .int) (by decide) (by decide)))), FW37⟩, ⟨((BA15.1.keep K29).wr W37), by rw [pt39.1]; exact (V30.other W37 nv13)⟩, by rw [pt39.1]; exact h517, by rw [pt39.1]; exact hm16, by rw [pt39.2, tk18]⟩
set_option maxRecDepth 65536 in
set_option maxHeartbeats 40000000 in
theorem rm_sbJ {l : Launch} {Z : State} {a0 : Array Value} (hw : ∀ d ∈ tables_1, d.before a0 Z = true) {b0 v0 : Addr} {kv : ClassId} {cs : List Int32} {nC : Nat} {vL : Int64} {xN sgN : Nat} {cz : Int32} {fm : Value} {dO : Addr} {kO : ClassId} {dT : Addr} {kT : ClassId} {h0 : Heap} {n0 : Nat} (O : Old Z n0 h0) (W : Wd Z cz fm dO kO dT kT) (R0 : SBf Z h0 b0 v0 (o32 nC)) (A0 : BA Z h0 v0 kv cs) (hcs : cs.length < 500) (hn0 : nC ≤ cs.length) (nvb : v0 ≠ b0) (g0 : n0 ≤ b0) (gv : n0 ≤ v0) (hv : NV vL xN sgN) (hsm : nC + (NB xN sgN).length ≤ 200) :
    Met1 l Z (⟨"java/lang/StringBuilder", "append", "(J)Ljava/lang/StringBuilder;"⟩ : MethodName) jdk_67_method_16_code 3 (some (.object "java/lang/StringBuilder")) ({ frames := 5, cells := 1, slots := 500, locals := 78 } : Room) #[(.ref b0), (.long vL)] h0 n0 (fun v h => v = .ref b0 ∧ Keep h0 h [b0, v0] ∧ ∃ v' k' cs', (v' = v0 ∨ h0.size ≤ v') ∧ v' ≠ b0 ∧ SBf Z h b0 v' (o32 (nC + List.length (NB xN sgN))) ∧ BA Z h v' k' cs' ∧ cs'.length < 500 ∧ nC + List.length (NB xN sgN) ≤ cs'.length ∧ cs'.take (nC + List.length (NB xN sgN)) = cs.take nC ++ (NB xN sgN)) := by
  refine met_of (L := #[.val (.ref b0), .val (.long vL), .second]) (plainFor_of_name pn_194) (fun m => by first | (simp [entryFrame, mkF, argsToLocals, Value.category]; done) | rfl) ?_
  intro p e s m below meth c T C X
  change Cx p s m meth c Z "java/lang/StringBuilder" jdk_67_method_16_code 3 (some (.object "java/lang/StringBuilder")) "append" at C
  refine g_aloadN C X d20_0 (q := 1) rfl rfl rfl ?_
  refine g_lloadN C X d20_1 (q := 2) rfl rfl ?_
  refine g_callUp1 C X (y := (⟨"java/lang/AbstractStringBuilder", "append", "(J)Ljava/lang/AbstractStringBuilder;"⟩ : MethodName)) (a := b0) (by decide) (by decide) (w131 hw) (w132 hw) (w60 hw) (w143 hw) rfl R0.1 (w134 hw) (w44 hw) (rm_asbJ hw O W ⟨R0.1, R0.2.1, R0.2.2.1, R0.2.2.2⟩ ⟨A0.1, A0.2⟩ hcs hn0 nvb g0 gv hv hsm) (W := 0) (by decide) (by decide) (k' := 1) rfl (n' := 500) rfl (by decide) (by decide) rfl pd_1148 (argsL := [(.long vL)]) rfl (rest := []) rfl rfl rfl d20_2 (q := 5) rfl ?_
  rintro _ T1 h2 X3 ⟨rfl, K4, v5, k6, cs7, q8, nv9, R10, BA11, h512, hm13, tk14⟩
  have O15 := O.keep K4 (allS g0 (allS gv all0))
  refine g_pop C X3 d20_5 (q := 6) rfl rfl ?_
  refine g_aloadN C X3 d20_6 (q := 7) rfl rfl rfl ?_
  exact g_retA C X3 rfl rfl d20_7 (by decide) (by decide) ⟨_, rfl, rfl, K4, v5, k6, cs7, q8, nv9, R10, BA11, h512, hm13, tk14⟩
set_option maxRecDepth 65536 in
set_option maxHeartbeats 40000000 in
theorem rm_rec {l : Launch} {Z : State} {a0 : Array Value} (hw : ∀ d ∈ tables_1, d.before a0 Z = true) {o0 : Addr} {cz : Int32} {fm : Value} {dO : Addr} {kO : ClassId} {dT : Addr} {kT : ClassId} {h0 : Heap} {n0 : Nat} (O : Old Z n0 h0) (W : Wd Z cz fm dO kO dT kT)  :
    Met0 l Z (⟨"java/lang/Record", "<init>", "()V"⟩ : MethodName) jdk_30_method_1_code 1 none ({ frames := 1, cells := 0, slots := 0, locals := 12 } : Room) #[(.ref o0)] h0 n0 (fun h => h0 = h) := by
  refine met_of (L := #[.val (.ref o0)]) (plainFor_of_name pn_1155) (fun m => by first | (simp [entryFrame, mkF, argsToLocals, Value.category]; done) | rfl) ?_
  intro p e s m below meth c T C X
  change Cx p s m meth c Z "java/lang/Record" jdk_30_method_1_code 1 none "<init>" at C
  refine g_aloadN C X d2_0 (q := 1) rfl rfl rfl ?_
  refine g_initO C X (w12 hw) (w13 hw) (w14 hw) rfl d2_1 (q := 4) rfl (by decide) (by decide) ?_
  intro T1 X2
  exact g_retV C X2 d2_4 (by decide) (by decide) ⟨rfl, rfl⟩
set_option maxRecDepth 65536 in
set_option maxHeartbeats 40000000 in
theorem rm_rri0 {l : Launch} {Z : State} {a0 : Array Value} (hw : ∀ d ∈ tables_1, d.before a0 Z = true) {o0 : Addr} {rL pL : Int64} {cz : Int32} {fm : Value} {dO : Addr} {kO : ClassId} {dT : Addr} {kT : ClassId} {h0 : Heap} {n0 : Nat} (O : Old Z n0 h0) (W : Wd Z cz fm dO kO dT kT) (E0 : Exa Z h0 o0 "com/example/large_table_updates/largetableupdates/RunResult") (Fr : Fld Z h0 o0 "com/example/large_table_updates/largetableupdates/RunResult" "rowsModifiedAtLeast" "J" (.long 0)) (Fp : Fld Z h0 o0 "com/example/large_table_updates/largetableupdates/RunResult" "partitions" "J" (.long 0)) (Fs : Fld Z h0 o0 "com/example/large_table_updates/largetableupdates/RunResult" "stoppedEarly" "Z" (.int 0)) (g0 : n0 ≤ o0) (hr0 : ¬ lcmpW rL 0 < 0) :
    Met0 l Z (⟨"com/example/large_table_updates/largetableupdates/RunResult", "<init>", "(JJZ)V"⟩ : MethodName) prog_19_method_1_code 6 none ({ frames := 2, cells := 0, slots := 0, locals := 24 } : Room) #[(.ref o0), (.long rL), (.long pL), (.int (0 : Int32))] h0 n0 (fun h => Keep h0 h [o0] ∧ RRf Z h o0 rL pL 0) := by
  refine met_of (L := #[.val (.ref o0), .val (.long rL), .second, .val (.long pL), .second, .val (.int (0 : Int32))]) (plainFor_of_name pn_1173) (fun m => by first | (simp [entryFrame, mkF, argsToLocals, Value.category]; done) | rfl) ?_
  intro p e s m below meth c T C X
  change Cx p s m meth c Z "com/example/large_table_updates/largetableupdates/RunResult" prog_19_method_1_code 6 none "<init>" at C
  refine g_aloadN C X d1_0 (q := 1) rfl rfl rfl ?_
  refine g_callI0 C X (y := (⟨"java/lang/Record", "<init>", "()V"⟩ : MethodName)) (a := o0) (by decide) rfl (w7 hw) (w8 hw) (w11 hw) (w10 hw) (rm_rec hw (o0 := o0) O W) (W := 0) (by decide) (by decide) (k' := 0) rfl (n' := 0) rfl (by decide) (by decide) rfl pd_1158 (argsL := []) rfl (rest := []) rfl rfl rfl d1_1 (q := 4) rfl ?_
  rintro T1 _ X2 rfl
  refine g_lloadN C X2 d1_4 (q := 5) rfl rfl ?_
  refine g_lconst C X2 d1_5 (q := 6) rfl (z := (0 : Int64)) rfl ?_
  refine g_lcmp C X2 d1_6 (q := 7) rfl (z := (lcmpW rL (0 : Int64))) rfl ?_
  refine g_ifY C X2 d1_7 (by decide) (q := 37) (by decide) (flt hr0).2.1 ?_
  refine g_aloadN C X2 d1_37 (q := 38) rfl rfl rfl ?_
  refine g_lloadN C X2 d1_38 (q := 39) rfl rfl ?_
  refine g_putF C X2 (host := "") (Or.inl (w15 hw)) Via.refl Fr E0 (Or.inr ⟨(w16 hw), rfl, rfl⟩) (w2 hw) (ty := .long) (by decide) rfl rfl d1_39 (q := 42) rfl g0 ?_
  intro T3 h5 X4 W6
  have FW6 := Fld.same W6 Fr
  have O7 := O.wr W6 g0
  refine g_aloadN C X4 d1_42 (q := 43) rfl rfl rfl ?_
  refine g_lloadN C X4 d1_43 (q := 44) rfl rfl ?_
  have f8 := (Fp.other W6 (Or.inr (slot_ne (Or.inr (w18 hw)) (Or.inr (w16 hw)) (by decide) (t := .long) (t' := .long) (by decide) (by decide))))
  have f9 := (E0.wr W6)
  refine g_putF C X4 (host := "") (Or.inl (w17 hw)) Via.refl f8 f9 (Or.inr ⟨(w18 hw), rfl, rfl⟩) (w2 hw) (ty := .long) (by decide) rfl rfl d1_44 (q := 47) rfl g0 ?_
  intro T10 h12 X11 W13
  have FW13 := Fld.same W13 f8
  have O14 := O7.wr W13 g0
  refine g_aloadN C X11 d1_47 (q := 48) rfl rfl rfl ?_
  refine g_iload C X11 d1_48 (q := 50) rfl rfl ?_
  have f15 := ((Fs.other W6 (Or.inr (slot_ne (Or.inr (w20 hw)) (Or.inr (w16 hw)) (by decide) (t := .boolean) (t' := .long) (by decide) (by decide)))).other W13 (Or.inr (slot_ne (Or.inr (w20 hw)) (Or.inr (w18 hw)) (by decide) (t := .boolean) (t' := .long) (by decide) (by decide))))
  have f16 := (f9.wr W13)
  refine g_putF C X11 (host := "") (Or.inl (w19 hw)) Via.refl f15 f16 (Or.inr ⟨(w20 hw), rfl, rfl⟩) (w2 hw) (ty := .boolean) (by decide) rfl rfl d1_50 (q := 53) rfl g0 ?_
  intro T17 h19 X18 W20
  have FW20 := Fld.same W20 f15
  have O21 := O14.wr W20 g0
  exact g_retV C X18 d1_53 (by decide) (by decide) ⟨rfl, ((((Keep.refl h0 [o0]).wr W6 (Or.inl (List.mem_of_getElem? (i := 0) rfl))).wr W13 (Or.inl (List.mem_of_getElem? (i := 0) rfl))).wr W20 (Or.inl (List.mem_of_getElem? (i := 0) rfl))), (f16.wr W20), ((FW6.other W13 (Or.inr (slot_ne (Or.inr (w16 hw)) (Or.inr (w18 hw)) (by decide) (t := .long) (t' := .long) (by decide) (by decide)))).other W20 (Or.inr (slot_ne (Or.inr (w16 hw)) (Or.inr (w20 hw)) (by decide) (t := .long) (t' := .boolean) (by decide) (by decide)))), (FW13.other W20 (Or.inr (slot_ne (Or.inr (w18 hw)) (Or.inr (w20 hw)) (by decide) (t := .long) (t' := .boolean) (by decide) (by decide)))), FW20⟩
set_option maxRecDepth 65536 in
set_option maxHeartbeats 40000000 in
theorem rm_rri1 {l : Launch} {Z : State} {a0 : Array Value} (hw : ∀ d ∈ tables_1, d.before a0 Z = true) {o0 : Addr} {rL pL : Int64} {cz : Int32} {fm : Value} {dO : Addr} {kO : ClassId} {dT : Addr} {kT : ClassId} {h0 : Heap} {n0 : Nat} (O : Old Z n0 h0) (W : Wd Z cz fm dO kO dT kT) (E0 : Exa Z h0 o0 "com/example/large_table_updates/largetableupdates/RunResult") (Fr : Fld Z h0 o0 "com/example/large_table_updates/largetableupdates/RunResult" "rowsModifiedAtLeast" "J" (.long 0)) (Fp : Fld Z h0 o0 "com/example/large_table_updates/largetableupdates/RunResult" "partitions" "J" (.long 0)) (Fs : Fld Z h0 o0 "com/example/large_table_updates/largetableupdates/RunResult" "stoppedEarly" "Z" (.int 0)) (g0 : n0 ≤ o0) (hr0 : ¬ lcmpW rL 0 < 0) :
    Met0 l Z (⟨"com/example/large_table_updates/largetableupdates/RunResult", "<init>", "(JJZ)V"⟩ : MethodName) prog_19_method_1_code 6 none ({ frames := 2, cells := 0, slots := 0, locals := 24 } : Room) #[(.ref o0), (.long rL), (.long pL), (.int (1 : Int32))] h0 n0 (fun h => Keep h0 h [o0] ∧ RRf Z h o0 rL pL 1) := by
  refine met_of (L := #[.val (.ref o0), .val (.long rL), .second, .val (.long pL), .second, .val (.int (1 : Int32))]) (plainFor_of_name pn_1173) (fun m => by first | (simp [entryFrame, mkF, argsToLocals, Value.category]; done) | rfl) ?_
  intro p e s m below meth c T C X
  change Cx p s m meth c Z "com/example/large_table_updates/largetableupdates/RunResult" prog_19_method_1_code 6 none "<init>" at C
  refine g_aloadN C X d1_0 (q := 1) rfl rfl rfl ?_
  refine g_callI0 C X (y := (⟨"java/lang/Record", "<init>", "()V"⟩ : MethodName)) (a := o0) (by decide) rfl (w7 hw) (w8 hw) (w11 hw) (w10 hw) (rm_rec hw (o0 := o0) O W) (W := 0) (by decide) (by decide) (k' := 0) rfl (n' := 0) rfl (by decide) (by decide) rfl pd_1158 (argsL := []) rfl (rest := []) rfl rfl rfl d1_1 (q := 4) rfl ?_
  rintro T1 _ X2 rfl
  refine g_lloadN C X2 d1_4 (q := 5) rfl rfl ?_
  refine g_lconst C X2 d1_5 (q := 6) rfl (z := (0 : Int64)) rfl ?_
  refine g_lcmp C X2 d1_6 (q := 7) rfl (z := (lcmpW rL (0 : Int64))) rfl ?_
  refine g_ifY C X2 d1_7 (by decide) (q := 37) (by decide) (flt hr0).2.1 ?_
  refine g_aloadN C X2 d1_37 (q := 38) rfl rfl rfl ?_
  refine g_lloadN C X2 d1_38 (q := 39) rfl rfl ?_
  refine g_putF C X2 (host := "") (Or.inl (w15 hw)) Via.refl Fr E0 (Or.inr ⟨(w16 hw), rfl, rfl⟩) (w2 hw) (ty := .long) (by decide) rfl rfl d1_39 (q := 42) rfl g0 ?_
  intro T3 h5 X4 W6
  have FW6 := Fld.same W6 Fr
  have O7 := O.wr W6 g0
  refine g_aloadN C X4 d1_42 (q := 43) rfl rfl rfl ?_
  refine g_lloadN C X4 d1_43 (q := 44) rfl rfl ?_
  have f8 := (Fp.other W6 (Or.inr (slot_ne (Or.inr (w18 hw)) (Or.inr (w16 hw)) (by decide) (t := .long) (t' := .long) (by decide) (by decide))))
  have f9 := (E0.wr W6)
  refine g_putF C X4 (host := "") (Or.inl (w17 hw)) Via.refl f8 f9 (Or.inr ⟨(w18 hw), rfl, rfl⟩) (w2 hw) (ty := .long) (by decide) rfl rfl d1_44 (q := 47) rfl g0 ?_
  intro T10 h12 X11 W13
  have FW13 := Fld.same W13 f8
  have O14 := O7.wr W13 g0
  refine g_aloadN C X11 d1_47 (q := 48) rfl rfl rfl ?_
  refine g_iload C X11 d1_48 (q := 50) rfl rfl ?_
  have f15 := ((Fs.other W6 (Or.inr (slot_ne (Or.inr (w20 hw)) (Or.inr (w16 hw)) (by decide) (t := .boolean) (t' := .long) (by decide) (by decide)))).other W13 (Or.inr (slot_ne (Or.inr (w20 hw)) (Or.inr (w18 hw)) (by decide) (t := .boolean) (t' := .long) (by decide) (by decide))))
  have f16 := (f9.wr W13)
  refine g_putF C X11 (host := "") (Or.inl (w19 hw)) Via.refl f15 f16 (Or.inr ⟨(w20 hw), rfl, rfl⟩) (w2 hw) (ty := .boolean) (by decide) rfl rfl d1_50 (q := 53) rfl g0 ?_
  intro T17 h19 X18 W20
  have FW20 := Fld.same W20 f15
  have O21 := O14.wr W20 g0
  exact g_retV C X18 d1_53 (by decide) (by decide) ⟨rfl, ((((Keep.refl h0 [o0]).wr W6 (Or.inl (List.mem_of_getElem? (i := 0) rfl))).wr W13 (Or.inl (List.mem_of_getElem? (i := 0) rfl))).wr W20 (Or.inl (List.mem_of_getElem? (i := 0) rfl))), (f16.wr W20), ((FW6.other W13 (Or.inr (slot_ne (Or.inr (w16 hw)) (Or.inr (w18 hw)) (by decide) (t := .long) (t' := .long) (by decide) (by decide)))).other W20 (Or.inr (slot_ne (Or.inr (w16 hw)) (Or.inr (w20 hw)) (by decide) (t := .long) (t' := .boolean) (by decide) (by decide)))), (FW13.other W20 (Or.inr (slot_ne (Or.inr (w18 hw)) (Or.inr (w20 hw)) (by decide) (t := .long) (t' := .boolean) (by decide) (by decide)))), FW20⟩
set_option maxRecDepth 65536 in
set_option maxHeartbeats 40000000 in
theorem rm_sum0 {l : Launch} {Z : State} {a0 : Array Value} (hw : ∀ d ∈ tables_1, d.before a0 Z = true) {o0 : Addr} {rL pL : Int64} {x1 s1 x2 s2 : Nat} {cz : Int32} {fm : Value} {dO : Addr} {kO : ClassId} {dT : Addr} {kT : ClassId} {h0 : Heap} {n0 : Nat} (O : Old Z n0 h0) (W : Wd Z cz fm dO kO dT kT) (R0 : RRf Z h0 o0 rL pL 0) (hv1 : NV rL x1 s1) (hv2 : NV pL x2 s2) :
    MetW1 l Z consts_1 (⟨"com/example/large_table_updates/largetableupdates/RunResult", "summary", "()Ljava/lang/String;"⟩ : MethodName) prog_19_method_2_code 2 (some (.object "java/lang/String")) ({ frames := 6, cells := 18, slots := 3712, locals := 92 } : Room) #[(.ref o0)] h0 n0 (fun v h => ∃ xs tb kb, Keep h0 h [] ∧ v = .ref xs ∧ Sx Z h xs tb kb (SM x1 s1 x2 s2 LD)) := by
  refine metW_of (L := #[.val (.ref o0), .unset]) (plainFor_of_name pn_1173) (fun m => by first | (simp [entryFrame, mkF, argsToLocals, Value.category]; done) | rfl) ?_
  intro p e s m below meth c T vm C X Y
  change Cx p (s.setVm vm) m meth c Z "com/example/large_table_updates/largetableupdates/RunResult" prog_19_method_2_code 2 (some (.object "java/lang/String")) "summary" at C
  have el0 : List.length LH = 18 := rfl
  have el1 : List.length LM = 11 := rfl
  have el2 : List.length LT = 13 := rfl
  have el3 : List.length LB = 17 := rfl
  have el4 : List.length LD = 1 := rfl
  have eb1 : List.length (NB x1 s1) ≤ 20 := by have := NB_len x1 s1; have := DG_19 hv1.1; have := hv1.sg; omega
  have eb2 : List.length (NB x2 s2) ≤ 20 := by have := NB_len x2 s2; have := DG_19 hv2.1; have := hv2.sg; omega
  refine g_aloadN C X d4_0 (q := 1) rfl rfl rfl ?_
  refine g_getF C X (host := "") (Or.inl (w19 hw)) Via.refl R0.2.2.2 d4_1 (q := 4) rfl ?_
  intro T1 X2
  refine g_ifY C X2 d4_4 (by decide) (q := 13) (by decide) (by decide) ?_
  refine gW_ldcC C X2 Y (own_EL hw) (vs := [(.int (46 : Int32))]) (z := 1) (w26 hw) (own_SA hw) (List.mem_of_getElem? (i := 1) rfl) ⟨by decide, by decide +kernel⟩ (by decide) rfl d4_13 (q := 15) rfl (nn := 4) (by decide) (by decide) (k' := 2) rfl (n' := 8) rfl (by decide) (by decide) ?_
  intro b3 b11 kA12 T4 h5 vm6 C X7 Y8 E9 R10 f13 f14 f15 f16 sf17
  have O18 := O.ext E9
  have F19 : Str Z h5 b3 [(46 : Int32)] := ⟨b11, kA12, f13, f15, f14, f16, by decide, by decide⟩
  refine g_astoreN C X7 d4_15 (q := 16) rfl rfl (L' := #[.val (.ref o0), .val (.ref b3)]) rfl ?_
  refine g_new C X7 (w34 hw) (w35 hw) (w36 hw) d4_16 (q := 19) rfl (k' := 3) rfl (n' := 12) rfl (by decide) (by decide) ?_
  intro T21 h22 b20 g24 X23 E25 A26 D27
  have ge28 : n0 ≤ b20 := own_ge O18 g24
  have sf29 := Wx.safe0 Y8 (Nat.le_of_eq g24.symm)
  have Y30 := Wx.ext Y8 E25
  have O31 := O18.ext E25
  have f32 : Fld Z h22 b20 "java/lang/AbstractStringBuilder" "value" "[B" .null := D27 (Or.inl (w49 hw)) (ty := (.array .byte)) (by decide)
  have f33 : Fld Z h22 b20 "java/lang/AbstractStringBuilder" "coder" "B" (.int (0 : Int32)) := D27 (Or.inl (w51 hw)) (ty := .byte) (by decide)
  have f34 : Fld Z h22 b20 "java/lang/AbstractStringBuilder" "count" "I" (.int (0 : Int32)) := D27 (Or.inl (w77 hw)) (ty := .int) (by decide)
  refine g_dup C X23 d4_19 (q := 20) rfl rfl ?_
  refine g_callI0 C X23 (y := (⟨"java/lang/StringBuilder", "<init>", "()V"⟩ : MethodName)) (a := b20) (by decide) rfl (w37 hw) (w38 hw) (w39 hw) (w36 hw) (rm_sbI hw (b0 := b20) O31 W A26 f32 f33 f34 ge28) (W := 1) (by decide) (by decide) (k' := 4) rfl (n' := 28) rfl (by decide) (by decide) rfl pd_1158 (argsL := []) rfl (rest := [(.ref b20)]) rfl rfl rfl d4_20 (q := 23) rfl ?_
  rintro T35 h36 X37 ⟨K38, v39, k40, sz41, nv42, R43, BA44⟩
  have ge45 := Nat.le_trans (own_szO O31) sz41
  have sf46 := Wx.safe0 Y30 sz41
  have sz47 : h0.size ≤ v39 := Nat.le_trans (Nat.le_trans E9.1 E25.1) sz41
  have f48 := (Wx.safeE Y8 sf29 E25)
  have Y49 := Wx.keep Y30 K38 (sfS f48 sf0)
  have O50 := O31.keep K38 (allS ge28 all0)
  refine gW_ldcC C X37 Y49 (own_EL hw) (vs := [(.int (77 : Int32)), (.int (111 : Int32)), (.int (100 : Int32)), (.int (105 : Int32)), (.int (102 : Int32)), (.int (105 : Int32)), (.int (101 : Int32)), (.int (100 : Int32)), (.int (32 : Int32)), (.int (97 : Int32)), (.int (116 : Int32)), (.int (32 : Int32)), (.int (108 : Int32)), (.int (101 : Int32)), (.int (97 : Int32)), (.int (115 : Int32)), (.int (116 : Int32)), (.int (32 : Int32))]) (z := 18) (w52 hw) (own_SA hw) (List.mem_of_getElem? (i := 2) rfl) ⟨by decide, by decide +kernel⟩ (by decide) rfl d4_23 (q := 25) rfl (nn := 72) (by decide) (by decide) (k' := 6) rfl (n' := 104) rfl (by decide) (by decide) ?_
  intro b51 b59 kA60 T52 h53 vm54 C X55 Y56 E57 R58 f61 f62 f63 f64 sf65
  have O66 := O50.ext E57
  have F67 : Str Z h53 b51 [(77 : Int32), (111 : Int32), (100 : Int32), (105 : Int32), (102 : Int32), (105 : Int32), (101 : Int32), (100 : Int32), (32 : Int32), (97 : Int32), (116 : Int32), (32 : Int32), (108 : Int32), (101 : Int32), (97 : Int32), (115 : Int32), (116 : Int32), (32 : Int32)] := ⟨b59, kA60, f61, f63, f62, f64, by decide, by decide⟩
  have f68 := ((((R0.1.ext E9).ext E25).keep K38).ext E57)
  have f69 := (((f13.ext E25).keep K38).ext E57)
  have f70 := (((f16.ext E25).keep K38 (ninS (own_ne f16.lt g24) nin0)).ext E57)
  have f71 := (CHr.safe R58 BA44.2.lt (Wx.safeK Y30 sf46 K38 (sfS f48 sf0)))
  have f72 := (R43.1.ext E57)
  have f73 := (R43.2.1.ext E57)
  have f74 := (R43.2.2.1.ext E57)
  have f75 := (R43.2.2.2.ext E57)
  have f76 := (BA44.1.ext E57)
  have f77 := (BA44.2.ext E57)
  refine g_callV1 C X55 (y := (⟨"java/lang/StringBuilder", "append", "(Ljava/lang/String;)Ljava/lang/StringBuilder;"⟩ : MethodName)) (z := (⟨"java/lang/StringBuilder", "append", "(Ljava/lang/String;)Ljava/lang/StringBuilder;"⟩ : MethodName)) (a := b20) (by decide) (w53 hw) (w54 hw) (w56 hw) (w55 hw) (nf_sel (w56 hw)) f72 (w57 hw) (w36 hw) (rm_sbS hw (b0 := b20) (v0 := v39) (kv := k40) (cs := (List.replicate 16 (0 : Int32))) (nC := 0) O66 W ⟨f72, f73, f74, f75⟩ ⟨f76, f77⟩ (by decide) (Nat.zero_le _) nv42 ge28 ge45 (x0 := b51) (tb := b59) (kb := kA60) (ls := LH) ⟨f61, f63, f62, f64⟩ (by decide) (by omega) (Ne.symm (sf65 _ (CHr.safe R58 BA44.2.lt (Wx.safeK Y30 sf46 K38 (sfS f48 sf0)))).2) (Ne.symm (sf65 _ (CHr.safe R58 BA44.2.lt (Wx.safeK Y30 sf46 K38 (sfS f48 sf0)))).1) (Ne.symm (sf65 _ (CHr.safe R58 (Nat.lt_of_lt_of_le A26.lt K38.1) (Wx.safeK Y30 f48 K38 (sfS f48 sf0)))).2) (Ne.symm (sf65 _ (CHr.safe R58 (Nat.lt_of_lt_of_le A26.lt K38.1) (Wx.safeK Y30 f48 K38 (sfS f48 sf0)))).1)) (W := 0) (by decide) (by decide) (k' := 7) rfl (n' := 604) rfl (by decide) (by decide) rfl pd_1184 (argsL := [(.ref b51)]) rfl (rest := []) rfl rfl rfl d4_25 (q := 28) rfl ?_
  rintro _ T78 h79 X80 ⟨rfl, K81, v82, k83, cs84, q85, nv86, R87, BA88, h589, hm90, tk91⟩
  obtain ⟨n95, en96⟩ : ∃ z, 0 + List.length LH = z := ⟨_, rfl⟩
  rw [en96] at R87 hm90 tk91
  have ge92 := own_geA O66 ge45 q85
  have sf93 := own_sfA Y56 f71 q85
  have sz94 := own_szA sz47 (Nat.le_trans (Nat.le_trans (Nat.le_trans E9.1 E25.1) K38.1) E57.1) q85
  have ne97 := own_neA (Nat.ne_of_lt (Nat.lt_of_lt_of_le (Nat.lt_of_lt_of_le R0.1.lt (Nat.le_trans E9.1 E25.1)) sz41)) f68.lt q85
  have ne98 := own_neA (Nat.ne_of_lt (Nat.lt_of_lt_of_le (Nat.lt_of_lt_of_le f13.lt E25.1) sz41)) f69.lt q85
  have ne99 := own_neA (Nat.ne_of_lt (Nat.lt_of_lt_of_le (Nat.lt_of_lt_of_le f16.lt E25.1) sz41)) f70.lt q85
  have f100 := (CHr.safe R58 (Nat.lt_of_lt_of_le A26.lt K38.1) (Wx.safeK Y30 f48 K38 (sfS f48 sf0)))
  have Y101 := Wx.keep Y56 K81 (sfS f100 (sfS f71 sf0))
  have O102 := O66.keep K81 (allS ge28 (allS ge45 all0))
  have tk103 : cs84.take n95 = LH := tk91
  refine g_aloadN C X80 d4_28 (q := 29) rfl rfl rfl ?_
  have f104 := (((((R0.2.1.ext E9).ext E25).keep K38 (ninS (own_ne (Nat.lt_of_lt_of_le R0.1.lt E9.1) g24) nin0)).ext E57).keep K81 (ninS (own_ne (Nat.lt_of_lt_of_le R0.1.lt E9.1) g24) (ninS (Nat.ne_of_lt (Nat.lt_of_lt_of_le (Nat.lt_of_lt_of_le R0.1.lt (Nat.le_trans E9.1 E25.1)) sz41)) nin0)))
  refine g_getF C X80 (host := "") (Or.inl (w15 hw)) Via.refl f104 d4_29 (q := 32) rfl ?_
  intro T105 X106
  have f107 := (f68.keep K81)
  have f108 := (f69.keep K81)
  have f109 := (f70.keep K81 (ninS (own_ne f16.lt g24) (ninS (Nat.ne_of_lt (Nat.lt_of_lt_of_le (Nat.lt_of_lt_of_le f16.lt E25.1) sz41)) nin0)))
  have f110 := (Wx.safeK Y56 sf93 K81 (sfS f100 (sfS f71 sf0)))
  refine g_callV1 C X106 (y := (⟨"java/lang/StringBuilder", "append", "(J)Ljava/lang/StringBuilder;"⟩ : MethodName)) (z := (⟨"java/lang/StringBuilder", "append", "(J)Ljava/lang/StringBuilder;"⟩ : MethodName)) (a := b20) (by decide) (w126 hw) (w127 hw) (w129 hw) (w128 hw) (nf_sel (w129 hw)) R87.1 (w130 hw) (w36 hw) (rm_sbJ hw (b0 := b20) (v0 := v82) (kv := k83) (cs := cs84) (nC := n95) O102 W ⟨R87.1, R87.2.1, R87.2.2.1, R87.2.2.2⟩ ⟨BA88.1, BA88.2⟩ h589 hm90 nv86 ge28 ge92 hv1 (by omega)) (W := 0) (by decide) (by decide) (k' := 8) rfl (n' := 1104) rfl (by decide) (by decide) rfl pd_1188 (argsL := [(.long rL)]) rfl (rest := []) rfl rfl rfl d4_32 (q := 35) rfl ?_
  rintro _ T111 h112 X113 ⟨rfl, K114, v115, k116, cs117, q118, nv119, R120, BA121, h5122, hm123, tk124⟩
  obtain ⟨n128, en129⟩ : ∃ z, n95 + List.length (NB x1 s1) = z := ⟨_, rfl⟩
  rw [en129] at R120 hm123 tk124
  have ge125 := own_geA O102 ge92 q118
  have sf126 := own_sfA Y101 f110 q118
  have sz127 := own_szA sz94 (Nat.le_trans (Nat.le_trans (Nat.le_trans (Nat.le_trans E9.1 E25.1) K38.1) E57.1) K81.1) q118
  have ne130 := own_neA ne97 f107.lt q118
  have ne131 := own_neA ne98 f108.lt q118
  have ne132 := own_neA ne99 f109.lt q118
  have f133 := (Wx.safeK Y56 f100 K81 (sfS f100 (sfS f71 sf0)))
  have Y134 := Wx.keep Y101 K114 (sfS f133 (sfS f110 sf0))
  have O135 := O102.keep K114 (allS ge28 (allS ge92 all0))
  have tk136 : cs117.take n128 = (LH ++ (NB x1 s1)) := tk124.trans (by rw [tk103])
  refine gW_ldcC C X113 Y134 (own_EL hw) (vs := [(.int (32 : Int32)), (.int (114 : Int32)), (.int (111 : Int32)), (.int (119 : Int32)), (.int (40 : Int32)), (.int (115 : Int32)), (.int (41 : Int32)), (.int (32 : Int32)), (.int (105 : Int32)), (.int (110 : Int32)), (.int (32 : Int32))]) (z := 11) (w151 hw) (own_SA hw) (List.mem_of_getElem? (i := 3) rfl) ⟨by decide, by decide +kernel⟩ (by decide) rfl d4_35 (q := 37) rfl (nn := 44) (by decide) (by decide) (k' := 10) rfl (n' := 1152) rfl (by decide) (by decide) ?_
  intro b137 b145 kA146 T138 h139 vm140 C X141 Y142 E143 R144 f147 f148 f149 f150 sf151
  have O152 := O135.ext E143
  have F153 : Str Z h139 b137 [(32 : Int32), (114 : Int32), (111 : Int32), (119 : Int32), (40 : Int32), (115 : Int32), (41 : Int32), (32 : Int32), (105 : Int32), (110 : Int32), (32 : Int32)] := ⟨b145, kA146, f147, f149, f148, f150, by decide, by decide⟩
  have f154 := ((f107.keep K114).ext E143)
  have f155 := ((f108.keep K114).ext E143)
  have f156 := ((f109.keep K114 (ninS (own_ne f16.lt g24) (ninS ne99 nin0))).ext E143)
  have f157 := (CHr.safe R144 BA121.2.lt (Wx.safeK Y101 sf126 K114 (sfS f133 (sfS f110 sf0))))
  have f158 := (R120.1.ext E143)
  have f159 := (R120.2.1.ext E143)
  have f160 := (R120.2.2.1.ext E143)
  have f161 := (R120.2.2.2.ext E143)
  have f162 := (BA121.1.ext E143)
  have f163 := (BA121.2.ext E143)
  refine g_callV1 C X141 (y := (⟨"java/lang/StringBuilder", "append", "(Ljava/lang/String;)Ljava/lang/StringBuilder;"⟩ : MethodName)) (z := (⟨"java/lang/StringBuilder", "append", "(Ljava/lang/String;)Ljava/lang/StringBuilder;"⟩ : MethodName)) (a := b20) (by decide) (w53 hw) (w54 hw) (w56 hw) (w55 hw) (nf_sel (w56 hw)) f158 (w57 hw) (w36 hw) (rm_sbS hw (b0 := b20) (v0 := v115) (kv := k116) (cs := cs117) (nC := n128) O152 W ⟨f158, f159, f160, f161⟩ ⟨f162, f163⟩ h5122 hm123 nv119 ge28 ge125 (x0 := b137) (tb := b145) (kb := kA146) (ls := LM) ⟨f147, f149, f148, f150⟩ (by decide) (by omega) (Ne.symm (sf151 _ (CHr.safe R144 BA121.2.lt (Wx.safeK Y101 sf126 K114 (sfS f133 (sfS f110 sf0))))).2) (Ne.symm (sf151 _ (CHr.safe R144 BA121.2.lt (Wx.safeK Y101 sf126 K114 (sfS f133 (sfS f110 sf0))))).1) (Ne.symm (sf151 _ (CHr.safe R144 (Nat.lt_of_lt_of_le A26.lt (Nat.le_trans (Nat.le_trans (Nat.le_trans K38.1 E57.1) K81.1) K114.1)) (Wx.safeK Y101 f133 K114 (sfS f133 (sfS f110 sf0))))).2) (Ne.symm (sf151 _ (CHr.safe R144 (Nat.lt_of_lt_of_le A26.lt (Nat.le_trans (Nat.le_trans (Nat.le_trans K38.1 E57.1) K81.1) K114.1)) (Wx.safeK Y101 f133 K114 (sfS f133 (sfS f110 sf0))))).1)) (W := 0) (by decide) (by decide) (k' := 11) rfl (n' := 1652) rfl (by decide) (by decide) rfl pd_1184 (argsL := [(.ref b137)]) rfl (rest := []) rfl rfl rfl d4_37 (q := 40) rfl ?_
  rintro _ T164 h165 X166 ⟨rfl, K167, v168, k169, cs170, q171, nv172, R173, BA174, h5175, hm176, tk177⟩
  obtain ⟨n181, en182⟩ : ∃ z, n128 + List.length LM = z := ⟨_, rfl⟩
  rw [en182] at R173 hm176 tk177
  have ge178 := own_geA O152 ge125 q171
  have sf179 := own_sfA Y142 f157 q171
  have sz180 := own_szA sz127 (Nat.le_trans (Nat.le_trans (Nat.le_trans (Nat.le_trans (Nat.le_trans (Nat.le_trans E9.1 E25.1) K38.1) E57.1) K81.1) K114.1) E143.1) q171
  have ne183 := own_neA ne130 f154.lt q171
  have ne184 := own_neA ne131 f155.lt q171
  have ne185 := own_neA ne132 f156.lt q171
  have f186 := (CHr.safe R144 (Nat.lt_of_lt_of_le A26.lt (Nat.le_trans (Nat.le_trans (Nat.le_trans K38.1 E57.1) K81.1) K114.1)) (Wx.safeK Y101 f133 K114 (sfS f133 (sfS f110 sf0))))
  have Y187 := Wx.keep Y142 K167 (sfS f186 (sfS f157 sf0))
  have O188 := O152.keep K167 (allS ge28 (allS ge125 all0))
  have tk189 : cs170.take n181 = ((LH ++ (NB x1 s1)) ++ LM) := tk177.trans (by rw [tk136])
  refine g_aloadN C X166 d4_40 (q := 41) rfl rfl rfl ?_
  have f190 := ((((((((R0.2.2.1.ext E9).ext E25).keep K38 (ninS (own_ne (Nat.lt_of_lt_of_le R0.1.lt E9.1) g24) nin0)).ext E57).keep K81 (ninS (own_ne (Nat.lt_of_lt_of_le R0.1.lt E9.1) g24) (ninS (Nat.ne_of_lt (Nat.lt_of_lt_of_le (Nat.lt_of_lt_of_le R0.1.lt (Nat.le_trans E9.1 E25.1)) sz41)) nin0))).keep K114 (ninS (own_ne (Nat.lt_of_lt_of_le R0.1.lt E9.1) g24) (ninS ne97 nin0))).ext E143).keep K167 (ninS (own_ne (Nat.lt_of_lt_of_le R0.1.lt E9.1) g24) (ninS ne130 nin0)))
  refine g_getF C X166 (host := "") (Or.inl (w17 hw)) Via.refl f190 d4_41 (q := 44) rfl ?_
  intro T191 X192
  have f193 := (f154.keep K167)
  have f194 := (f155.keep K167)
  have f195 := (f156.keep K167 (ninS (own_ne f16.lt g24) (ninS ne132 nin0)))
  have f196 := (Wx.safeK Y142 sf179 K167 (sfS f186 (sfS f157 sf0)))
  refine g_callV1 C X192 (y := (⟨"java/lang/StringBuilder", "append", "(J)Ljava/lang/StringBuilder;"⟩ : MethodName)) (z := (⟨"java/lang/StringBuilder", "append", "(J)Ljava/lang/StringBuilder;"⟩ : MethodName)) (a := b20) (by decide) (w126 hw) (w127 hw) (w129 hw) (w128 hw) (nf_sel (w129 hw)) R173.1 (w130 hw) (w36 hw) (rm_sbJ hw (b0 := b20) (v0 := v168) (kv := k169) (cs := cs170) (nC := n181) O188 W ⟨R173.1, R173.2.1, R173.2.2.1, R173.2.2.2⟩ ⟨BA174.1, BA174.2⟩ h5175 hm176 nv172 ge28 ge178 hv2 (by omega)) (W := 0) (by decide) (by decide) (k' := 12) rfl (n' := 2152) rfl (by decide) (by decide) rfl pd_1188 (argsL := [(.long pL)]) rfl (rest := []) rfl rfl rfl d4_44 (q := 47) rfl ?_
  rintro _ T197 h198 X199 ⟨rfl, K200, v201, k202, cs203, q204, nv205, R206, BA207, h5208, hm209, tk210⟩
  obtain ⟨n214, en215⟩ : ∃ z, n181 + List.length (NB x2 s2) = z := ⟨_, rfl⟩
  rw [en215] at R206 hm209 tk210
  have ge211 := own_geA O188 ge178 q204
  have sf212 := own_sfA Y187 f196 q204
  have sz213 := own_szA sz180 (Nat.le_trans (Nat.le_trans (Nat.le_trans (Nat.le_trans (Nat.le_trans (Nat.le_trans (Nat.le_trans E9.1 E25.1) K38.1) E57.1) K81.1) K114.1) E143.1) K167.1) q204
  have ne216 := own_neA ne183 f193.lt q204
  have ne217 := own_neA ne184 f194.lt q204
  have ne218 := own_neA ne185 f195.lt q204
  have f219 := (Wx.safeK Y142 f186 K167 (sfS f186 (sfS f157 sf0)))
  have Y220 := Wx.keep Y187 K200 (sfS f219 (sfS f196 sf0))
  have O221 := O188.keep K200 (allS ge28 (allS ge178 all0))
  have tk222 : cs203.take n214 = (((LH ++ (NB x1 s1)) ++ LM) ++ (NB x2 s2)) := tk210.trans (by rw [tk189])
  refine gW_ldcC C X199 Y220 (own_EL hw) (vs := [(.int (32 : Int32)), (.int (112 : Int32)), (.int (97 : Int32)), (.int (114 : Int32)), (.int (116 : Int32)), (.int (105 : Int32)), (.int (116 : Int32)), (.int (105 : Int32)), (.int (111 : Int32)), (.int (110 : Int32)), (.int (40 : Int32)), (.int (115 : Int32)), (.int (41 : Int32))]) (z := 13) (w152 hw) (own_SA hw) (List.mem_of_getElem? (i := 4) rfl) ⟨by decide, by decide +kernel⟩ (by decide) rfl d4_47 (q := 49) rfl (nn := 52) (by decide) (by decide) (k' := 14) rfl (n' := 2208) rfl (by decide) (by decide) ?_
  intro b223 b231 kA232 T224 h225 vm226 C X227 Y228 E229 R230 f233 f234 f235 f236 sf237
  have O238 := O221.ext E229
  have F239 : Str Z h225 b223 [(32 : Int32), (112 : Int32), (97 : Int32), (114 : Int32), (116 : Int32), (105 : Int32), (116 : Int32), (105 : Int32), (111 : Int32), (110 : Int32), (40 : Int32), (115 : Int32), (41 : Int32)] := ⟨b231, kA232, f233, f235, f234, f236, by decide, by decide⟩
  have f240 := ((f193.keep K200).ext E229)
  have f241 := ((f194.keep K200).ext E229)
  have f242 := ((f195.keep K200 (ninS (own_ne f16.lt g24) (ninS ne185 nin0))).ext E229)
  have f243 := (CHr.safe R230 BA207.2.lt (Wx.safeK Y187 sf212 K200 (sfS f219 (sfS f196 sf0))))
  have f244 := (R206.1.ext E229)
  have f245 := (R206.2.1.ext E229)
  have f246 := (R206.2.2.1.ext E229)
  have f247 := (R206.2.2.2.ext E229)
  have f248 := (BA207.1.ext E229)
  have f249 := (BA207.2.ext E229)
  refine g_callV1 C X227 (y := (⟨"java/lang/StringBuilder", "append", "(Ljava/lang/String;)Ljava/lang/StringBuilder;"⟩ : MethodName)) (z := (⟨"java/lang/StringBuilder", "append", "(Ljava/lang/String;)Ljava/lang/StringBuilder;"⟩ : MethodName)) (a := b20) (by decide) (w53 hw) (w54 hw) (w56 hw) (w55 hw) (nf_sel (w56 hw)) f244 (w57 hw) (w36 hw) (rm_sbS hw (b0 := b20) (v0 := v201) (kv := k202) (cs := cs203) (nC := n214) O238 W ⟨f244, f245, f246, f247⟩ ⟨f248, f249⟩ h5208 hm209 nv205 ge28 ge211 (x0 := b223) (tb := b231) (kb := kA232) (ls := LT) ⟨f233, f235, f234, f236⟩ (by decide) (by omega) (Ne.symm (sf237 _ (CHr.safe R230 BA207.2.lt (Wx.safeK Y187 sf212 K200 (sfS f219 (sfS f196 sf0))))).2) (Ne.symm (sf237 _ (CHr.safe R230 BA207.2.lt (Wx.safeK Y187 sf212 K200 (sfS f219 (sfS f196 sf0))))).1) (Ne.symm (sf237 _ (CHr.safe R230 (Nat.lt_of_lt_of_le A26.lt (Nat.le_trans (Nat.le_trans (Nat.le_trans (Nat.le_trans (Nat.le_trans (Nat.le_trans K38.1 E57.1) K81.1) K114.1) E143.1) K167.1) K200.1)) (Wx.safeK Y187 f219 K200 (sfS f219 (sfS f196 sf0))))).2) (Ne.symm (sf237 _ (CHr.safe R230 (Nat.lt_of_lt_of_le A26.lt (Nat.le_trans (Nat.le_trans (Nat.le_trans (Nat.le_trans (Nat.le_trans (Nat.le_trans K38.1 E57.1) K81.1) K114.1) E143.1) K167.1) K200.1)) (Wx.safeK Y187 f219 K200 (sfS f219 (sfS f196 sf0))))).1)) (W := 0) (by decide) (by decide) (k' := 15) rfl (n' := 2708) rfl (by decide) (by decide) rfl pd_1184 (argsL := [(.ref b223)]) rfl (rest := []) rfl rfl rfl d4_49 (q := 52) rfl ?_
  rintro _ T250 h251 X252 ⟨rfl, K253, v254, k255, cs256, q257, nv258, R259, BA260, h5261, hm262, tk263⟩
  obtain ⟨n267, en268⟩ : ∃ z, n214 + List.length LT = z := ⟨_, rfl⟩
  rw [en268] at R259 hm262 tk263
  have ge264 := own_geA O238 ge211 q257
  have sf265 := own_sfA Y228 f243 q257
  have sz266 := own_szA sz213 (Nat.le_trans (Nat.le_trans (Nat.le_trans (Nat.le_trans (Nat.le_trans (Nat.le_trans (Nat.le_trans (Nat.le_trans (Nat.le_trans E9.1 E25.1) K38.1) E57.1) K81.1) K114.1) E143.1) K167.1) K200.1) E229.1) q257
  have ne269 := own_neA ne216 f240.lt q257
  have ne270 := own_neA ne217 f241.lt q257
  have ne271 := own_neA ne218 f242.lt q257
  have f272 := (CHr.safe R230 (Nat.lt_of_lt_of_le A26.lt (Nat.le_trans (Nat.le_trans (Nat.le_trans (Nat.le_trans (Nat.le_trans (Nat.le_trans K38.1 E57.1) K81.1) K114.1) E143.1) K167.1) K200.1)) (Wx.safeK Y187 f219 K200 (sfS f219 (sfS f196 sf0))))
  have Y273 := Wx.keep Y228 K253 (sfS f272 (sfS f243 sf0))
  have O274 := O238.keep K253 (allS ge28 (allS ge211 all0))
  have tk275 : cs256.take n267 = ((((LH ++ (NB x1 s1)) ++ LM) ++ (NB x2 s2)) ++ LT) := tk263.trans (by rw [tk222])
  refine g_aloadN C X252 d4_52 (q := 53) rfl rfl rfl ?_
  have f276 := (f241.keep K253)
  have f277 := ((((((((((f15.ext E25).keep K38 (ninS (own_ne f13.lt g24) nin0)).ext E57).keep K81 (ninS (own_ne f13.lt g24) (ninS (Nat.ne_of_lt (Nat.lt_of_lt_of_le (Nat.lt_of_lt_of_le f13.lt E25.1) sz41)) nin0))).keep K114 (ninS (own_ne f13.lt g24) (ninS ne98 nin0))).ext E143).keep K167 (ninS (own_ne f13.lt g24) (ninS ne131 nin0))).keep K200 (ninS (own_ne f13.lt g24) (ninS ne184 nin0))).ext E229).keep K253 (ninS (own_ne f13.lt g24) (ninS ne217 nin0)))
  have f278 := ((((((((((f14.ext E25).keep K38 (ninS (own_ne f13.lt g24) nin0)).ext E57).keep K81 (ninS (own_ne f13.lt g24) (ninS (Nat.ne_of_lt (Nat.lt_of_lt_of_le (Nat.lt_of_lt_of_le f13.lt E25.1) sz41)) nin0))).keep K114 (ninS (own_ne f13.lt g24) (ninS ne98 nin0))).ext E143).keep K167 (ninS (own_ne f13.lt g24) (ninS ne131 nin0))).keep K200 (ninS (own_ne f13.lt g24) (ninS ne184 nin0))).ext E229).keep K253 (ninS (own_ne f13.lt g24) (ninS ne217 nin0)))
  have f279 := (f242.keep K253 (ninS (own_ne f16.lt g24) (ninS ne218 nin0)))
  have f280 := (f240.keep K253)
  have f281 := (Wx.safeK Y228 sf265 K253 (sfS f272 (sfS f243 sf0)))
  refine g_callV1 C X252 (y := (⟨"java/lang/StringBuilder", "append", "(Ljava/lang/String;)Ljava/lang/StringBuilder;"⟩ : MethodName)) (z := (⟨"java/lang/StringBuilder", "append", "(Ljava/lang/String;)Ljava/lang/StringBuilder;"⟩ : MethodName)) (a := b20) (by decide) (w53 hw) (w54 hw) (w56 hw) (w55 hw) (nf_sel (w56 hw)) R259.1 (w57 hw) (w36 hw) (rm_sbS hw (b0 := b20) (v0 := v254) (kv := k255) (cs := cs256) (nC := n267) O274 W ⟨R259.1, R259.2.1, R259.2.2.1, R259.2.2.2⟩ ⟨BA260.1, BA260.2⟩ h5261 hm262 nv258 ge28 ge264 (x0 := b3) (tb := b11) (kb := kA12) (ls := LD) ⟨f276, f277, f278, f279⟩ (by decide) (by omega) ne271 ne270 (own_ne f16.lt g24) (own_ne f13.lt g24)) (W := 0) (by decide) (by decide) (k' := 16) rfl (n' := 3208) rfl (by decide) (by decide) rfl pd_1184 (argsL := [(.ref b3)]) rfl (rest := []) rfl rfl rfl d4_53 (q := 56) rfl ?_
  rintro _ T282 h283 X284 ⟨rfl, K285, v286, k287, cs288, q289, nv290, R291, BA292, h5293, hm294, tk295⟩
  obtain ⟨n299, en300⟩ : ∃ z, n267 + List.length LD = z := ⟨_, rfl⟩
  rw [en300] at R291 hm294 tk295
  have ge296 := own_geA O274 ge264 q289
  have sf297 := own_sfA Y273 f281 q289
  have sz298 := own_szA sz266 (Nat.le_trans (Nat.le_trans (Nat.le_trans (Nat.le_trans (Nat.le_trans (Nat.le_trans (Nat.le_trans (Nat.le_trans (Nat.le_trans (Nat.le_trans E9.1 E25.1) K38.1) E57.1) K81.1) K114.1) E143.1) K167.1) K200.1) E229.1) K253.1) q289
  have ne301 := own_neA ne269 f280.lt q289
  have ne302 := own_neA ne270 f276.lt q289
  have ne303 := own_neA ne271 f279.lt q289
  have f304 := (Wx.safeK Y228 f272 K253 (sfS f272 (sfS f243 sf0)))
  have Y305 := Wx.keep Y273 K285 (sfS f304 (sfS f281 sf0))
  have O306 := O274.keep K285 (allS ge28 (allS ge264 all0))
  have tk307 : cs288.take n299 = (((((LH ++ (NB x1 s1)) ++ LM) ++ (NB x2 s2)) ++ LT) ++ LD) := tk295.trans (by rw [tk275])
  refine g_callV1 C X284 (y := (⟨"java/lang/StringBuilder", "toString", "()Ljava/lang/String;"⟩ : MethodName)) (z := (⟨"java/lang/StringBuilder", "toString", "()Ljava/lang/String;"⟩ : MethodName)) (a := b20) (by decide) (w153 hw) (w154 hw) (w156 hw) (w155 hw) (nf_sel (w156 hw)) R291.1 (w157 hw) (w36 hw) (rm_toS hw (b0 := b20) (v0 := v286) (kv := k287) (cs := cs288) (nC := n299) O306 W ⟨R291.1, R291.2.1, R291.2.2.1, R291.2.2.2⟩ ⟨BA292.1, BA292.2⟩ h5293 hm294 nv290 ge28 ge296) (W := 0) (by decide) (by decide) (k' := 18) rfl (n' := 3712) rfl (by decide) (by decide) rfl pd_1199 (argsL := []) rfl (rest := []) rfl rfl rfl d4_56 (q := 59) rfl ?_
  rintro _ T308 h309 X310 ⟨xs311, tb312, kb313, K314, rfl, sz315, S316⟩
  rw [tk307] at S316
  have Y317 := Wx.keep Y305 K314 sf0
  have O318 := O306.keep K314 all0
  exact gW_retA C X310 Y317 (own_EL hw) rfl rfl d4_59 (by decide) (by decide) ⟨_, rfl, xs311, tb312, kb313, ((((((((((((((Keep.refl h0 []).ext E9).ext E25).trans K38 (allS (Or.inr (own_sz ((Keep.refl h0 [v39, v82, v115, v168, v201, v254]).ext E9).1 g24)) all0)).ext E57).trans K81 (allS (Or.inr (own_sz ((Keep.refl h0 [v39, v82, v115, v168, v201, v254]).ext E9).1 g24)) (allS (Or.inr sz47) all0))).trans K114 (allS (Or.inr (own_sz ((Keep.refl h0 [v39, v82, v115, v168, v201, v254]).ext E9).1 g24)) (allS (Or.inr sz94) all0))).ext E143).trans K167 (allS (Or.inr (own_sz ((Keep.refl h0 [v39, v82, v115, v168, v201, v254]).ext E9).1 g24)) (allS (Or.inr sz127) all0))).trans K200 (allS (Or.inr (own_sz ((Keep.refl h0 [v39, v82, v115, v168, v201, v254]).ext E9).1 g24)) (allS (Or.inr sz180) all0))).ext E229).trans K253 (allS (Or.inr (own_sz ((Keep.refl h0 [v39, v82, v115, v168, v201, v254]).ext E9).1 g24)) (allS (Or.inr sz213) all0))).trans K285 (allS (Or.inr (own_sz ((Keep.refl h0 [v39, v82, v115, v168, v201, v254]).ext E9).1 g24)) (allS (Or.inr sz266) all0))).trans K314 all0), rfl, S316⟩
set_option maxRecDepth 65536 in
set_option maxHeartbeats 40000000 in
theorem rm_sum1 {l : Launch} {Z : State} {a0 : Array Value} (hw : ∀ d ∈ tables_1, d.before a0 Z = true) {o0 : Addr} {rL pL : Int64} {x1 s1 x2 s2 : Nat} {cz : Int32} {fm : Value} {dO : Addr} {kO : ClassId} {dT : Addr} {kT : ClassId} {h0 : Heap} {n0 : Nat} (O : Old Z n0 h0) (W : Wd Z cz fm dO kO dT kT) (R0 : RRf Z h0 o0 rL pL 1) (hv1 : NV rL x1 s1) (hv2 : NV pL x2 s2) :
    MetW1 l Z consts_1 (⟨"com/example/large_table_updates/largetableupdates/RunResult", "summary", "()Ljava/lang/String;"⟩ : MethodName) prog_19_method_2_code 2 (some (.object "java/lang/String")) ({ frames := 6, cells := 18, slots := 3776, locals := 92 } : Room) #[(.ref o0)] h0 n0 (fun v h => ∃ xs tb kb, Keep h0 h [] ∧ v = .ref xs ∧ Sx Z h xs tb kb (SM x1 s1 x2 s2 LB)) := by
  refine metW_of (L := #[.val (.ref o0), .unset]) (plainFor_of_name pn_1173) (fun m => by first | (simp [entryFrame, mkF, argsToLocals, Value.category]; done) | rfl) ?_
  intro p e s m below meth c T vm C X Y
  change Cx p (s.setVm vm) m meth c Z "com/example/large_table_updates/largetableupdates/RunResult" prog_19_method_2_code 2 (some (.object "java/lang/String")) "summary" at C
  have el0 : List.length LH = 18 := rfl
  have el1 : List.length LM = 11 := rfl
  have el2 : List.length LT = 13 := rfl
  have el3 : List.length LB = 17 := rfl
  have el4 : List.length LD = 1 := rfl
  have eb1 : List.length (NB x1 s1) ≤ 20 := by have := NB_len x1 s1; have := DG_19 hv1.1; have := hv1.sg; omega
  have eb2 : List.length (NB x2 s2) ≤ 20 := by have := NB_len x2 s2; have := DG_19 hv2.1; have := hv2.sg; omega
  refine g_aloadN C X d4_0 (q := 1) rfl rfl rfl ?_
  refine g_getF C X (host := "") (Or.inl (w19 hw)) Via.refl R0.2.2.2 d4_1 (q := 4) rfl ?_
  intro T1 X2
  refine g_ifN C X2 d4_4 (q := 7) rfl (by decide) ?_
  refine gW_ldcC C X2 Y (own_EL hw) (vs := [(.int (32 : Int32)), (.int (98 : Int32)), (.int (101 : Int32)), (.int (102 : Int32)), (.int (111 : Int32)), (.int (114 : Int32)), (.int (101 : Int32)), (.int (32 : Int32)), (.int (115 : Int32)), (.int (116 : Int32)), (.int (111 : Int32)), (.int (112 : Int32)), (.int (112 : Int32)), (.int (105 : Int32)), (.int (110 : Int32)), (.int (103 : Int32)), (.int (46 : Int32))]) (z := 17) (w255 hw) (own_SA hw) (List.mem_of_getElem? (i := 0) rfl) ⟨by decide, by decide +kernel⟩ (by decide) rfl d4_7 (q := 9) rfl (nn := 68) (by decide) (by decide) (k' := 2) rfl (n' := 72) rfl (by decide) (by decide) ?_
  intro b3 b11 kA12 T4 h5 vm6 C X7 Y8 E9 R10 f13 f14 f15 f16 sf17
  have O18 := O.ext E9
  have F19 : Str Z h5 b3 [(32 : Int32), (98 : Int32), (101 : Int32), (102 : Int32), (111 : Int32), (114 : Int32), (101 : Int32), (32 : Int32), (115 : Int32), (116 : Int32), (111 : Int32), (112 : Int32), (112 : Int32), (105 : Int32), (110 : Int32), (103 : Int32), (46 : Int32)] := ⟨b11, kA12, f13, f15, f14, f16, by decide, by decide⟩
  refine g_astoreN C X7 d4_9 (q := 10) rfl rfl (L' := #[.val (.ref o0), .val (.ref b3)]) rfl ?_
  refine g_goto C X7 d4_10 (by decide) (q := 16) (by decide) ?_
  refine g_new C X7 (w34 hw) (w35 hw) (w36 hw) d4_16 (q := 19) rfl (k' := 3) rfl (n' := 76) rfl (by decide) (by decide) ?_
  intro T21 h22 b20 g24 X23 E25 A26 D27
  have ge28 : n0 ≤ b20 := own_ge O18 g24
  have sf29 := Wx.safe0 Y8 (Nat.le_of_eq g24.symm)
  have Y30 := Wx.ext Y8 E25
  have O31 := O18.ext E25
  have f32 : Fld Z h22 b20 "java/lang/AbstractStringBuilder" "value" "[B" .null := D27 (Or.inl (w49 hw)) (ty := (.array .byte)) (by decide)
  have f33 : Fld Z h22 b20 "java/lang/AbstractStringBuilder" "coder" "B" (.int (0 : Int32)) := D27 (Or.inl (w51 hw)) (ty := .byte) (by decide)
  have f34 : Fld Z h22 b20 "java/lang/AbstractStringBuilder" "count" "I" (.int (0 : Int32)) := D27 (Or.inl (w77 hw)) (ty := .int) (by decide)
  refine g_dup C X23 d4_19 (q := 20) rfl rfl ?_
  refine g_callI0 C X23 (y := (⟨"java/lang/StringBuilder", "<init>", "()V"⟩ : MethodName)) (a := b20) (by decide) rfl (w37 hw) (w38 hw) (w39 hw) (w36 hw) (rm_sbI hw (b0 := b20) O31 W A26 f32 f33 f34 ge28) (W := 1) (by decide) (by decide) (k' := 4) rfl (n' := 92) rfl (by decide) (by decide) rfl pd_1158 (argsL := []) rfl (rest := [(.ref b20)]) rfl rfl rfl d4_20 (q := 23) rfl ?_
  rintro T35 h36 X37 ⟨K38, v39, k40, sz41, nv42, R43, BA44⟩
  have ge45 := Nat.le_trans (own_szO O31) sz41
  have sf46 := Wx.safe0 Y30 sz41
  have sz47 : h0.size ≤ v39 := Nat.le_trans (Nat.le_trans E9.1 E25.1) sz41
  have f48 := (Wx.safeE Y8 sf29 E25)
  have Y49 := Wx.keep Y30 K38 (sfS f48 sf0)
  have O50 := O31.keep K38 (allS ge28 all0)
  refine gW_ldcC C X37 Y49 (own_EL hw) (vs := [(.int (77 : Int32)), (.int (111 : Int32)), (.int (100 : Int32)), (.int (105 : Int32)), (.int (102 : Int32)), (.int (105 : Int32)), (.int (101 : Int32)), (.int (100 : Int32)), (.int (32 : Int32)), (.int (97 : Int32)), (.int (116 : Int32)), (.int (32 : Int32)), (.int (108 : Int32)), (.int (101 : Int32)), (.int (97 : Int32)), (.int (115 : Int32)), (.int (116 : Int32)), (.int (32 : Int32))]) (z := 18) (w52 hw) (own_SA hw) (List.mem_of_getElem? (i := 2) rfl) ⟨by decide, by decide +kernel⟩ (by decide) rfl d4_23 (q := 25) rfl (nn := 72) (by decide) (by decide) (k' := 6) rfl (n' := 168) rfl (by decide) (by decide) ?_
  intro b51 b59 kA60 T52 h53 vm54 C X55 Y56 E57 R58 f61 f62 f63 f64 sf65
  have O66 := O50.ext E57
  have F67 : Str Z h53 b51 [(77 : Int32), (111 : Int32), (100 : Int32), (105 : Int32), (102 : Int32), (105 : Int32), (101 : Int32), (100 : Int32), (32 : Int32), (97 : Int32), (116 : Int32), (32 : Int32), (108 : Int32), (101 : Int32), (97 : Int32), (115 : Int32), (116 : Int32), (32 : Int32)] := ⟨b59, kA60, f61, f63, f62, f64, by decide, by decide⟩
  have f68 := ((((R0.1.ext E9).ext E25).keep K38).ext E57)
  have f69 := (((f13.ext E25).keep K38).ext E57)
  have f70 := (((f16.ext E25).keep K38 (ninS (own_ne f16.lt g24) nin0)).ext E57)
  have f71 := (CHr.safe R58 BA44.2.lt (Wx.safeK Y30 sf46 K38 (sfS f48 sf0)))
  have f72 := (R43.1.ext E57)
  have f73 := (R43.2.1.ext E57)
  have f74 := (R43.2.2.1.ext E57)
  have f75 := (R43.2.2.2.ext E57)
  have f76 := (BA44.1.ext E57)
  have f77 := (BA44.2.ext E57)
  refine g_callV1 C X55 (y := (⟨"java/lang/StringBuilder", "append", "(Ljava/lang/String;)Ljava/lang/StringBuilder;"⟩ : MethodName)) (z := (⟨"java/lang/StringBuilder", "append", "(Ljava/lang/String;)Ljava/lang/StringBuilder;"⟩ : MethodName)) (a := b20) (by decide) (w53 hw) (w54 hw) (w56 hw) (w55 hw) (nf_sel (w56 hw)) f72 (w57 hw) (w36 hw) (rm_sbS hw (b0 := b20) (v0 := v39) (kv := k40) (cs := (List.replicate 16 (0 : Int32))) (nC := 0) O66 W ⟨f72, f73, f74, f75⟩ ⟨f76, f77⟩ (by decide) (Nat.zero_le _) nv42 ge28 ge45 (x0 := b51) (tb := b59) (kb := kA60) (ls := LH) ⟨f61, f63, f62, f64⟩ (by decide) (by omega) (Ne.symm (sf65 _ (CHr.safe R58 BA44.2.lt (Wx.safeK Y30 sf46 K38 (sfS f48 sf0)))).2) (Ne.symm (sf65 _ (CHr.safe R58 BA44.2.lt (Wx.safeK Y30 sf46 K38 (sfS f48 sf0)))).1) (Ne.symm (sf65 _ (CHr.safe R58 (Nat.lt_of_lt_of_le A26.lt K38.1) (Wx.safeK Y30 f48 K38 (sfS f48 sf0)))).2) (Ne.symm (sf65 _ (CHr.safe R58 (Nat.lt_of_lt_of_le A26.lt K38.1) (Wx.safeK Y30 f48 K38 (sfS f48 sf0)))).1)) (W := 0) (by decide) (by decide) (k' := 7) rfl (n' := 668) rfl (by decide) (by decide) rfl pd_1184 (argsL := [(.ref b51)]) rfl (rest := []) rfl rfl rfl d4_25 (q := 28) rfl ?_
  rintro _ T78 h79 X80 ⟨rfl, K81, v82, k83, cs84, q85, nv86, R87, BA88, h589, hm90, tk91⟩
  obtain ⟨n95, en96⟩ : ∃ z, 0 + List.length LH = z := ⟨_, rfl⟩
  rw [en96] at R87 hm90 tk91
  have ge92 := own_geA O66 ge45 q85
  have sf93 := own_sfA Y56 f71 q85
  have sz94 := own_szA sz47 (Nat.le_trans (Nat.le_trans (Nat.le_trans E9.1 E25.1) K38.1) E57.1) q85
  have ne97 := own_neA (Nat.ne_of_lt (Nat.lt_of_lt_of_le (Nat.lt_of_lt_of_le R0.1.lt (Nat.le_trans E9.1 E25.1)) sz41)) f68.lt q85
  have ne98 := own_neA (Nat.ne_of_lt (Nat.lt_of_lt_of_le (Nat.lt_of_lt_of_le f13.lt E25.1) sz41)) f69.lt q85
  have ne99 := own_neA (Nat.ne_of_lt (Nat.lt_of_lt_of_le (Nat.lt_of_lt_of_le f16.lt E25.1) sz41)) f70.lt q85
  have f100 := (CHr.safe R58 (Nat.lt_of_lt_of_le A26.lt K38.1) (Wx.safeK Y30 f48 K38 (sfS f48 sf0)))
  have Y101 := Wx.keep Y56 K81 (sfS f100 (sfS f71 sf0))
  have O102 := O66.keep K81 (allS ge28 (allS ge45 all0))
  have tk103 : cs84.take n95 = LH := tk91
  refine g_aloadN C X80 d4_28 (q := 29) rfl rfl rfl ?_
  have f104 := (((((R0.2.1.ext E9).ext E25).keep K38 (ninS (own_ne (Nat.lt_of_lt_of_le R0.1.lt E9.1) g24) nin0)).ext E57).keep K81 (ninS (own_ne (Nat.lt_of_lt_of_le R0.1.lt E9.1) g24) (ninS (Nat.ne_of_lt (Nat.lt_of_lt_of_le (Nat.lt_of_lt_of_le R0.1.lt (Nat.le_trans E9.1 E25.1)) sz41)) nin0)))
  refine g_getF C X80 (host := "") (Or.inl (w15 hw)) Via.refl f104 d4_29 (q := 32) rfl ?_
  intro T105 X106
  have f107 := (f68.keep K81)
  have f108 := (f69.keep K81)
  have f109 := (f70.keep K81 (ninS (own_ne f16.lt g24) (ninS (Nat.ne_of_lt (Nat.lt_of_lt_of_le (Nat.lt_of_lt_of_le f16.lt E25.1) sz41)) nin0)))
  have f110 := (Wx.safeK Y56 sf93 K81 (sfS f100 (sfS f71 sf0)))
  refine g_callV1 C X106 (y := (⟨"java/lang/StringBuilder", "append", "(J)Ljava/lang/StringBuilder;"⟩ : MethodName)) (z := (⟨"java/lang/StringBuilder", "append", "(J)Ljava/lang/StringBuilder;"⟩ : MethodName)) (a := b20) (by decide) (w126 hw) (w127 hw) (w129 hw) (w128 hw) (nf_sel (w129 hw)) R87.1 (w130 hw) (w36 hw) (rm_sbJ hw (b0 := b20) (v0 := v82) (kv := k83) (cs := cs84) (nC := n95) O102 W ⟨R87.1, R87.2.1, R87.2.2.1, R87.2.2.2⟩ ⟨BA88.1, BA88.2⟩ h589 hm90 nv86 ge28 ge92 hv1 (by omega)) (W := 0) (by decide) (by decide) (k' := 8) rfl (n' := 1168) rfl (by decide) (by decide) rfl pd_1188 (argsL := [(.long rL)]) rfl (rest := []) rfl rfl rfl d4_32 (q := 35) rfl ?_
  rintro _ T111 h112 X113 ⟨rfl, K114, v115, k116, cs117, q118, nv119, R120, BA121, h5122, hm123, tk124⟩
  obtain ⟨n128, en129⟩ : ∃ z, n95 + List.length (NB x1 s1) = z := ⟨_, rfl⟩
  rw [en129] at R120 hm123 tk124
  have ge125 := own_geA O102 ge92 q118
  have sf126 := own_sfA Y101 f110 q118
  have sz127 := own_szA sz94 (Nat.le_trans (Nat.le_trans (Nat.le_trans (Nat.le_trans E9.1 E25.1) K38.1) E57.1) K81.1) q118
  have ne130 := own_neA ne97 f107.lt q118
  have ne131 := own_neA ne98 f108.lt q118
  have ne132 := own_neA ne99 f109.lt q118
  have f133 := (Wx.safeK Y56 f100 K81 (sfS f100 (sfS f71 sf0)))
  have Y134 := Wx.keep Y101 K114 (sfS f133 (sfS f110 sf0))
  have O135 := O102.keep K114 (allS ge28 (allS ge92 all0))
  have tk136 : cs117.take n128 = (LH ++ (NB x1 s1)) := tk124.trans (by rw [tk103])
  refine gW_ldcC C X113 Y134 (own_EL hw) (vs := [(.int (32 : Int32)), (.int (114 : Int32)), (.int (111 : Int32)), (.int (119 : Int32)), (.int (40 : Int32)), (.int (115 : Int32)), (.int (41 : Int32)), (.int (32 : Int32)), (.int (105 : Int32)), (.int (110 : Int32)), (.int (32 : Int32))]) (z := 11) (w151 hw) (own_SA hw) (List.mem_of_getElem? (i := 3) rfl) ⟨by decide, by decide +kernel⟩ (by decide) rfl d4_35 (q := 37) rfl (nn := 44) (by decide) (by decide) (k' := 10) rfl (n' := 1216) rfl (by decide) (by decide) ?_
  intro b137 b145 kA146 T138 h139 vm140 C X141 Y142 E143 R144 f147 f148 f149 f150 sf151
  have O152 := O135.ext E143
  have F153 : Str Z h139 b137 [(32 : Int32), (114 : Int32), (111 : Int32), (119 : Int32), (40 : Int32), (115 : Int32), (41 : Int32), (32 : Int32), (105 : Int32), (110 : Int32), (32 : Int32)] := ⟨b145, kA146, f147, f149, f148, f150, by decide, by decide⟩
  have f154 := ((f107.keep K114).ext E143)
  have f155 := ((f108.keep K114).ext E143)
  have f156 := ((f109.keep K114 (ninS (own_ne f16.lt g24) (ninS ne99 nin0))).ext E143)
  have f157 := (CHr.safe R144 BA121.2.lt (Wx.safeK Y101 sf126 K114 (sfS f133 (sfS f110 sf0))))
  have f158 := (R120.1.ext E143)
  have f159 := (R120.2.1.ext E143)
  have f160 := (R120.2.2.1.ext E143)
  have f161 := (R120.2.2.2.ext E143)
  have f162 := (BA121.1.ext E143)
  have f163 := (BA121.2.ext E143)
  refine g_callV1 C X141 (y := (⟨"java/lang/StringBuilder", "append", "(Ljava/lang/String;)Ljava/lang/StringBuilder;"⟩ : MethodName)) (z := (⟨"java/lang/StringBuilder", "append", "(Ljava/lang/String;)Ljava/lang/StringBuilder;"⟩ : MethodName)) (a := b20) (by decide) (w53 hw) (w54 hw) (w56 hw) (w55 hw) (nf_sel (w56 hw)) f158 (w57 hw) (w36 hw) (rm_sbS hw (b0 := b20) (v0 := v115) (kv := k116) (cs := cs117) (nC := n128) O152 W ⟨f158, f159, f160, f161⟩ ⟨f162, f163⟩ h5122 hm123 nv119 ge28 ge125 (x0 := b137) (tb := b145) (kb := kA146) (ls := LM) ⟨f147, f149, f148, f150⟩ (by decide) (by omega) (Ne.symm (sf151 _ (CHr.safe R144 BA121.2.lt (Wx.safeK Y101 sf126 K114 (sfS f133 (sfS f110 sf0))))).2) (Ne.symm (sf151 _ (CHr.safe R144 BA121.2.lt (Wx.safeK Y101 sf126 K114 (sfS f133 (sfS f110 sf0))))).1) (Ne.symm (sf151 _ (CHr.safe R144 (Nat.lt_of_lt_of_le A26.lt (Nat.le_trans (Nat.le_trans (Nat.le_trans K38.1 E57.1) K81.1) K114.1)) (Wx.safeK Y101 f133 K114 (sfS f133 (sfS f110 sf0))))).2) (Ne.symm (sf151 _ (CHr.safe R144 (Nat.lt_of_lt_of_le A26.lt (Nat.le_trans (Nat.le_trans (Nat.le_trans K38.1 E57.1) K81.1) K114.1)) (Wx.safeK Y101 f133 K114 (sfS f133 (sfS f110 sf0))))).1)) (W := 0) (by decide) (by decide) (k' := 11) rfl (n' := 1716) rfl (by decide) (by decide) rfl pd_1184 (argsL := [(.ref b137)]) rfl (rest := []) rfl rfl rfl d4_37 (q := 40) rfl ?_
  rintro _ T164 h165 X166 ⟨rfl, K167, v168, k169, cs170, q171, nv172, R173, BA174, h5175, hm176, tk177⟩
  obtain ⟨n181, en182⟩ : ∃ z, n128 + List.length LM = z := ⟨_, rfl⟩
  rw [en182] at R173 hm176 tk177
  have ge178 := own_geA O152 ge125 q171
  have sf179 := own_sfA Y142 f157 q171
  have sz180 := own_szA sz127 (Nat.le_trans (Nat.le_trans (Nat.le_trans (Nat.le_trans (Nat.le_trans (Nat.le_trans E9.1 E25.1) K38.1) E57.1) K81.1) K114.1) E143.1) q171
  have ne183 := own_neA ne130 f154.lt q171
  have ne184 := own_neA ne131 f155.lt q171
  have ne185 := own_neA ne132 f156.lt q171
  have f186 := (CHr.safe R144 (Nat.lt_of_lt_of_le A26.lt (Nat.le_trans (Nat.le_trans (Nat.le_trans K38.1 E57.1) K81.1) K114.1)) (Wx.safeK Y101 f133 K114 (sfS f133 (sfS f110 sf0))))
  have Y187 := Wx.keep Y142 K167 (sfS f186 (sfS f157 sf0))
  have O188 := O152.keep K167 (allS ge28 (allS ge125 all0))
  have tk189 : cs170.take n181 = ((LH ++ (NB x1 s1)) ++ LM) := tk177.trans (by rw [tk136])
  refine g_aloadN C X166 d4_40 (q := 41) rfl rfl rfl ?_
  have f190 := ((((((((R0.2.2.1.ext E9).ext E25).keep K38 (ninS (own_ne (Nat.lt_of_lt_of_le R0.1.lt E9.1) g24) nin0)).ext E57).keep K81 (ninS (own_ne (Nat.lt_of_lt_of_le R0.1.lt E9.1) g24) (ninS (Nat.ne_of_lt (Nat.lt_of_lt_of_le (Nat.lt_of_lt_of_le R0.1.lt (Nat.le_trans E9.1 E25.1)) sz41)) nin0))).keep K114 (ninS (own_ne (Nat.lt_of_lt_of_le R0.1.lt E9.1) g24) (ninS ne97 nin0))).ext E143).keep K167 (ninS (own_ne (Nat.lt_of_lt_of_le R0.1.lt E9.1) g24) (ninS ne130 nin0)))
  refine g_getF C X166 (host := "") (Or.inl (w17 hw)) Via.refl f190 d4_41 (q := 44) rfl ?_
  intro T191 X192
  have f193 := (f154.keep K167)
  have f194 := (f155.keep K167)
  have f195 := (f156.keep K167 (ninS (own_ne f16.lt g24) (ninS ne132 nin0)))
  have f196 := (Wx.safeK Y142 sf179 K167 (sfS f186 (sfS f157 sf0)))
  refine g_callV1 C X192 (y := (⟨"java/lang/StringBuilder", "append", "(J)Ljava/lang/StringBuilder;"⟩ : MethodName)) (z := (⟨"java/lang/StringBuilder", "append", "(J)Ljava/lang/StringBuilder;"⟩ : MethodName)) (a := b20) (by decide) (w126 hw) (w127 hw) (w129 hw) (w128 hw) (nf_sel (w129 hw)) R173.1 (w130 hw) (w36 hw) (rm_sbJ hw (b0 := b20) (v0 := v168) (kv := k169) (cs := cs170) (nC := n181) O188 W ⟨R173.1, R173.2.1, R173.2.2.1, R173.2.2.2⟩ ⟨BA174.1, BA174.2⟩ h5175 hm176 nv172 ge28 ge178 hv2 (by omega)) (W := 0) (by decide) (by decide) (k' := 12) rfl (n' := 2216) rfl (by decide) (by decide) rfl pd_1188 (argsL := [(.long pL)]) rfl (rest := []) rfl rfl rfl d4_44 (q := 47) rfl ?_
  rintro _ T197 h198 X199 ⟨rfl, K200, v201, k202, cs203, q204, nv205, R206, BA207, h5208, hm209, tk210⟩
  obtain ⟨n214, en215⟩ : ∃ z, n181 + List.length (NB x2 s2) = z := ⟨_, rfl⟩
  rw [en215] at R206 hm209 tk210
  have ge211 := own_geA O188 ge178 q204
  have sf212 := own_sfA Y187 f196 q204
  have sz213 := own_szA sz180 (Nat.le_trans (Nat.le_trans (Nat.le_trans (Nat.le_trans (Nat.le_trans (Nat.le_trans (Nat.le_trans E9.1 E25.1) K38.1) E57.1) K81.1) K114.1) E143.1) K167.1) q204
  have ne216 := own_neA ne183 f193.lt q204
  have ne217 := own_neA ne184 f194.lt q204
  have ne218 := own_neA ne185 f195.lt q204
  have f219 := (Wx.safeK Y142 f186 K167 (sfS f186 (sfS f157 sf0)))
  have Y220 := Wx.keep Y187 K200 (sfS f219 (sfS f196 sf0))
  have O221 := O188.keep K200 (allS ge28 (allS ge178 all0))
  have tk222 : cs203.take n214 = (((LH ++ (NB x1 s1)) ++ LM) ++ (NB x2 s2)) := tk210.trans (by rw [tk189])
  refine gW_ldcC C X199 Y220 (own_EL hw) (vs := [(.int (32 : Int32)), (.int (112 : Int32)), (.int (97 : Int32)), (.int (114 : Int32)), (.int (116 : Int32)), (.int (105 : Int32)), (.int (116 : Int32)), (.int (105 : Int32)), (.int (111 : Int32)), (.int (110 : Int32)), (.int (40 : Int32)), (.int (115 : Int32)), (.int (41 : Int32))]) (z := 13) (w152 hw) (own_SA hw) (List.mem_of_getElem? (i := 4) rfl) ⟨by decide, by decide +kernel⟩ (by decide) rfl d4_47 (q := 49) rfl (nn := 52) (by decide) (by decide) (k' := 14) rfl (n' := 2272) rfl (by decide) (by decide) ?_
  intro b223 b231 kA232 T224 h225 vm226 C X227 Y228 E229 R230 f233 f234 f235 f236 sf237
  have O238 := O221.ext E229
  have F239 : Str Z h225 b223 [(32 : Int32), (112 : Int32), (97 : Int32), (114 : Int32), (116 : Int32), (105 : Int32), (116 : Int32), (105 : Int32), (111 : Int32), (110 : Int32), (40 : Int32), (115 : Int32), (41 : Int32)] := ⟨b231, kA232, f233, f235, f234, f236, by decide, by decide⟩
  have f240 := ((f193.keep K200).ext E229)
  have f241 := ((f194.keep K200).ext E229)
  have f242 := ((f195.keep K200 (ninS (own_ne f16.lt g24) (ninS ne185 nin0))).ext E229)
  have f243 := (CHr.safe R230 BA207.2.lt (Wx.safeK Y187 sf212 K200 (sfS f219 (sfS f196 sf0))))
  have f244 := (R206.1.ext E229)
  have f245 := (R206.2.1.ext E229)
  have f246 := (R206.2.2.1.ext E229)
  have f247 := (R206.2.2.2.ext E229)
  have f248 := (BA207.1.ext E229)
  have f249 := (BA207.2.ext E229)
  refine g_callV1 C X227 (y := (⟨"java/lang/StringBuilder", "append", "(Ljava/lang/String;)Ljava/lang/StringBuilder;"⟩ : MethodName)) (z := (⟨"java/lang/StringBuilder", "append", "(Ljava/lang/String;)Ljava/lang/StringBuilder;"⟩ : MethodName)) (a := b20) (by decide) (w53 hw) (w54 hw) (w56 hw) (w55 hw) (nf_sel (w56 hw)) f244 (w57 hw) (w36 hw) (rm_sbS hw (b0 := b20) (v0 := v201) (kv := k202) (cs := cs203) (nC := n214) O238 W ⟨f244, f245, f246, f247⟩ ⟨f248, f249⟩ h5208 hm209 nv205 ge28 ge211 (x0 := b223) (tb := b231) (kb := kA232) (ls := LT) ⟨f233, f235, f234, f236⟩ (by decide) (by omega) (Ne.symm (sf237 _ (CHr.safe R230 BA207.2.lt (Wx.safeK Y187 sf212 K200 (sfS f219 (sfS f196 sf0))))).2) (Ne.symm (sf237 _ (CHr.safe R230 BA207.2.lt (Wx.safeK Y187 sf212 K200 (sfS f219 (sfS f196 sf0))))).1) (Ne.symm (sf237 _ (CHr.safe R230 (Nat.lt_of_lt_of_le A26.lt (Nat.le_trans (Nat.le_trans (Nat.le_trans (Nat.le_trans (Nat.le_trans (Nat.le_trans K38.1 E57.1) K81.1) K114.1) E143.1) K167.1) K200.1)) (Wx.safeK Y187 f219 K200 (sfS f219 (sfS f196 sf0))))).2) (Ne.symm (sf237 _ (CHr.safe R230 (Nat.lt_of_lt_of_le A26.lt (Nat.le_trans (Nat.le_trans (Nat.le_trans (Nat.le_trans (Nat.le_trans (Nat.le_trans K38.1 E57.1) K81.1) K114.1) E143.1) K167.1) K200.1)) (Wx.safeK Y187 f219 K200 (sfS f219 (sfS f196 sf0))))).1)) (W := 0) (by decide) (by decide) (k' := 15) rfl (n' := 2772) rfl (by decide) (by decide) rfl pd_1184 (argsL := [(.ref b223)]) rfl (rest := []) rfl rfl rfl d4_49 (q := 52) rfl ?_
  rintro _ T250 h251 X252 ⟨rfl, K253, v254, k255, cs256, q257, nv258, R259, BA260, h5261, hm262, tk263⟩
  obtain ⟨n267, en268⟩ : ∃ z, n214 + List.length LT = z := ⟨_, rfl⟩
  rw [en268] at R259 hm262 tk263
  have ge264 := own_geA O238 ge211 q257
  have sf265 := own_sfA Y228 f243 q257
  have sz266 := own_szA sz213 (Nat.le_trans (Nat.le_trans (Nat.le_trans (Nat.le_trans (Nat.le_trans (Nat.le_trans (Nat.le_trans (Nat.le_trans (Nat.le_trans E9.1 E25.1) K38.1) E57.1) K81.1) K114.1) E143.1) K167.1) K200.1) E229.1) q257
  have ne269 := own_neA ne216 f240.lt q257
  have ne270 := own_neA ne217 f241.lt q257
  have ne271 := own_neA ne218 f242.lt q257
  have f272 := (CHr.safe R230 (Nat.lt_of_lt_of_le A26.lt (Nat.le_trans (Nat.le_trans (Nat.le_trans (Nat.le_trans (Nat.le_trans (Nat.le_trans K38.1 E57.1) K81.1) K114.1) E143.1) K167.1) K200.1)) (Wx.safeK Y187 f219 K200 (sfS f219 (sfS f196 sf0))))
  have Y273 := Wx.keep Y228 K253 (sfS f272 (sfS f243 sf0))
  have O274 := O238.keep K253 (allS ge28 (allS ge211 all0))
  have tk275 : cs256.take n267 = ((((LH ++ (NB x1 s1)) ++ LM) ++ (NB x2 s2)) ++ LT) := tk263.trans (by rw [tk222])
  refine g_aloadN C X252 d4_52 (q := 53) rfl rfl rfl ?_
  have f276 := (f241.keep K253)
  have f277 := ((((((((((f15.ext E25).keep K38 (ninS (own_ne f13.lt g24) nin0)).ext E57).keep K81 (ninS (own_ne f13.lt g24) (ninS (Nat.ne_of_lt (Nat.lt_of_lt_of_le (Nat.lt_of_lt_of_le f13.lt E25.1) sz41)) nin0))).keep K114 (ninS (own_ne f13.lt g24) (ninS ne98 nin0))).ext E143).keep K167 (ninS (own_ne f13.lt g24) (ninS ne131 nin0))).keep K200 (ninS (own_ne f13.lt g24) (ninS ne184 nin0))).ext E229).keep K253 (ninS (own_ne f13.lt g24) (ninS ne217 nin0)))
  have f278 := ((((((((((f14.ext E25).keep K38 (ninS (own_ne f13.lt g24) nin0)).ext E57).keep K81 (ninS (own_ne f13.lt g24) (ninS (Nat.ne_of_lt (Nat.lt_of_lt_of_le (Nat.lt_of_lt_of_le f13.lt E25.1) sz41)) nin0))).keep K114 (ninS (own_ne f13.lt g24) (ninS ne98 nin0))).ext E143).keep K167 (ninS (own_ne f13.lt g24) (ninS ne131 nin0))).keep K200 (ninS (own_ne f13.lt g24) (ninS ne184 nin0))).ext E229).keep K253 (ninS (own_ne f13.lt g24) (ninS ne217 nin0)))
  have f279 := (f242.keep K253 (ninS (own_ne f16.lt g24) (ninS ne218 nin0)))
  have f280 := (f240.keep K253)
  have f281 := (Wx.safeK Y228 sf265 K253 (sfS f272 (sfS f243 sf0)))
  refine g_callV1 C X252 (y := (⟨"java/lang/StringBuilder", "append", "(Ljava/lang/String;)Ljava/lang/StringBuilder;"⟩ : MethodName)) (z := (⟨"java/lang/StringBuilder", "append", "(Ljava/lang/String;)Ljava/lang/StringBuilder;"⟩ : MethodName)) (a := b20) (by decide) (w53 hw) (w54 hw) (w56 hw) (w55 hw) (nf_sel (w56 hw)) R259.1 (w57 hw) (w36 hw) (rm_sbS hw (b0 := b20) (v0 := v254) (kv := k255) (cs := cs256) (nC := n267) O274 W ⟨R259.1, R259.2.1, R259.2.2.1, R259.2.2.2⟩ ⟨BA260.1, BA260.2⟩ h5261 hm262 nv258 ge28 ge264 (x0 := b3) (tb := b11) (kb := kA12) (ls := LB) ⟨f276, f277, f278, f279⟩ (by decide) (by omega) ne271 ne270 (own_ne f16.lt g24) (own_ne f13.lt g24)) (W := 0) (by decide) (by decide) (k' := 16) rfl (n' := 3272) rfl (by decide) (by decide) rfl pd_1184 (argsL := [(.ref b3)]) rfl (rest := []) rfl rfl rfl d4_53 (q := 56) rfl ?_
  rintro _ T282 h283 X284 ⟨rfl, K285, v286, k287, cs288, q289, nv290, R291, BA292, h5293, hm294, tk295⟩
  obtain ⟨n299, en300⟩ : ∃ z, n267 + List.length LB = z := ⟨_, rfl⟩
  rw [en300] at R291 hm294 tk295
  have ge296 := own_geA O274 ge264 q289
  have sf297 := own_sfA Y273 f281 q289
  have sz298 := own_szA sz266 (Nat.le_trans (Nat.le_trans (Nat.le_trans (Nat.le_trans (Nat.le_trans (Nat.le_trans (Nat.le_trans (Nat.le_trans (Nat.le_trans (Nat.le_trans E9.1 E25.1) K38.1) E57.1) K81.1) K114.1) E143.1) K167.1) K200.1) E229.1) K253.1) q289
  have ne301 := own_neA ne269 f280.lt q289
  have ne302 := own_neA ne270 f276.lt q289
  have ne303 := own_neA ne271 f279.lt q289
  have f304 := (Wx.safeK Y228 f272 K253 (sfS f272 (sfS f243 sf0)))
  have Y305 := Wx.keep Y273 K285 (sfS f304 (sfS f281 sf0))
  have O306 := O274.keep K285 (allS ge28 (allS ge264 all0))
  have tk307 : cs288.take n299 = (((((LH ++ (NB x1 s1)) ++ LM) ++ (NB x2 s2)) ++ LT) ++ LB) := tk295.trans (by rw [tk275])
  refine g_callV1 C X284 (y := (⟨"java/lang/StringBuilder", "toString", "()Ljava/lang/String;"⟩ : MethodName)) (z := (⟨"java/lang/StringBuilder", "toString", "()Ljava/lang/String;"⟩ : MethodName)) (a := b20) (by decide) (w153 hw) (w154 hw) (w156 hw) (w155 hw) (nf_sel (w156 hw)) R291.1 (w157 hw) (w36 hw) (rm_toS hw (b0 := b20) (v0 := v286) (kv := k287) (cs := cs288) (nC := n299) O306 W ⟨R291.1, R291.2.1, R291.2.2.1, R291.2.2.2⟩ ⟨BA292.1, BA292.2⟩ h5293 hm294 nv290 ge28 ge296) (W := 0) (by decide) (by decide) (k' := 18) rfl (n' := 3776) rfl (by decide) (by decide) rfl pd_1199 (argsL := []) rfl (rest := []) rfl rfl rfl d4_56 (q := 59) rfl ?_
  rintro _ T308 h309 X310 ⟨xs311, tb312, kb313, K314, rfl, sz315, S316⟩
  rw [tk307] at S316
  have Y317 := Wx.keep Y305 K314 sf0
  have O318 := O306.keep K314 all0
  exact gW_retA C X310 Y317 (own_EL hw) rfl rfl d4_59 (by decide) (by decide) ⟨_, rfl, xs311, tb312, kb313, ((((((((((((((Keep.refl h0 []).ext E9).ext E25).trans K38 (allS (Or.inr (own_sz ((Keep.refl h0 [v39, v82, v115, v168, v201, v254]).ext E9).1 g24)) all0)).ext E57).trans K81 (allS (Or.inr (own_sz ((Keep.refl h0 [v39, v82, v115, v168, v201, v254]).ext E9).1 g24)) (allS (Or.inr sz47) all0))).trans K114 (allS (Or.inr (own_sz ((Keep.refl h0 [v39, v82, v115, v168, v201, v254]).ext E9).1 g24)) (allS (Or.inr sz94) all0))).ext E143).trans K167 (allS (Or.inr (own_sz ((Keep.refl h0 [v39, v82, v115, v168, v201, v254]).ext E9).1 g24)) (allS (Or.inr sz127) all0))).trans K200 (allS (Or.inr (own_sz ((Keep.refl h0 [v39, v82, v115, v168, v201, v254]).ext E9).1 g24)) (allS (Or.inr sz180) all0))).ext E229).trans K253 (allS (Or.inr (own_sz ((Keep.refl h0 [v39, v82, v115, v168, v201, v254]).ext E9).1 g24)) (allS (Or.inr sz213) all0))).trans K285 (allS (Or.inr (own_sz ((Keep.refl h0 [v39, v82, v115, v168, v201, v254]).ext E9).1 g24)) (allS (Or.inr sz266) all0))).trans K314 all0), rfl, S316⟩
set_option maxRecDepth 65536 in
set_option maxHeartbeats 40000000 in
theorem rmLaw {l : Launch} {Z : State} {a0 : Array Value} (hw : ∀ d ∈ tables_1, d.before a0 Z = true) {p0 p1 : Int64} {p2 : Int32} {cz : Int32} {fm : Value} {dO : Addr} {kO : ClassId} {dT : Addr} {kT : ClassId} {h0 : Heap} {n0 : Nat} (O : Old Z n0 h0) (W : Wd Z cz fm dO kO dT kT) :
    MetW1 l Z consts_1 x code maxLocals ret room_1 #[(.long p0), (.long p1), (.int p2)] h0 n0 (fun v h => v = .int 1 ∧ True) := by
  refine metW_of (L := #[.val (.long p0), .second, .val (.long p1), .second, .val (.int p2), .unset, .unset, .unset, .unset, .unset, .unset, .unset, .unset, .unset, .unset, .unset, .unset, .unset, .unset, .unset]) (plainFor_of_name pn_458) (fun m => by first | (simp [entryFrame, mkF, argsToLocals, Value.category, maxLocals]; done) | rfl) ?_
  intro p e s m below meth c T vm C X Y
  change Cx p (s.setVm vm) m meth c Z "com/example/large_table_updates/largetableupdates/RunResultSummaryPinLaw" code 20 (some .boolean) "law" at C
  change Goes p e below (FinW Z consts_1 _ s n0 48 11136) _
  refine g_lloadN C X at_0 (q := 1) rfl rfl ?_
  refine g_ldcJ C X (w0 hw) at_1 (q := 4) rfl ?_
  obtain ⟨rL, erL⟩ : ∃ z, (p0 &&& (9223372036854775807 : Int64)) = z := ⟨_, rfl⟩
  have hr0 : ¬ lcmpW rL 0 < 0 := by rw [← erL]; exact own_pos63 p0
  obtain ⟨x1, s1, hv1⟩ := NV.of rL
  obtain ⟨x2, s2, hv2⟩ := NV.of p1
  refine g_land C X at_4 (q := 5) rfl (z := rL) erL ?_
  refine g_lstore C X at_5 (q := 7) rfl (L' := #[.val (.long p0), .second, .val (.long p1), .second, .val (.int p2), .val (.long rL), .second, .unset, .unset, .unset, .unset, .unset, .unset, .unset, .unset, .unset, .unset, .unset, .unset, .unset]) rfl ?_
  refine g_iload C X at_7 (q := 9) rfl rfl ?_
  refine g_iconst C X at_9 (q := 10) rfl (z := (1 : Int32)) rfl ?_
  refine g_iand C X at_10 (q := 11) rfl (z := (p2 &&& (1 : Int32))) rfl ?_
  by_cases hc1 : (p2 &&& (1 : Int32)) = (0 : Int32)
  · refine g_ifY C X at_11 (by decide) (q := 18) (by decide) (teq hc1).1 ?_
    refine g_iconst C X at_18 (q := 19) rfl (z := (0 : Int32)) rfl ?_
    refine g_istore C X at_19 (q := 21) rfl (L' := #[.val (.long p0), .second, .val (.long p1), .second, .val (.int p2), .val (.long rL), .second, .val (.int (0 : Int32)), .unset, .unset, .unset, .unset, .unset, .unset, .unset, .unset, .unset, .unset, .unset, .unset]) rfl ?_
    refine g_new C X (w1 hw) (w2 hw) (w3 hw) at_21 (q := 24) rfl (k' := 1) rfl (n' := 3) rfl (by decide) (by decide) ?_
    intro T3 h4 b2 g6 X5 E7 A8 D9
    have ge10 : n0 ≤ b2 := own_ge O g6
    have Y11 := Wx.ext Y E7
    have O12 := O.ext E7
    have f13 : Fld Z h4 b2 "com/example/large_table_updates/largetableupdates/RunResult" "rowsModifiedAtLeast" "J" (.long (0 : Int64)) := D9 (Or.inr (w16 hw)) (ty := .long) (by decide)
    have f14 : Fld Z h4 b2 "com/example/large_table_updates/largetableupdates/RunResult" "partitions" "J" (.long (0 : Int64)) := D9 (Or.inr (w18 hw)) (ty := .long) (by decide)
    have f15 : Fld Z h4 b2 "com/example/large_table_updates/largetableupdates/RunResult" "stoppedEarly" "Z" (.int (0 : Int32)) := D9 (Or.inr (w20 hw)) (ty := .boolean) (by decide)
    refine g_dup C X5 at_24 (q := 25) rfl rfl ?_
    refine g_lload C X5 at_25 (q := 27) rfl rfl ?_
    refine g_lloadN C X5 at_27 (q := 28) rfl rfl ?_
    refine g_iload C X5 at_28 (q := 30) rfl rfl ?_
    refine g_callI0 C X5 (y := (⟨"com/example/large_table_updates/largetableupdates/RunResult", "<init>", "(JJZ)V"⟩ : MethodName)) (a := b2) (by decide) rfl (w4 hw) (w5 hw) (w6 hw) (w3 hw) (rm_rri0 hw (o0 := b2) (rL := rL) (pL := p1) O12 W A8 f13 f14 f15 ge10 hr0) (W := 1) (by decide) (by decide) (k' := 1) rfl (n' := 3) rfl (by decide) (by decide) rfl pd_1204 (argsL := [(.long rL), (.long p1), (.int (0 : Int32))]) rfl (rest := [(.ref b2)]) rfl rfl rfl at_30 (q := 33) rfl ?_
    rintro T16 h17 X18 ⟨K19, R20⟩
    have Y21 := Wx.keep Y11 K19 (sfS (Safe.exa (Cx.alike C) A8 (by decide) (by decide)) sf0)
    have O22 := O12.keep K19 (allS ge10 all0)
    refine g_astore C X18 at_33 (q := 35) rfl rfl (L' := #[.val (.long p0), .second, .val (.long p1), .second, .val (.int p2), .val (.long rL), .second, .val (.int (0 : Int32)), .val (.ref b2), .unset, .unset, .unset, .unset, .unset, .unset, .unset, .unset, .unset, .unset, .unset]) rfl ?_
    refine g_aload C X18 at_35 (q := 37) rfl rfl rfl ?_
    refine gW_callV1 C X18 Y21 (own_EL hw) (y := (⟨"com/example/large_table_updates/largetableupdates/RunResult", "summary", "()Ljava/lang/String;"⟩ : MethodName)) (z := (⟨"com/example/large_table_updates/largetableupdates/RunResult", "summary", "()Ljava/lang/String;"⟩ : MethodName)) (a := b2) (by decide) (w21 hw) (w22 hw) (w24 hw) (w23 hw) (nf_sel (w24 hw)) R20.1 (w25 hw) (w3 hw) (rm_sum0 hw (o0 := b2) (rL := rL) (pL := p1) (x1 := x1) (s1 := s1) (x2 := x2) (s2 := s2) O22 W R20 hv1 hv2) (W := 0) (by decide) (by decide) (k' := 19) rfl (n' := 3715) rfl (by decide) (by decide) rfl pd_1199 (argsL := []) rfl (rest := []) rfl rfl rfl at_37 (q := 40) rfl ?_
    rintro _ T23 h24 vm25 C X26 Y27 R28 ⟨xs29, tb30, kb31, K32, rfl, S33⟩
    have O34 := O22.keep K32 all0
    have el0 : List.length LH = 18 := rfl
    have el1 : List.length LM = 11 := rfl
    have el2 : List.length LT = 13 := rfl
    have el3 : List.length LB = 17 := rfl
    have el4 : List.length LD = 1 := rfl
    have eb1 : List.length (NB x1 s1) ≤ 20 := by have := NB_len x1 s1; have := DG_19 hv1.1; have := hv1.sg; omega
    have eb2 : List.length (NB x2 s2) ≤ 20 := by have := NB_len x2 s2; have := DG_19 hv2.1; have := hv2.sg; omega
    have sg0 := own_seg (C := (SM x1 s1 x2 s2 LD)) (A := ([] : List Int32)) (B := LH) (R := (NB x1 s1) ++ LM ++ (NB x2 s2) ++ LT ++ LD) (n := 0) (by simp only [SM, List.append_assoc, List.nil_append, List.append_nil]) (by simp only [List.length_append, List.length_nil])
    have sg1 := own_seg (C := (SM x1 s1 x2 s2 LD)) (A := LH) (B := (NB x1 s1)) (R := LM ++ (NB x2 s2) ++ LT ++ LD) (n := LH.length) (by simp only [SM, List.append_assoc, List.nil_append, List.append_nil]) (by simp only [List.length_append, List.length_nil])
    have sg2 := own_seg (C := (SM x1 s1 x2 s2 LD)) (A := LH ++ (NB x1 s1)) (B := LM) (R := (NB x2 s2) ++ LT ++ LD) (n := (LH.length + (NB x1 s1).length)) (by simp only [SM, List.append_assoc, List.nil_append, List.append_nil]) (by simp only [List.length_append, List.length_nil])
    have sg3 := own_seg (C := (SM x1 s1 x2 s2 LD)) (A := LH ++ (NB x1 s1) ++ LM) (B := (NB x2 s2)) (R := LT ++ LD) (n := ((LH.length + (NB x1 s1).length) + LM.length)) (by simp only [SM, List.append_assoc, List.nil_append, List.append_nil]) (by simp only [List.length_append, List.length_nil])
    have sg4 := own_seg (C := (SM x1 s1 x2 s2 LD)) (A := LH ++ (NB x1 s1) ++ LM ++ (NB x2 s2)) (B := LT) (R := LD) (n := (((LH.length + (NB x1 s1).length) + LM.length) + (NB x2 s2).length)) (by simp only [SM, List.append_assoc, List.nil_append, List.append_nil]) (by simp only [List.length_append, List.length_nil])
    have sg5 := own_seg (C := (SM x1 s1 x2 s2 LD)) (A := LH ++ (NB x1 s1) ++ LM ++ (NB x2 s2) ++ LT) (B := LD) (R := ([] : List Int32)) (n := ((((LH.length + (NB x1 s1).length) + LM.length) + (NB x2 s2).length) + LT.length)) (by simp only [SM, List.append_assoc, List.nil_append, List.append_nil]) (by simp only [List.length_append, List.length_nil])
    have hTot : (SM x1 s1 x2 s2 LD).length = (((((LH.length + (NB x1 s1).length) + LM.length) + (NB x2 s2).length) + LT.length) + LD.length) := by simp only [SM, List.length_append]
    have hls : (SM x1 s1 x2 s2 LD).length < 200 := by rw [hTot]; omega
    have hgC : Gd (SM x1 s1 x2 s2 LD) := (own_gA (own_gA (own_gA (own_gA (own_gA LH_gd (NB_gd _ _)) LM_gd) (NB_gd _ _)) LT_gd) LD_gd)
    refine g_astore C X26 at_40 (q := 42) rfl rfl (L' := #[.val (.long p0), .second, .val (.long p1), .second, .val (.int p2), .val (.long rL), .second, .val (.int (0 : Int32)), .val (.ref b2), .val (.ref xs29), .unset, .unset, .unset, .unset, .unset, .unset, .unset, .unset, .unset, .unset]) rfl ?_
    refine g_aload C X26 at_42 (q := 44) rfl rfl rfl ?_
    refine g_nonY C X26 at_44 (by decide) (q := 49) (by decide) ?_
    refine gW_ldcC C X26 Y27 (own_EL hw) (vs := [(.int (77 : Int32)), (.int (111 : Int32)), (.int (100 : Int32)), (.int (105 : Int32)), (.int (102 : Int32)), (.int (105 : Int32)), (.int (101 : Int32)), (.int (100 : Int32)), (.int (32 : Int32)), (.int (97 : Int32)), (.int (116 : Int32)), (.int (32 : Int32)), (.int (108 : Int32)), (.int (101 : Int32)), (.int (97 : Int32)), (.int (115 : Int32)), (.int (116 : Int32)), (.int (32 : Int32))]) (z := 18) (w190 hw) (own_SA hw) (List.mem_of_getElem? (i := 5) rfl) ⟨by decide, by decide +kernel⟩ (by decide) rfl at_49 (q := 51) rfl (nn := 72) (by decide) (by decide) (k' := 21) rfl (n' := 3791) rfl (by decide) (by decide) ?_
    intro b35 b43 kA44 T36 h37 vm38 C X39 Y40 E41 R42 f45 f46 f47 f48 sf49
    have O50 := O34.ext E41
    have F51 : Str Z h37 b35 [(77 : Int32), (111 : Int32), (100 : Int32), (105 : Int32), (102 : Int32), (105 : Int32), (101 : Int32), (100 : Int32), (32 : Int32), (97 : Int32), (116 : Int32), (32 : Int32), (108 : Int32), (101 : Int32), (97 : Int32), (115 : Int32), (116 : Int32), (32 : Int32)] := ⟨b43, kA44, f45, f47, f46, f48, by decide, by decide⟩
    refine g_astore C X39 at_51 (q := 53) rfl rfl (L' := #[.val (.long p0), .second, .val (.long p1), .second, .val (.int p2), .val (.long rL), .second, .val (.int (0 : Int32)), .val (.ref b2), .val (.ref xs29), .val (.ref b35), .unset, .unset, .unset, .unset, .unset, .unset, .unset, .unset, .unset]) rfl ?_
    refine gW_ldcC C X39 Y40 (own_EL hw) (vs := [(.int (32 : Int32)), (.int (114 : Int32)), (.int (111 : Int32)), (.int (119 : Int32)), (.int (40 : Int32)), (.int (115 : Int32)), (.int (41 : Int32)), (.int (32 : Int32)), (.int (105 : Int32)), (.int (110 : Int32)), (.int (32 : Int32))]) (z := 11) (w191 hw) (own_SA hw) (List.mem_of_getElem? (i := 6) rfl) ⟨by decide, by decide +kernel⟩ (by decide) rfl at_53 (q := 55) rfl (nn := 44) (by decide) (by decide) (k' := 23) rfl (n' := 3839) rfl (by decide) (by decide) ?_
    intro b52 b60 kA61 T53 h54 vm55 C X56 Y57 E58 R59 f62 f63 f64 f65 sf66
    have O67 := O50.ext E58
    have F68 : Str Z h54 b52 [(32 : Int32), (114 : Int32), (111 : Int32), (119 : Int32), (40 : Int32), (115 : Int32), (41 : Int32), (32 : Int32), (105 : Int32), (110 : Int32), (32 : Int32)] := ⟨b60, kA61, f62, f64, f63, f65, by decide, by decide⟩
    refine g_astore C X56 at_55 (q := 57) rfl rfl (L' := #[.val (.long p0), .second, .val (.long p1), .second, .val (.int p2), .val (.long rL), .second, .val (.int (0 : Int32)), .val (.ref b2), .val (.ref xs29), .val (.ref b35), .val (.ref b52), .unset, .unset, .unset, .unset, .unset, .unset, .unset, .unset]) rfl ?_
    refine gW_ldcC C X56 Y57 (own_EL hw) (vs := [(.int (32 : Int32)), (.int (112 : Int32)), (.int (97 : Int32)), (.int (114 : Int32)), (.int (116 : Int32)), (.int (105 : Int32)), (.int (116 : Int32)), (.int (105 : Int32)), (.int (111 : Int32)), (.int (110 : Int32)), (.int (40 : Int32)), (.int (115 : Int32)), (.int (41 : Int32))]) (z := 13) (w192 hw) (own_SA hw) (List.mem_of_getElem? (i := 7) rfl) ⟨by decide, by decide +kernel⟩ (by decide) rfl at_57 (q := 59) rfl (nn := 52) (by decide) (by decide) (k' := 25) rfl (n' := 3895) rfl (by decide) (by decide) ?_
    intro b69 b77 kA78 T70 h71 vm72 C X73 Y74 E75 R76 f79 f80 f81 f82 sf83
    have O84 := O67.ext E75
    have F85 : Str Z h71 b69 [(32 : Int32), (112 : Int32), (97 : Int32), (114 : Int32), (116 : Int32), (105 : Int32), (116 : Int32), (105 : Int32), (111 : Int32), (110 : Int32), (40 : Int32), (115 : Int32), (41 : Int32)] := ⟨b77, kA78, f79, f81, f80, f82, by decide, by decide⟩
    refine g_astore C X73 at_59 (q := 61) rfl rfl (L' := #[.val (.long p0), .second, .val (.long p1), .second, .val (.int p2), .val (.long rL), .second, .val (.int (0 : Int32)), .val (.ref b2), .val (.ref xs29), .val (.ref b35), .val (.ref b52), .val (.ref b69), .unset, .unset, .unset, .unset, .unset, .unset, .unset]) rfl ?_
    refine g_iload C X73 at_61 (q := 63) rfl rfl ?_
    refine g_ifY C X73 at_63 (by decide) (q := 73) (by decide) (by decide) ?_
    refine gW_ldcC C X73 Y74 (own_EL hw) (vs := [(.int (46 : Int32))]) (z := 1) (w193 hw) (own_SA hw) (List.mem_of_getElem? (i := 9) rfl) ⟨by decide, by decide +kernel⟩ (by decide) rfl at_73 (q := 75) rfl (nn := 4) (by decide) (by decide) (k' := 27) rfl (n' := 3903) rfl (by decide) (by decide) ?_
    intro b86 b94 kA95 T87 h88 vm89 C X90 Y91 E92 R93 f96 f97 f98 f99 sf100
    have O101 := O84.ext E92
    have F102 : Str Z h88 b86 [(46 : Int32)] := ⟨b94, kA95, f96, f98, f97, f99, by decide, by decide⟩
    refine g_astore C X90 at_75 (q := 77) rfl rfl (L' := #[.val (.long p0), .second, .val (.long p1), .second, .val (.int p2), .val (.long rL), .second, .val (.int (0 : Int32)), .val (.ref b2), .val (.ref xs29), .val (.ref b35), .val (.ref b52), .val (.ref b69), .val (.ref b86), .unset, .unset, .unset, .unset, .unset, .unset]) rfl ?_
    refine g_aload C X90 at_77 (q := 79) rfl rfl rfl ?_
    have f103 := (((f45.ext E58).ext E75).ext E92)
    have f104 := (((f47.ext E58).ext E75).ext E92)
    have f105 := (((f46.ext E58).ext E75).ext E92)
    have f106 := (((f48.ext E58).ext E75).ext E92)
    refine g_callV1 C X90 (y := (⟨"java/lang/String", "length", "()I"⟩ : MethodName)) (z := (⟨"java/lang/String", "length", "()I"⟩ : MethodName)) (a := b35) (by decide) (w194 hw) (w64 hw) (w66 hw) (w65 hw) (nf_sel (w66 hw)) f103 (w67 hw) (w27 hw) (rm_slen hw (x0 := b35) (tb := b43) (kb := kA44) (ls := LH) O101 W ⟨f103, f104, f105, f106⟩ (by decide)) (W := 0) (by decide) (by decide) (k' := 27) rfl (n' := 3903) rfl (by decide) (by decide) rfl pd_164 (argsL := []) rfl (rest := []) rfl rfl rfl at_79 (q := 82) rfl ?_
    rintro _ T107 _ X108 ⟨rfl, rfl⟩
    refine g_istore C X108 at_82 (q := 84) rfl (L' := #[.val (.long p0), .second, .val (.long p1), .second, .val (.int p2), .val (.long rL), .second, .val (.int (0 : Int32)), .val (.ref b2), .val (.ref xs29), .val (.ref b35), .val (.ref b52), .val (.ref b69), .val (.ref b86), .val (.int (o32 LH.length)), .unset, .unset, .unset, .unset, .unset]) rfl ?_
    refine g_iload C X108 at_84 (q := 86) rfl rfl ?_
    refine g_lload C X108 at_86 (q := 88) rfl rfl ?_
    refine g_callS1 C X108 (y := (⟨"com/example/large_table_updates/largetableupdates/RunResultSummaryPinLaw", "width", "(J)I"⟩ : MethodName)) (by decide) (w195 hw) (w196 hw) (w198 hw) (w197 hw) (rm_width hw O101 W hv1) (W := 1) (by decide) (by decide) (k' := 27) rfl (n' := 3903) rfl (by decide) (by decide) rfl pd_465 (argsL := [(.long rL)]) rfl (rest := [(.int (o32 LH.length))]) rfl rfl rfl at_88 (q := 91) rfl ?_
    rintro _ T109 _ X110 ⟨rfl, rfl⟩
    refine g_iadd C X110 at_91 (q := 92) rfl (z := (o32 (LH.length + (NB x1 s1).length))) (r_add LH.length (by omega) (NB x1 s1).length (by omega)) ?_
    refine g_istore C X110 at_92 (q := 94) rfl (L' := #[.val (.long p0), .second, .val (.long p1), .second, .val (.int p2), .val (.long rL), .second, .val (.int (0 : Int32)), .val (.ref b2), .val (.ref xs29), .val (.ref b35), .val (.ref b52), .val (.ref b69), .val (.ref b86), .val (.int (o32 LH.length)), .val (.int (o32 (LH.length + (NB x1 s1).length))), .unset, .unset, .unset, .unset]) rfl ?_
    refine g_iload C X110 at_94 (q := 96) rfl rfl ?_
    refine g_aload C X110 at_96 (q := 98) rfl rfl rfl ?_
    have f111 := ((f62.ext E75).ext E92)
    have f112 := ((f64.ext E75).ext E92)
    have f113 := ((f63.ext E75).ext E92)
    have f114 := ((f65.ext E75).ext E92)
    refine g_callV1 C X110 (y := (⟨"java/lang/String", "length", "()I"⟩ : MethodName)) (z := (⟨"java/lang/String", "length", "()I"⟩ : MethodName)) (a := b52) (by decide) (w194 hw) (w64 hw) (w66 hw) (w65 hw) (nf_sel (w66 hw)) f111 (w67 hw) (w27 hw) (rm_slen hw (x0 := b52) (tb := b60) (kb := kA61) (ls := LM) O101 W ⟨f111, f112, f113, f114⟩ (by decide)) (W := 1) (by decide) (by decide) (k' := 27) rfl (n' := 3903) rfl (by decide) (by decide) rfl pd_164 (argsL := []) rfl (rest := [(.int (o32 (LH.length + (NB x1 s1).length)))]) rfl rfl rfl at_98 (q := 101) rfl ?_
    rintro _ T115 _ X116 ⟨rfl, rfl⟩
    refine g_iadd C X116 at_101 (q := 102) rfl (z := (o32 ((LH.length + (NB x1 s1).length) + LM.length))) (r_add (LH.length + (NB x1 s1).length) (by omega) LM.length (by omega)) ?_
    refine g_istore C X116 at_102 (q := 104) rfl (L' := #[.val (.long p0), .second, .val (.long p1), .second, .val (.int p2), .val (.long rL), .second, .val (.int (0 : Int32)), .val (.ref b2), .val (.ref xs29), .val (.ref b35), .val (.ref b52), .val (.ref b69), .val (.ref b86), .val (.int (o32 LH.length)), .val (.int (o32 (LH.length + (NB x1 s1).length))), .val (.int (o32 ((LH.length + (NB x1 s1).length) + LM.length))), .unset, .unset, .unset]) rfl ?_
    refine g_iload C X116 at_104 (q := 106) rfl rfl ?_
    refine g_lloadN C X116 at_106 (q := 107) rfl rfl ?_
    refine g_callS1 C X116 (y := (⟨"com/example/large_table_updates/largetableupdates/RunResultSummaryPinLaw", "width", "(J)I"⟩ : MethodName)) (by decide) (w195 hw) (w196 hw) (w198 hw) (w197 hw) (rm_width hw O101 W hv2) (W := 1) (by decide) (by decide) (k' := 27) rfl (n' := 3903) rfl (by decide) (by decide) rfl pd_465 (argsL := [(.long p1)]) rfl (rest := [(.int (o32 ((LH.length + (NB x1 s1).length) + LM.length)))]) rfl rfl rfl at_107 (q := 110) rfl ?_
    rintro _ T117 _ X118 ⟨rfl, rfl⟩
    refine g_iadd C X118 at_110 (q := 111) rfl (z := (o32 (((LH.length + (NB x1 s1).length) + LM.length) + (NB x2 s2).length))) (r_add ((LH.length + (NB x1 s1).length) + LM.length) (by omega) (NB x2 s2).length (by omega)) ?_
    refine g_istore C X118 at_111 (q := 113) rfl (L' := #[.val (.long p0), .second, .val (.long p1), .second, .val (.int p2), .val (.long rL), .second, .val (.int (0 : Int32)), .val (.ref b2), .val (.ref xs29), .val (.ref b35), .val (.ref b52), .val (.ref b69), .val (.ref b86), .val (.int (o32 LH.length)), .val (.int (o32 (LH.length + (NB x1 s1).length))), .val (.int (o32 ((LH.length + (NB x1 s1).length) + LM.length))), .val (.int (o32 (((LH.length + (NB x1 s1).length) + LM.length) + (NB x2 s2).length))), .unset, .unset]) rfl ?_
    refine g_iload C X118 at_113 (q := 115) rfl rfl ?_
    refine g_aload C X118 at_115 (q := 117) rfl rfl rfl ?_
    have f119 := (f79.ext E92)
    have f120 := (f81.ext E92)
    have f121 := (f80.ext E92)
    have f122 := (f82.ext E92)
    refine g_callV1 C X118 (y := (⟨"java/lang/String", "length", "()I"⟩ : MethodName)) (z := (⟨"java/lang/String", "length", "()I"⟩ : MethodName)) (a := b69) (by decide) (w194 hw) (w64 hw) (w66 hw) (w65 hw) (nf_sel (w66 hw)) f119 (w67 hw) (w27 hw) (rm_slen hw (x0 := b69) (tb := b77) (kb := kA78) (ls := LT) O101 W ⟨f119, f120, f121, f122⟩ (by decide)) (W := 1) (by decide) (by decide) (k' := 27) rfl (n' := 3903) rfl (by decide) (by decide) rfl pd_164 (argsL := []) rfl (rest := [(.int (o32 (((LH.length + (NB x1 s1).length) + LM.length) + (NB x2 s2).length)))]) rfl rfl rfl at_117 (q := 120) rfl ?_
    rintro _ T123 _ X124 ⟨rfl, rfl⟩
    refine g_iadd C X124 at_120 (q := 121) rfl (z := (o32 ((((LH.length + (NB x1 s1).length) + LM.length) + (NB x2 s2).length) + LT.length))) (r_add (((LH.length + (NB x1 s1).length) + LM.length) + (NB x2 s2).length) (by omega) LT.length (by omega)) ?_
    refine g_istore C X124 at_121 (q := 123) rfl (L' := #[.val (.long p0), .second, .val (.long p1), .second, .val (.int p2), .val (.long rL), .second, .val (.int (0 : Int32)), .val (.ref b2), .val (.ref xs29), .val (.ref b35), .val (.ref b52), .val (.ref b69), .val (.ref b86), .val (.int (o32 LH.length)), .val (.int (o32 (LH.length + (NB x1 s1).length))), .val (.int (o32 ((LH.length + (NB x1 s1).length) + LM.length))), .val (.int (o32 (((LH.length + (NB x1 s1).length) + LM.length) + (NB x2 s2).length))), .val (.int (o32 ((((LH.length + (NB x1 s1).length) + LM.length) + (NB x2 s2).length) + LT.length))), .unset]) rfl ?_
    refine g_iload C X124 at_123 (q := 125) rfl rfl ?_
    refine g_aload C X124 at_125 (q := 127) rfl rfl rfl ?_
    refine g_callV1 C X124 (y := (⟨"java/lang/String", "length", "()I"⟩ : MethodName)) (z := (⟨"java/lang/String", "length", "()I"⟩ : MethodName)) (a := b86) (by decide) (w194 hw) (w64 hw) (w66 hw) (w65 hw) (nf_sel (w66 hw)) f96 (w67 hw) (w27 hw) (rm_slen hw (x0 := b86) (tb := b94) (kb := kA95) (ls := LD) O101 W ⟨f96, f98, f97, f99⟩ (by decide)) (W := 1) (by decide) (by decide) (k' := 27) rfl (n' := 3903) rfl (by decide) (by decide) rfl pd_164 (argsL := []) rfl (rest := [(.int (o32 ((((LH.length + (NB x1 s1).length) + LM.length) + (NB x2 s2).length) + LT.length)))]) rfl rfl rfl at_127 (q := 130) rfl ?_
    rintro _ T125 _ X126 ⟨rfl, rfl⟩
    refine g_iadd C X126 at_130 (q := 131) rfl (z := (o32 (((((LH.length + (NB x1 s1).length) + LM.length) + (NB x2 s2).length) + LT.length) + LD.length))) (r_add ((((LH.length + (NB x1 s1).length) + LM.length) + (NB x2 s2).length) + LT.length) (by omega) LD.length (by omega)) ?_
    refine g_istore C X126 at_131 (q := 133) rfl (L' := #[.val (.long p0), .second, .val (.long p1), .second, .val (.int p2), .val (.long rL), .second, .val (.int (0 : Int32)), .val (.ref b2), .val (.ref xs29), .val (.ref b35), .val (.ref b52), .val (.ref b69), .val (.ref b86), .val (.int (o32 LH.length)), .val (.int (o32 (LH.length + (NB x1 s1).length))), .val (.int (o32 ((LH.length + (NB x1 s1).length) + LM.length))), .val (.int (o32 (((LH.length + (NB x1 s1).length) + LM.length) + (NB x2 s2).length))), .val (.int (o32 ((((LH.length + (NB x1 s1).length) + LM.length) + (NB x2 s2).length) + LT.length))), .val (.int (o32 (((((LH.length + (NB x1 s1).length) + LM.length) + (NB x2 s2).length) + LT.length) + LD.length)))]) rfl ?_
    refine g_aload C X126 at_133 (q := 135) rfl rfl rfl ?_
    have f127 := ((((S33.1.ext E41).ext E58).ext E75).ext E92)
    have f128 := ((((S33.2.1.ext E41).ext E58).ext E75).ext E92)
    have f129 := ((((S33.2.2.1.ext E41).ext E58).ext E75).ext E92)
    have f130 := ((((S33.2.2.2.ext E41).ext E58).ext E75).ext E92)
    refine g_callV1 C X126 (y := (⟨"java/lang/String", "length", "()I"⟩ : MethodName)) (z := (⟨"java/lang/String", "length", "()I"⟩ : MethodName)) (a := xs29) (by decide) (w194 hw) (w64 hw) (w66 hw) (w65 hw) (nf_sel (w66 hw)) f127 (w67 hw) (w27 hw) (rm_slen hw (x0 := xs29) (tb := tb30) (kb := kb31) (ls := (SM x1 s1 x2 s2 LD)) O101 W ⟨f127, f128, f129, f130⟩ hls) (W := 0) (by decide) (by decide) (k' := 27) rfl (n' := 3903) rfl (by decide) (by decide) rfl pd_164 (argsL := []) rfl (rest := []) rfl rfl rfl at_135 (q := 138) rfl ?_
    rintro _ T131 _ X132 ⟨rfl, rfl⟩
    refine g_iload C X132 at_138 (q := 140) rfl rfl ?_
    refine g_icY C X132 at_140 (by decide) (q := 145) (by decide) (teq (congrArg o32 hTot)).1 ?_
    refine g_aload C X132 at_145 (q := 147) rfl rfl rfl ?_
    refine g_iconst C X132 at_147 (q := 148) rfl (z := (0 : Int32)) rfl ?_
    refine g_aload C X132 at_148 (q := 150) rfl rfl rfl ?_
    refine g_callS1 C X132 (y := (⟨"com/example/large_table_updates/largetableupdates/RunResultSummaryPinLaw", "litAt", "(Ljava/lang/String;ILjava/lang/String;)Z"⟩ : MethodName)) (by decide) (w220 hw) (w221 hw) (w222 hw) (w197 hw) (rm_litAt hw (x0 := xs29) (tb := tb30) (kb := kb31) (ls := (SM x1 s1 x2 s2 LD)) (x1 := b35) (tc := b43) (kc := kA44) (l1 := LH) (pN := 0) O101 W ⟨f127, f128, f129, f130⟩ hls hgC ⟨f103, f104, f105, f106⟩ (by decide) LH_gd sg0.1 sg0.2) (W := 0) (by decide) (by decide) (k' := 27) rfl (n' := 3903) rfl (by decide) (by decide) rfl pd_1205 (argsL := [(.ref xs29), (.int (0 : Int32)), (.ref b35)]) rfl (rest := []) rfl rfl rfl at_150 (q := 153) rfl ?_
    rintro _ T133 _ X134 ⟨rfl, rfl⟩
    refine g_ifN C X134 at_153 (q := 156) rfl (by decide) ?_
    refine g_aload C X134 at_156 (q := 158) rfl rfl rfl ?_
    refine g_iload C X134 at_158 (q := 160) rfl rfl ?_
    refine g_lload C X134 at_160 (q := 162) rfl rfl ?_
    have nm135 := own_numS (eN := (LH.length + (NB x1 s1).length)) hv1.sg sg1.2 rfl
    refine g_callS1 C X134 (y := (⟨"com/example/large_table_updates/largetableupdates/RunResultSummaryPinLaw", "numAt", "(Ljava/lang/String;IJ)Z"⟩ : MethodName)) (by decide) (w248 hw) (w249 hw) (w250 hw) (w197 hw) (rm_numAt hw (x0 := xs29) (tb := tb30) (kb := kb31) (ls := (SM x1 s1 x2 s2 LD)) (eN := (LH.length + (NB x1 s1).length)) O101 W ⟨f127, f128, f129, f130⟩ hls hgC hv1 (by omega) sg1.1 nm135.1 nm135.2) (W := 0) (by decide) (by decide) (k' := 27) rfl (n' := 3903) rfl (by decide) (by decide) rfl pd_543 (argsL := [(.ref xs29), (.int (o32 (LH.length + (NB x1 s1).length))), (.long rL)]) rfl (rest := []) rfl rfl rfl at_162 (q := 165) rfl ?_
    rintro _ T136 _ X137 ⟨rfl, rfl⟩
    refine g_ifN C X137 at_165 (q := 168) rfl (by decide) ?_
    refine g_aload C X137 at_168 (q := 170) rfl rfl rfl ?_
    refine g_iload C X137 at_170 (q := 172) rfl rfl ?_
    refine g_aload C X137 at_172 (q := 174) rfl rfl rfl ?_
    refine g_callS1 C X137 (y := (⟨"com/example/large_table_updates/largetableupdates/RunResultSummaryPinLaw", "litAt", "(Ljava/lang/String;ILjava/lang/String;)Z"⟩ : MethodName)) (by decide) (w220 hw) (w221 hw) (w222 hw) (w197 hw) (rm_litAt hw (x0 := xs29) (tb := tb30) (kb := kb31) (ls := (SM x1 s1 x2 s2 LD)) (x1 := b52) (tc := b60) (kc := kA61) (l1 := LM) (pN := (LH.length + (NB x1 s1).length)) O101 W ⟨f127, f128, f129, f130⟩ hls hgC ⟨f111, f112, f113, f114⟩ (by decide) LM_gd sg2.1 sg2.2) (W := 0) (by decide) (by decide) (k' := 27) rfl (n' := 3903) rfl (by decide) (by decide) rfl pd_1205 (argsL := [(.ref xs29), (.int (o32 (LH.length + (NB x1 s1).length))), (.ref b52)]) rfl (rest := []) rfl rfl rfl at_174 (q := 177) rfl ?_
    rintro _ T138 _ X139 ⟨rfl, rfl⟩
    refine g_ifN C X139 at_177 (q := 180) rfl (by decide) ?_
    refine g_aload C X139 at_180 (q := 182) rfl rfl rfl ?_
    refine g_iload C X139 at_182 (q := 184) rfl rfl ?_
    refine g_lloadN C X139 at_184 (q := 185) rfl rfl ?_
    have nm140 := own_numS (eN := (((LH.length + (NB x1 s1).length) + LM.length) + (NB x2 s2).length)) hv2.sg sg3.2 rfl
    refine g_callS1 C X139 (y := (⟨"com/example/large_table_updates/largetableupdates/RunResultSummaryPinLaw", "numAt", "(Ljava/lang/String;IJ)Z"⟩ : MethodName)) (by decide) (w248 hw) (w249 hw) (w250 hw) (w197 hw) (rm_numAt hw (x0 := xs29) (tb := tb30) (kb := kb31) (ls := (SM x1 s1 x2 s2 LD)) (eN := (((LH.length + (NB x1 s1).length) + LM.length) + (NB x2 s2).length)) O101 W ⟨f127, f128, f129, f130⟩ hls hgC hv2 (by omega) sg3.1 nm140.1 nm140.2) (W := 0) (by decide) (by decide) (k' := 27) rfl (n' := 3903) rfl (by decide) (by decide) rfl pd_543 (argsL := [(.ref xs29), (.int (o32 (((LH.length + (NB x1 s1).length) + LM.length) + (NB x2 s2).length))), (.long p1)]) rfl (rest := []) rfl rfl rfl at_185 (q := 188) rfl ?_
    rintro _ T141 _ X142 ⟨rfl, rfl⟩
    refine g_ifN C X142 at_188 (q := 191) rfl (by decide) ?_
    refine g_aload C X142 at_191 (q := 193) rfl rfl rfl ?_
    refine g_iload C X142 at_193 (q := 195) rfl rfl ?_
    refine g_aload C X142 at_195 (q := 197) rfl rfl rfl ?_
    refine g_callS1 C X142 (y := (⟨"com/example/large_table_updates/largetableupdates/RunResultSummaryPinLaw", "litAt", "(Ljava/lang/String;ILjava/lang/String;)Z"⟩ : MethodName)) (by decide) (w220 hw) (w221 hw) (w222 hw) (w197 hw) (rm_litAt hw (x0 := xs29) (tb := tb30) (kb := kb31) (ls := (SM x1 s1 x2 s2 LD)) (x1 := b69) (tc := b77) (kc := kA78) (l1 := LT) (pN := (((LH.length + (NB x1 s1).length) + LM.length) + (NB x2 s2).length)) O101 W ⟨f127, f128, f129, f130⟩ hls hgC ⟨f119, f120, f121, f122⟩ (by decide) LT_gd sg4.1 sg4.2) (W := 0) (by decide) (by decide) (k' := 27) rfl (n' := 3903) rfl (by decide) (by decide) rfl pd_1205 (argsL := [(.ref xs29), (.int (o32 (((LH.length + (NB x1 s1).length) + LM.length) + (NB x2 s2).length))), (.ref b69)]) rfl (rest := []) rfl rfl rfl at_197 (q := 200) rfl ?_
    rintro _ T143 _ X144 ⟨rfl, rfl⟩
    refine g_ifN C X144 at_200 (q := 203) rfl (by decide) ?_
    refine g_aload C X144 at_203 (q := 205) rfl rfl rfl ?_
    refine g_iload C X144 at_205 (q := 207) rfl rfl ?_
    refine g_aload C X144 at_207 (q := 209) rfl rfl rfl ?_
    refine g_callS1 C X144 (y := (⟨"com/example/large_table_updates/largetableupdates/RunResultSummaryPinLaw", "litAt", "(Ljava/lang/String;ILjava/lang/String;)Z"⟩ : MethodName)) (by decide) (w220 hw) (w221 hw) (w222 hw) (w197 hw) (rm_litAt hw (x0 := xs29) (tb := tb30) (kb := kb31) (ls := (SM x1 s1 x2 s2 LD)) (x1 := b86) (tc := b94) (kc := kA95) (l1 := LD) (pN := ((((LH.length + (NB x1 s1).length) + LM.length) + (NB x2 s2).length) + LT.length)) O101 W ⟨f127, f128, f129, f130⟩ hls hgC ⟨f96, f98, f97, f99⟩ (by decide) LD_gd sg5.1 sg5.2) (W := 0) (by decide) (by decide) (k' := 27) rfl (n' := 3903) rfl (by decide) (by decide) rfl pd_1205 (argsL := [(.ref xs29), (.int (o32 ((((LH.length + (NB x1 s1).length) + LM.length) + (NB x2 s2).length) + LT.length))), (.ref b86)]) rfl (rest := []) rfl rfl rfl at_209 (q := 212) rfl ?_
    rintro _ T145 _ X146 ⟨rfl, rfl⟩
    refine g_ifN C X146 at_212 (q := 215) rfl (by decide) ?_
    refine g_iconst C X146 at_215 (q := 216) rfl (z := (1 : Int32)) rfl ?_
    refine g_goto C X146 at_216 (by decide) (q := 220) (by decide) ?_
    exact gW_retN C X146 Y91 (own_EL hw) (Or.inl rfl) (z' := 1) (by decide) at_220 (by decide) (by decide) ⟨_, rfl, rfl, trivial⟩
  · refine g_ifN C X at_11 (q := 14) rfl (feq hc1).1 ?_
    refine g_iconst C X at_14 (q := 15) rfl (z := (1 : Int32)) rfl ?_
    refine g_goto C X at_15 (by decide) (q := 19) (by decide) ?_
    refine g_istore C X at_19 (q := 21) rfl (L' := #[.val (.long p0), .second, .val (.long p1), .second, .val (.int p2), .val (.long rL), .second, .val (.int (1 : Int32)), .unset, .unset, .unset, .unset, .unset, .unset, .unset, .unset, .unset, .unset, .unset, .unset]) rfl ?_
    refine g_new C X (w1 hw) (w2 hw) (w3 hw) at_21 (q := 24) rfl (k' := 1) rfl (n' := 3) rfl (by decide) (by decide) ?_
    intro T148 h149 b147 g151 X150 E152 A153 D154
    have ge155 : n0 ≤ b147 := own_ge O g151
    have Y156 := Wx.ext Y E152
    have O157 := O.ext E152
    have f158 : Fld Z h149 b147 "com/example/large_table_updates/largetableupdates/RunResult" "rowsModifiedAtLeast" "J" (.long (0 : Int64)) := D154 (Or.inr (w16 hw)) (ty := .long) (by decide)
    have f159 : Fld Z h149 b147 "com/example/large_table_updates/largetableupdates/RunResult" "partitions" "J" (.long (0 : Int64)) := D154 (Or.inr (w18 hw)) (ty := .long) (by decide)
    have f160 : Fld Z h149 b147 "com/example/large_table_updates/largetableupdates/RunResult" "stoppedEarly" "Z" (.int (0 : Int32)) := D154 (Or.inr (w20 hw)) (ty := .boolean) (by decide)
    refine g_dup C X150 at_24 (q := 25) rfl rfl ?_
    refine g_lload C X150 at_25 (q := 27) rfl rfl ?_
    refine g_lloadN C X150 at_27 (q := 28) rfl rfl ?_
    refine g_iload C X150 at_28 (q := 30) rfl rfl ?_
    refine g_callI0 C X150 (y := (⟨"com/example/large_table_updates/largetableupdates/RunResult", "<init>", "(JJZ)V"⟩ : MethodName)) (a := b147) (by decide) rfl (w4 hw) (w5 hw) (w6 hw) (w3 hw) (rm_rri1 hw (o0 := b147) (rL := rL) (pL := p1) O157 W A153 f158 f159 f160 ge155 hr0) (W := 1) (by decide) (by decide) (k' := 1) rfl (n' := 3) rfl (by decide) (by decide) rfl pd_1204 (argsL := [(.long rL), (.long p1), (.int (1 : Int32))]) rfl (rest := [(.ref b147)]) rfl rfl rfl at_30 (q := 33) rfl ?_
    rintro T161 h162 X163 ⟨K164, R165⟩
    have Y166 := Wx.keep Y156 K164 (sfS (Safe.exa (Cx.alike C) A153 (by decide) (by decide)) sf0)
    have O167 := O157.keep K164 (allS ge155 all0)
    refine g_astore C X163 at_33 (q := 35) rfl rfl (L' := #[.val (.long p0), .second, .val (.long p1), .second, .val (.int p2), .val (.long rL), .second, .val (.int (1 : Int32)), .val (.ref b147), .unset, .unset, .unset, .unset, .unset, .unset, .unset, .unset, .unset, .unset, .unset]) rfl ?_
    refine g_aload C X163 at_35 (q := 37) rfl rfl rfl ?_
    refine gW_callV1 C X163 Y166 (own_EL hw) (y := (⟨"com/example/large_table_updates/largetableupdates/RunResult", "summary", "()Ljava/lang/String;"⟩ : MethodName)) (z := (⟨"com/example/large_table_updates/largetableupdates/RunResult", "summary", "()Ljava/lang/String;"⟩ : MethodName)) (a := b147) (by decide) (w21 hw) (w22 hw) (w24 hw) (w23 hw) (nf_sel (w24 hw)) R165.1 (w25 hw) (w3 hw) (rm_sum1 hw (o0 := b147) (rL := rL) (pL := p1) (x1 := x1) (s1 := s1) (x2 := x2) (s2 := s2) O167 W R165 hv1 hv2) (W := 0) (by decide) (by decide) (k' := 19) rfl (n' := 3779) rfl (by decide) (by decide) rfl pd_1199 (argsL := []) rfl (rest := []) rfl rfl rfl at_37 (q := 40) rfl ?_
    rintro _ T168 h169 vm170 C X171 Y172 R173 ⟨xs174, tb175, kb176, K177, rfl, S178⟩
    have O179 := O167.keep K177 all0
    have el0 : List.length LH = 18 := rfl
    have el1 : List.length LM = 11 := rfl
    have el2 : List.length LT = 13 := rfl
    have el3 : List.length LB = 17 := rfl
    have el4 : List.length LD = 1 := rfl
    have eb1 : List.length (NB x1 s1) ≤ 20 := by have := NB_len x1 s1; have := DG_19 hv1.1; have := hv1.sg; omega
    have eb2 : List.length (NB x2 s2) ≤ 20 := by have := NB_len x2 s2; have := DG_19 hv2.1; have := hv2.sg; omega
    have sg0 := own_seg (C := (SM x1 s1 x2 s2 LB)) (A := ([] : List Int32)) (B := LH) (R := (NB x1 s1) ++ LM ++ (NB x2 s2) ++ LT ++ LB) (n := 0) (by simp only [SM, List.append_assoc, List.nil_append, List.append_nil]) (by simp only [List.length_append, List.length_nil])
    have sg1 := own_seg (C := (SM x1 s1 x2 s2 LB)) (A := LH) (B := (NB x1 s1)) (R := LM ++ (NB x2 s2) ++ LT ++ LB) (n := LH.length) (by simp only [SM, List.append_assoc, List.nil_append, List.append_nil]) (by simp only [List.length_append, List.length_nil])
    have sg2 := own_seg (C := (SM x1 s1 x2 s2 LB)) (A := LH ++ (NB x1 s1)) (B := LM) (R := (NB x2 s2) ++ LT ++ LB) (n := (LH.length + (NB x1 s1).length)) (by simp only [SM, List.append_assoc, List.nil_append, List.append_nil]) (by simp only [List.length_append, List.length_nil])
    have sg3 := own_seg (C := (SM x1 s1 x2 s2 LB)) (A := LH ++ (NB x1 s1) ++ LM) (B := (NB x2 s2)) (R := LT ++ LB) (n := ((LH.length + (NB x1 s1).length) + LM.length)) (by simp only [SM, List.append_assoc, List.nil_append, List.append_nil]) (by simp only [List.length_append, List.length_nil])
    have sg4 := own_seg (C := (SM x1 s1 x2 s2 LB)) (A := LH ++ (NB x1 s1) ++ LM ++ (NB x2 s2)) (B := LT) (R := LB) (n := (((LH.length + (NB x1 s1).length) + LM.length) + (NB x2 s2).length)) (by simp only [SM, List.append_assoc, List.nil_append, List.append_nil]) (by simp only [List.length_append, List.length_nil])
    have sg5 := own_seg (C := (SM x1 s1 x2 s2 LB)) (A := LH ++ (NB x1 s1) ++ LM ++ (NB x2 s2) ++ LT) (B := LB) (R := ([] : List Int32)) (n := ((((LH.length + (NB x1 s1).length) + LM.length) + (NB x2 s2).length) + LT.length)) (by simp only [SM, List.append_assoc, List.nil_append, List.append_nil]) (by simp only [List.length_append, List.length_nil])
    have hTot : (SM x1 s1 x2 s2 LB).length = (((((LH.length + (NB x1 s1).length) + LM.length) + (NB x2 s2).length) + LT.length) + LB.length) := by simp only [SM, List.length_append]
    have hls : (SM x1 s1 x2 s2 LB).length < 200 := by rw [hTot]; omega
    have hgC : Gd (SM x1 s1 x2 s2 LB) := (own_gA (own_gA (own_gA (own_gA (own_gA LH_gd (NB_gd _ _)) LM_gd) (NB_gd _ _)) LT_gd) LB_gd)
    refine g_astore C X171 at_40 (q := 42) rfl rfl (L' := #[.val (.long p0), .second, .val (.long p1), .second, .val (.int p2), .val (.long rL), .second, .val (.int (1 : Int32)), .val (.ref b147), .val (.ref xs174), .unset, .unset, .unset, .unset, .unset, .unset, .unset, .unset, .unset, .unset]) rfl ?_
    refine g_aload C X171 at_42 (q := 44) rfl rfl rfl ?_
    refine g_nonY C X171 at_44 (by decide) (q := 49) (by decide) ?_
    refine gW_ldcC C X171 Y172 (own_EL hw) (vs := [(.int (77 : Int32)), (.int (111 : Int32)), (.int (100 : Int32)), (.int (105 : Int32)), (.int (102 : Int32)), (.int (105 : Int32)), (.int (101 : Int32)), (.int (100 : Int32)), (.int (32 : Int32)), (.int (97 : Int32)), (.int (116 : Int32)), (.int (32 : Int32)), (.int (108 : Int32)), (.int (101 : Int32)), (.int (97 : Int32)), (.int (115 : Int32)), (.int (116 : Int32)), (.int (32 : Int32))]) (z := 18) (w190 hw) (own_SA hw) (List.mem_of_getElem? (i := 5) rfl) ⟨by decide, by decide +kernel⟩ (by decide) rfl at_49 (q := 51) rfl (nn := 72) (by decide) (by decide) (k' := 21) rfl (n' := 3855) rfl (by decide) (by decide) ?_
    intro b180 b188 kA189 T181 h182 vm183 C X184 Y185 E186 R187 f190 f191 f192 f193 sf194
    have O195 := O179.ext E186
    have F196 : Str Z h182 b180 [(77 : Int32), (111 : Int32), (100 : Int32), (105 : Int32), (102 : Int32), (105 : Int32), (101 : Int32), (100 : Int32), (32 : Int32), (97 : Int32), (116 : Int32), (32 : Int32), (108 : Int32), (101 : Int32), (97 : Int32), (115 : Int32), (116 : Int32), (32 : Int32)] := ⟨b188, kA189, f190, f192, f191, f193, by decide, by decide⟩
    refine g_astore C X184 at_51 (q := 53) rfl rfl (L' := #[.val (.long p0), .second, .val (.long p1), .second, .val (.int p2), .val (.long rL), .second, .val (.int (1 : Int32)), .val (.ref b147), .val (.ref xs174), .val (.ref b180), .unset, .unset, .unset, .unset, .unset, .unset, .unset, .unset, .unset]) rfl ?_
    refine gW_ldcC C X184 Y185 (own_EL hw) (vs := [(.int (32 : Int32)), (.int (114 : Int32)), (.int (111 : Int32)), (.int (119 : Int32)), (.int (40 : Int32)), (.int (115 : Int32)), (.int (41 : Int32)), (.int (32 : Int32)), (.int (105 : Int32)), (.int (110 : Int32)), (.int (32 : Int32))]) (z := 11) (w191 hw) (own_SA hw) (List.mem_of_getElem? (i := 6) rfl) ⟨by decide, by decide +kernel⟩ (by decide) rfl at_53 (q := 55) rfl (nn := 44) (by decide) (by decide) (k' := 23) rfl (n' := 3903) rfl (by decide) (by decide) ?_
    intro b197 b205 kA206 T198 h199 vm200 C X201 Y202 E203 R204 f207 f208 f209 f210 sf211
    have O212 := O195.ext E203
    have F213 : Str Z h199 b197 [(32 : Int32), (114 : Int32), (111 : Int32), (119 : Int32), (40 : Int32), (115 : Int32), (41 : Int32), (32 : Int32), (105 : Int32), (110 : Int32), (32 : Int32)] := ⟨b205, kA206, f207, f209, f208, f210, by decide, by decide⟩
    refine g_astore C X201 at_55 (q := 57) rfl rfl (L' := #[.val (.long p0), .second, .val (.long p1), .second, .val (.int p2), .val (.long rL), .second, .val (.int (1 : Int32)), .val (.ref b147), .val (.ref xs174), .val (.ref b180), .val (.ref b197), .unset, .unset, .unset, .unset, .unset, .unset, .unset, .unset]) rfl ?_
    refine gW_ldcC C X201 Y202 (own_EL hw) (vs := [(.int (32 : Int32)), (.int (112 : Int32)), (.int (97 : Int32)), (.int (114 : Int32)), (.int (116 : Int32)), (.int (105 : Int32)), (.int (116 : Int32)), (.int (105 : Int32)), (.int (111 : Int32)), (.int (110 : Int32)), (.int (40 : Int32)), (.int (115 : Int32)), (.int (41 : Int32))]) (z := 13) (w192 hw) (own_SA hw) (List.mem_of_getElem? (i := 7) rfl) ⟨by decide, by decide +kernel⟩ (by decide) rfl at_57 (q := 59) rfl (nn := 52) (by decide) (by decide) (k' := 25) rfl (n' := 3959) rfl (by decide) (by decide) ?_
    intro b214 b222 kA223 T215 h216 vm217 C X218 Y219 E220 R221 f224 f225 f226 f227 sf228
    have O229 := O212.ext E220
    have F230 : Str Z h216 b214 [(32 : Int32), (112 : Int32), (97 : Int32), (114 : Int32), (116 : Int32), (105 : Int32), (116 : Int32), (105 : Int32), (111 : Int32), (110 : Int32), (40 : Int32), (115 : Int32), (41 : Int32)] := ⟨b222, kA223, f224, f226, f225, f227, by decide, by decide⟩
    refine g_astore C X218 at_59 (q := 61) rfl rfl (L' := #[.val (.long p0), .second, .val (.long p1), .second, .val (.int p2), .val (.long rL), .second, .val (.int (1 : Int32)), .val (.ref b147), .val (.ref xs174), .val (.ref b180), .val (.ref b197), .val (.ref b214), .unset, .unset, .unset, .unset, .unset, .unset, .unset]) rfl ?_
    refine g_iload C X218 at_61 (q := 63) rfl rfl ?_
    refine g_ifN C X218 at_63 (q := 66) rfl (by decide) ?_
    refine gW_ldcC C X218 Y219 (own_EL hw) (vs := [(.int (32 : Int32)), (.int (98 : Int32)), (.int (101 : Int32)), (.int (102 : Int32)), (.int (111 : Int32)), (.int (114 : Int32)), (.int (101 : Int32)), (.int (32 : Int32)), (.int (115 : Int32)), (.int (116 : Int32)), (.int (111 : Int32)), (.int (112 : Int32)), (.int (112 : Int32)), (.int (105 : Int32)), (.int (110 : Int32)), (.int (103 : Int32)), (.int (46 : Int32))]) (z := 17) (w258 hw) (own_SA hw) (List.mem_of_getElem? (i := 8) rfl) ⟨by decide, by decide +kernel⟩ (by decide) rfl at_66 (q := 68) rfl (nn := 68) (by decide) (by decide) (k' := 27) rfl (n' := 4031) rfl (by decide) (by decide) ?_
    intro b231 b239 kA240 T232 h233 vm234 C X235 Y236 E237 R238 f241 f242 f243 f244 sf245
    have O246 := O229.ext E237
    have F247 : Str Z h233 b231 [(32 : Int32), (98 : Int32), (101 : Int32), (102 : Int32), (111 : Int32), (114 : Int32), (101 : Int32), (32 : Int32), (115 : Int32), (116 : Int32), (111 : Int32), (112 : Int32), (112 : Int32), (105 : Int32), (110 : Int32), (103 : Int32), (46 : Int32)] := ⟨b239, kA240, f241, f243, f242, f244, by decide, by decide⟩
    refine g_astore C X235 at_68 (q := 70) rfl rfl (L' := #[.val (.long p0), .second, .val (.long p1), .second, .val (.int p2), .val (.long rL), .second, .val (.int (1 : Int32)), .val (.ref b147), .val (.ref xs174), .val (.ref b180), .val (.ref b197), .val (.ref b214), .val (.ref b231), .unset, .unset, .unset, .unset, .unset, .unset]) rfl ?_
    refine g_goto C X235 at_70 (by decide) (q := 77) (by decide) ?_
    refine g_aload C X235 at_77 (q := 79) rfl rfl rfl ?_
    have f248 := (((f190.ext E203).ext E220).ext E237)
    have f249 := (((f192.ext E203).ext E220).ext E237)
    have f250 := (((f191.ext E203).ext E220).ext E237)
    have f251 := (((f193.ext E203).ext E220).ext E237)
    refine g_callV1 C X235 (y := (⟨"java/lang/String", "length", "()I"⟩ : MethodName)) (z := (⟨"java/lang/String", "length", "()I"⟩ : MethodName)) (a := b180) (by decide) (w194 hw) (w64 hw) (w66 hw) (w65 hw) (nf_sel (w66 hw)) f248 (w67 hw) (w27 hw) (rm_slen hw (x0 := b180) (tb := b188) (kb := kA189) (ls := LH) O246 W ⟨f248, f249, f250, f251⟩ (by decide)) (W := 0) (by decide) (by decide) (k' := 27) rfl (n' := 4031) rfl (by decide) (by decide) rfl pd_164 (argsL := []) rfl (rest := []) rfl rfl rfl at_79 (q := 82) rfl ?_
    rintro _ T252 _ X253 ⟨rfl, rfl⟩
    refine g_istore C X253 at_82 (q := 84) rfl (L' := #[.val (.long p0), .second, .val (.long p1), .second, .val (.int p2), .val (.long rL), .second, .val (.int (1 : Int32)), .val (.ref b147), .val (.ref xs174), .val (.ref b180), .val (.ref b197), .val (.ref b214), .val (.ref b231), .val (.int (o32 LH.length)), .unset, .unset, .unset, .unset, .unset]) rfl ?_
    refine g_iload C X253 at_84 (q := 86) rfl rfl ?_
    refine g_lload C X253 at_86 (q := 88) rfl rfl ?_
    refine g_callS1 C X253 (y := (⟨"com/example/large_table_updates/largetableupdates/RunResultSummaryPinLaw", "width", "(J)I"⟩ : MethodName)) (by decide) (w195 hw) (w196 hw) (w198 hw) (w197 hw) (rm_width hw O246 W hv1) (W := 1) (by decide) (by decide) (k' := 27) rfl (n' := 4031) rfl (by decide) (by decide) rfl pd_465 (argsL := [(.long rL)]) rfl (rest := [(.int (o32 LH.length))]) rfl rfl rfl at_88 (q := 91) rfl ?_
    rintro _ T254 _ X255 ⟨rfl, rfl⟩
    refine g_iadd C X255 at_91 (q := 92) rfl (z := (o32 (LH.length + (NB x1 s1).length))) (r_add LH.length (by omega) (NB x1 s1).length (by omega)) ?_
    refine g_istore C X255 at_92 (q := 94) rfl (L' := #[.val (.long p0), .second, .val (.long p1), .second, .val (.int p2), .val (.long rL), .second, .val (.int (1 : Int32)), .val (.ref b147), .val (.ref xs174), .val (.ref b180), .val (.ref b197), .val (.ref b214), .val (.ref b231), .val (.int (o32 LH.length)), .val (.int (o32 (LH.length + (NB x1 s1).length))), .unset, .unset, .unset, .unset]) rfl ?_
    refine g_iload C X255 at_94 (q := 96) rfl rfl ?_
    refine g_aload C X255 at_96 (q := 98) rfl rfl rfl ?_
    have f256 := ((f207.ext E220).ext E237)
    have f257 := ((f209.ext E220).ext E237)
    have f258 := ((f208.ext E220).ext E237)
    have f259 := ((f210.ext E220).ext E237)
    refine g_callV1 C X255 (y := (⟨"java/lang/String", "length", "()I"⟩ : MethodName)) (z := (⟨"java/lang/String", "length", "()I"⟩ : MethodName)) (a := b197) (by decide) (w194 hw) (w64 hw) (w66 hw) (w65 hw) (nf_sel (w66 hw)) f256 (w67 hw) (w27 hw) (rm_slen hw (x0 := b197) (tb := b205) (kb := kA206) (ls := LM) O246 W ⟨f256, f257, f258, f259⟩ (by decide)) (W := 1) (by decide) (by decide) (k' := 27) rfl (n' := 4031) rfl (by decide) (by decide) rfl pd_164 (argsL := []) rfl (rest := [(.int (o32 (LH.length + (NB x1 s1).length)))]) rfl rfl rfl at_98 (q := 101) rfl ?_
    rintro _ T260 _ X261 ⟨rfl, rfl⟩
    refine g_iadd C X261 at_101 (q := 102) rfl (z := (o32 ((LH.length + (NB x1 s1).length) + LM.length))) (r_add (LH.length + (NB x1 s1).length) (by omega) LM.length (by omega)) ?_
    refine g_istore C X261 at_102 (q := 104) rfl (L' := #[.val (.long p0), .second, .val (.long p1), .second, .val (.int p2), .val (.long rL), .second, .val (.int (1 : Int32)), .val (.ref b147), .val (.ref xs174), .val (.ref b180), .val (.ref b197), .val (.ref b214), .val (.ref b231), .val (.int (o32 LH.length)), .val (.int (o32 (LH.length + (NB x1 s1).length))), .val (.int (o32 ((LH.length + (NB x1 s1).length) + LM.length))), .unset, .unset, .unset]) rfl ?_
    refine g_iload C X261 at_104 (q := 106) rfl rfl ?_
    refine g_lloadN C X261 at_106 (q := 107) rfl rfl ?_
    refine g_callS1 C X261 (y := (⟨"com/example/large_table_updates/largetableupdates/RunResultSummaryPinLaw", "width", "(J)I"⟩ : MethodName)) (by decide) (w195 hw) (w196 hw) (w198 hw) (w197 hw) (rm_width hw O246 W hv2) (W := 1) (by decide) (by decide) (k' := 27) rfl (n' := 4031) rfl (by decide) (by decide) rfl pd_465 (argsL := [(.long p1)]) rfl (rest := [(.int (o32 ((LH.length + (NB x1 s1).length) + LM.length)))]) rfl rfl rfl at_107 (q := 110) rfl ?_
    rintro _ T262 _ X263 ⟨rfl, rfl⟩
    refine g_iadd C X263 at_110 (q := 111) rfl (z := (o32 (((LH.length + (NB x1 s1).length) + LM.length) + (NB x2 s2).length))) (r_add ((LH.length + (NB x1 s1).length) + LM.length) (by omega) (NB x2 s2).length (by omega)) ?_
    refine g_istore C X263 at_111 (q := 113) rfl (L' := #[.val (.long p0), .second, .val (.long p1), .second, .val (.int p2), .val (.long rL), .second, .val (.int (1 : Int32)), .val (.ref b147), .val (.ref xs174), .val (.ref b180), .val (.ref b197), .val (.ref b214), .val (.ref b231), .val (.int (o32 LH.length)), .val (.int (o32 (LH.length + (NB x1 s1).length))), .val (.int (o32 ((LH.length + (NB x1 s1).length) + LM.length))), .val (.int (o32 (((LH.length + (NB x1 s1).length) + LM.length) + (NB x2 s2).length))), .unset, .unset]) rfl ?_
    refine g_iload C X263 at_113 (q := 115) rfl rfl ?_
    refine g_aload C X263 at_115 (q := 117) rfl rfl rfl ?_
    have f264 := (f224.ext E237)
    have f265 := (f226.ext E237)
    have f266 := (f225.ext E237)
    have f267 := (f227.ext E237)
    refine g_callV1 C X263 (y := (⟨"java/lang/String", "length", "()I"⟩ : MethodName)) (z := (⟨"java/lang/String", "length", "()I"⟩ : MethodName)) (a := b214) (by decide) (w194 hw) (w64 hw) (w66 hw) (w65 hw) (nf_sel (w66 hw)) f264 (w67 hw) (w27 hw) (rm_slen hw (x0 := b214) (tb := b222) (kb := kA223) (ls := LT) O246 W ⟨f264, f265, f266, f267⟩ (by decide)) (W := 1) (by decide) (by decide) (k' := 27) rfl (n' := 4031) rfl (by decide) (by decide) rfl pd_164 (argsL := []) rfl (rest := [(.int (o32 (((LH.length + (NB x1 s1).length) + LM.length) + (NB x2 s2).length)))]) rfl rfl rfl at_117 (q := 120) rfl ?_
    rintro _ T268 _ X269 ⟨rfl, rfl⟩
    refine g_iadd C X269 at_120 (q := 121) rfl (z := (o32 ((((LH.length + (NB x1 s1).length) + LM.length) + (NB x2 s2).length) + LT.length))) (r_add (((LH.length + (NB x1 s1).length) + LM.length) + (NB x2 s2).length) (by omega) LT.length (by omega)) ?_
    refine g_istore C X269 at_121 (q := 123) rfl (L' := #[.val (.long p0), .second, .val (.long p1), .second, .val (.int p2), .val (.long rL), .second, .val (.int (1 : Int32)), .val (.ref b147), .val (.ref xs174), .val (.ref b180), .val (.ref b197), .val (.ref b214), .val (.ref b231), .val (.int (o32 LH.length)), .val (.int (o32 (LH.length + (NB x1 s1).length))), .val (.int (o32 ((LH.length + (NB x1 s1).length) + LM.length))), .val (.int (o32 (((LH.length + (NB x1 s1).length) + LM.length) + (NB x2 s2).length))), .val (.int (o32 ((((LH.length + (NB x1 s1).length) + LM.length) + (NB x2 s2).length) + LT.length))), .unset]) rfl ?_
    refine g_iload C X269 at_123 (q := 125) rfl rfl ?_
    refine g_aload C X269 at_125 (q := 127) rfl rfl rfl ?_
    refine g_callV1 C X269 (y := (⟨"java/lang/String", "length", "()I"⟩ : MethodName)) (z := (⟨"java/lang/String", "length", "()I"⟩ : MethodName)) (a := b231) (by decide) (w194 hw) (w64 hw) (w66 hw) (w65 hw) (nf_sel (w66 hw)) f241 (w67 hw) (w27 hw) (rm_slen hw (x0 := b231) (tb := b239) (kb := kA240) (ls := LB) O246 W ⟨f241, f243, f242, f244⟩ (by decide)) (W := 1) (by decide) (by decide) (k' := 27) rfl (n' := 4031) rfl (by decide) (by decide) rfl pd_164 (argsL := []) rfl (rest := [(.int (o32 ((((LH.length + (NB x1 s1).length) + LM.length) + (NB x2 s2).length) + LT.length)))]) rfl rfl rfl at_127 (q := 130) rfl ?_
    rintro _ T270 _ X271 ⟨rfl, rfl⟩
    refine g_iadd C X271 at_130 (q := 131) rfl (z := (o32 (((((LH.length + (NB x1 s1).length) + LM.length) + (NB x2 s2).length) + LT.length) + LB.length))) (r_add ((((LH.length + (NB x1 s1).length) + LM.length) + (NB x2 s2).length) + LT.length) (by omega) LB.length (by omega)) ?_
    refine g_istore C X271 at_131 (q := 133) rfl (L' := #[.val (.long p0), .second, .val (.long p1), .second, .val (.int p2), .val (.long rL), .second, .val (.int (1 : Int32)), .val (.ref b147), .val (.ref xs174), .val (.ref b180), .val (.ref b197), .val (.ref b214), .val (.ref b231), .val (.int (o32 LH.length)), .val (.int (o32 (LH.length + (NB x1 s1).length))), .val (.int (o32 ((LH.length + (NB x1 s1).length) + LM.length))), .val (.int (o32 (((LH.length + (NB x1 s1).length) + LM.length) + (NB x2 s2).length))), .val (.int (o32 ((((LH.length + (NB x1 s1).length) + LM.length) + (NB x2 s2).length) + LT.length))), .val (.int (o32 (((((LH.length + (NB x1 s1).length) + LM.length) + (NB x2 s2).length) + LT.length) + LB.length)))]) rfl ?_
    refine g_aload C X271 at_133 (q := 135) rfl rfl rfl ?_
    have f272 := ((((S178.1.ext E186).ext E203).ext E220).ext E237)
    have f273 := ((((S178.2.1.ext E186).ext E203).ext E220).ext E237)
    have f274 := ((((S178.2.2.1.ext E186).ext E203).ext E220).ext E237)
    have f275 := ((((S178.2.2.2.ext E186).ext E203).ext E220).ext E237)
    refine g_callV1 C X271 (y := (⟨"java/lang/String", "length", "()I"⟩ : MethodName)) (z := (⟨"java/lang/String", "length", "()I"⟩ : MethodName)) (a := xs174) (by decide) (w194 hw) (w64 hw) (w66 hw) (w65 hw) (nf_sel (w66 hw)) f272 (w67 hw) (w27 hw) (rm_slen hw (x0 := xs174) (tb := tb175) (kb := kb176) (ls := (SM x1 s1 x2 s2 LB)) O246 W ⟨f272, f273, f274, f275⟩ hls) (W := 0) (by decide) (by decide) (k' := 27) rfl (n' := 4031) rfl (by decide) (by decide) rfl pd_164 (argsL := []) rfl (rest := []) rfl rfl rfl at_135 (q := 138) rfl ?_
    rintro _ T276 _ X277 ⟨rfl, rfl⟩
    refine g_iload C X277 at_138 (q := 140) rfl rfl ?_
    refine g_icY C X277 at_140 (by decide) (q := 145) (by decide) (teq (congrArg o32 hTot)).1 ?_
    refine g_aload C X277 at_145 (q := 147) rfl rfl rfl ?_
    refine g_iconst C X277 at_147 (q := 148) rfl (z := (0 : Int32)) rfl ?_
    refine g_aload C X277 at_148 (q := 150) rfl rfl rfl ?_
    refine g_callS1 C X277 (y := (⟨"com/example/large_table_updates/largetableupdates/RunResultSummaryPinLaw", "litAt", "(Ljava/lang/String;ILjava/lang/String;)Z"⟩ : MethodName)) (by decide) (w220 hw) (w221 hw) (w222 hw) (w197 hw) (rm_litAt hw (x0 := xs174) (tb := tb175) (kb := kb176) (ls := (SM x1 s1 x2 s2 LB)) (x1 := b180) (tc := b188) (kc := kA189) (l1 := LH) (pN := 0) O246 W ⟨f272, f273, f274, f275⟩ hls hgC ⟨f248, f249, f250, f251⟩ (by decide) LH_gd sg0.1 sg0.2) (W := 0) (by decide) (by decide) (k' := 27) rfl (n' := 4031) rfl (by decide) (by decide) rfl pd_1205 (argsL := [(.ref xs174), (.int (0 : Int32)), (.ref b180)]) rfl (rest := []) rfl rfl rfl at_150 (q := 153) rfl ?_
    rintro _ T278 _ X279 ⟨rfl, rfl⟩
    refine g_ifN C X279 at_153 (q := 156) rfl (by decide) ?_
    refine g_aload C X279 at_156 (q := 158) rfl rfl rfl ?_
    refine g_iload C X279 at_158 (q := 160) rfl rfl ?_
    refine g_lload C X279 at_160 (q := 162) rfl rfl ?_
    have nm280 := own_numS (eN := (LH.length + (NB x1 s1).length)) hv1.sg sg1.2 rfl
    refine g_callS1 C X279 (y := (⟨"com/example/large_table_updates/largetableupdates/RunResultSummaryPinLaw", "numAt", "(Ljava/lang/String;IJ)Z"⟩ : MethodName)) (by decide) (w248 hw) (w249 hw) (w250 hw) (w197 hw) (rm_numAt hw (x0 := xs174) (tb := tb175) (kb := kb176) (ls := (SM x1 s1 x2 s2 LB)) (eN := (LH.length + (NB x1 s1).length)) O246 W ⟨f272, f273, f274, f275⟩ hls hgC hv1 (by omega) sg1.1 nm280.1 nm280.2) (W := 0) (by decide) (by decide) (k' := 27) rfl (n' := 4031) rfl (by decide) (by decide) rfl pd_543 (argsL := [(.ref xs174), (.int (o32 (LH.length + (NB x1 s1).length))), (.long rL)]) rfl (rest := []) rfl rfl rfl at_162 (q := 165) rfl ?_
    rintro _ T281 _ X282 ⟨rfl, rfl⟩
    refine g_ifN C X282 at_165 (q := 168) rfl (by decide) ?_
    refine g_aload C X282 at_168 (q := 170) rfl rfl rfl ?_
    refine g_iload C X282 at_170 (q := 172) rfl rfl ?_
    refine g_aload C X282 at_172 (q := 174) rfl rfl rfl ?_
    refine g_callS1 C X282 (y := (⟨"com/example/large_table_updates/largetableupdates/RunResultSummaryPinLaw", "litAt", "(Ljava/lang/String;ILjava/lang/String;)Z"⟩ : MethodName)) (by decide) (w220 hw) (w221 hw) (w222 hw) (w197 hw) (rm_litAt hw (x0 := xs174) (tb := tb175) (kb := kb176) (ls := (SM x1 s1 x2 s2 LB)) (x1 := b197) (tc := b205) (kc := kA206) (l1 := LM) (pN := (LH.length + (NB x1 s1).length)) O246 W ⟨f272, f273, f274, f275⟩ hls hgC ⟨f256, f257, f258, f259⟩ (by decide) LM_gd sg2.1 sg2.2) (W := 0) (by decide) (by decide) (k' := 27) rfl (n' := 4031) rfl (by decide) (by decide) rfl pd_1205 (argsL := [(.ref xs174), (.int (o32 (LH.length + (NB x1 s1).length))), (.ref b197)]) rfl (rest := []) rfl rfl rfl at_174 (q := 177) rfl ?_
    rintro _ T283 _ X284 ⟨rfl, rfl⟩
    refine g_ifN C X284 at_177 (q := 180) rfl (by decide) ?_
    refine g_aload C X284 at_180 (q := 182) rfl rfl rfl ?_
    refine g_iload C X284 at_182 (q := 184) rfl rfl ?_
    refine g_lloadN C X284 at_184 (q := 185) rfl rfl ?_
    have nm285 := own_numS (eN := (((LH.length + (NB x1 s1).length) + LM.length) + (NB x2 s2).length)) hv2.sg sg3.2 rfl
    refine g_callS1 C X284 (y := (⟨"com/example/large_table_updates/largetableupdates/RunResultSummaryPinLaw", "numAt", "(Ljava/lang/String;IJ)Z"⟩ : MethodName)) (by decide) (w248 hw) (w249 hw) (w250 hw) (w197 hw) (rm_numAt hw (x0 := xs174) (tb := tb175) (kb := kb176) (ls := (SM x1 s1 x2 s2 LB)) (eN := (((LH.length + (NB x1 s1).length) + LM.length) + (NB x2 s2).length)) O246 W ⟨f272, f273, f274, f275⟩ hls hgC hv2 (by omega) sg3.1 nm285.1 nm285.2) (W := 0) (by decide) (by decide) (k' := 27) rfl (n' := 4031) rfl (by decide) (by decide) rfl pd_543 (argsL := [(.ref xs174), (.int (o32 (((LH.length + (NB x1 s1).length) + LM.length) + (NB x2 s2).length))), (.long p1)]) rfl (rest := []) rfl rfl rfl at_185 (q := 188) rfl ?_
    rintro _ T286 _ X287 ⟨rfl, rfl⟩
    refine g_ifN C X287 at_188 (q := 191) rfl (by decide) ?_
    refine g_aload C X287 at_191 (q := 193) rfl rfl rfl ?_
    refine g_iload C X287 at_193 (q := 195) rfl rfl ?_
    refine g_aload C X287 at_195 (q := 197) rfl rfl rfl ?_
    refine g_callS1 C X287 (y := (⟨"com/example/large_table_updates/largetableupdates/RunResultSummaryPinLaw", "litAt", "(Ljava/lang/String;ILjava/lang/String;)Z"⟩ : MethodName)) (by decide) (w220 hw) (w221 hw) (w222 hw) (w197 hw) (rm_litAt hw (x0 := xs174) (tb := tb175) (kb := kb176) (ls := (SM x1 s1 x2 s2 LB)) (x1 := b214) (tc := b222) (kc := kA223) (l1 := LT) (pN := (((LH.length + (NB x1 s1).length) + LM.length) + (NB x2 s2).length)) O246 W ⟨f272, f273, f274, f275⟩ hls hgC ⟨f264, f265, f266, f267⟩ (by decide) LT_gd sg4.1 sg4.2) (W := 0) (by decide) (by decide) (k' := 27) rfl (n' := 4031) rfl (by decide) (by decide) rfl pd_1205 (argsL := [(.ref xs174), (.int (o32 (((LH.length + (NB x1 s1).length) + LM.length) + (NB x2 s2).length))), (.ref b214)]) rfl (rest := []) rfl rfl rfl at_197 (q := 200) rfl ?_
    rintro _ T288 _ X289 ⟨rfl, rfl⟩
    refine g_ifN C X289 at_200 (q := 203) rfl (by decide) ?_
    refine g_aload C X289 at_203 (q := 205) rfl rfl rfl ?_
    refine g_iload C X289 at_205 (q := 207) rfl rfl ?_
    refine g_aload C X289 at_207 (q := 209) rfl rfl rfl ?_
    refine g_callS1 C X289 (y := (⟨"com/example/large_table_updates/largetableupdates/RunResultSummaryPinLaw", "litAt", "(Ljava/lang/String;ILjava/lang/String;)Z"⟩ : MethodName)) (by decide) (w220 hw) (w221 hw) (w222 hw) (w197 hw) (rm_litAt hw (x0 := xs174) (tb := tb175) (kb := kb176) (ls := (SM x1 s1 x2 s2 LB)) (x1 := b231) (tc := b239) (kc := kA240) (l1 := LB) (pN := ((((LH.length + (NB x1 s1).length) + LM.length) + (NB x2 s2).length) + LT.length)) O246 W ⟨f272, f273, f274, f275⟩ hls hgC ⟨f241, f243, f242, f244⟩ (by decide) LB_gd sg5.1 sg5.2) (W := 0) (by decide) (by decide) (k' := 27) rfl (n' := 4031) rfl (by decide) (by decide) rfl pd_1205 (argsL := [(.ref xs174), (.int (o32 ((((LH.length + (NB x1 s1).length) + LM.length) + (NB x2 s2).length) + LT.length))), (.ref b231)]) rfl (rest := []) rfl rfl rfl at_209 (q := 212) rfl ?_
    rintro _ T290 _ X291 ⟨rfl, rfl⟩
    refine g_ifN C X291 at_212 (q := 215) rfl (by decide) ?_
    refine g_iconst C X291 at_215 (q := 216) rfl (z := (1 : Int32)) rfl ?_
    refine g_goto C X291 at_216 (by decide) (q := 220) (by decide) ?_
    exact gW_retN C X291 Y236 (own_EL hw) (Or.inl rfl) (z' := 1) (by decide) at_220 (by decide) (by decide) ⟨_, rfl, rfl, trivial⟩
set_option maxRecDepth 65536 in
set_option maxHeartbeats 40000000 in
theorem comes_1 {Post : Tables → Env → Array Value → State → Outcome → State → Prop} (hpost : ∀ tb e args s v u, (limb_1_1.after args s (.returned v) u = true ∧ limb_1_2.after args s (.returned v) u = true ∧ True) → ReturnedEndW s (.returned v) u (Jvm.fieldLocs frame_1_writes args s ++ Jvm.arrayLocs frame_1_arrays args s ++ Jvm.staticLocs frame_1_statics s) 48 11136 → Post tb e args s (.returned v) u) :
    ArmFor flags0 classFile x code maxLocals ret World_1 tables_1 room_1 Calls_1 rest_1 Pre_1 Post := by
  intro l hfl _ _ p e ha hc hk s m args below hf hA hF happ hP
  obtain ⟨hcalls, hrest, hpre⟩ := hP
  obtain ⟨-, -, -, hnamed, -, -, -, hat⟩ := (Spec.applies_iff hf).mp happ
  obtain ⟨hg, hn⟩ := and_e (Cond.before_iff.mp (show (Jvm.Cond.and given_1 narrow_1).before args s = true from hpre))
  obtain ⟨y1, y2⟩ := and_e hg
  obtain ⟨y3, y4⟩ := and_e y2
  obtain ⟨y5, y6⟩ := and_e y4
  obtain ⟨u0, u1, u2, rfl⟩ : ∃ u0 u1 u2 : Value, args = #[u0, u1, u2] := by
    have hs : args.size = 3 := by simpa [Cond.value, given_1] using y1
    obtain ⟨L⟩ := args
    match L, hs with
    | [u0, u1, u2], _ => exact ⟨u0, u1, u2, rfl⟩
  have hw := fun d (hd : d ∈ tables_1) => atoms_spec (ws := Jvm.Cond.code x code maxLocals ret :: tables_1) hat d (List.mem_cons_of_mem _ hd)
  have hfit : Fit s := fun {y c} hc i hi => by
    obtain ⟨ha, rfl⟩ := Array.getElem?_eq_some_iff.mp hc
    have q := List.all_eq_true.mp ((Array.all_eq_true_iff_forall_mem.mp hF) _ (Array.getElem_mem ha)) i (List.mem_range.mpr hi)
    simpa [Array.getElem?_eq_getElem hi] using q
  obtain ⟨hsets, hown0⟩ := atoms_of _ (rest_1_c_eq ▸ (show rest_1_c.before _ s = true from hrest))
  have hr0 := Cond.before_iff.mp hown0
  obtain ⟨i0, ei0⟩ := isL_v y3
  obtain rfl : u0 = (.long i0) := Option.some.inj ei0
  obtain ⟨i1, ei1⟩ := isL_v y5
  obtain rfl : u1 = (.long i1) := Option.some.inj ei1
  obtain ⟨i2, ei2⟩ := is_v y6
  obtain rfl : u2 = (.int i2) := Option.some.inj ei2
  obtain ⟨cz, ecz⟩ := is_v (Cond.before_iff.mp (hsets _ (List.mem_of_getElem? (i := 1) rfl)))
  have SCz : Sta s s.heap "java/lang/String" "COMPACT_STRINGS" "Z" (.int cz) := Sta.start ecz (Or.inl (hsets _ (List.mem_of_getElem? (i := 0) rfl)))
  have hcz : ¬ cz = 0 := gotF (Cond.eq_ints ecz (Term.int_eval (0))) (not_v (Cond.before_iff.mp (hsets _ (List.mem_of_getElem? (i := 2) rfl))))
  obtain ⟨fm, efm, hfm⟩ := isR_v (Cond.before_iff.mp (hsets _ (List.mem_of_getElem? (i := 8) rfl)))
  have SFm : Sta s s.heap "jdk/internal/util/Preconditions" "SIOOBE_FORMATTER" "Ljava/util/function/BiFunction;" fm := Sta.start efm (Or.inl (hsets _ (List.mem_of_getElem? (i := 7) rfl)))
  obtain ⟨dO, kO, SdO, VdO⟩ := own_tab (F := fun r => o32 (48 + r % 10)) hfit (hsets _ (List.mem_of_getElem? (i := 12) rfl)) (hsets _ (List.mem_of_getElem? (i := 13) rfl)) (hsets _ (List.mem_of_getElem? (i := 14) rfl)) (w29 hw) (hsets _ (List.mem_of_getElem? (i := 11) rfl)) (fun r hr => by show _ = some (Value.int (Int32.ofNat (48 + r % 10))); rw [← Jvm.Free.SBG.ones_num r hr]; rfl)
  obtain ⟨dT, kT, SdT, VdT⟩ := own_tab (F := fun r => o32 (48 + r / 10)) hfit (hsets _ (List.mem_of_getElem? (i := 17) rfl)) (hsets _ (List.mem_of_getElem? (i := 18) rfl)) (hsets _ (List.mem_of_getElem? (i := 19) rfl)) (w29 hw) (hsets _ (List.mem_of_getElem? (i := 16) rfl)) (fun r hr => by show _ = some (Value.int (Int32.ofNat (48 + r / 10))); rw [← Jvm.Free.SBG.tens_num r hr]; rfl)
  have hM := rmLaw (l := l) hw (p0 := i0) (p1 := i1) (p2 := i2) (Old.start s) (show Wd s cz fm dO kO dT kT from ⟨SCz, hcz, SFm, hfm, SdO, VdO, SdT, VdT⟩)
  have hCH : CHv s consts_1 s.vm s.heap := CHv.start (own_EL hw) (fun p hp => hcalls.1 p hp) (hsets _ (List.mem_of_getElem? (i := 2) rfl)) (w29 hw) (w28 hw)
  obtain ⟨n, o, h1, h2, h3, _, L, rfl, ⟨N, _, rfl, rfl, -⟩, -, hq⟩ := hM tables_1 p e ha hc hk s m _ below hf ((Spec.applies_iff_loose hf).mp happ).1 ⟨rfl, State.Warmed39.refl s, rfl, hCH⟩ trivial
  refine ⟨n, _, h1, h2, h3, hpost _ _ _ _ _ _ ⟨Cond.after_iff.mpr rfl, Cond.after_iff.mpr (eq_i res_at (Term.int_eval (1)) rfl), trivial⟩ ⟨hq.1, hq.2.1, hq.2.2.1, (hq.2.2.2.sift fun y hy => Or.inr (N y hy)).mono (by decide) (by decide)⟩⟩
theorem main_1_1 : Claimed_1_1 := comes_1 fun _ _ _ _ _ _ h hF => ⟨h.1, hF⟩
theorem main_1_2 : Claimed_1_2 := comes_1 fun _ _ _ _ _ _ h hF => ⟨h.2.1, hF⟩
end Jvm.Pilot.@@N@@
namespace Jvm.Pilot.@@N@@
open Jvm Jvm.ClassFile Sem Op Lib Jvm.Free Jvm.Stand Jvm.Pilot.@@N@@.Jvm.D
/-! MADE BY PROGRAM (witnessworld.py) out of the Statement's table words and the real class files: 27 classes; the members and pool entries that the words name. The judged class is class 1, her method 1. -/
namespace start1
open Jvm.ClassFile
def u (s : String) : CpInfo := .utf8 (stringToUtf16 s)
/-- a pool by its gaps: so many unusable entries, then the entry; so many at the end -/
def gap : Nat → List CpInfo → List CpInfo
  | 0, r => r
  | n + 1, r => .unusable :: gap n r
def poolList (es : List (Nat × CpInfo)) (last : Nat) : List CpInfo := es.foldr (fun e r => gap e.1 (e.2 :: r)) (gap last [])
def pool (es : List (Nat × CpInfo)) (last : Nat) : Array CpInfo := ⟨poolList es last⟩
def fileOf (pool : Array CpInfo) (this : Nat) (attrs : Array Attribute := #[]) (ms : Array MethodInfo := #[]) (fl : Nat := 33) (sup : Nat := 0) (ifs : Array Nat := #[]) (fds : Array FieldInfo := #[]) : ClassFile where
  minorVersion := 0
  majorVersion := 65
  constantPool := pool
  accessFlags := fl
  thisClass := this
  superClass := sup
  interfaces := ifs
  fields := fds
  methods := ms
  attributes := attrs
def plain (name : String) (sup : Option ClassId) : Class where
  name := name
  kind := .ordinary
  loader := none
  accessFlags := 33
  super := sup
  interfaces := #[]
  cf := none
  fields := #[]
  methods := #[]
  instanceTypes := #[]
  staticTypes := #[]
  resolved := #[]
  callSites := []
  init := .initialized
  statics := none
  mirror := none

def pool0 : Array CpInfo := pool [(5, u "<init>"), (0, u "()V"), (1, .class_ 10), (1, u "java/lang/Object"), (85, u "clone"), (0, u "()Ljava/lang/Object;")] 26

def k0c0 : Code := { maxStack := 0, maxLocals := 1, code := object_method_1_code, exceptionTable := #[], attributes := #[] }
def k0m0 : Method := { name := "<init>", desc := "()V", sig := { parameters := [], returnType := none }, accessFlags := 1, code := some k0c0 }
def k0m1 : Method := { name := "clone", desc := "()Ljava/lang/Object;", sig := { parameters := [], returnType := some (.object "java/lang/Object") }, accessFlags := 260, code := none }
/-- java/lang/Object -/
def k0 : Class := { plain "java/lang/Object" none with
  accessFlags := 33
  interfaces := #[]
  cf := some (fileOf pool0 8 #[] #[{ accessFlags := 1, nameIndex := 5, descriptorIndex := 6, attributes := #[] }, { accessFlags := 260, nameIndex := 96, descriptorIndex := 97, attributes := #[] }] 33 0 #[] #[])
  fields := #[]
  methods := #[k0m0, k0m1]
  instanceTypes := #[]
  staticTypes := #[]
  resolved := Array.replicate 124 none
  statics := none }

def pool1 : Array CpInfo := pool [(2, .class_ 4), (1, u "java/lang/Object"), (0, u "<init>"), (0, u "()V"), (2, .long 9223372036854775807), (1, .class_ 12), (0, u "com/example/large_table_updates/largetableupdates/RunResult"), (0, .methodref 11 14), (0, .nameAndType 5 15), (0, u "(JJZ)V"), (0, .methodref 11 17), (0, .nameAndType 18 19), (0, u "summary"), (0, u "()Ljava/lang/String;"), (0, .string 21), (0, u "Modified at least "), (0, .string 23), (0, u " row(s) in "), (0, .string 25), (0, u " partition(s)"), (0, .string 27), (0, u " before stopping."), (0, .string 29), (0, u "."), (0, .methodref 31 32), (0, .class_ 33), (0, .nameAndType 34 35), (0, u "java/lang/String"), (0, u "length"), (0, u "()I"), (0, .methodref 37 38), (0, .class_ 39), (0, .nameAndType 40 41), (0, u "com/example/large_table_updates/largetableupdates/RunResultSummaryPinLaw"), (0, u "width"), (0, u "(J)I"), (0, .methodref 37 43), (0, .nameAndType 44 45), (0, u "litAt"), (0, u "(Ljava/lang/String;ILjava/lang/String;)Z"), (0, .methodref 37 47), (0, .nameAndType 48 49), (0, u "numAt"), (0, u "(Ljava/lang/String;IJ)Z"), (0, .long 18446744073709551606), (1, .long 18446744073709551516), (1, .long 18446744073709550616), (1, .long 18446744073709541616), (1, .long 18446744073709451616), (1, .long 18446744073708551616), (1, .long 18446744073699551616), (1, .long 18446744073609551616), (1, .long 18446744072709551616), (1, .long 18446744063709551616), (1, .long 18446743973709551616), (1, .long 18446743073709551616), (1, .long 18446734073709551616), (1, .long 18446644073709551616), (1, .long 18445744073709551616), (1, .long 18436744073709551616), (1, .long 18346744073709551616), (1, .long 17446744073709551616), (1, .methodref 37 87), (0, .nameAndType 88 41), (0, u "digits"), (0, .methodref 31 90), (0, .nameAndType 91 92), (0, u "charAt"), (0, u "(I)C"), (0, .long 10), (1, .methodref 37 96), (0, .nameAndType 97 49), (0, u "dig"), (0, .long 100), (1, .long 1000), (1, .long 10000), (1, .long 100000), (1, .long 1000000), (1, .long 10000000), (1, .long 100000000), (1, .long 1000000000), (1, .long 10000000000), (1, .long 100000000000), (1, .long 1000000000000), (1, .long 10000000000000), (1, .long 100000000000000), (1, .long 1000000000000000), (1, .long 10000000000000000), (1, .long 100000000000000000), (1, .long 1000000000000000000), (1, .methodref 37 133), (0, .nameAndType 134 135), (0, u "at"), (0, u "(Ljava/lang/String;ILjava/lang/String;I)Z"), (2, u "law"), (0, u "(JJI)Z")] 3

def k1m0 : Method := { name := "<init>", desc := "()V", sig := { parameters := [], returnType := none }, accessFlags := 1, code := none }
def k1c1 : Code := { maxStack := 7, maxLocals := 20, code := code, exceptionTable := #[], attributes := #[] }
def k1m1 : Method := { name := "law", desc := "(JJI)Z", sig := { parameters := [.long, .long, .int], returnType := some .boolean }, accessFlags := 9, code := some k1c1 }
def k1c2 : Code := { maxStack := 4, maxLocals := 3, code := method_3_code, exceptionTable := #[], attributes := #[] }
def k1m2 : Method := { name := "digits", desc := "(J)I", sig := { parameters := [.long], returnType := some .int }, accessFlags := 10, code := some k1c2 }
def k1c3 : Code := { maxStack := 4, maxLocals := 2, code := method_4_code, exceptionTable := #[], attributes := #[] }
def k1m3 : Method := { name := "width", desc := "(J)I", sig := { parameters := [.long], returnType := some .int }, accessFlags := 10, code := some k1c3 }
def k1c4 : Code := { maxStack := 6, maxLocals := 4, code := method_5_code, exceptionTable := #[], attributes := #[] }
def k1m4 : Method := { name := "dig", desc := "(Ljava/lang/String;IJ)Z", sig := { parameters := [(.object "java/lang/String"), .int, .long], returnType := some .boolean }, accessFlags := 10, code := some k1c4 }
def k1c5 : Code := { maxStack := 6, maxLocals := 10, code := method_6_code, exceptionTable := #[], attributes := #[] }
def k1m5 : Method := { name := "numAt", desc := "(Ljava/lang/String;IJ)Z", sig := { parameters := [(.object "java/lang/String"), .int, .long], returnType := some .boolean }, accessFlags := 10, code := some k1c5 }
def k1c6 : Code := { maxStack := 3, maxLocals := 4, code := method_7_code, exceptionTable := #[], attributes := #[] }
def k1m6 : Method := { name := "at", desc := "(Ljava/lang/String;ILjava/lang/String;I)Z", sig := { parameters := [(.object "java/lang/String"), .int, (.object "java/lang/String"), .int], returnType := some .boolean }, accessFlags := 10, code := some k1c6 }
def k1c7 : Code := { maxStack := 4, maxLocals := 3, code := method_8_code, exceptionTable := #[], attributes := #[] }
def k1m7 : Method := { name := "litAt", desc := "(Ljava/lang/String;ILjava/lang/String;)Z", sig := { parameters := [(.object "java/lang/String"), .int, (.object "java/lang/String")], returnType := some .boolean }, accessFlags := 10, code := some k1c7 }
/-- com/example/large_table_updates/largetableupdates/RunResultSummaryPinLaw -/
def k1 : Class := { plain "com/example/large_table_updates/largetableupdates/RunResultSummaryPinLaw" (some 0) with
  accessFlags := 49
  interfaces := #[]
  cf := some (fileOf pool1 37 #[] #[{ accessFlags := 1, nameIndex := 5, descriptorIndex := 6, attributes := #[] }, { accessFlags := 9, nameIndex := 138, descriptorIndex := 139, attributes := #[] }, { accessFlags := 10, nameIndex := 88, descriptorIndex := 41, attributes := #[] }, { accessFlags := 10, nameIndex := 40, descriptorIndex := 41, attributes := #[] }, { accessFlags := 10, nameIndex := 97, descriptorIndex := 49, attributes := #[] }, { accessFlags := 10, nameIndex := 48, descriptorIndex := 49, attributes := #[] }, { accessFlags := 10, nameIndex := 134, descriptorIndex := 135, attributes := #[] }, { accessFlags := 10, nameIndex := 44, descriptorIndex := 45, attributes := #[] }] 49 2 #[] #[])
  fields := #[]
  methods := #[k1m0, k1m1, k1m2, k1m3, k1m4, k1m5, k1m6, k1m7]
  instanceTypes := #[]
  staticTypes := #[]
  resolved := Array.replicate 143 none
  statics := none }

def pool2 : Array CpInfo := pool [(1, .methodref 2 3), (0, .class_ 4), (0, .nameAndType 5 6), (0, u "java/lang/Object"), (0, u "<init>"), (0, u "()V"), (0, .class_ 8), (0, u "java/lang/Record")] 13

def k2c0 : Code := { maxStack := 1, maxLocals := 1, code := jdk_30_method_1_code, exceptionTable := #[], attributes := #[] }
def k2m0 : Method := { name := "<init>", desc := "()V", sig := { parameters := [], returnType := none }, accessFlags := 4, code := some k2c0 }
/-- java/lang/Record -/
def k2 : Class := { plain "java/lang/Record" (some 0) with
  accessFlags := 1057
  interfaces := #[]
  cf := some (fileOf pool2 7 #[] #[{ accessFlags := 4, nameIndex := 5, descriptorIndex := 6, attributes := #[] }] 1057 2 #[] #[])
  fields := #[]
  methods := #[k2m0]
  instanceTypes := #[]
  staticTypes := #[]
  resolved := Array.replicate 22 none
  statics := none }

def pool3 : Array CpInfo := pool [(1, .methodref 2 3), (0, .class_ 4), (0, .nameAndType 5 6), (0, u "java/lang/Record"), (0, u "<init>"), (0, u "()V"), (2, .class_ 10), (0, u "java/lang/StringBuilder"), (0, .methodref 9 3), (2, .methodref 9 15), (0, .nameAndType 16 17), (0, u "append"), (0, u "(Ljava/lang/String;)Ljava/lang/StringBuilder;"), (0, .methodref 9 19), (0, .nameAndType 16 20), (0, u "(J)Ljava/lang/StringBuilder;"), (0, .methodref 9 22), (0, .nameAndType 23 24), (0, u "toString"), (0, u "()Ljava/lang/String;"), (3, .fieldref 29 30), (0, .class_ 31), (0, .nameAndType 32 33), (0, u "com/example/large_table_updates/largetableupdates/RunResult"), (0, u "rowsModifiedAtLeast"), (0, u "J"), (0, .fieldref 29 35), (0, .nameAndType 36 33), (0, u "partitions"), (0, .fieldref 29 38), (0, .nameAndType 39 40), (0, u "stoppedEarly"), (0, u "Z"), (0, .string 42), (0, u " before stopping."), (0, .string 44), (0, u "."), (0, .string 46), (0, u "Modified at least "), (0, .string 48), (0, u " row(s) in "), (0, .string 50), (0, u " partition(s)"), (11, u "(JJZ)V"), (4, u "summary")] 28

def k3c0 : Code := { maxStack := 5, maxLocals := 6, code := prog_19_method_1_code, exceptionTable := #[], attributes := #[] }
def k3m0 : Method := { name := "<init>", desc := "(JJZ)V", sig := { parameters := [.long, .long, .boolean], returnType := none }, accessFlags := 1, code := some k3c0 }
def k3c1 : Code := { maxStack := 3, maxLocals := 2, code := prog_19_method_2_code, exceptionTable := #[], attributes := #[] }
def k3m1 : Method := { name := "summary", desc := "()Ljava/lang/String;", sig := { parameters := [], returnType := some (.object "java/lang/String") }, accessFlags := 1, code := some k3c1 }
/-- com/example/large_table_updates/largetableupdates/RunResult -/
def k3 : Class := { plain "com/example/large_table_updates/largetableupdates/RunResult" (some 2) with
  accessFlags := 49
  interfaces := #[]
  cf := some (fileOf pool3 29 #[] #[{ accessFlags := 1, nameIndex := 5, descriptorIndex := 62, attributes := #[] }, { accessFlags := 1, nameIndex := 67, descriptorIndex := 24, attributes := #[] }] 49 2 #[] #[{ accessFlags := 18, nameIndex := 32, descriptorIndex := 33, attributes := #[] }, { accessFlags := 18, nameIndex := 36, descriptorIndex := 33, attributes := #[] }, { accessFlags := 18, nameIndex := 39, descriptorIndex := 40, attributes := #[] }])
  fields := #[{ name := "rowsModifiedAtLeast", type := .long, accessFlags := 18, slot := 0, constantValue := 0 }, { name := "partitions", type := .long, accessFlags := 18, slot := 1, constantValue := 0 }, { name := "stoppedEarly", type := .boolean, accessFlags := 18, slot := 2, constantValue := 0 }]
  methods := #[k3m0, k3m1]
  instanceTypes := #[.long, .long, .boolean]
  staticTypes := #[]
  resolved := Array.replicate 96 none
  statics := none }

def pool4 : Array CpInfo := pool [(1, .class_ 2), (0, u "java/io/Serializable"), (0, .class_ 4), (0, u "java/lang/Object")] 2

/-- java/io/Serializable -/
def k4 : Class := { plain "java/io/Serializable" (some 0) with
  accessFlags := 1537
  interfaces := #[]
  cf := some (fileOf pool4 1 #[] #[] 1537 3 #[] #[])
  fields := #[]
  methods := #[]
  instanceTypes := #[]
  staticTypes := #[]
  resolved := Array.replicate 7 none
  statics := none }

def pool5 : Array CpInfo := pool [(1, .class_ 2), (0, u "java/lang/Comparable"), (0, .class_ 4), (0, u "java/lang/Object")] 7

/-- java/lang/Comparable -/
def k5 : Class := { plain "java/lang/Comparable" (some 0) with
  accessFlags := 1537
  interfaces := #[]
  cf := some (fileOf pool5 1 #[] #[] 1537 3 #[] #[])
  fields := #[]
  methods := #[]
  instanceTypes := #[]
  staticTypes := #[]
  resolved := Array.replicate 12 none
  statics := none }

def pool6 : Array CpInfo := pool [(2, .class_ 4), (1, u "java/lang/CharSequence"), (42, .class_ 48), (0, u "java/lang/CharSequence$1CodePointIterator"), (10, .class_ 60), (0, u "java/lang/CharSequence$1CharIterator"), (5, .class_ 67), (0, u "java/lang/Object")] 63

/-- java/lang/CharSequence -/
def k6 : Class := { plain "java/lang/CharSequence" (some 0) with
  accessFlags := 1537
  interfaces := #[]
  cf := some (fileOf pool6 2 #[.nestMembers #[47, 59]] #[] 1537 66 #[] #[])
  fields := #[]
  methods := #[]
  instanceTypes := #[]
  staticTypes := #[]
  resolved := Array.replicate 131 none
  statics := none }

def pool7 : Array CpInfo := pool [(1, .class_ 2), (0, u "java/lang/constant/Constable"), (0, .class_ 4), (0, u "java/lang/Object")] 6

/-- java/lang/constant/Constable -/
def k7 : Class := { plain "java/lang/constant/Constable" (some 0) with
  accessFlags := 1537
  interfaces := #[]
  cf := some (fileOf pool7 1 #[] #[] 1537 3 #[] #[])
  fields := #[]
  methods := #[]
  instanceTypes := #[]
  staticTypes := #[]
  resolved := Array.replicate 11 none
  statics := none }

def pool8 : Array CpInfo := pool [(1, .class_ 2), (0, u "java/lang/constant/ConstantDesc"), (0, .class_ 4), (0, u "java/lang/Object")] 32

/-- java/lang/constant/ConstantDesc -/
def k8 : Class := { plain "java/lang/constant/ConstantDesc" (some 0) with
  accessFlags := 1537
  interfaces := #[]
  cf := some (fileOf pool8 1 #[] #[] 1537 3 #[] #[])
  fields := #[]
  methods := #[]
  instanceTypes := #[]
  staticTypes := #[]
  resolved := Array.replicate 37 none
  statics := none }

def pool9 : Array CpInfo := pool [(1, .methodref 2 3), (0, .class_ 4), (0, .nameAndType 5 6), (0, u "java/lang/Object"), (0, u "<init>"), (0, u "()V"), (2, .fieldref 10 11), (0, .class_ 12), (0, .nameAndType 13 14), (0, u "java/lang/String"), (0, u "value"), (0, u "[B"), (0, .fieldref 10 16), (0, .nameAndType 17 18), (0, u "coder"), (0, u "B"), (2, u "hash"), (0, u "I"), (2, u "hashIsZero"), (0, u "Z"), (11, .fieldref 10 39), (0, .nameAndType 40 26), (0, u "COMPACT_STRINGS"), (13, .methodref 55 56), (0, .class_ 57), (0, .nameAndType 58 59), (0, u "java/util/Arrays"), (0, u "copyOfRange"), (0, u "([BII)[B"), (47, .class_ 109), (1, u "java/lang/StringLatin1"), (32, u "()Z"), (50, .class_ 195), (1, u "java/lang/System"), (16, .methodref 193 213), (0, .nameAndType 214 215), (0, u "arraycopy"), (0, u "(Ljava/lang/Object;ILjava/lang/Object;II)V"), (118, u "()I"), (0, .methodref 10 336), (0, .nameAndType 17 337), (0, u "()B"), (2, u "()[B"), (22, u "([BI)C"), (27, u "(II)V"), (35, u "(I)C"), (61, .methodref 10 490), (0, .nameAndType 5 491), (0, u "(Ljava/lang/AbstractStringBuilder;Ljava/lang/Void;)V"), (0, .methodref 10 493), (0, .nameAndType 494 142), (0, u "isLatin1"), (0, .methodref 107 496), (0, .nameAndType 497 363), (0, u "charAt"), (3, u "checkIndex"), (4, .nameAndType 507 334), (0, u "length"), (24, u "getBytes"), (16, .methodref 550 506), (0, .class_ 551), (0, u "java/lang/AbstractStringBuilder"), (0, .methodref 550 553), (0, .nameAndType 554 340), (0, u "getValue"), (20, .class_ 576), (0, u "java/lang/CharSequence"), (22, u "CASE_INSENSITIVE_ORDER"), (0, u "Ljava/util/Comparator;"), (220, u "([BIB)V"), (225, .methodref 550 493), (5, .fieldref 1054 1055), (0, .class_ 1056), (0, .nameAndType 1057 1058), (0, u "jdk/internal/util/Preconditions"), (0, u "SIOOBE_FORMATTER"), (0, u "Ljava/util/function/BiFunction;"), (0, .methodref 1054 1060), (0, .nameAndType 501 1061), (0, u "(IILjava/util/function/BiFunction;)I"), (39, u "serialPersistentFields"), (0, u "[Ljava/io/ObjectStreamField;"), (0, .class_ 1104), (0, u "java/lang/String$CaseInsensitiveComparator"), (1, .class_ 1107), (0, u "java/io/Serializable"), (0, .class_ 1109), (0, u "java/lang/Comparable"), (0, .class_ 1111), (0, u "java/lang/constant/Constable"), (0, .class_ 1113), (0, u "java/lang/constant/ConstantDesc"), (2, u "serialVersionUID"), (0, u "J"), (3, u "REPL"), (0, u "C"), (2, u "LATIN1"), (1, u "UTF16"), (105, u "(Ljava/lang/StringBuilder;)V")] 217

def k9m0 : Method := { name := "<init>", desc := "()V", sig := { parameters := [], returnType := none }, accessFlags := 1, code := none }
def k9c1 : Code := { maxStack := 3, maxLocals := 2, code := jdk_42_method_53_code, exceptionTable := #[], attributes := #[] }
def k9m1 : Method := { name := "<init>", desc := "(Ljava/lang/StringBuilder;)V", sig := { parameters := [(.object "java/lang/StringBuilder")], returnType := none }, accessFlags := 1, code := some k9c1 }
def k9c2 : Code := { maxStack := 2, maxLocals := 1, code := jdk_42_method_54_code, exceptionTable := #[], attributes := #[] }
def k9m2 : Method := { name := "length", desc := "()I", sig := { parameters := [], returnType := some .int }, accessFlags := 1, code := some k9c2 }
def k9c3 : Code := { maxStack := 2, maxLocals := 2, code := jdk_42_method_56_code, exceptionTable := #[], attributes := #[] }
def k9m3 : Method := { name := "charAt", desc := "(I)C", sig := { parameters := [.int], returnType := some .char }, accessFlags := 1, code := some k9c3 }
def k9c4 : Code := { maxStack := 5, maxLocals := 4, code := jdk_42_method_147_code, exceptionTable := #[], attributes := #[] }
def k9m4 : Method := { name := "getBytes", desc := "([BIB)V", sig := { parameters := [(.array .byte), .int, .byte], returnType := none }, accessFlags := 0, code := some k9c4 }
def k9c5 : Code := { maxStack := 5, maxLocals := 5, code := jdk_42_method_150_code, exceptionTable := #[], attributes := #[] }
def k9m5 : Method := { name := "<init>", desc := "(Ljava/lang/AbstractStringBuilder;Ljava/lang/Void;)V", sig := { parameters := [(.object "java/lang/AbstractStringBuilder"), (.object "java/lang/Void")], returnType := none }, accessFlags := 0, code := some k9c5 }
def k9c6 : Code := { maxStack := 1, maxLocals := 1, code := jdk_42_method_152_code, exceptionTable := #[], attributes := #[] }
def k9m6 : Method := { name := "coder", desc := "()B", sig := { parameters := [], returnType := some .byte }, accessFlags := 0, code := some k9c6 }
def k9c7 : Code := { maxStack := 1, maxLocals := 1, code := jdk_42_method_154_code, exceptionTable := #[], attributes := #[] }
def k9m7 : Method := { name := "isLatin1", desc := "()Z", sig := { parameters := [], returnType := some .boolean }, accessFlags := 0, code := some k9c7 }
def k9c8 : Code := { maxStack := 3, maxLocals := 2, code := jdk_42_method_155_code, exceptionTable := #[], attributes := #[] }
def k9m8 : Method := { name := "checkIndex", desc := "(II)V", sig := { parameters := [.int, .int], returnType := none }, accessFlags := 8, code := some k9c8 }
/-- java/lang/String -/
def k9 : Class := { plain "java/lang/String" (some 0) with
  accessFlags := 49
  interfaces := #[4, 5, 6, 7, 8]
  cf := some (fileOf pool9 10 #[.nestMembers #[1103]] #[{ accessFlags := 1, nameIndex := 5, descriptorIndex := 6, attributes := #[] }, { accessFlags := 1, nameIndex := 5, descriptorIndex := 1233, attributes := #[] }, { accessFlags := 1, nameIndex := 507, descriptorIndex := 334, attributes := #[] }, { accessFlags := 1, nameIndex := 497, descriptorIndex := 427, attributes := #[] }, { accessFlags := 0, nameIndex := 532, descriptorIndex := 821, attributes := #[] }, { accessFlags := 0, nameIndex := 5, descriptorIndex := 491, attributes := #[] }, { accessFlags := 0, nameIndex := 17, descriptorIndex := 337, attributes := #[] }, { accessFlags := 0, nameIndex := 494, descriptorIndex := 142, attributes := #[] }, { accessFlags := 8, nameIndex := 501, descriptorIndex := 391, attributes := #[] }] 49 2 #[1106, 1108, 575, 1110, 1112] #[{ accessFlags := 18, nameIndex := 13, descriptorIndex := 14, attributes := #[] }, { accessFlags := 18, nameIndex := 17, descriptorIndex := 18, attributes := #[] }, { accessFlags := 2, nameIndex := 21, descriptorIndex := 22, attributes := #[] }, { accessFlags := 2, nameIndex := 25, descriptorIndex := 26, attributes := #[] }, { accessFlags := 26, nameIndex := 1116, descriptorIndex := 1117, attributes := #[] }, { accessFlags := 24, nameIndex := 40, descriptorIndex := 26, attributes := #[] }, { accessFlags := 26, nameIndex := 1101, descriptorIndex := 1102, attributes := #[] }, { accessFlags := 26, nameIndex := 1121, descriptorIndex := 1122, attributes := #[] }, { accessFlags := 25, nameIndex := 599, descriptorIndex := 600, attributes := #[] }, { accessFlags := 24, nameIndex := 1125, descriptorIndex := 18, attributes := #[] }, { accessFlags := 24, nameIndex := 1127, descriptorIndex := 18, attributes := #[] }])
  fields := #[{ name := "value", type := (.array .byte), accessFlags := 18, slot := 0, constantValue := 0 }, { name := "coder", type := .byte, accessFlags := 18, slot := 1, constantValue := 0 }, { name := "hash", type := .int, accessFlags := 2, slot := 2, constantValue := 0 }, { name := "hashIsZero", type := .boolean, accessFlags := 2, slot := 3, constantValue := 0 }, { name := "serialVersionUID", type := .long, accessFlags := 26, slot := 0, constantValue := 0 }, { name := "COMPACT_STRINGS", type := .boolean, accessFlags := 24, slot := 1, constantValue := 0 }, { name := "serialPersistentFields", type := (.array (.object "java/io/ObjectStreamField")), accessFlags := 26, slot := 2, constantValue := 0 }, { name := "REPL", type := .char, accessFlags := 26, slot := 3, constantValue := 0 }, { name := "CASE_INSENSITIVE_ORDER", type := (.object "java/util/Comparator"), accessFlags := 25, slot := 4, constantValue := 0 }, { name := "LATIN1", type := .byte, accessFlags := 24, slot := 5, constantValue := 0 }, { name := "UTF16", type := .byte, accessFlags := 24, slot := 6, constantValue := 0 }]
  methods := #[k9m0, k9m1, k9m2, k9m3, k9m4, k9m5, k9m6, k9m7, k9m8]
  instanceTypes := #[(.array .byte), .byte, .int, .boolean]
  staticTypes := #[.long, .boolean, (.array (.object "java/io/ObjectStreamField")), .char, (.object "java/util/Comparator"), .byte, .byte]
  resolved := Array.replicate 1451 none
  statics := some 0 }

def pool10 : Array CpInfo := pool [(1, .class_ 2), (0, u "java/lang/Appendable"), (0, .class_ 4), (0, u "java/lang/Object")] 9

/-- java/lang/Appendable -/
def k10 : Class := { plain "java/lang/Appendable" (some 0) with
  accessFlags := 1537
  interfaces := #[]
  cf := some (fileOf pool10 1 #[] #[] 1537 3 #[] #[])
  fields := #[]
  methods := #[]
  instanceTypes := #[]
  staticTypes := #[]
  resolved := Array.replicate 14 none
  statics := none }

def pool11 : Array CpInfo := pool [(1, .class_ 2), (0, u "java/lang/String"), (0, .methodref 4 5), (0, .class_ 6), (0, .nameAndType 7 8), (0, u "java/lang/Object"), (0, u "<init>"), (0, u "()V"), (1, .class_ 12), (1, u "java/lang/AbstractStringBuilder"), (0, u "EMPTYVALUE"), (0, u "[B"), (0, .fieldref 10 16), (0, .nameAndType 17 14), (0, u "value"), (0, .fieldref 1 19), (0, .nameAndType 20 21), (0, u "COMPACT_STRINGS"), (0, u "Z"), (0, .fieldref 10 23), (0, .nameAndType 24 25), (0, u "coder"), (0, u "B"), (6, .methodref 1 33), (0, .nameAndType 34 35), (0, u "length"), (0, u "()I"), (3, .integer 2147483647), (0, .methodref 1 41), (0, .nameAndType 24 42), (0, u "()B"), (2, u "append"), (0, u "(Ljava/lang/String;)Ljava/lang/AbstractStringBuilder;"), (1, .class_ 49), (0, u "java/lang/CharSequence"), (19, u "(Ljava/lang/String;)V"), (5, u "maybeLatin1"), (3, .fieldref 10 80), (0, .nameAndType 81 82), (0, u "count"), (0, u "I"), (0, .methodref 10 84), (0, .nameAndType 85 86), (0, u "isLatin1"), (0, u "()Z"), (13, .methodref 10 101), (0, .nameAndType 102 103), (0, u "ensureCapacityInternal"), (0, u "(I)V"), (0, .methodref 10 105), (0, .nameAndType 106 107), (0, u "newCapacity"), (0, u "(I)I"), (0, .methodref 109 110), (0, .class_ 111), (0, .nameAndType 112 113), (0, u "java/util/Arrays"), (0, u "copyOf"), (0, u "([BI)[B"), (0, .methodref 115 116), (0, .class_ 117), (0, .nameAndType 118 119), (0, u "jdk/internal/util/ArraysSupport"), (0, u "newLength"), (0, u "(III)I"), (68, u "getChars"), (19, .methodref 10 209), (0, .nameAndType 210 211), (0, u "putStringAt"), (0, u "(ILjava/lang/String;)V"), (5, u "inflateIfNeededFor"), (2, .nameAndType 221 222), (0, u "getBytes"), (0, u "([BIB)V"), (24, u "stringSize"), (6, .methodref 255 256), (0, .class_ 257), (0, .nameAndType 247 258), (0, u "java/lang/Long"), (0, u "(J)I"), (0, .methodref 255 260), (0, .nameAndType 188 261), (0, u "(JI[B)I"), (135, .methodref 10 398), (0, .nameAndType 217 69), (0, .methodref 1 220), (3, u "()[B"), (40, .class_ 445), (0, u "java/lang/Appendable"), (67, u "(J)Ljava/lang/AbstractStringBuilder;"), (38, u "getValue")] 56

def k11m0 : Method := { name := "<init>", desc := "()V", sig := { parameters := [], returnType := none }, accessFlags := 0, code := none }
def k11c1 : Code := { maxStack := 2, maxLocals := 2, code := jdk_68_method_2_code, exceptionTable := #[], attributes := #[] }
def k11m1 : Method := { name := "<init>", desc := "(I)V", sig := { parameters := [.int], returnType := none }, accessFlags := 0, code := some k11c1 }
def k11c2 : Code := { maxStack := 1, maxLocals := 1, code := jdk_68_method_6_code, exceptionTable := #[], attributes := #[] }
def k11m2 : Method := { name := "length", desc := "()I", sig := { parameters := [], returnType := some .int }, accessFlags := 1, code := some k11c2 }
def k11c3 : Code := { maxStack := 4, maxLocals := 3, code := jdk_68_method_9_code, exceptionTable := #[], attributes := #[] }
def k11m3 : Method := { name := "ensureCapacityInternal", desc := "(I)V", sig := { parameters := [.int], returnType := none }, accessFlags := 2, code := some k11c3 }
def k11c4 : Code := { maxStack := 5, maxLocals := 6, code := jdk_68_method_10_code, exceptionTable := #[], attributes := #[] }
def k11m4 : Method := { name := "newCapacity", desc := "(I)I", sig := { parameters := [.int], returnType := some .int }, accessFlags := 2, code := some k11c4 }
def k11c5 : Code := { maxStack := 3, maxLocals := 3, code := jdk_68_method_22_code, exceptionTable := #[], attributes := #[] }
def k11m5 : Method := { name := "append", desc := "(Ljava/lang/String;)Ljava/lang/AbstractStringBuilder;", sig := { parameters := [(.object "java/lang/String")], returnType := some (.object "java/lang/AbstractStringBuilder") }, accessFlags := 1, code := some k11c5 }
def k11c6 : Code := { maxStack := 5, maxLocals := 5, code := jdk_68_method_33_code, exceptionTable := #[], attributes := #[] }
def k11m6 : Method := { name := "append", desc := "(J)Ljava/lang/AbstractStringBuilder;", sig := { parameters := [.long], returnType := some (.object "java/lang/AbstractStringBuilder") }, accessFlags := 1, code := some k11c6 }
def k11c7 : Code := { maxStack := 1, maxLocals := 1, code := jdk_68_method_64_code, exceptionTable := #[], attributes := #[] }
def k11m7 : Method := { name := "getValue", desc := "()[B", sig := { parameters := [], returnType := some (.array .byte) }, accessFlags := 16, code := some k11c7 }
def k11c8 : Code := { maxStack := 1, maxLocals := 1, code := jdk_68_method_68_code, exceptionTable := #[], attributes := #[] }
def k11m8 : Method := { name := "isLatin1", desc := "()Z", sig := { parameters := [], returnType := some .boolean }, accessFlags := 16, code := some k11c8 }
def k11c9 : Code := { maxStack := 2, maxLocals := 2, code := jdk_68_method_71_code, exceptionTable := #[], attributes := #[] }
def k11m9 : Method := { name := "inflateIfNeededFor", desc := "(Ljava/lang/String;)V", sig := { parameters := [(.object "java/lang/String")], returnType := none }, accessFlags := 2, code := some k11c9 }
def k11c10 : Code := { maxStack := 4, maxLocals := 3, code := jdk_68_method_73_code, exceptionTable := #[], attributes := #[] }
def k11m10 : Method := { name := "putStringAt", desc := "(ILjava/lang/String;)V", sig := { parameters := [.int, (.object "java/lang/String")], returnType := none }, accessFlags := 2, code := some k11c10 }
/-- java/lang/AbstractStringBuilder -/
def k11 : Class := { plain "java/lang/AbstractStringBuilder" (some 0) with
  accessFlags := 1056
  interfaces := #[10, 6]
  cf := some (fileOf pool11 10 #[] #[{ accessFlags := 0, nameIndex := 7, descriptorIndex := 8, attributes := #[] }, { accessFlags := 0, nameIndex := 7, descriptorIndex := 103, attributes := #[] }, { accessFlags := 1, nameIndex := 34, descriptorIndex := 35, attributes := #[] }, { accessFlags := 2, nameIndex := 102, descriptorIndex := 103, attributes := #[] }, { accessFlags := 2, nameIndex := 106, descriptorIndex := 107, attributes := #[] }, { accessFlags := 1, nameIndex := 45, descriptorIndex := 46, attributes := #[] }, { accessFlags := 1, nameIndex := 45, descriptorIndex := 513, attributes := #[] }, { accessFlags := 16, nameIndex := 552, descriptorIndex := 403, attributes := #[] }, { accessFlags := 16, nameIndex := 85, descriptorIndex := 86, attributes := #[] }, { accessFlags := 2, nameIndex := 217, descriptorIndex := 69, attributes := #[] }, { accessFlags := 2, nameIndex := 210, descriptorIndex := 211, attributes := #[] }] 1056 4 #[444, 48] #[{ accessFlags := 0, nameIndex := 17, descriptorIndex := 14, attributes := #[] }, { accessFlags := 0, nameIndex := 24, descriptorIndex := 25, attributes := #[] }, { accessFlags := 0, nameIndex := 75, descriptorIndex := 21, attributes := #[] }, { accessFlags := 0, nameIndex := 81, descriptorIndex := 82, attributes := #[] }, { accessFlags := 26, nameIndex := 13, descriptorIndex := 14, attributes := #[] }])
  fields := #[{ name := "value", type := (.array .byte), accessFlags := 0, slot := 0, constantValue := 0 }, { name := "coder", type := .byte, accessFlags := 0, slot := 1, constantValue := 0 }, { name := "maybeLatin1", type := .boolean, accessFlags := 0, slot := 2, constantValue := 0 }, { name := "count", type := .int, accessFlags := 0, slot := 3, constantValue := 0 }, { name := "EMPTYVALUE", type := (.array .byte), accessFlags := 26, slot := 0, constantValue := 0 }]
  methods := #[k11m0, k11m1, k11m2, k11m3, k11m4, k11m5, k11m6, k11m7, k11m8, k11m9, k11m10]
  instanceTypes := #[(.array .byte), .byte, .boolean, .int]
  staticTypes := #[(.array .byte)]
  resolved := Array.replicate 609 none
  statics := none }

def pool12 : Array CpInfo := pool [(1, .methodref 2 3), (0, .class_ 4), (0, .nameAndType 5 6), (0, u "java/lang/AbstractStringBuilder"), (0, u "<init>"), (0, u "(I)V"), (11, .class_ 20), (1, u "java/lang/String"), (3, .class_ 26), (1, u "java/lang/StringBuilder"), (0, u "append"), (0, u "(Ljava/lang/String;)Ljava/lang/StringBuilder;"), (0, .methodref 2 30), (0, .nameAndType 27 31), (0, u "(Ljava/lang/String;)Ljava/lang/AbstractStringBuilder;"), (24, .methodref 2 57), (0, .nameAndType 27 58), (0, u "(J)Ljava/lang/AbstractStringBuilder;"), (78, .methodref 18 138), (0, .nameAndType 5 139), (0, u "(Ljava/lang/StringBuilder;)V"), (5, u "()V"), (10, u "()I"), (124, u "(J)Ljava/lang/StringBuilder;"), (61, .methodref 2 344), (0, .nameAndType 345 156), (0, u "length"), (3, .class_ 350), (0, u "java/lang/Appendable"), (0, .class_ 352), (0, u "java/io/Serializable"), (0, .class_ 354), (0, u "java/lang/Comparable"), (0, .class_ 356), (0, u "java/lang/CharSequence"), (0, u "serialVersionUID"), (0, u "J"), (40, u "toString"), (0, u "()Ljava/lang/String;")] 21

def k12c0 : Code := { maxStack := 2, maxLocals := 1, code := jdk_67_method_1_code, exceptionTable := #[], attributes := #[] }
def k12m0 : Method := { name := "<init>", desc := "()V", sig := { parameters := [], returnType := none }, accessFlags := 1, code := some k12c0 }
def k12c1 : Code := { maxStack := 2, maxLocals := 2, code := jdk_67_method_7_code, exceptionTable := #[], attributes := #[] }
def k12m1 : Method := { name := "append", desc := "(Ljava/lang/String;)Ljava/lang/StringBuilder;", sig := { parameters := [(.object "java/lang/String")], returnType := some (.object "java/lang/StringBuilder") }, accessFlags := 1, code := some k12c1 }
def k12c2 : Code := { maxStack := 3, maxLocals := 3, code := jdk_67_method_16_code, exceptionTable := #[], attributes := #[] }
def k12m2 : Method := { name := "append", desc := "(J)Ljava/lang/StringBuilder;", sig := { parameters := [.long], returnType := some (.object "java/lang/StringBuilder") }, accessFlags := 1, code := some k12c2 }
def k12c3 : Code := { maxStack := 3, maxLocals := 1, code := jdk_67_method_42_code, exceptionTable := #[], attributes := #[] }
def k12m3 : Method := { name := "toString", desc := "()Ljava/lang/String;", sig := { parameters := [], returnType := some (.object "java/lang/String") }, accessFlags := 1, code := some k12c3 }
def k12c4 : Code := { maxStack := 1, maxLocals := 1, code := jdk_67_method_93_code, exceptionTable := #[], attributes := #[] }
def k12m4 : Method := { name := "length", desc := "()I", sig := { parameters := [], returnType := some .int }, accessFlags := 4161, code := some k12c4 }
/-- java/lang/StringBuilder -/
def k12 : Class := { plain "java/lang/StringBuilder" (some 11) with
  accessFlags := 49
  interfaces := #[10, 4, 5, 6]
  cf := some (fileOf pool12 24 #[] #[{ accessFlags := 1, nameIndex := 5, descriptorIndex := 145, attributes := #[] }, { accessFlags := 1, nameIndex := 27, descriptorIndex := 28, attributes := #[] }, { accessFlags := 1, nameIndex := 27, descriptorIndex := 281, attributes := #[] }, { accessFlags := 1, nameIndex := 399, descriptorIndex := 400, attributes := #[] }, { accessFlags := 4161, nameIndex := 345, descriptorIndex := 156, attributes := #[] }] 49 2 #[349, 351, 353, 355] #[{ accessFlags := 24, nameIndex := 357, descriptorIndex := 358, attributes := #[] }])
  fields := #[{ name := "serialVersionUID", type := .long, accessFlags := 24, slot := 0, constantValue := 0 }]
  methods := #[k12m0, k12m1, k12m2, k12m3, k12m4]
  instanceTypes := #[(.array .byte), .byte, .boolean, .int]
  staticTypes := #[.long]
  resolved := Array.replicate 422 none
  statics := none }

def pool13 : Array CpInfo := pool [(9, u "<init>"), (6, .class_ 18), (1, u "java/lang/Object"), (0, u "()V"), (1, .class_ 23), (1, u "jdk/internal/util/ArraysSupport"), (0, u "LOG2_ARRAY_LONG_INDEX_SCALE"), (0, u "I"), (2, u "U"), (0, u "Ljdk/internal/misc/Unsafe;"), (8, u "BIG_ENDIAN"), (0, u "Z"), (8, u "LOG2_BYTE_BIT_SIZE"), (4, u "LOG2_ARRAY_INT_INDEX_SCALE"), (54, u "JLA"), (0, u "Ljdk/internal/access/JavaLangAccess;"), (11, u "LOG2_ARRAY_BOOLEAN_INDEX_SCALE"), (9, u "LOG2_ARRAY_BYTE_INDEX_SCALE"), (5, u "LOG2_ARRAY_CHAR_INDEX_SCALE"), (5, u "LOG2_ARRAY_SHORT_INDEX_SCALE"), (18, u "LOG2_ARRAY_FLOAT_INDEX_SCALE"), (24, u "LOG2_ARRAY_DOUBLE_INDEX_SCALE"), (6, .methodref 195 196), (0, .class_ 197), (0, .nameAndType 198 199), (0, u "java/lang/Math"), (0, u "max"), (0, u "(II)I"), (0, .integer 2147483639), (76, u "T_BOOLEAN"), (2, u "T_CHAR"), (1, u "T_FLOAT"), (1, u "T_DOUBLE"), (1, u "T_BYTE"), (1, u "T_SHORT"), (1, u "T_INT"), (1, u "T_LONG"), (1, u "SOFT_MAX_ARRAY_LENGTH"), (56, u "newLength"), (0, u "(III)I")] 25

def k13m0 : Method := { name := "<init>", desc := "()V", sig := { parameters := [], returnType := none }, accessFlags := 2, code := none }
def k13c1 : Code := { maxStack := 3, maxLocals := 4, code := jdk_48_method_27_code, exceptionTable := #[], attributes := #[] }
def k13m1 : Method := { name := "newLength", desc := "(III)I", sig := { parameters := [.int, .int, .int], returnType := some .int }, accessFlags := 9, code := some k13c1 }
/-- jdk/internal/util/ArraysSupport -/
def k13 : Class := { plain "jdk/internal/util/ArraysSupport" (some 0) with
  accessFlags := 33
  interfaces := #[]
  cf := some (fileOf pool13 21 #[] #[{ accessFlags := 2, nameIndex := 9, descriptorIndex := 19, attributes := #[] }, { accessFlags := 9, nameIndex := 351, descriptorIndex := 352, attributes := #[] }] 33 16 #[] #[{ accessFlags := 24, nameIndex := 28, descriptorIndex := 29, attributes := #[] }, { accessFlags := 26, nameIndex := 38, descriptorIndex := 39, attributes := #[] }, { accessFlags := 25, nameIndex := 121, descriptorIndex := 25, attributes := #[] }, { accessFlags := 25, nameIndex := 131, descriptorIndex := 25, attributes := #[] }, { accessFlags := 25, nameIndex := 137, descriptorIndex := 25, attributes := #[] }, { accessFlags := 25, nameIndex := 143, descriptorIndex := 25, attributes := #[] }, { accessFlags := 25, nameIndex := 53, descriptorIndex := 25, attributes := #[] }, { accessFlags := 25, nameIndex := 24, descriptorIndex := 25, attributes := #[] }, { accessFlags := 25, nameIndex := 162, descriptorIndex := 25, attributes := #[] }, { accessFlags := 25, nameIndex := 187, descriptorIndex := 25, attributes := #[] }, { accessFlags := 26, nameIndex := 48, descriptorIndex := 25, attributes := #[] }, { accessFlags := 25, nameIndex := 277, descriptorIndex := 25, attributes := #[] }, { accessFlags := 25, nameIndex := 280, descriptorIndex := 25, attributes := #[] }, { accessFlags := 25, nameIndex := 282, descriptorIndex := 25, attributes := #[] }, { accessFlags := 25, nameIndex := 284, descriptorIndex := 25, attributes := #[] }, { accessFlags := 25, nameIndex := 286, descriptorIndex := 25, attributes := #[] }, { accessFlags := 25, nameIndex := 288, descriptorIndex := 25, attributes := #[] }, { accessFlags := 25, nameIndex := 290, descriptorIndex := 25, attributes := #[] }, { accessFlags := 25, nameIndex := 292, descriptorIndex := 25, attributes := #[] }, { accessFlags := 26, nameIndex := 108, descriptorIndex := 109, attributes := #[] }, { accessFlags := 25, nameIndex := 294, descriptorIndex := 25, attributes := #[] }])
  fields := #[{ name := "U", type := (.object "jdk/internal/misc/Unsafe"), accessFlags := 24, slot := 0, constantValue := 0 }, { name := "BIG_ENDIAN", type := .boolean, accessFlags := 26, slot := 1, constantValue := 0 }, { name := "LOG2_ARRAY_BOOLEAN_INDEX_SCALE", type := .int, accessFlags := 25, slot := 2, constantValue := 0 }, { name := "LOG2_ARRAY_BYTE_INDEX_SCALE", type := .int, accessFlags := 25, slot := 3, constantValue := 0 }, { name := "LOG2_ARRAY_CHAR_INDEX_SCALE", type := .int, accessFlags := 25, slot := 4, constantValue := 0 }, { name := "LOG2_ARRAY_SHORT_INDEX_SCALE", type := .int, accessFlags := 25, slot := 5, constantValue := 0 }, { name := "LOG2_ARRAY_INT_INDEX_SCALE", type := .int, accessFlags := 25, slot := 6, constantValue := 0 }, { name := "LOG2_ARRAY_LONG_INDEX_SCALE", type := .int, accessFlags := 25, slot := 7, constantValue := 0 }, { name := "LOG2_ARRAY_FLOAT_INDEX_SCALE", type := .int, accessFlags := 25, slot := 8, constantValue := 0 }, { name := "LOG2_ARRAY_DOUBLE_INDEX_SCALE", type := .int, accessFlags := 25, slot := 9, constantValue := 0 }, { name := "LOG2_BYTE_BIT_SIZE", type := .int, accessFlags := 26, slot := 10, constantValue := 0 }, { name := "T_BOOLEAN", type := .int, accessFlags := 25, slot := 11, constantValue := 0 }, { name := "T_CHAR", type := .int, accessFlags := 25, slot := 12, constantValue := 0 }, { name := "T_FLOAT", type := .int, accessFlags := 25, slot := 13, constantValue := 0 }, { name := "T_DOUBLE", type := .int, accessFlags := 25, slot := 14, constantValue := 0 }, { name := "T_BYTE", type := .int, accessFlags := 25, slot := 15, constantValue := 0 }, { name := "T_SHORT", type := .int, accessFlags := 25, slot := 16, constantValue := 0 }, { name := "T_INT", type := .int, accessFlags := 25, slot := 17, constantValue := 0 }, { name := "T_LONG", type := .int, accessFlags := 25, slot := 18, constantValue := 0 }, { name := "JLA", type := (.object "jdk/internal/access/JavaLangAccess"), accessFlags := 26, slot := 19, constantValue := 0 }, { name := "SOFT_MAX_ARRAY_LENGTH", type := .int, accessFlags := 25, slot := 20, constantValue := 0 }]
  methods := #[k13m0, k13m1]
  instanceTypes := #[]
  staticTypes := #[(.object "jdk/internal/misc/Unsafe"), .boolean, .int, .int, .int, .int, .int, .int, .int, .int, .int, .int, .int, .int, .int, .int, .int, .int, .int, (.object "jdk/internal/access/JavaLangAccess"), .int]
  resolved := Array.replicate 378 none
  statics := none }

def pool14 : Array CpInfo := pool [(1, .class_ 2), (0, u "java/lang/Math"), (1, .class_ 6), (1, u "java/lang/Object"), (0, u "<init>"), (0, u "()V"), (89, .class_ 100), (1, u "java/lang/Math$RandomNumberGeneratorHolder"), (71, u "negativeZeroFloatBits"), (0, u "J"), (2, u "negativeZeroDoubleBits"), (21, u "max"), (2, u "min"), (43, u "$assertionsDisabled"), (0, u "Z"), (88, u "(II)I"), (2, u "twoToTheDoubleScaleDown"), (0, u "D"), (4, u "twoToTheDoubleScaleUp"), (9, u "E"), (3, u "PI"), (2, u "TAU"), (2, u "DEGREES_TO_RADIANS"), (0, u "RADIANS_TO_DEGREES")] 94

def k14m0 : Method := { name := "<init>", desc := "()V", sig := { parameters := [], returnType := none }, accessFlags := 2, code := none }
def k14c1 : Code := { maxStack := 2, maxLocals := 2, code := jdk_29_method_65_code, exceptionTable := #[], attributes := #[] }
def k14m1 : Method := { name := "max", desc := "(II)I", sig := { parameters := [.int, .int], returnType := some .int }, accessFlags := 9, code := some k14c1 }
def k14c2 : Code := { maxStack := 2, maxLocals := 2, code := jdk_29_method_69_code, exceptionTable := #[], attributes := #[] }
def k14m2 : Method := { name := "min", desc := "(II)I", sig := { parameters := [.int, .int], returnType := some .int }, accessFlags := 9, code := some k14c2 }
/-- java/lang/Math -/
def k14 : Class := { plain "java/lang/Math" (some 0) with
  accessFlags := 49
  interfaces := #[]
  cf := some (fileOf pool14 1 #[.nestMembers #[98]] #[{ accessFlags := 2, nameIndex := 7, descriptorIndex := 8, attributes := #[] }, { accessFlags := 9, nameIndex := 198, descriptorIndex := 335, attributes := #[] }, { accessFlags := 9, nameIndex := 201, descriptorIndex := 335, attributes := #[] }] 49 4 #[] #[{ accessFlags := 25, nameIndex := 354, descriptorIndex := 339, attributes := #[] }, { accessFlags := 25, nameIndex := 358, descriptorIndex := 339, attributes := #[] }, { accessFlags := 25, nameIndex := 361, descriptorIndex := 339, attributes := #[] }, { accessFlags := 26, nameIndex := 364, descriptorIndex := 339, attributes := #[] }, { accessFlags := 26, nameIndex := 365, descriptorIndex := 339, attributes := #[] }, { accessFlags := 26, nameIndex := 172, descriptorIndex := 173, attributes := #[] }, { accessFlags := 26, nameIndex := 176, descriptorIndex := 173, attributes := #[] }, { accessFlags := 8, nameIndex := 344, descriptorIndex := 339, attributes := #[] }, { accessFlags := 8, nameIndex := 338, descriptorIndex := 339, attributes := #[] }, { accessFlags := 4120, nameIndex := 245, descriptorIndex := 246, attributes := #[] }])
  fields := #[{ name := "E", type := .double, accessFlags := 25, slot := 0, constantValue := 0 }, { name := "PI", type := .double, accessFlags := 25, slot := 1, constantValue := 0 }, { name := "TAU", type := .double, accessFlags := 25, slot := 2, constantValue := 0 }, { name := "DEGREES_TO_RADIANS", type := .double, accessFlags := 26, slot := 3, constantValue := 0 }, { name := "RADIANS_TO_DEGREES", type := .double, accessFlags := 26, slot := 4, constantValue := 0 }, { name := "negativeZeroFloatBits", type := .long, accessFlags := 26, slot := 5, constantValue := 0 }, { name := "negativeZeroDoubleBits", type := .long, accessFlags := 26, slot := 6, constantValue := 0 }, { name := "twoToTheDoubleScaleUp", type := .double, accessFlags := 8, slot := 7, constantValue := 0 }, { name := "twoToTheDoubleScaleDown", type := .double, accessFlags := 8, slot := 8, constantValue := 0 }, { name := "$assertionsDisabled", type := .boolean, accessFlags := 4120, slot := 9, constantValue := 0 }]
  methods := #[k14m0, k14m1, k14m2]
  instanceTypes := #[]
  staticTypes := #[.double, .double, .double, .double, .double, .long, .long, .double, .double, .boolean]
  resolved := Array.replicate 460 none
  statics := none }

def pool15 : Array CpInfo := pool [(2, .class_ 4), (1, u "java/lang/Object"), (0, u "<init>"), (0, u "()V"), (7, .class_ 16), (1, u "java/util/Arrays"), (57, .class_ 76), (1, u "java/util/Arrays$NaturalOrder"), (32, u "()Ljava/lang/Object;"), (3, .class_ 115), (1, u "java/util/Arrays$LegacyMergeSort"), (1, u "Z"), (10, .nameAndType 129 109), (0, u "clone"), (9, u "copyOfRange"), (10, .methodref 151 152), (0, .class_ 153), (0, .nameAndType 154 155), (0, u "java/lang/System"), (0, u "arraycopy"), (0, u "(Ljava/lang/Object;ILjava/lang/Object;II)V"), (146, u "copyOf"), (1, .methodref 305 306), (0, .class_ 307), (0, .nameAndType 308 309), (0, u "java/lang/Math"), (0, u "min"), (0, u "(II)I"), (0, .methodref 311 128), (0, .class_ 312), (0, u "[B"), (26, .methodref 14 340), (0, .nameAndType 341 342), (0, u "copyOfRangeByte"), (0, u "([BII)[B"), (0, .methodref 14 344), (0, .nameAndType 345 346), (0, u "checkLength"), (0, u "(II)V"), (28, .class_ 376), (0, u "java/util/Arrays$ArrayList"), (68, u "$assertionsDisabled"), (269, u "MIN_ARRAY_SORT_GRAN"), (0, u "I"), (2, u "INSERTIONSORT_THRESHOLD"), (149, u "([BI)[B"), (105, .class_ 976), (0, u "java/util/Arrays$ArrayItr")] 52

def k15m0 : Method := { name := "<init>", desc := "()V", sig := { parameters := [], returnType := none }, accessFlags := 2, code := none }
def k15c1 : Code := { maxStack := 6, maxLocals := 3, code := jdk_65_method_121_code, exceptionTable := #[], attributes := #[] }
def k15m1 : Method := { name := "copyOf", desc := "([BI)[B", sig := { parameters := [(.array .byte), .int], returnType := some (.array .byte) }, accessFlags := 9, code := some k15c1 }
def k15c2 : Code := { maxStack := 4, maxLocals := 2, code := jdk_65_method_131_code, exceptionTable := #[], attributes := #[] }
def k15m2 : Method := { name := "checkLength", desc := "(II)V", sig := { parameters := [.int, .int], returnType := none }, accessFlags := 10, code := some k15c2 }
def k15c3 : Code := { maxStack := 3, maxLocals := 3, code := jdk_65_method_132_code, exceptionTable := #[], attributes := #[] }
def k15m3 : Method := { name := "copyOfRange", desc := "([BII)[B", sig := { parameters := [(.array .byte), .int, .int], returnType := some (.array .byte) }, accessFlags := 9, code := some k15c3 }
def k15c4 : Code := { maxStack := 6, maxLocals := 5, code := jdk_65_method_133_code, exceptionTable := #[], attributes := #[] }
def k15m4 : Method := { name := "copyOfRangeByte", desc := "([BII)[B", sig := { parameters := [(.array .byte), .int, .int], returnType := some (.array .byte) }, accessFlags := 10, code := some k15c4 }
/-- java/util/Arrays -/
def k15 : Class := { plain "java/util/Arrays" (some 0) with
  accessFlags := 49
  interfaces := #[]
  cf := some (fileOf pool15 14 #[.nestMembers #[975, 375, 113, 74]] #[{ accessFlags := 2, nameIndex := 5, descriptorIndex := 6, attributes := #[] }, { accessFlags := 9, nameIndex := 302, descriptorIndex := 869, attributes := #[] }, { accessFlags := 10, nameIndex := 345, descriptorIndex := 346, attributes := #[] }, { accessFlags := 9, nameIndex := 139, descriptorIndex := 342, attributes := #[] }, { accessFlags := 10, nameIndex := 341, descriptorIndex := 342, attributes := #[] }] 49 2 #[] #[{ accessFlags := 26, nameIndex := 715, descriptorIndex := 716, attributes := #[] }, { accessFlags := 26, nameIndex := 719, descriptorIndex := 716, attributes := #[] }, { accessFlags := 4120, nameIndex := 445, descriptorIndex := 117, attributes := #[] }])
  fields := #[{ name := "MIN_ARRAY_SORT_GRAN", type := .int, accessFlags := 26, slot := 0, constantValue := 0 }, { name := "INSERTIONSORT_THRESHOLD", type := .int, accessFlags := 26, slot := 1, constantValue := 0 }, { name := "$assertionsDisabled", type := .boolean, accessFlags := 4120, slot := 2, constantValue := 0 }]
  methods := #[k15m0, k15m1, k15m2, k15m3, k15m4]
  instanceTypes := #[]
  staticTypes := #[.int, .int, .boolean]
  resolved := Array.replicate 1029 none
  statics := none }

def pool16 : Array CpInfo := pool [(2, .class_ 4), (1, u "java/lang/Object"), (0, u "<init>"), (0, u "()V"), (1, .class_ 10), (1, u "java/lang/System"), (0, u "allowSecurityManager"), (0, u "I"), (16, u "cons"), (0, u "Ljava/io/Console;"), (77, .class_ 110), (1, u "java/lang/System$CallersHolder"), (43, u "initialErrStream"), (0, u "Ljava/io/PrintStream;"), (19, u "security"), (0, u "Ljava/lang/SecurityManager;"), (31, .class_ 209), (0, u "java/lang/System$1"), (7, u "props"), (0, u "Ljava/util/Properties;"), (2, u "lineSeparator"), (0, u "Ljava/lang/String;"), (96, .class_ 321), (1, u "java/lang/System$LoggerFinder"), (5, .class_ 328), (0, u "java/lang/System$Logger"), (67, u "err"), (2, u "out"), (91, u "notSupportedJnuEncoding"), (15, u "in"), (17, u "initialIn"), (0, u "Ljava/io/InputStream;"), (35, u "bootLayer"), (0, u "Ljava/lang/ModuleLayer;"), (99, .class_ 664), (0, u "java/lang/System$2"), (9, u "NEVER"), (2, u "MAYBE"), (49, u "arraycopy"), (0, u "(Ljava/lang/Object;ILjava/lang/Object;II)V"), (72, .class_ 802), (0, u "java/lang/System$Logger$Level")] 31

def k16m0 : Method := { name := "<init>", desc := "()V", sig := { parameters := [], returnType := none }, accessFlags := 2, code := none }
def k16m1 : Method := { name := "arraycopy", desc := "(Ljava/lang/Object;ILjava/lang/Object;II)V", sig := { parameters := [(.object "java/lang/Object"), .int, (.object "java/lang/Object"), .int, .int], returnType := none }, accessFlags := 265, code := none }
/-- java/lang/System -/
def k16 : Class := { plain "java/lang/System" (some 0) with
  accessFlags := 49
  interfaces := #[]
  cf := some (fileOf pool16 8 #[.nestMembers #[319, 327, 801, 108, 663, 208]] #[{ accessFlags := 2, nameIndex := 5, descriptorIndex := 6, attributes := #[] }, { accessFlags := 265, nameIndex := 727, descriptorIndex := 728, attributes := #[] }] 49 2 #[] #[{ accessFlags := 25, nameIndex := 507, descriptorIndex := 526, attributes := #[] }, { accessFlags := 25, nameIndex := 399, descriptorIndex := 155, attributes := #[] }, { accessFlags := 25, nameIndex := 396, descriptorIndex := 155, attributes := #[] }, { accessFlags := 10, nameIndex := 525, descriptorIndex := 526, attributes := #[] }, { accessFlags := 26, nameIndex := 674, descriptorIndex := 12, attributes := #[] }, { accessFlags := 26, nameIndex := 677, descriptorIndex := 12, attributes := #[] }, { accessFlags := 10, nameIndex := 11, descriptorIndex := 12, attributes := #[] }, { accessFlags := 74, nameIndex := 175, descriptorIndex := 176, attributes := #[] }, { accessFlags := 10, nameIndex := 491, descriptorIndex := 222, attributes := #[] }, { accessFlags := 74, nameIndex := 29, descriptorIndex := 30, attributes := #[] }, { accessFlags := 74, nameIndex := 154, descriptorIndex := 155, attributes := #[] }, { accessFlags := 10, nameIndex := 217, descriptorIndex := 218, attributes := #[] }, { accessFlags := 10, nameIndex := 221, descriptorIndex := 222, attributes := #[] }, { accessFlags := 8, nameIndex := 562, descriptorIndex := 563, attributes := #[] }])
  fields := #[{ name := "in", type := (.object "java/io/InputStream"), accessFlags := 25, slot := 0, constantValue := 0 }, { name := "out", type := (.object "java/io/PrintStream"), accessFlags := 25, slot := 1, constantValue := 0 }, { name := "err", type := (.object "java/io/PrintStream"), accessFlags := 25, slot := 2, constantValue := 0 }, { name := "initialIn", type := (.object "java/io/InputStream"), accessFlags := 10, slot := 3, constantValue := 0 }, { name := "NEVER", type := .int, accessFlags := 26, slot := 4, constantValue := 0 }, { name := "MAYBE", type := .int, accessFlags := 26, slot := 5, constantValue := 0 }, { name := "allowSecurityManager", type := .int, accessFlags := 10, slot := 6, constantValue := 0 }, { name := "security", type := (.object "java/lang/SecurityManager"), accessFlags := 74, slot := 7, constantValue := 0 }, { name := "notSupportedJnuEncoding", type := (.object "java/lang/String"), accessFlags := 10, slot := 8, constantValue := 0 }, { name := "cons", type := (.object "java/io/Console"), accessFlags := 74, slot := 9, constantValue := 0 }, { name := "initialErrStream", type := (.object "java/io/PrintStream"), accessFlags := 74, slot := 10, constantValue := 0 }, { name := "props", type := (.object "java/util/Properties"), accessFlags := 10, slot := 11, constantValue := 0 }, { name := "lineSeparator", type := (.object "java/lang/String"), accessFlags := 10, slot := 12, constantValue := 0 }, { name := "bootLayer", type := (.object "java/lang/ModuleLayer"), accessFlags := 8, slot := 13, constantValue := 0 }]
  methods := #[k16m0, k16m1]
  instanceTypes := #[]
  staticTypes := #[(.object "java/io/InputStream"), (.object "java/io/PrintStream"), (.object "java/io/PrintStream"), (.object "java/io/InputStream"), .int, .int, .int, (.object "java/lang/SecurityManager"), (.object "java/lang/String"), (.object "java/io/Console"), (.object "java/io/PrintStream"), (.object "java/util/Properties"), (.object "java/lang/String"), (.object "java/lang/ModuleLayer")]
  resolved := Array.replicate 834 none
  statics := none }

def pool17 : Array CpInfo := pool [(2, .class_ 4), (1, u "java/lang/Object"), (0, u "<init>"), (0, u "()V"), (1, .class_ 10), (1, u "java/lang/Number"), (2, .class_ 14), (0, u "java/io/Serializable"), (0, u "serialVersionUID"), (0, u "J")] 20

def k17m0 : Method := { name := "<init>", desc := "()V", sig := { parameters := [], returnType := none }, accessFlags := 1, code := none }
/-- java/lang/Number -/
def k17 : Class := { plain "java/lang/Number" (some 0) with
  accessFlags := 1057
  interfaces := #[4]
  cf := some (fileOf pool17 8 #[] #[{ accessFlags := 1, nameIndex := 5, descriptorIndex := 6, attributes := #[] }] 1057 2 #[13] #[{ accessFlags := 26, nameIndex := 15, descriptorIndex := 16, attributes := #[] }])
  fields := #[{ name := "serialVersionUID", type := .long, accessFlags := 26, slot := 0, constantValue := 0 }]
  methods := #[k17m0]
  instanceTypes := #[]
  staticTypes := #[.long]
  resolved := Array.replicate 37 none
  statics := none }

def pool18 : Array CpInfo := pool [(1, .class_ 2), (0, u "java/lang/Long"), (15, .class_ 20), (1, u "java/lang/Integer"), (32, .long 10), (47, u "(J)I"), (18, u "stringSize"), (2, u "getChars"), (0, u "(JI[B)I"), (4, .long 18446744071562067968), (1, .long 100), (1, .fieldref 18 134), (0, .nameAndType 135 136), (0, u "DigitOnes"), (0, u "[B"), (0, .fieldref 18 138), (0, .nameAndType 139 136), (0, u "DigitTens"), (0, .long 18446744073709551606), (94, .class_ 237), (1, u "java/lang/Long$LongCache"), (33, .class_ 272), (0, u "java/lang/Number"), (2, u "value"), (0, u "J"), (84, u "TYPE"), (0, u "Ljava/lang/Class;"), (0, .class_ 364), (0, u "java/lang/Comparable"), (0, .class_ 366), (0, u "java/lang/constant/Constable"), (0, .class_ 368), (0, u "java/lang/constant/ConstantDesc"), (0, u "MIN_VALUE"), (1, u "MAX_VALUE"), (4, u "SIZE"), (0, u "I"), (1, u "BYTES"), (1, u "serialVersionUID")] 142

def k18c0 : Code := { maxStack := 4, maxLocals := 11, code := jdk_35_method_14_code, exceptionTable := #[], attributes := #[] }
def k18m0 : Method := { name := "getChars", desc := "(JI[B)I", sig := { parameters := [.long, .int, (.array .byte)], returnType := some .int }, accessFlags := 8, code := some k18c0 }
def k18c1 : Code := { maxStack := 4, maxLocals := 6, code := jdk_35_method_15_code, exceptionTable := #[], attributes := #[] }
def k18m1 : Method := { name := "stringSize", desc := "(J)I", sig := { parameters := [.long], returnType := some .int }, accessFlags := 8, code := some k18c1 }
/-- java/lang/Long -/
def k18 : Class := { plain "java/lang/Long" (some 17) with
  accessFlags := 49
  interfaces := #[5, 7, 8]
  cf := some (fileOf pool18 1 #[.nestMembers #[235]] #[{ accessFlags := 8, nameIndex := 123, descriptorIndex := 124, attributes := #[] }, { accessFlags := 8, nameIndex := 120, descriptorIndex := 101, attributes := #[] }] 49 271 #[363, 365, 367] #[{ accessFlags := 25, nameIndex := 369, descriptorIndex := 276, attributes := #[] }, { accessFlags := 25, nameIndex := 371, descriptorIndex := 276, attributes := #[] }, { accessFlags := 25, nameIndex := 361, descriptorIndex := 362, attributes := #[] }, { accessFlags := 18, nameIndex := 275, descriptorIndex := 276, attributes := #[] }, { accessFlags := 25, nameIndex := 376, descriptorIndex := 377, attributes := #[] }, { accessFlags := 25, nameIndex := 379, descriptorIndex := 377, attributes := #[] }, { accessFlags := 26, nameIndex := 381, descriptorIndex := 276, attributes := #[] }])
  fields := #[{ name := "MIN_VALUE", type := .long, accessFlags := 25, slot := 0, constantValue := 0 }, { name := "MAX_VALUE", type := .long, accessFlags := 25, slot := 1, constantValue := 0 }, { name := "TYPE", type := (.object "java/lang/Class"), accessFlags := 25, slot := 2, constantValue := 0 }, { name := "value", type := .long, accessFlags := 18, slot := 0, constantValue := 0 }, { name := "SIZE", type := .int, accessFlags := 25, slot := 3, constantValue := 0 }, { name := "BYTES", type := .int, accessFlags := 25, slot := 4, constantValue := 0 }, { name := "serialVersionUID", type := .long, accessFlags := 26, slot := 5, constantValue := 0 }]
  methods := #[k18m0, k18m1]
  instanceTypes := #[.long]
  staticTypes := #[.long, .long, (.object "java/lang/Class"), .int, .int, .long]
  resolved := Array.replicate 524 none
  statics := none }

def pool19 : Array CpInfo := pool [(1, .class_ 2), (0, u "java/lang/Integer"), (16, u "digits"), (0, u "[C"), (64, u "DigitOnes"), (0, u "[B"), (2, u "DigitTens"), (99, .class_ 190), (0, u "java/lang/Integer$IntegerCache"), (3, u "I"), (8, .class_ 204), (0, u "java/lang/Number"), (2, u "value"), (94, u "TYPE"), (0, u "Ljava/lang/Class;"), (0, .class_ 305), (0, u "java/lang/Comparable"), (0, .class_ 307), (0, u "java/lang/constant/Constable"), (0, .class_ 309), (0, u "java/lang/constant/ConstantDesc"), (0, u "MIN_VALUE"), (1, u "MAX_VALUE"), (3, u "SIZE"), (1, u "BYTES"), (1, u "serialVersionUID"), (0, u "J")] 131

/-- java/lang/Integer -/
def k19 : Class := { plain "java/lang/Integer" (some 17) with
  accessFlags := 49
  interfaces := #[5, 7, 8]
  cf := some (fileOf pool19 1 #[.nestMembers #[189]] #[] 49 203 #[304, 306, 308] #[{ accessFlags := 25, nameIndex := 310, descriptorIndex := 194, attributes := #[] }, { accessFlags := 25, nameIndex := 312, descriptorIndex := 194, attributes := #[] }, { accessFlags := 25, nameIndex := 302, descriptorIndex := 303, attributes := #[] }, { accessFlags := 24, nameIndex := 19, descriptorIndex := 20, attributes := #[] }, { accessFlags := 24, nameIndex := 89, descriptorIndex := 86, attributes := #[] }, { accessFlags := 24, nameIndex := 85, descriptorIndex := 86, attributes := #[] }, { accessFlags := 18, nameIndex := 207, descriptorIndex := 194, attributes := #[] }, { accessFlags := 25, nameIndex := 316, descriptorIndex := 194, attributes := #[] }, { accessFlags := 25, nameIndex := 318, descriptorIndex := 194, attributes := #[] }, { accessFlags := 26, nameIndex := 320, descriptorIndex := 321, attributes := #[] }])
  fields := #[{ name := "MIN_VALUE", type := .int, accessFlags := 25, slot := 0, constantValue := 0 }, { name := "MAX_VALUE", type := .int, accessFlags := 25, slot := 1, constantValue := 0 }, { name := "TYPE", type := (.object "java/lang/Class"), accessFlags := 25, slot := 2, constantValue := 0 }, { name := "digits", type := (.array .char), accessFlags := 24, slot := 3, constantValue := 0 }, { name := "DigitTens", type := (.array .byte), accessFlags := 24, slot := 4, constantValue := 0 }, { name := "DigitOnes", type := (.array .byte), accessFlags := 24, slot := 5, constantValue := 0 }, { name := "value", type := .int, accessFlags := 18, slot := 0, constantValue := 0 }, { name := "SIZE", type := .int, accessFlags := 25, slot := 6, constantValue := 0 }, { name := "BYTES", type := .int, accessFlags := 25, slot := 7, constantValue := 0 }, { name := "serialVersionUID", type := .long, accessFlags := 26, slot := 8, constantValue := 0 }]
  methods := #[]
  instanceTypes := #[.int]
  staticTypes := #[.int, .int, (.object "java/lang/Class"), (.array .char), (.array .byte), (.array .byte), .int, .int, .long]
  resolved := Array.replicate 453 none
  statics := some 1 }

def pool20 : Array CpInfo := pool [(1, .class_ 2), (0, u "java/lang/String"), (1, .class_ 6), (1, u "java/lang/Object"), (0, u "<init>"), (0, u "()V"), (0, .methodref 1 10), (0, .nameAndType 11 12), (0, u "checkIndex"), (0, u "(II)V"), (1, .class_ 16), (1, u "java/lang/StringLatin1"), (36, u "([BI)C"), (67, u "$assertionsDisabled"), (0, u "Z"), (98, .class_ 223), (1, u "java/lang/StringLatin1$LinesSpliterator"), (28, u "charAt"), (137, .class_ 391), (0, u "java/lang/StringLatin1$CharsSpliterator")] 3

def k20m0 : Method := { name := "<init>", desc := "()V", sig := { parameters := [], returnType := none }, accessFlags := 0, code := none }
def k20c1 : Code := { maxStack := 2, maxLocals := 2, code := jdk_43_method_2_code, exceptionTable := #[], attributes := #[] }
def k20m1 : Method := { name := "charAt", desc := "([BI)C", sig := { parameters := [(.array .byte), .int], returnType := some .char }, accessFlags := 9, code := some k20c1 }
/-- java/lang/StringLatin1 -/
def k20 : Class := { plain "java/lang/StringLatin1" (some 0) with
  accessFlags := 48
  interfaces := #[]
  cf := some (fileOf pool20 14 #[.nestMembers #[390, 221]] #[{ accessFlags := 0, nameIndex := 7, descriptorIndex := 8, attributes := #[] }, { accessFlags := 9, nameIndex := 252, descriptorIndex := 53, attributes := #[] }] 48 4 #[] #[{ accessFlags := 4120, nameIndex := 121, descriptorIndex := 122, attributes := #[] }])
  fields := #[{ name := "$assertionsDisabled", type := .boolean, accessFlags := 4120, slot := 0, constantValue := 0 }]
  methods := #[k20m0, k20m1]
  instanceTypes := #[]
  staticTypes := #[.boolean]
  resolved := Array.replicate 395 none
  statics := none }

def pool21 : Array CpInfo := pool [(2, .class_ 4), (1, u "java/lang/Object"), (0, u "<init>"), (0, u "()V"), (17, .class_ 26), (1, u "jdk/internal/util/Preconditions"), (6, u "checkIndex"), (21, .class_ 56), (0, u "jdk/internal/util/Preconditions$4"), (57, .class_ 115), (0, u "jdk/internal/util/Preconditions$1"), (7, u "SIOOBE_FORMATTER"), (0, u "Ljava/util/function/BiFunction;"), (0, .class_ 126), (0, u "jdk/internal/util/Preconditions$2"), (3, u "AIOOBE_FORMATTER"), (0, .class_ 132), (0, u "jdk/internal/util/Preconditions$3"), (3, u "IOOBE_FORMATTER"), (41, u "(IILjava/util/function/BiFunction;)I")] 15

def k21m0 : Method := { name := "<init>", desc := "()V", sig := { parameters := [], returnType := none }, accessFlags := 1, code := none }
def k21c1 : Code := { maxStack := 3, maxLocals := 3, code := jdk_41_method_11_code, exceptionTable := #[], attributes := #[] }
def k21m1 : Method := { name := "checkIndex", desc := "(IILjava/util/function/BiFunction;)I", sig := { parameters := [.int, .int, (.object "java/util/function/BiFunction")], returnType := some .int }, accessFlags := 9, code := some k21c1 }
/-- jdk/internal/util/Preconditions -/
def k21 : Class := { plain "jdk/internal/util/Preconditions" (some 0) with
  accessFlags := 33
  interfaces := #[]
  cf := some (fileOf pool21 24 #[.nestMembers #[55, 131, 125, 114]] #[{ accessFlags := 1, nameIndex := 5, descriptorIndex := 6, attributes := #[] }, { accessFlags := 9, nameIndex := 33, descriptorIndex := 178, attributes := #[] }] 33 2 #[] #[{ accessFlags := 25, nameIndex := 123, descriptorIndex := 124, attributes := #[] }, { accessFlags := 25, nameIndex := 130, descriptorIndex := 124, attributes := #[] }, { accessFlags := 25, nameIndex := 136, descriptorIndex := 124, attributes := #[] }])
  fields := #[{ name := "SIOOBE_FORMATTER", type := (.object "java/util/function/BiFunction"), accessFlags := 25, slot := 0, constantValue := 0 }, { name := "AIOOBE_FORMATTER", type := (.object "java/util/function/BiFunction"), accessFlags := 25, slot := 1, constantValue := 0 }, { name := "IOOBE_FORMATTER", type := (.object "java/util/function/BiFunction"), accessFlags := 25, slot := 2, constantValue := 0 }]
  methods := #[k21m0, k21m1]
  instanceTypes := #[]
  staticTypes := #[(.object "java/util/function/BiFunction"), (.object "java/util/function/BiFunction"), (.object "java/util/function/BiFunction")]
  resolved := Array.replicate 194 none
  statics := some 2 }

def pool22 : Array CpInfo := pool [(1, .class_ 2), (0, u "java/lang/Cloneable"), (0, .class_ 4), (0, u "java/lang/Object")] 2

/-- java/lang/Cloneable -/
def k22 : Class := { plain "java/lang/Cloneable" (some 0) with
  accessFlags := 1537
  interfaces := #[]
  cf := some (fileOf pool22 1 #[] #[] 1537 3 #[] #[])
  fields := #[]
  methods := #[]
  instanceTypes := #[]
  staticTypes := #[]
  resolved := Array.replicate 7 none
  statics := none }

/-- the primitive byte -/
def k23 : Class := { plain "byte" none with kind := .primitive 'B', accessFlags := 0x411 }
/-- [B -/
def k24 : Class := { plain "[B" (some 0) with kind := .array 23 .byte, interfaces := #[22, 4], accessFlags := 1041 }

/-- the primitive int -/
def k25 : Class := { plain "int" none with kind := .primitive 'I', accessFlags := 0x411 }
/-- [I -/
def k26 : Class := { plain "[I" (some 0) with kind := .array 25 .int, interfaces := #[22, 4], accessFlags := 1041 }

def heap : Heap := #[{ cls := 9, slots := #[.long 0, .int 1, .null, .int 0, .null, .int 0, .int 0], vm := .statics 9 },
  { cls := 19, slots := #[.int 0, .int 0, .null, .null, .ref 4, .ref 3, .int 0, .int 0, .long 0], vm := .statics 19 },
  { cls := 21, slots := #[.null, .null, .null], vm := .statics 21 },
  { cls := 24, slots := #[.int 48, .int 49, .int 50, .int 51, .int 52, .int 53, .int 54, .int 55, .int 56, .int 57, .int 48, .int 49, .int 50, .int 51, .int 52, .int 53, .int 54, .int 55, .int 56, .int 57, .int 48, .int 49, .int 50, .int 51, .int 52, .int 53, .int 54, .int 55, .int 56, .int 57, .int 48, .int 49, .int 50, .int 51, .int 52, .int 53, .int 54, .int 55, .int 56, .int 57, .int 48, .int 49, .int 50, .int 51, .int 52, .int 53, .int 54, .int 55, .int 56, .int 57, .int 48, .int 49, .int 50, .int 51, .int 52, .int 53, .int 54, .int 55, .int 56, .int 57, .int 48, .int 49, .int 50, .int 51, .int 52, .int 53, .int 54, .int 55, .int 56, .int 57, .int 48, .int 49, .int 50, .int 51, .int 52, .int 53, .int 54, .int 55, .int 56, .int 57, .int 48, .int 49, .int 50, .int 51, .int 52, .int 53, .int 54, .int 55, .int 56, .int 57, .int 48, .int 49, .int 50, .int 51, .int 52, .int 53, .int 54, .int 55, .int 56, .int 57], vm := .none },
  { cls := 24, slots := #[.int 48, .int 48, .int 48, .int 48, .int 48, .int 48, .int 48, .int 48, .int 48, .int 48, .int 49, .int 49, .int 49, .int 49, .int 49, .int 49, .int 49, .int 49, .int 49, .int 49, .int 50, .int 50, .int 50, .int 50, .int 50, .int 50, .int 50, .int 50, .int 50, .int 50, .int 51, .int 51, .int 51, .int 51, .int 51, .int 51, .int 51, .int 51, .int 51, .int 51, .int 52, .int 52, .int 52, .int 52, .int 52, .int 52, .int 52, .int 52, .int 52, .int 52, .int 53, .int 53, .int 53, .int 53, .int 53, .int 53, .int 53, .int 53, .int 53, .int 53, .int 54, .int 54, .int 54, .int 54, .int 54, .int 54, .int 54, .int 54, .int 54, .int 54, .int 55, .int 55, .int 55, .int 55, .int 55, .int 55, .int 55, .int 55, .int 55, .int 55, .int 56, .int 56, .int 56, .int 56, .int 56, .int 56, .int 56, .int 56, .int 56, .int 56, .int 57, .int 57, .int 57, .int 57, .int 57, .int 57, .int 57, .int 57, .int 57, .int 57], vm := .none }]
def classes : Array Class := #[k0, k1, k2, k3, k4, k5, k6, k7, k8, k9, k10, k11, k12, k13, k14, k15, k16, k17, k18, k19, k20, k21, k22, k23, k24, k25, k26]
def interned : List (Array UInt16 × Addr) := []
def slotsUsed : Nat := 219
def theMethod : MethodId := ⟨1, 1⟩
def args0 : Array Value := #[.long 5, .long 5, .int 5]
def aboutOver (below : List Frame) : State where
  vm := { classes := classes, interned := interned.toArray }
  heap := heap
  slotsUsed := slotsUsed
  threads := #[{ frames := .invoking theMethod args0 :: below }]
def below0 : List Frame := [.native { method := ⟨0, 0⟩, args := #[] }]
def about1 : State := aboutOver below0
def p0 : Program := .bare "" "" ""
def e0 : Env := launch0.env 0 0 0
theorem w_frames : about1.frames = Frame.invoking theMethod args0 :: below0 := rfl
set_option maxRecDepth 65536 in
theorem w_args : argsFit about1.vm theMethod args0 = true := by decide +kernel
set_option maxRecDepth 65536 in
theorem w_heap : heapFits about1 = true := by decide +kernel
set_option maxRecDepth 65536 in
theorem w_runnable : about1.curStatus? = some .runnable := by decide +kernel
set_option maxRecDepth 65536 in
theorem w_alone : about1.alone = true := by decide +kernel
set_option maxRecDepth 65536 in
theorem w_named : about1.methodNamed? x = some theMethod := by decide +kernel
set_option maxRecDepth 65536 in
theorem w_hears : about1.hears theMethod below0 = true := by decide +kernel
set_option maxRecDepth 65536 in
theorem w_ripe : about1.ripe theMethod args0 below0 = true := by decide +kernel
theorem w_running : about1.status = .running := rfl
set_option maxRecDepth 65536 in
theorem w_room : about1.hasRoom e0.platform room_1 = true :=
  launch0.hasRoom_least _ room_1 (by decide +kernel) (by decide +kernel) (by decide +kernel) (by decide +kernel) (by decide +kernel) (by decide +kernel)
theorem allAtoms_all (ts : List Jvm.Cond) (a : Array Jvm.Value) (st : Jvm.State) : (allAtoms ts).before a st = ts.all (fun c => c.before a st) := by
  induction ts with
  | nil => rfl
  | cons c t ih =>
    show (Jvm.Cond.and c (allAtoms t)).before a st = _
    rw [Jvm.Cond.before_and, ih, List.all_cons]
def words1 : List Jvm.Cond := Jvm.Cond.code x code maxLocals ret :: tables_1
/-- a 'code' word, met by the world's own term for the bytes: nothing is compared byte by byte -/
theorem code_word {y : MethodName} {bytes : ByteArray} {mx : Nat} {rt : Option FieldType} {a : Array Value} {s : State} {m : MethodId} {meth : Method} {c : Code} (h1 : s.methodNamed? y = some m) (h2 : s.vm.method? m = some meth) (h3 : meth.code = some c) (h4 : c.code = bytes)
    (h5 : (c.maxLocals == mx && c.exceptionTable.isEmpty && decide (c.maxStack ≤ mostOperands) && decide (meth.sig.returnType = rt) && !meth.locks && decide (parseMethodDescriptor y.desc = some meth.sig)) = true) : (Jvm.Cond.code y bytes mx rt).before a s = true := by
  simp only [Bool.and_eq_true, beq_iff_eq, Bool.not_eq_true', decide_eq_true_eq] at h5
  obtain ⟨⟨⟨⟨⟨g1, g2⟩, g3⟩, g4⟩, g5⟩, g6⟩ := h5
  simp [Cond.before, Cond.holds, Cond.value, h1, h2, h3, h4, g1, g2, g3, g4, g5, g6]
def isCode : Jvm.Cond → Bool
  | .code _ _ _ _ => true
  | _ => false
theorem all_split {L : List Jvm.Cond} {P : Jvm.Cond → Bool} (h1 : L.all (fun c => isCode c || P c) = true) (h2 : ∀ c ∈ L.filter isCode, P c = true) : L.all P = true := by
  refine List.all_eq_true.mpr fun c hc => ?_
  have h := List.all_eq_true.mp h1 c hc
  rcases Bool.eq_false_or_eq_true (isCode c) with hi | hi
  · exact h2 c (List.mem_filter.mpr ⟨hc, hi⟩)
  · simpa [hi] using h
set_option maxRecDepth 65536 in
theorem w_c0 : (Jvm.Cond.code x code maxLocals ret).before args0 about1 = true := code_word (m := ⟨1, 1⟩) (meth := k1m1) (c := k1c1) (by decide +kernel) rfl rfl rfl (by decide +kernel)
set_option maxRecDepth 65536 in
theorem w_c1 : (Jvm.Cond.code ({ cls := "com/example/large_table_updates/largetableupdates/RunResult", name := "<init>", desc := "(JJZ)V" } : Jvm.MethodName) prog_19_method_1_code (6 : Nat) (Option.none : Option Jvm.ClassFile.FieldType)).before args0 about1 = true := code_word (m := ⟨3, 0⟩) (meth := k3m0) (c := k3c0) (by decide +kernel) rfl rfl rfl (by decide +kernel)
set_option maxRecDepth 65536 in
theorem w_c2 : (Jvm.Cond.code ({ cls := "java/lang/Record", name := "<init>", desc := "()V" } : Jvm.MethodName) jdk_30_method_1_code (1 : Nat) (Option.none : Option Jvm.ClassFile.FieldType)).before args0 about1 = true := code_word (m := ⟨2, 0⟩) (meth := k2m0) (c := k2c0) (by decide +kernel) rfl rfl rfl (by decide +kernel)
set_option maxRecDepth 65536 in
theorem w_c3 : (Jvm.Cond.code ({ cls := "java/lang/Object", name := "<init>", desc := "()V" } : Jvm.MethodName) object_method_1_code (1 : Nat) (Option.none : Option Jvm.ClassFile.FieldType)).before args0 about1 = true := code_word (m := ⟨0, 0⟩) (meth := k0m0) (c := k0c0) (by decide +kernel) rfl rfl rfl (by decide +kernel)
set_option maxRecDepth 65536 in
theorem w_c4 : (Jvm.Cond.code ({ cls := "com/example/large_table_updates/largetableupdates/RunResult", name := "summary", desc := "()Ljava/lang/String;" } : Jvm.MethodName) prog_19_method_2_code (2 : Nat) (Option.some (Jvm.ClassFile.FieldType.object "java/lang/String"))).before args0 about1 = true := code_word (m := ⟨3, 1⟩) (meth := k3m1) (c := k3c1) (by decide +kernel) rfl rfl rfl (by decide +kernel)
set_option maxRecDepth 65536 in
theorem w_c5 : (Jvm.Cond.code ({ cls := "java/lang/StringBuilder", name := "<init>", desc := "()V" } : Jvm.MethodName) jdk_67_method_1_code (1 : Nat) (Option.none : Option Jvm.ClassFile.FieldType)).before args0 about1 = true := code_word (m := ⟨12, 0⟩) (meth := k12m0) (c := k12c0) (by decide +kernel) rfl rfl rfl (by decide +kernel)
set_option maxRecDepth 65536 in
theorem w_c6 : (Jvm.Cond.code ({ cls := "java/lang/AbstractStringBuilder", name := "<init>", desc := "(I)V" } : Jvm.MethodName) jdk_68_method_2_code (2 : Nat) (Option.none : Option Jvm.ClassFile.FieldType)).before args0 about1 = true := code_word (m := ⟨11, 1⟩) (meth := k11m1) (c := k11c1) (by decide +kernel) rfl rfl rfl (by decide +kernel)
set_option maxRecDepth 65536 in
theorem w_c7 : (Jvm.Cond.code ({ cls := "java/lang/StringBuilder", name := "append", desc := "(Ljava/lang/String;)Ljava/lang/StringBuilder;" } : Jvm.MethodName) jdk_67_method_7_code (2 : Nat) (Option.some (Jvm.ClassFile.FieldType.object "java/lang/StringBuilder"))).before args0 about1 = true := code_word (m := ⟨12, 1⟩) (meth := k12m1) (c := k12c1) (by decide +kernel) rfl rfl rfl (by decide +kernel)
set_option maxRecDepth 65536 in
theorem w_c8 : (Jvm.Cond.code ({ cls := "java/lang/AbstractStringBuilder", name := "append", desc := "(Ljava/lang/String;)Ljava/lang/AbstractStringBuilder;" } : Jvm.MethodName) jdk_68_method_22_code (3 : Nat) (Option.some (Jvm.ClassFile.FieldType.object "java/lang/AbstractStringBuilder"))).before args0 about1 = true := code_word (m := ⟨11, 5⟩) (meth := k11m5) (c := k11c5) (by decide +kernel) rfl rfl rfl (by decide +kernel)
set_option maxRecDepth 65536 in
theorem w_c9 : (Jvm.Cond.code ({ cls := "java/lang/String", name := "length", desc := "()I" } : Jvm.MethodName) jdk_42_method_54_code (1 : Nat) (Option.some Jvm.ClassFile.FieldType.int)).before args0 about1 = true := code_word (m := ⟨9, 2⟩) (meth := k9m2) (c := k9c2) (by decide +kernel) rfl rfl rfl (by decide +kernel)
set_option maxRecDepth 65536 in
theorem w_c10 : (Jvm.Cond.code ({ cls := "java/lang/String", name := "coder", desc := "()B" } : Jvm.MethodName) jdk_42_method_152_code (1 : Nat) (Option.some Jvm.ClassFile.FieldType.byte)).before args0 about1 = true := code_word (m := ⟨9, 6⟩) (meth := k9m6) (c := k9c6) (by decide +kernel) rfl rfl rfl (by decide +kernel)
set_option maxRecDepth 65536 in
theorem w_c11 : (Jvm.Cond.code ({ cls := "java/lang/AbstractStringBuilder", name := "ensureCapacityInternal", desc := "(I)V" } : Jvm.MethodName) jdk_68_method_9_code (3 : Nat) (Option.none : Option Jvm.ClassFile.FieldType)).before args0 about1 = true := code_word (m := ⟨11, 3⟩) (meth := k11m3) (c := k11c3) (by decide +kernel) rfl rfl rfl (by decide +kernel)
set_option maxRecDepth 65536 in
theorem w_c12 : (Jvm.Cond.code ({ cls := "java/lang/AbstractStringBuilder", name := "newCapacity", desc := "(I)I" } : Jvm.MethodName) jdk_68_method_10_code (6 : Nat) (Option.some Jvm.ClassFile.FieldType.int)).before args0 about1 = true := code_word (m := ⟨11, 4⟩) (meth := k11m4) (c := k11c4) (by decide +kernel) rfl rfl rfl (by decide +kernel)
set_option maxRecDepth 65536 in
theorem w_c13 : (Jvm.Cond.code ({ cls := "jdk/internal/util/ArraysSupport", name := "newLength", desc := "(III)I" } : Jvm.MethodName) jdk_48_method_27_code (4 : Nat) (Option.some Jvm.ClassFile.FieldType.int)).before args0 about1 = true := code_word (m := ⟨13, 1⟩) (meth := k13m1) (c := k13c1) (by decide +kernel) rfl rfl rfl (by decide +kernel)
set_option maxRecDepth 65536 in
theorem w_c14 : (Jvm.Cond.code ({ cls := "java/lang/Math", name := "max", desc := "(II)I" } : Jvm.MethodName) jdk_29_method_65_code (2 : Nat) (Option.some Jvm.ClassFile.FieldType.int)).before args0 about1 = true := code_word (m := ⟨14, 1⟩) (meth := k14m1) (c := k14c1) (by decide +kernel) rfl rfl rfl (by decide +kernel)
set_option maxRecDepth 65536 in
theorem w_c15 : (Jvm.Cond.code ({ cls := "java/util/Arrays", name := "copyOf", desc := "([BI)[B" } : Jvm.MethodName) jdk_65_method_121_code (3 : Nat) (Option.some (Jvm.ClassFile.FieldType.array Jvm.ClassFile.FieldType.byte))).before args0 about1 = true := code_word (m := ⟨15, 1⟩) (meth := k15m1) (c := k15c1) (by decide +kernel) rfl rfl rfl (by decide +kernel)
set_option maxRecDepth 65536 in
theorem w_c16 : (Jvm.Cond.code ({ cls := "java/lang/Math", name := "min", desc := "(II)I" } : Jvm.MethodName) jdk_29_method_69_code (2 : Nat) (Option.some Jvm.ClassFile.FieldType.int)).before args0 about1 = true := code_word (m := ⟨14, 2⟩) (meth := k14m2) (c := k14c2) (by decide +kernel) rfl rfl rfl (by decide +kernel)
set_option maxRecDepth 65536 in
theorem w_c17 : (Jvm.Cond.code ({ cls := "java/lang/AbstractStringBuilder", name := "putStringAt", desc := "(ILjava/lang/String;)V" } : Jvm.MethodName) jdk_68_method_73_code (3 : Nat) (Option.none : Option Jvm.ClassFile.FieldType)).before args0 about1 = true := code_word (m := ⟨11, 10⟩) (meth := k11m10) (c := k11c10) (by decide +kernel) rfl rfl rfl (by decide +kernel)
set_option maxRecDepth 65536 in
theorem w_c18 : (Jvm.Cond.code ({ cls := "java/lang/AbstractStringBuilder", name := "inflateIfNeededFor", desc := "(Ljava/lang/String;)V" } : Jvm.MethodName) jdk_68_method_71_code (2 : Nat) (Option.none : Option Jvm.ClassFile.FieldType)).before args0 about1 = true := code_word (m := ⟨11, 9⟩) (meth := k11m9) (c := k11c9) (by decide +kernel) rfl rfl rfl (by decide +kernel)
set_option maxRecDepth 65536 in
theorem w_c19 : (Jvm.Cond.code ({ cls := "java/lang/String", name := "getBytes", desc := "([BIB)V" } : Jvm.MethodName) jdk_42_method_147_code (4 : Nat) (Option.none : Option Jvm.ClassFile.FieldType)).before args0 about1 = true := code_word (m := ⟨9, 4⟩) (meth := k9m4) (c := k9c4) (by decide +kernel) rfl rfl rfl (by decide +kernel)
set_option maxRecDepth 65536 in
theorem w_c20 : (Jvm.Cond.code ({ cls := "java/lang/StringBuilder", name := "append", desc := "(J)Ljava/lang/StringBuilder;" } : Jvm.MethodName) jdk_67_method_16_code (3 : Nat) (Option.some (Jvm.ClassFile.FieldType.object "java/lang/StringBuilder"))).before args0 about1 = true := code_word (m := ⟨12, 2⟩) (meth := k12m2) (c := k12c2) (by decide +kernel) rfl rfl rfl (by decide +kernel)
set_option maxRecDepth 65536 in
theorem w_c21 : (Jvm.Cond.code ({ cls := "java/lang/AbstractStringBuilder", name := "append", desc := "(J)Ljava/lang/AbstractStringBuilder;" } : Jvm.MethodName) jdk_68_method_33_code (5 : Nat) (Option.some (Jvm.ClassFile.FieldType.object "java/lang/AbstractStringBuilder"))).before args0 about1 = true := code_word (m := ⟨11, 6⟩) (meth := k11m6) (c := k11c6) (by decide +kernel) rfl rfl rfl (by decide +kernel)
set_option maxRecDepth 65536 in
theorem w_c22 : (Jvm.Cond.code ({ cls := "java/lang/Long", name := "stringSize", desc := "(J)I" } : Jvm.MethodName) jdk_35_method_15_code (6 : Nat) (Option.some Jvm.ClassFile.FieldType.int)).before args0 about1 = true := code_word (m := ⟨18, 1⟩) (meth := k18m1) (c := k18c1) (by decide +kernel) rfl rfl rfl (by decide +kernel)
set_option maxRecDepth 65536 in
theorem w_c23 : (Jvm.Cond.code ({ cls := "java/lang/AbstractStringBuilder", name := "isLatin1", desc := "()Z" } : Jvm.MethodName) jdk_68_method_68_code (1 : Nat) (Option.some Jvm.ClassFile.FieldType.boolean)).before args0 about1 = true := code_word (m := ⟨11, 8⟩) (meth := k11m8) (c := k11c8) (by decide +kernel) rfl rfl rfl (by decide +kernel)
set_option maxRecDepth 65536 in
theorem w_c24 : (Jvm.Cond.code ({ cls := "java/lang/Long", name := "getChars", desc := "(JI[B)I" } : Jvm.MethodName) jdk_35_method_14_code (11 : Nat) (Option.some Jvm.ClassFile.FieldType.int)).before args0 about1 = true := code_word (m := ⟨18, 0⟩) (meth := k18m0) (c := k18c0) (by decide +kernel) rfl rfl rfl (by decide +kernel)
set_option maxRecDepth 65536 in
theorem w_c25 : (Jvm.Cond.code ({ cls := "java/lang/StringBuilder", name := "toString", desc := "()Ljava/lang/String;" } : Jvm.MethodName) jdk_67_method_42_code (1 : Nat) (Option.some (Jvm.ClassFile.FieldType.object "java/lang/String"))).before args0 about1 = true := code_word (m := ⟨12, 3⟩) (meth := k12m3) (c := k12c3) (by decide +kernel) rfl rfl rfl (by decide +kernel)
set_option maxRecDepth 65536 in
theorem w_c26 : (Jvm.Cond.code ({ cls := "java/lang/String", name := "<init>", desc := "(Ljava/lang/StringBuilder;)V" } : Jvm.MethodName) jdk_42_method_53_code (2 : Nat) (Option.none : Option Jvm.ClassFile.FieldType)).before args0 about1 = true := code_word (m := ⟨9, 1⟩) (meth := k9m1) (c := k9c1) (by decide +kernel) rfl rfl rfl (by decide +kernel)
set_option maxRecDepth 65536 in
theorem w_c27 : (Jvm.Cond.code ({ cls := "java/lang/String", name := "<init>", desc := "(Ljava/lang/AbstractStringBuilder;Ljava/lang/Void;)V" } : Jvm.MethodName) jdk_42_method_150_code (5 : Nat) (Option.none : Option Jvm.ClassFile.FieldType)).before args0 about1 = true := code_word (m := ⟨9, 5⟩) (meth := k9m5) (c := k9c5) (by decide +kernel) rfl rfl rfl (by decide +kernel)
set_option maxRecDepth 65536 in
theorem w_c28 : (Jvm.Cond.code ({ cls := "java/lang/AbstractStringBuilder", name := "getValue", desc := "()[B" } : Jvm.MethodName) jdk_68_method_64_code (1 : Nat) (Option.some (Jvm.ClassFile.FieldType.array Jvm.ClassFile.FieldType.byte))).before args0 about1 = true := code_word (m := ⟨11, 7⟩) (meth := k11m7) (c := k11c7) (by decide +kernel) rfl rfl rfl (by decide +kernel)
set_option maxRecDepth 65536 in
theorem w_c29 : (Jvm.Cond.code ({ cls := "java/lang/StringBuilder", name := "length", desc := "()I" } : Jvm.MethodName) jdk_67_method_93_code (1 : Nat) (Option.some Jvm.ClassFile.FieldType.int)).before args0 about1 = true := code_word (m := ⟨12, 4⟩) (meth := k12m4) (c := k12c4) (by decide +kernel) rfl rfl rfl (by decide +kernel)
set_option maxRecDepth 65536 in
theorem w_c30 : (Jvm.Cond.code ({ cls := "java/lang/AbstractStringBuilder", name := "length", desc := "()I" } : Jvm.MethodName) jdk_68_method_6_code (1 : Nat) (Option.some Jvm.ClassFile.FieldType.int)).before args0 about1 = true := code_word (m := ⟨11, 2⟩) (meth := k11m2) (c := k11c2) (by decide +kernel) rfl rfl rfl (by decide +kernel)
set_option maxRecDepth 65536 in
theorem w_c31 : (Jvm.Cond.code ({ cls := "java/util/Arrays", name := "copyOfRange", desc := "([BII)[B" } : Jvm.MethodName) jdk_65_method_132_code (3 : Nat) (Option.some (Jvm.ClassFile.FieldType.array Jvm.ClassFile.FieldType.byte))).before args0 about1 = true := code_word (m := ⟨15, 3⟩) (meth := k15m3) (c := k15c3) (by decide +kernel) rfl rfl rfl (by decide +kernel)
set_option maxRecDepth 65536 in
theorem w_c32 : (Jvm.Cond.code ({ cls := "java/util/Arrays", name := "copyOfRangeByte", desc := "([BII)[B" } : Jvm.MethodName) jdk_65_method_133_code (5 : Nat) (Option.some (Jvm.ClassFile.FieldType.array Jvm.ClassFile.FieldType.byte))).before args0 about1 = true := code_word (m := ⟨15, 4⟩) (meth := k15m4) (c := k15c4) (by decide +kernel) rfl rfl rfl (by decide +kernel)
set_option maxRecDepth 65536 in
theorem w_c33 : (Jvm.Cond.code ({ cls := "java/util/Arrays", name := "checkLength", desc := "(II)V" } : Jvm.MethodName) jdk_65_method_131_code (2 : Nat) (Option.none : Option Jvm.ClassFile.FieldType)).before args0 about1 = true := code_word (m := ⟨15, 2⟩) (meth := k15m2) (c := k15c2) (by decide +kernel) rfl rfl rfl (by decide +kernel)
set_option maxRecDepth 65536 in
theorem w_c34 : (Jvm.Cond.code ({ cls := "com/example/large_table_updates/largetableupdates/RunResultSummaryPinLaw", name := "width", desc := "(J)I" } : Jvm.MethodName) method_4_code (2 : Nat) (Option.some Jvm.ClassFile.FieldType.int)).before args0 about1 = true := code_word (m := ⟨1, 3⟩) (meth := k1m3) (c := k1c3) (by decide +kernel) rfl rfl rfl (by decide +kernel)
set_option maxRecDepth 65536 in
theorem w_c35 : (Jvm.Cond.code ({ cls := "com/example/large_table_updates/largetableupdates/RunResultSummaryPinLaw", name := "digits", desc := "(J)I" } : Jvm.MethodName) method_3_code (3 : Nat) (Option.some Jvm.ClassFile.FieldType.int)).before args0 about1 = true := code_word (m := ⟨1, 2⟩) (meth := k1m2) (c := k1c2) (by decide +kernel) rfl rfl rfl (by decide +kernel)
set_option maxRecDepth 65536 in
theorem w_c36 : (Jvm.Cond.code ({ cls := "com/example/large_table_updates/largetableupdates/RunResultSummaryPinLaw", name := "litAt", desc := "(Ljava/lang/String;ILjava/lang/String;)Z" } : Jvm.MethodName) method_8_code (3 : Nat) (Option.some Jvm.ClassFile.FieldType.boolean)).before args0 about1 = true := code_word (m := ⟨1, 7⟩) (meth := k1m7) (c := k1c7) (by decide +kernel) rfl rfl rfl (by decide +kernel)
set_option maxRecDepth 65536 in
theorem w_c37 : (Jvm.Cond.code ({ cls := "com/example/large_table_updates/largetableupdates/RunResultSummaryPinLaw", name := "at", desc := "(Ljava/lang/String;ILjava/lang/String;I)Z" } : Jvm.MethodName) method_7_code (4 : Nat) (Option.some Jvm.ClassFile.FieldType.boolean)).before args0 about1 = true := code_word (m := ⟨1, 6⟩) (meth := k1m6) (c := k1c6) (by decide +kernel) rfl rfl rfl (by decide +kernel)
set_option maxRecDepth 65536 in
theorem w_c38 : (Jvm.Cond.code ({ cls := "java/lang/String", name := "charAt", desc := "(I)C" } : Jvm.MethodName) jdk_42_method_56_code (2 : Nat) (Option.some Jvm.ClassFile.FieldType.char)).before args0 about1 = true := code_word (m := ⟨9, 3⟩) (meth := k9m3) (c := k9c3) (by decide +kernel) rfl rfl rfl (by decide +kernel)
set_option maxRecDepth 65536 in
theorem w_c39 : (Jvm.Cond.code ({ cls := "java/lang/String", name := "isLatin1", desc := "()Z" } : Jvm.MethodName) jdk_42_method_154_code (1 : Nat) (Option.some Jvm.ClassFile.FieldType.boolean)).before args0 about1 = true := code_word (m := ⟨9, 7⟩) (meth := k9m7) (c := k9c7) (by decide +kernel) rfl rfl rfl (by decide +kernel)
set_option maxRecDepth 65536 in
theorem w_c40 : (Jvm.Cond.code ({ cls := "java/lang/StringLatin1", name := "charAt", desc := "([BI)C" } : Jvm.MethodName) jdk_43_method_2_code (2 : Nat) (Option.some Jvm.ClassFile.FieldType.char)).before args0 about1 = true := code_word (m := ⟨20, 1⟩) (meth := k20m1) (c := k20c1) (by decide +kernel) rfl rfl rfl (by decide +kernel)
set_option maxRecDepth 65536 in
theorem w_c41 : (Jvm.Cond.code ({ cls := "java/lang/String", name := "checkIndex", desc := "(II)V" } : Jvm.MethodName) jdk_42_method_155_code (2 : Nat) (Option.none : Option Jvm.ClassFile.FieldType)).before args0 about1 = true := code_word (m := ⟨9, 8⟩) (meth := k9m8) (c := k9c8) (by decide +kernel) rfl rfl rfl (by decide +kernel)
set_option maxRecDepth 65536 in
theorem w_c42 : (Jvm.Cond.code ({ cls := "jdk/internal/util/Preconditions", name := "checkIndex", desc := "(IILjava/util/function/BiFunction;)I" } : Jvm.MethodName) jdk_41_method_11_code (3 : Nat) (Option.some Jvm.ClassFile.FieldType.int)).before args0 about1 = true := code_word (m := ⟨21, 1⟩) (meth := k21m1) (c := k21c1) (by decide +kernel) rfl rfl rfl (by decide +kernel)
set_option maxRecDepth 65536 in
theorem w_c43 : (Jvm.Cond.code ({ cls := "com/example/large_table_updates/largetableupdates/RunResultSummaryPinLaw", name := "numAt", desc := "(Ljava/lang/String;IJ)Z" } : Jvm.MethodName) method_6_code (10 : Nat) (Option.some Jvm.ClassFile.FieldType.boolean)).before args0 about1 = true := code_word (m := ⟨1, 5⟩) (meth := k1m5) (c := k1c5) (by decide +kernel) rfl rfl rfl (by decide +kernel)
set_option maxRecDepth 65536 in
theorem w_c44 : (Jvm.Cond.code ({ cls := "com/example/large_table_updates/largetableupdates/RunResultSummaryPinLaw", name := "dig", desc := "(Ljava/lang/String;IJ)Z" } : Jvm.MethodName) method_5_code (4 : Nat) (Option.some Jvm.ClassFile.FieldType.boolean)).before args0 about1 = true := code_word (m := ⟨1, 4⟩) (meth := k1m4) (c := k1c4) (by decide +kernel) rfl rfl rfl (by decide +kernel)
def codes1 : List Jvm.Cond := [Jvm.Cond.code x code maxLocals ret, Jvm.Cond.code ({ cls := "com/example/large_table_updates/largetableupdates/RunResult", name := "<init>", desc := "(JJZ)V" } : Jvm.MethodName) prog_19_method_1_code (6 : Nat) (Option.none : Option Jvm.ClassFile.FieldType), Jvm.Cond.code ({ cls := "java/lang/Record", name := "<init>", desc := "()V" } : Jvm.MethodName) jdk_30_method_1_code (1 : Nat) (Option.none : Option Jvm.ClassFile.FieldType), Jvm.Cond.code ({ cls := "java/lang/Object", name := "<init>", desc := "()V" } : Jvm.MethodName) object_method_1_code (1 : Nat) (Option.none : Option Jvm.ClassFile.FieldType), Jvm.Cond.code ({ cls := "com/example/large_table_updates/largetableupdates/RunResult", name := "summary", desc := "()Ljava/lang/String;" } : Jvm.MethodName) prog_19_method_2_code (2 : Nat) (Option.some (Jvm.ClassFile.FieldType.object "java/lang/String")), Jvm.Cond.code ({ cls := "java/lang/StringBuilder", name := "<init>", desc := "()V" } : Jvm.MethodName) jdk_67_method_1_code (1 : Nat) (Option.none : Option Jvm.ClassFile.FieldType), Jvm.Cond.code ({ cls := "java/lang/AbstractStringBuilder", name := "<init>", desc := "(I)V" } : Jvm.MethodName) jdk_68_method_2_code (2 : Nat) (Option.none : Option Jvm.ClassFile.FieldType), Jvm.Cond.code ({ cls := "java/lang/StringBuilder", name := "append", desc := "(Ljava/lang/String;)Ljava/lang/StringBuilder;" } : Jvm.MethodName) jdk_67_method_7_code (2 : Nat) (Option.some (Jvm.ClassFile.FieldType.object "java/lang/StringBuilder")), Jvm.Cond.code ({ cls := "java/lang/AbstractStringBuilder", name := "append", desc := "(Ljava/lang/String;)Ljava/lang/AbstractStringBuilder;" } : Jvm.MethodName) jdk_68_method_22_code (3 : Nat) (Option.some (Jvm.ClassFile.FieldType.object "java/lang/AbstractStringBuilder")), Jvm.Cond.code ({ cls := "java/lang/String", name := "length", desc := "()I" } : Jvm.MethodName) jdk_42_method_54_code (1 : Nat) (Option.some Jvm.ClassFile.FieldType.int), Jvm.Cond.code ({ cls := "java/lang/String", name := "coder", desc := "()B" } : Jvm.MethodName) jdk_42_method_152_code (1 : Nat) (Option.some Jvm.ClassFile.FieldType.byte), Jvm.Cond.code ({ cls := "java/lang/AbstractStringBuilder", name := "ensureCapacityInternal", desc := "(I)V" } : Jvm.MethodName) jdk_68_method_9_code (3 : Nat) (Option.none : Option Jvm.ClassFile.FieldType), Jvm.Cond.code ({ cls := "java/lang/AbstractStringBuilder", name := "newCapacity", desc := "(I)I" } : Jvm.MethodName) jdk_68_method_10_code (6 : Nat) (Option.some Jvm.ClassFile.FieldType.int), Jvm.Cond.code ({ cls := "jdk/internal/util/ArraysSupport", name := "newLength", desc := "(III)I" } : Jvm.MethodName) jdk_48_method_27_code (4 : Nat) (Option.some Jvm.ClassFile.FieldType.int), Jvm.Cond.code ({ cls := "java/lang/Math", name := "max", desc := "(II)I" } : Jvm.MethodName) jdk_29_method_65_code (2 : Nat) (Option.some Jvm.ClassFile.FieldType.int), Jvm.Cond.code ({ cls := "java/util/Arrays", name := "copyOf", desc := "([BI)[B" } : Jvm.MethodName) jdk_65_method_121_code (3 : Nat) (Option.some (Jvm.ClassFile.FieldType.array Jvm.ClassFile.FieldType.byte)), Jvm.Cond.code ({ cls := "java/lang/Math", name := "min", desc := "(II)I" } : Jvm.MethodName) jdk_29_method_69_code (2 : Nat) (Option.some Jvm.ClassFile.FieldType.int), Jvm.Cond.code ({ cls := "java/lang/AbstractStringBuilder", name := "putStringAt", desc := "(ILjava/lang/String;)V" } : Jvm.MethodName) jdk_68_method_73_code (3 : Nat) (Option.none : Option Jvm.ClassFile.FieldType), Jvm.Cond.code ({ cls := "java/lang/AbstractStringBuilder", name := "inflateIfNeededFor", desc := "(Ljava/lang/String;)V" } : Jvm.MethodName) jdk_68_method_71_code (2 : Nat) (Option.none : Option Jvm.ClassFile.FieldType), Jvm.Cond.code ({ cls := "java/lang/String", name := "getBytes", desc := "([BIB)V" } : Jvm.MethodName) jdk_42_method_147_code (4 : Nat) (Option.none : Option Jvm.ClassFile.FieldType), Jvm.Cond.code ({ cls := "java/lang/StringBuilder", name := "append", desc := "(J)Ljava/lang/StringBuilder;" } : Jvm.MethodName) jdk_67_method_16_code (3 : Nat) (Option.some (Jvm.ClassFile.FieldType.object "java/lang/StringBuilder")), Jvm.Cond.code ({ cls := "java/lang/AbstractStringBuilder", name := "append", desc := "(J)Ljava/lang/AbstractStringBuilder;" } : Jvm.MethodName) jdk_68_method_33_code (5 : Nat) (Option.some (Jvm.ClassFile.FieldType.object "java/lang/AbstractStringBuilder")), Jvm.Cond.code ({ cls := "java/lang/Long", name := "stringSize", desc := "(J)I" } : Jvm.MethodName) jdk_35_method_15_code (6 : Nat) (Option.some Jvm.ClassFile.FieldType.int), Jvm.Cond.code ({ cls := "java/lang/AbstractStringBuilder", name := "isLatin1", desc := "()Z" } : Jvm.MethodName) jdk_68_method_68_code (1 : Nat) (Option.some Jvm.ClassFile.FieldType.boolean), Jvm.Cond.code ({ cls := "java/lang/Long", name := "getChars", desc := "(JI[B)I" } : Jvm.MethodName) jdk_35_method_14_code (11 : Nat) (Option.some Jvm.ClassFile.FieldType.int), Jvm.Cond.code ({ cls := "java/lang/StringBuilder", name := "toString", desc := "()Ljava/lang/String;" } : Jvm.MethodName) jdk_67_method_42_code (1 : Nat) (Option.some (Jvm.ClassFile.FieldType.object "java/lang/String")), Jvm.Cond.code ({ cls := "java/lang/String", name := "<init>", desc := "(Ljava/lang/StringBuilder;)V" } : Jvm.MethodName) jdk_42_method_53_code (2 : Nat) (Option.none : Option Jvm.ClassFile.FieldType), Jvm.Cond.code ({ cls := "java/lang/String", name := "<init>", desc := "(Ljava/lang/AbstractStringBuilder;Ljava/lang/Void;)V" } : Jvm.MethodName) jdk_42_method_150_code (5 : Nat) (Option.none : Option Jvm.ClassFile.FieldType), Jvm.Cond.code ({ cls := "java/lang/AbstractStringBuilder", name := "getValue", desc := "()[B" } : Jvm.MethodName) jdk_68_method_64_code (1 : Nat) (Option.some (Jvm.ClassFile.FieldType.array Jvm.ClassFile.FieldType.byte)), Jvm.Cond.code ({ cls := "java/lang/StringBuilder", name := "length", desc := "()I" } : Jvm.MethodName) jdk_67_method_93_code (1 : Nat) (Option.some Jvm.ClassFile.FieldType.int), Jvm.Cond.code ({ cls := "java/lang/AbstractStringBuilder", name := "length", desc := "()I" } : Jvm.MethodName) jdk_68_method_6_code (1 : Nat) (Option.some Jvm.ClassFile.FieldType.int), Jvm.Cond.code ({ cls := "java/util/Arrays", name := "copyOfRange", desc := "([BII)[B" } : Jvm.MethodName) jdk_65_method_132_code (3 : Nat) (Option.some (Jvm.ClassFile.FieldType.array Jvm.ClassFile.FieldType.byte)), Jvm.Cond.code ({ cls := "java/util/Arrays", name := "copyOfRangeByte", desc := "([BII)[B" } : Jvm.MethodName) jdk_65_method_133_code (5 : Nat) (Option.some (Jvm.ClassFile.FieldType.array Jvm.ClassFile.FieldType.byte)), Jvm.Cond.code ({ cls := "java/util/Arrays", name := "checkLength", desc := "(II)V" } : Jvm.MethodName) jdk_65_method_131_code (2 : Nat) (Option.none : Option Jvm.ClassFile.FieldType), Jvm.Cond.code ({ cls := "com/example/large_table_updates/largetableupdates/RunResultSummaryPinLaw", name := "width", desc := "(J)I" } : Jvm.MethodName) method_4_code (2 : Nat) (Option.some Jvm.ClassFile.FieldType.int), Jvm.Cond.code ({ cls := "com/example/large_table_updates/largetableupdates/RunResultSummaryPinLaw", name := "digits", desc := "(J)I" } : Jvm.MethodName) method_3_code (3 : Nat) (Option.some Jvm.ClassFile.FieldType.int), Jvm.Cond.code ({ cls := "com/example/large_table_updates/largetableupdates/RunResultSummaryPinLaw", name := "litAt", desc := "(Ljava/lang/String;ILjava/lang/String;)Z" } : Jvm.MethodName) method_8_code (3 : Nat) (Option.some Jvm.ClassFile.FieldType.boolean), Jvm.Cond.code ({ cls := "com/example/large_table_updates/largetableupdates/RunResultSummaryPinLaw", name := "at", desc := "(Ljava/lang/String;ILjava/lang/String;I)Z" } : Jvm.MethodName) method_7_code (4 : Nat) (Option.some Jvm.ClassFile.FieldType.boolean), Jvm.Cond.code ({ cls := "java/lang/String", name := "charAt", desc := "(I)C" } : Jvm.MethodName) jdk_42_method_56_code (2 : Nat) (Option.some Jvm.ClassFile.FieldType.char), Jvm.Cond.code ({ cls := "java/lang/String", name := "isLatin1", desc := "()Z" } : Jvm.MethodName) jdk_42_method_154_code (1 : Nat) (Option.some Jvm.ClassFile.FieldType.boolean), Jvm.Cond.code ({ cls := "java/lang/StringLatin1", name := "charAt", desc := "([BI)C" } : Jvm.MethodName) jdk_43_method_2_code (2 : Nat) (Option.some Jvm.ClassFile.FieldType.char), Jvm.Cond.code ({ cls := "java/lang/String", name := "checkIndex", desc := "(II)V" } : Jvm.MethodName) jdk_42_method_155_code (2 : Nat) (Option.none : Option Jvm.ClassFile.FieldType), Jvm.Cond.code ({ cls := "jdk/internal/util/Preconditions", name := "checkIndex", desc := "(IILjava/util/function/BiFunction;)I" } : Jvm.MethodName) jdk_41_method_11_code (3 : Nat) (Option.some Jvm.ClassFile.FieldType.int), Jvm.Cond.code ({ cls := "com/example/large_table_updates/largetableupdates/RunResultSummaryPinLaw", name := "numAt", desc := "(Ljava/lang/String;IJ)Z" } : Jvm.MethodName) method_6_code (10 : Nat) (Option.some Jvm.ClassFile.FieldType.boolean), Jvm.Cond.code ({ cls := "com/example/large_table_updates/largetableupdates/RunResultSummaryPinLaw", name := "dig", desc := "(Ljava/lang/String;IJ)Z" } : Jvm.MethodName) method_5_code (4 : Nat) (Option.some Jvm.ClassFile.FieldType.boolean)]
set_option maxRecDepth 65536 in
theorem codes_eq : words1.filter isCode = codes1 := rfl
theorem w_codes : ∀ c ∈ words1.filter isCode, c.before args0 about1 = true := by
  rw [codes_eq]
  intro c hc
  simp only [codes1, List.mem_cons, List.not_mem_nil, or_false] at hc
  rcases hc with rfl | rfl | rfl | rfl | rfl | rfl | rfl | rfl | rfl | rfl | rfl | rfl | rfl | rfl | rfl | rfl | rfl | rfl | rfl | rfl | rfl | rfl | rfl | rfl | rfl | rfl | rfl | rfl | rfl | rfl | rfl | rfl | rfl | rfl | rfl | rfl | rfl | rfl | rfl | rfl | rfl | rfl | rfl | rfl | rfl
  · exact w_c0
  · exact w_c1
  · exact w_c2
  · exact w_c3
  · exact w_c4
  · exact w_c5
  · exact w_c6
  · exact w_c7
  · exact w_c8
  · exact w_c9
  · exact w_c10
  · exact w_c11
  · exact w_c12
  · exact w_c13
  · exact w_c14
  · exact w_c15
  · exact w_c16
  · exact w_c17
  · exact w_c18
  · exact w_c19
  · exact w_c20
  · exact w_c21
  · exact w_c22
  · exact w_c23
  · exact w_c24
  · exact w_c25
  · exact w_c26
  · exact w_c27
  · exact w_c28
  · exact w_c29
  · exact w_c30
  · exact w_c31
  · exact w_c32
  · exact w_c33
  · exact w_c34
  · exact w_c35
  · exact w_c36
  · exact w_c37
  · exact w_c38
  · exact w_c39
  · exact w_c40
  · exact w_c41
  · exact w_c42
  · exact w_c43
  · exact w_c44
set_option maxRecDepth 65536 in
theorem w_t1 : (words1.take 24).all (fun c => isCode c || c.before args0 about1) = true := by decide +kernel
set_option maxRecDepth 65536 in
theorem w_t2 : ((words1.drop 24).take 24).all (fun c => isCode c || c.before args0 about1) = true := by decide +kernel
set_option maxRecDepth 65536 in
theorem w_t3 : (((words1.drop 24).drop 24).take 24).all (fun c => isCode c || c.before args0 about1) = true := by decide +kernel
set_option maxRecDepth 65536 in
theorem w_t4 : ((((words1.drop 24).drop 24).drop 24).take 24).all (fun c => isCode c || c.before args0 about1) = true := by decide +kernel
set_option maxRecDepth 65536 in
theorem w_t5 : (((((words1.drop 24).drop 24).drop 24).drop 24).take 24).all (fun c => isCode c || c.before args0 about1) = true := by decide +kernel
set_option maxRecDepth 65536 in
theorem w_t6 : ((((((words1.drop 24).drop 24).drop 24).drop 24).drop 24).take 24).all (fun c => isCode c || c.before args0 about1) = true := by decide +kernel
set_option maxRecDepth 65536 in
theorem w_t7 : (((((((words1.drop 24).drop 24).drop 24).drop 24).drop 24).drop 24).take 24).all (fun c => isCode c || c.before args0 about1) = true := by decide +kernel
set_option maxRecDepth 65536 in
theorem w_t8 : ((((((((words1.drop 24).drop 24).drop 24).drop 24).drop 24).drop 24).drop 24).take 24).all (fun c => isCode c || c.before args0 about1) = true := by decide +kernel
set_option maxRecDepth 65536 in
theorem w_t9 : (((((((((words1.drop 24).drop 24).drop 24).drop 24).drop 24).drop 24).drop 24).drop 24).take 24).all (fun c => isCode c || c.before args0 about1) = true := by decide +kernel
set_option maxRecDepth 65536 in
theorem w_t10 : ((((((((((words1.drop 24).drop 24).drop 24).drop 24).drop 24).drop 24).drop 24).drop 24).drop 24).take 24).all (fun c => isCode c || c.before args0 about1) = true := by decide +kernel
set_option maxRecDepth 65536 in
theorem w_t11 : (((((((((((words1.drop 24).drop 24).drop 24).drop 24).drop 24).drop 24).drop 24).drop 24).drop 24).drop 24).take 24).all (fun c => isCode c || c.before args0 about1) = true := by decide +kernel
set_option maxRecDepth 65536 in
theorem w_t12 : (((((((((((words1.drop 24).drop 24).drop 24).drop 24).drop 24).drop 24).drop 24).drop 24).drop 24).drop 24).drop 24).all (fun c => isCode c || c.before args0 about1) = true := by decide +kernel
theorem w_tables : (allAtoms (Jvm.Cond.code x code maxLocals ret :: tables_1)).before args0 about1 = true := by
  rw [allAtoms_all]
  show words1.all (fun c => c.before args0 about1) = true
  refine all_split ?_ w_codes
  rw [← List.take_append_drop 24 words1, List.all_append, w_t1, ← List.take_append_drop 24 (words1.drop 24), List.all_append, w_t2, ← List.take_append_drop 24 ((words1.drop 24).drop 24), List.all_append, w_t3, ← List.take_append_drop 24 (((words1.drop 24).drop 24).drop 24), List.all_append, w_t4, ← List.take_append_drop 24 ((((words1.drop 24).drop 24).drop 24).drop 24), List.all_append, w_t5, ← List.take_append_drop 24 (((((words1.drop 24).drop 24).drop 24).drop 24).drop 24), List.all_append, w_t6, ← List.take_append_drop 24 ((((((words1.drop 24).drop 24).drop 24).drop 24).drop 24).drop 24), List.all_append, w_t7, ← List.take_append_drop 24 (((((((words1.drop 24).drop 24).drop 24).drop 24).drop 24).drop 24).drop 24), List.all_append, w_t8, ← List.take_append_drop 24 ((((((((words1.drop 24).drop 24).drop 24).drop 24).drop 24).drop 24).drop 24).drop 24), List.all_append, w_t9, ← List.take_append_drop 24 (((((((((words1.drop 24).drop 24).drop 24).drop 24).drop 24).drop 24).drop 24).drop 24).drop 24), List.all_append, w_t10, ← List.take_append_drop 24 ((((((((((words1.drop 24).drop 24).drop 24).drop 24).drop 24).drop 24).drop 24).drop 24).drop 24).drop 24), List.all_append, w_t11, w_t12]
  rfl
set_option maxRecDepth 65536 in
theorem w_rest : rest_1_c.before args0 about1 = true := by decide +kernel
set_option maxRecDepth 65536 in
theorem w_case : (Jvm.Cond.and given_1 narrow_1).before args0 about1 = true := by decide +kernel
set_option maxRecDepth 65536 in
theorem w_consts : constsHeld consts_1 about1 := Jvm.Lit.constsHeldB_iff.mp (by decide +kernel)
theorem w_applies : (headSpec (Jvm.Cond.code x code maxLocals ret :: tables_1) room_1).applies x e0.platform about1 = true :=
  (Spec.applies_iff w_frames).mpr ⟨w_running, w_runnable, w_alone, w_named, w_hears, w_ripe, w_room, w_tables⟩
theorem atStart : AtStart classFile x code maxLocals ret World_1 tables_1 room_1 Calls_1 rest_1 Pre_1 launch0 p0 e0 about1 theMethod args0 below0 :=
  ⟨lists_1, trivial, launch0.admits_env _ _ _, launch0.least_env, fairChoices_fair.cas, fairChoices_fair.clock, w_frames, w_args, w_heap, w_applies, ⟨w_consts, trivial⟩, w_rest, w_case⟩
end start1
theorem witness_1 : WitnessClaimed_1 := ⟨start1.p0, start1.e0, start1.about1, start1.theMethod, start1.args0, start1.below0, start1.atStart⟩
end Jvm.Pilot.@@N@@
