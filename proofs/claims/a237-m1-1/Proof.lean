import JvmDerived
import JvmDerived.Pilot.@@N@@Statement
import JvmDerived.Pilot.@@N@@Code
set_option linter.unusedVariables false
set_option linter.unusedSimpArgs false
namespace Jvm.Pilot.@@N@@
open Jvm Jvm.ClassFile Sem Op Lib Jvm.Free Jvm.Stand Jvm.LawKit Jvm.RoadKit Bundle Jvm.Pilot.@@N@@.Jvm.D
section OwnKit
variable {p : Program} {l : Launch} {e : Env} {R : Room} {s : State} {m : MethodId} {args : Array Value} {below : List Frame} {meth : Method} {c : Code} {T : State} {Z : State} {own mn : String} {bytes : ByteArray} {ml n0 k n : Nat} {rt : Option FieldType} {h : Heap} {G : Outcome → State → Prop} {pc q : Nat} {L : Array Slot} {st rest : List Value} {a0 : Array Value}
/-- the run from S comes to an end of which G speaks -/
def Goes (p : Program) (e : Env) (below : List Frame) (G : Outcome → State → Prop) (S : State) : Prop := ∃ s₂ o, Steps p.tables e below S s₂ ∧ s₂.status = .running ∧ Ended s₂ below o ∧ G o s₂
theorem go_st {S S' : State} (f : ∀ t, Steps p.tables e below S' t → Steps p.tables e below S t) (r : Goes p e below G S') : Goes p e below G S := by
  obtain ⟨s₂, o, a, b⟩ := r; exact ⟨s₂, o, f _ a, b⟩
theorem go_tr {S S' : State} (f : Steps p.tables e below S S') (r : Goes p e below G S') : Goes p e below G S := by
  obtain ⟨s₂, o, a, b⟩ := r; exact ⟨s₂, o, f.trans a, b⟩
/-- what a body's walk knows from its start on -/
def Cx (p : Program) (s : State) (m : MethodId) (meth : Method) (c : Code) (Z : State) (own : String) (bytes : ByteArray) (ml : Nat) (rt : Option FieldType) (mn : String) : Prop :=
  p.tables.exec = Jvm.exec ∧ Z.Warmed39 s.vm ∧ s.vm.findClass own = some m.cls ∧ c.code = bytes ∧ c.maxLocals = ml ∧ meth.sig.returnType = rt ∧ meth.locks = false ∧ meth.name = mn
/-- where it stands: the heap is h; all that was written lies at n0 or above; at most k cells and n slots are new -/
def St (p : Program) (l : Launch) (e : Env) (R : Room) (s : State) (m : MethodId) (args : Array Value) (below : List Frame) (meth : Method) (c : Code) (n0 : Nat) (T : State) (h : Heap) (k n : Nat) : Prop :=
  ∃ locs cells slots, Stand p l e R s m args below meth c T locs cells slots ∧ Fr n0 locs ∧ T.heap = h ∧ cells ≤ k ∧ slots ≤ n
def FinN (Q : Option Value → Heap → Prop) (s : State) (n0 k n : Nat) (o : Outcome) (U : State) : Prop := ∃ v L, o = .returned v ∧ (Fr n0 L ∧ Q v U.heap) ∧ FrameEnd s o U L k n
def Met (l : Launch) (Z : State) (y : MethodName) (bytes : ByteArray) (ml : Nat) (rt : Option FieldType) (rm : Room) (as' : Array Value) (h0 : Heap) (n0 : Nat) (Q : Option Value → Heap → Prop) : Prop :=
  ∀ ws : List Jvm.Cond, MetFree l y (head1 (Jvm.Cond.code y bytes ml rt :: ws) rm) (fun a U => a = as' ∧ Z.Warmed39 U.vm ∧ U.heap = h0) (fun _ _ _ _ _ => True) (fun _ U o U' => ∃ v L, o = .returned v ∧ (Fr n0 L ∧ Q v U'.heap) ∧ FrameEnd U o U' L rm.cells rm.slots)
abbrev Met1 (l : Launch) (Z : State) (y : MethodName) (bytes : ByteArray) (ml : Nat) (rt : Option FieldType) (rm : Room) (as' : Array Value) (h0 : Heap) (n0 : Nat) (Q : Value → Heap → Prop) : Prop := Met l Z y bytes ml rt rm as' h0 n0 (fun v h => ∃ w, v = some w ∧ Q w h)
abbrev Met0 (l : Launch) (Z : State) (y : MethodName) (bytes : ByteArray) (ml : Nat) (rt : Option FieldType) (rm : Room) (as' : Array Value) (h0 : Heap) (n0 : Nat) (Q : Heap → Prop) : Prop := Met l Z y bytes ml rt rm as' h0 n0 (fun v h => v = none ∧ Q h)
theorem met_of {y : MethodName} {rm : Room} {as' : Array Value} {Q : Option Value → Heap → Prop} (hp : plainFor y = true) (hef : ∀ m, entryFrame m as' ml = mkF m 0 L [])
    (body : ∀ (p : Program) (e : Env) (s : State) (m : MethodId) (below : List Frame) (meth : Method) (c : Code) (T : State), Cx p s m meth c Z y.cls bytes ml rt y.name → St p l e rm s m as' below meth c n0 T h 0 0 → Goes p e below (FinN Q s n0 rm.cells rm.slots) (T.setTop (mkF m 0 L []))) :
    Met l Z y bytes ml rt rm as' h n0 Q := by
  intro ws
  refine MetFree.of_bodySF hp hisR ?_
  intro p e s m args below meth c s₁ Bd hml hP hK
  obtain ⟨rfl, hZ, hh⟩ := hP
  have e0 : s₁.heap = h := by rw [← hh, Bd.state]; rfl
  have b := body p e s m below meth c s₁ ⟨Bd.exec, hZ, findClass_of_methodNamed Bd.named, Bd.bytes, hml, Bd.returns, BodyLoose.notSynchronized Bd, (name_of_methodNamed Bd.named Bd.method).1⟩ ⟨[], 0, 0, Stand.of_body Bd, Fr.nil _, e0, Nat.le_refl _, Nat.le_refl _⟩
  rw [hef m]
  exact b
theorem St.mono {k' n' : Nat} (X : St p l e R s m args below meth c n0 T h k n) (hk : k ≤ k') (hn : n ≤ n') : St p l e R s m args below meth c n0 T h k' n' := by
  obtain ⟨a, b, d, x, y, z, u, v⟩ := X; exact ⟨a, b, d, x, y, z, Nat.le_trans u hk, Nat.le_trans v hn⟩
theorem g_aloadN (C : Cx p s m meth c Z own bytes ml rt mn) (X : St p l e R s m args below meth c n0 T h k n) {j : Fin 4} {v : Value} (hd : decode bytes pc = .ok (.aload_n j, 1)) (hq : pc + 1 = q) (hl : L[j.val]? = some (.val v)) (hv : v.isRef = true) (r : Goes p e below G (T.setTop (mkF m q L (v :: st)))) : Goes p e below G (T.setTop (mkF m pc L (st))) := by
  obtain ⟨hx, -, -, hby, -⟩ := C
  obtain ⟨_, _, _, X, -⟩ := X
  subst hq 
  exact go_st (fun t k => XS.aloadN X.here hx rfl (hb hby hd) hl hv k) r
theorem g_aload (C : Cx p s m meth c Z own bytes ml rt mn) (X : St p l e R s m args below meth c n0 T h k n) {j : Nat} {v : Value} (hd : decode bytes pc = .ok (.aload j, 2)) (hq : pc + 2 = q) (hl : L[j]? = some (.val v)) (hv : v.isRef = true) (r : Goes p e below G (T.setTop (mkF m q L (v :: st)))) : Goes p e below G (T.setTop (mkF m pc L (st))) := by
  obtain ⟨hx, -, -, hby, -⟩ := C
  obtain ⟨_, _, _, X, -⟩ := X
  subst hq 
  exact go_st (fun t k => XS.aload X.here hx rfl (hb hby hd) hl hv k) r
theorem g_iloadN (C : Cx p s m meth c Z own bytes ml rt mn) (X : St p l e R s m args below meth c n0 T h k n) {j : Fin 4} {v : Int32} (hd : decode bytes pc = .ok (.iload_n j, 1)) (hq : pc + 1 = q) (hl : L[j.val]? = some (.val (.int v))) (r : Goes p e below G (T.setTop (mkF m q L (.int v :: st)))) : Goes p e below G (T.setTop (mkF m pc L (st))) := by
  obtain ⟨hx, -, -, hby, -⟩ := C
  obtain ⟨_, _, _, X, -⟩ := X
  subst hq 
  exact go_st (fun t k => XS.iloadN X.here hx rfl (hb hby hd) hl k) r
theorem g_iload (C : Cx p s m meth c Z own bytes ml rt mn) (X : St p l e R s m args below meth c n0 T h k n) {j : Nat} {v : Int32} (hd : decode bytes pc = .ok (.iload j, 2)) (hq : pc + 2 = q) (hl : L[j]? = some (.val (.int v))) (r : Goes p e below G (T.setTop (mkF m q L (.int v :: st)))) : Goes p e below G (T.setTop (mkF m pc L (st))) := by
  obtain ⟨hx, -, -, hby, -⟩ := C
  obtain ⟨_, _, _, X, -⟩ := X
  subst hq 
  exact go_st (fun t k => XS.iload X.here hx rfl (hb hby hd) hl k) r
theorem g_lloadN (C : Cx p s m meth c Z own bytes ml rt mn) (X : St p l e R s m args below meth c n0 T h k n) {j : Fin 4} {v : Int64} (hd : decode bytes pc = .ok (.lload_n j, 1)) (hq : pc + 1 = q) (hl : L[j.val]? = some (.val (.long v))) (r : Goes p e below G (T.setTop (mkF m q L (.long v :: st)))) : Goes p e below G (T.setTop (mkF m pc L (st))) := by
  obtain ⟨hx, -, -, hby, -⟩ := C
  obtain ⟨_, _, _, X, -⟩ := X
  subst hq 
  exact go_st (fun t k => XS.lloadN X.here hx rfl (hb hby hd) hl k) r
theorem g_lload (C : Cx p s m meth c Z own bytes ml rt mn) (X : St p l e R s m args below meth c n0 T h k n) {j : Nat} {v : Int64} (hd : decode bytes pc = .ok (.lload j, 2)) (hq : pc + 2 = q) (hl : L[j]? = some (.val (.long v))) (r : Goes p e below G (T.setTop (mkF m q L (.long v :: st)))) : Goes p e below G (T.setTop (mkF m pc L (st))) := by
  obtain ⟨hx, -, -, hby, -⟩ := C
  obtain ⟨_, _, _, X, -⟩ := X
  subst hq 
  exact go_st (fun t k => XS.lload X.here hx rfl (hb hby hd) hl k) r
theorem g_iconst (C : Cx p s m meth c Z own bytes ml rt mn) (X : St p l e R s m args below meth c n0 T h k n) {i : Int} {z : Int32} (hd : decode bytes pc = .ok (.iconst i, 1)) (hq : pc + 1 = q) (hz : Int32.ofInt i = z) (r : Goes p e below G (T.setTop (mkF m q L (.int z :: st)))) : Goes p e below G (T.setTop (mkF m pc L (st))) := by
  obtain ⟨hx, -, -, hby, -⟩ := C
  obtain ⟨_, _, _, X, -⟩ := X
  subst hq hz
  exact go_st (fun t k => XS.iconst X.here hx rfl (hb hby hd)  k) r
theorem g_bipush (C : Cx p s m meth c Z own bytes ml rt mn) (X : St p l e R s m args below meth c n0 T h k n) {i : Int} {z : Int32} (hd : decode bytes pc = .ok (.bipush i, 2)) (hq : pc + 2 = q) (hz : (Int8.ofInt i).toInt32 = z) (r : Goes p e below G (T.setTop (mkF m q L (.int z :: st)))) : Goes p e below G (T.setTop (mkF m pc L (st))) := by
  obtain ⟨hx, -, -, hby, -⟩ := C
  obtain ⟨_, _, _, X, -⟩ := X
  subst hq hz
  exact go_st (fun t k => XS.bipush X.here hx rfl (hb hby hd)  k) r
theorem g_sipush (C : Cx p s m meth c Z own bytes ml rt mn) (X : St p l e R s m args below meth c n0 T h k n) {i : Int} {z : Int32} (hd : decode bytes pc = .ok (.sipush i, 3)) (hq : pc + 3 = q) (hz : (Int16.ofInt i).toInt32 = z) (r : Goes p e below G (T.setTop (mkF m q L (.int z :: st)))) : Goes p e below G (T.setTop (mkF m pc L (st))) := by
  obtain ⟨hx, -, -, hby, -⟩ := C
  obtain ⟨_, _, _, X, -⟩ := X
  subst hq hz
  exact go_st (fun t k => XS.sipush X.here hx rfl (hb hby hd)  k) r
theorem g_aconstNull (C : Cx p s m meth c Z own bytes ml rt mn) (X : St p l e R s m args below meth c n0 T h k n)  (hd : decode bytes pc = .ok (.aconst_null, 1)) (hq : pc + 1 = q)  (r : Goes p e below G (T.setTop (mkF m q L (.null :: st)))) : Goes p e below G (T.setTop (mkF m pc L (st))) := by
  obtain ⟨hx, -, -, hby, -⟩ := C
  obtain ⟨_, _, _, X, -⟩ := X
  subst hq 
  exact go_st (fun t k => XS.aconstNull X.here hx rfl (hb hby hd)  k) r
theorem g_iadd (C : Cx p s m meth c Z own bytes ml rt mn) (X : St p l e R s m args below meth c n0 T h k n) {x y z : Int32} (hd : decode bytes pc = .ok (.iadd, 1)) (hq : pc + 1 = q) (hz : x + y = z) (r : Goes p e below G (T.setTop (mkF m q L (.int z :: st)))) : Goes p e below G (T.setTop (mkF m pc L (.int y :: .int x :: st))) := by
  obtain ⟨hx, -, -, hby, -⟩ := C
  obtain ⟨_, _, _, X, -⟩ := X
  subst hq hz
  exact go_st (fun t k => XS.iadd X.here hx rfl (hb hby hd) rfl k) r
theorem g_isub (C : Cx p s m meth c Z own bytes ml rt mn) (X : St p l e R s m args below meth c n0 T h k n) {x y z : Int32} (hd : decode bytes pc = .ok (.isub, 1)) (hq : pc + 1 = q) (hz : x - y = z) (r : Goes p e below G (T.setTop (mkF m q L (.int z :: st)))) : Goes p e below G (T.setTop (mkF m pc L (.int y :: .int x :: st))) := by
  obtain ⟨hx, -, -, hby, -⟩ := C
  obtain ⟨_, _, _, X, -⟩ := X
  subst hq hz
  exact go_st (fun t k => XS.isub X.here hx rfl (hb hby hd) rfl k) r
theorem g_imul (C : Cx p s m meth c Z own bytes ml rt mn) (X : St p l e R s m args below meth c n0 T h k n) {x y z : Int32} (hd : decode bytes pc = .ok (.imul, 1)) (hq : pc + 1 = q) (hz : x * y = z) (r : Goes p e below G (T.setTop (mkF m q L (.int z :: st)))) : Goes p e below G (T.setTop (mkF m pc L (.int y :: .int x :: st))) := by
  obtain ⟨hx, -, -, hby, -⟩ := C
  obtain ⟨_, _, _, X, -⟩ := X
  subst hq hz
  exact go_st (fun t k => XS.imul X.here hx rfl (hb hby hd) rfl k) r
theorem g_iand (C : Cx p s m meth c Z own bytes ml rt mn) (X : St p l e R s m args below meth c n0 T h k n) {x y z : Int32} (hd : decode bytes pc = .ok (.iand, 1)) (hq : pc + 1 = q) (hz : x &&& y = z) (r : Goes p e below G (T.setTop (mkF m q L (.int z :: st)))) : Goes p e below G (T.setTop (mkF m pc L (.int y :: .int x :: st))) := by
  obtain ⟨hx, -, -, hby, -⟩ := C
  obtain ⟨_, _, _, X, -⟩ := X
  subst hq hz
  exact go_st (fun t k => XS.iand X.here hx rfl (hb hby hd) rfl k) r
theorem g_ior (C : Cx p s m meth c Z own bytes ml rt mn) (X : St p l e R s m args below meth c n0 T h k n) {x y z : Int32} (hd : decode bytes pc = .ok (.ior, 1)) (hq : pc + 1 = q) (hz : x ||| y = z) (r : Goes p e below G (T.setTop (mkF m q L (.int z :: st)))) : Goes p e below G (T.setTop (mkF m pc L (.int y :: .int x :: st))) := by
  obtain ⟨hx, -, -, hby, -⟩ := C
  obtain ⟨_, _, _, X, -⟩ := X
  subst hq hz
  exact go_st (fun t k => XS.ior X.here hx rfl (hb hby hd) rfl k) r
theorem g_ixor (C : Cx p s m meth c Z own bytes ml rt mn) (X : St p l e R s m args below meth c n0 T h k n) {x y z : Int32} (hd : decode bytes pc = .ok (.ixor, 1)) (hq : pc + 1 = q) (hz : x ^^^ y = z) (r : Goes p e below G (T.setTop (mkF m q L (.int z :: st)))) : Goes p e below G (T.setTop (mkF m pc L (.int y :: .int x :: st))) := by
  obtain ⟨hx, -, -, hby, -⟩ := C
  obtain ⟨_, _, _, X, -⟩ := X
  subst hq hz
  exact go_st (fun t k => XS.ixor X.here hx rfl (hb hby hd) rfl k) r
theorem g_ishl (C : Cx p s m meth c Z own bytes ml rt mn) (X : St p l e R s m args below meth c n0 T h k n) {x y z : Int32} (hd : decode bytes pc = .ok (.ishl, 1)) (hq : pc + 1 = q) (hz : x <<< (y &&& 31) = z) (r : Goes p e below G (T.setTop (mkF m q L (.int z :: st)))) : Goes p e below G (T.setTop (mkF m pc L (.int y :: .int x :: st))) := by
  obtain ⟨hx, -, -, hby, -⟩ := C
  obtain ⟨_, _, _, X, -⟩ := X
  subst hq hz
  exact go_st (fun t k => XS.ishl X.here hx rfl (hb hby hd) rfl k) r
theorem g_ishr (C : Cx p s m meth c Z own bytes ml rt mn) (X : St p l e R s m args below meth c n0 T h k n) {x y z : Int32} (hd : decode bytes pc = .ok (.ishr, 1)) (hq : pc + 1 = q) (hz : x >>> (y &&& 31) = z) (r : Goes p e below G (T.setTop (mkF m q L (.int z :: st)))) : Goes p e below G (T.setTop (mkF m pc L (.int y :: .int x :: st))) := by
  obtain ⟨hx, -, -, hby, -⟩ := C
  obtain ⟨_, _, _, X, -⟩ := X
  subst hq hz
  exact go_st (fun t k => XS.ishr X.here hx rfl (hb hby hd) rfl k) r
theorem g_iushr (C : Cx p s m meth c Z own bytes ml rt mn) (X : St p l e R s m args below meth c n0 T h k n) {x y z : Int32} (hd : decode bytes pc = .ok (.iushr, 1)) (hq : pc + 1 = q) (hz : (x.toUInt32 >>> (y &&& 31).toUInt32).toInt32 = z) (r : Goes p e below G (T.setTop (mkF m q L (.int z :: st)))) : Goes p e below G (T.setTop (mkF m pc L (.int y :: .int x :: st))) := by
  obtain ⟨hx, -, -, hby, -⟩ := C
  obtain ⟨_, _, _, X, -⟩ := X
  subst hq hz
  exact go_st (fun t k => XS.iushr X.here hx rfl (hb hby hd) rfl k) r
theorem g_idiv (C : Cx p s m meth c Z own bytes ml rt mn) (X : St p l e R s m args below meth c n0 T h k n) {x y z : Int32} (hd : decode bytes pc = .ok (.idiv, 1)) (hq : pc + 1 = q) (hy : y ≠ 0) (hz : x / y = z) (r : Goes p e below G (T.setTop (mkF m q L (.int z :: st)))) : Goes p e below G (T.setTop (mkF m pc L (.int y :: .int x :: st))) := by
  obtain ⟨hx, -, -, hby, -⟩ := C
  obtain ⟨_, _, _, X, -⟩ := X
  subst hq hz
  exact go_st (fun t k => XS.idiv X.here hx rfl (hb hby hd) rfl hy k) r
theorem g_irem (C : Cx p s m meth c Z own bytes ml rt mn) (X : St p l e R s m args below meth c n0 T h k n) {x y z : Int32} (hd : decode bytes pc = .ok (.irem, 1)) (hq : pc + 1 = q) (hy : y ≠ 0) (hz : x % y = z) (r : Goes p e below G (T.setTop (mkF m q L (.int z :: st)))) : Goes p e below G (T.setTop (mkF m pc L (.int y :: .int x :: st))) := by
  obtain ⟨hx, -, -, hby, -⟩ := C
  obtain ⟨_, _, _, X, -⟩ := X
  subst hq hz
  exact go_st (fun t k => iremM X hx rfl (hb hby hd) rfl hy k) r
theorem g_ineg (C : Cx p s m meth c Z own bytes ml rt mn) (X : St p l e R s m args below meth c n0 T h k n) {x z : Int32} (hd : decode bytes pc = .ok (.ineg, 1)) (hq : pc + 1 = q) (hz : -x = z) (r : Goes p e below G (T.setTop (mkF m q L (.int z :: st)))) : Goes p e below G (T.setTop (mkF m pc L (.int x :: st))) := by
  obtain ⟨hx, -, -, hby, -⟩ := C
  obtain ⟨_, _, _, X, -⟩ := X
  subst hq hz
  exact go_st (fun t k => XS.ineg X.here hx rfl (hb hby hd) rfl k) r
theorem g_ladd (C : Cx p s m meth c Z own bytes ml rt mn) (X : St p l e R s m args below meth c n0 T h k n) {x y z : Int64} (hd : decode bytes pc = .ok (.ladd, 1)) (hq : pc + 1 = q) (hz : x + y = z) (r : Goes p e below G (T.setTop (mkF m q L (.long z :: st)))) : Goes p e below G (T.setTop (mkF m pc L (.long y :: .long x :: st))) := by
  obtain ⟨hx, -, -, hby, -⟩ := C
  obtain ⟨_, _, _, X, -⟩ := X
  subst hq hz
  exact go_st (fun t k => XS.ladd X.here hx rfl (hb hby hd) rfl k) r
theorem g_lsub (C : Cx p s m meth c Z own bytes ml rt mn) (X : St p l e R s m args below meth c n0 T h k n) {x y z : Int64} (hd : decode bytes pc = .ok (.lsub, 1)) (hq : pc + 1 = q) (hz : x - y = z) (r : Goes p e below G (T.setTop (mkF m q L (.long z :: st)))) : Goes p e below G (T.setTop (mkF m pc L (.long y :: .long x :: st))) := by
  obtain ⟨hx, -, -, hby, -⟩ := C
  obtain ⟨_, _, _, X, -⟩ := X
  subst hq hz
  exact go_st (fun t k => XS.lsub X.here hx rfl (hb hby hd) rfl k) r
theorem g_lmul (C : Cx p s m meth c Z own bytes ml rt mn) (X : St p l e R s m args below meth c n0 T h k n) {x y z : Int64} (hd : decode bytes pc = .ok (.lmul, 1)) (hq : pc + 1 = q) (hz : x * y = z) (r : Goes p e below G (T.setTop (mkF m q L (.long z :: st)))) : Goes p e below G (T.setTop (mkF m pc L (.long y :: .long x :: st))) := by
  obtain ⟨hx, -, -, hby, -⟩ := C
  obtain ⟨_, _, _, X, -⟩ := X
  subst hq hz
  exact go_st (fun t k => XS.lmul X.here hx rfl (hb hby hd) rfl k) r
theorem g_land (C : Cx p s m meth c Z own bytes ml rt mn) (X : St p l e R s m args below meth c n0 T h k n) {x y z : Int64} (hd : decode bytes pc = .ok (.land, 1)) (hq : pc + 1 = q) (hz : x &&& y = z) (r : Goes p e below G (T.setTop (mkF m q L (.long z :: st)))) : Goes p e below G (T.setTop (mkF m pc L (.long y :: .long x :: st))) := by
  obtain ⟨hx, -, -, hby, -⟩ := C
  obtain ⟨_, _, _, X, -⟩ := X
  subst hq hz
  exact go_st (fun t k => XS.land X.here hx rfl (hb hby hd) rfl k) r
theorem g_lor (C : Cx p s m meth c Z own bytes ml rt mn) (X : St p l e R s m args below meth c n0 T h k n) {x y z : Int64} (hd : decode bytes pc = .ok (.lor, 1)) (hq : pc + 1 = q) (hz : x ||| y = z) (r : Goes p e below G (T.setTop (mkF m q L (.long z :: st)))) : Goes p e below G (T.setTop (mkF m pc L (.long y :: .long x :: st))) := by
  obtain ⟨hx, -, -, hby, -⟩ := C
  obtain ⟨_, _, _, X, -⟩ := X
  subst hq hz
  exact go_st (fun t k => XS.lor X.here hx rfl (hb hby hd) rfl k) r
theorem g_lxor (C : Cx p s m meth c Z own bytes ml rt mn) (X : St p l e R s m args below meth c n0 T h k n) {x y z : Int64} (hd : decode bytes pc = .ok (.lxor, 1)) (hq : pc + 1 = q) (hz : x ^^^ y = z) (r : Goes p e below G (T.setTop (mkF m q L (.long z :: st)))) : Goes p e below G (T.setTop (mkF m pc L (.long y :: .long x :: st))) := by
  obtain ⟨hx, -, -, hby, -⟩ := C
  obtain ⟨_, _, _, X, -⟩ := X
  subst hq hz
  exact go_st (fun t k => XS.lxor X.here hx rfl (hb hby hd) rfl k) r
theorem g_lshl (C : Cx p s m meth c Z own bytes ml rt mn) (X : St p l e R s m args below meth c n0 T h k n) {x z : Int64} {y : Int32} (hd : decode bytes pc = .ok (.lshl, 1)) (hq : pc + 1 = q) (hz : x <<< (y &&& 0x3f).toInt64 = z) (r : Goes p e below G (T.setTop (mkF m q L (.long z :: st)))) : Goes p e below G (T.setTop (mkF m pc L (.int y :: .long x :: st))) := by
  obtain ⟨hx, -, -, hby, -⟩ := C
  obtain ⟨_, _, _, X, -⟩ := X
  subst hq hz
  exact go_st (fun t k => XS.lshl X.here hx rfl (hb hby hd) rfl k) r
theorem g_lshr (C : Cx p s m meth c Z own bytes ml rt mn) (X : St p l e R s m args below meth c n0 T h k n) {x z : Int64} {y : Int32} (hd : decode bytes pc = .ok (.lshr, 1)) (hq : pc + 1 = q) (hz : x >>> (y &&& 0x3f).toInt64 = z) (r : Goes p e below G (T.setTop (mkF m q L (.long z :: st)))) : Goes p e below G (T.setTop (mkF m pc L (.int y :: .long x :: st))) := by
  obtain ⟨hx, -, -, hby, -⟩ := C
  obtain ⟨_, _, _, X, -⟩ := X
  subst hq hz
  exact go_st (fun t k => XS.lshr X.here hx rfl (hb hby hd) rfl k) r
theorem g_lushr (C : Cx p s m meth c Z own bytes ml rt mn) (X : St p l e R s m args below meth c n0 T h k n) {x z : Int64} {y : Int32} (hd : decode bytes pc = .ok (.lushr, 1)) (hq : pc + 1 = q) (hz : (x.toUInt64 >>> (y &&& 0x3f).toInt64.toUInt64).toInt64 = z) (r : Goes p e below G (T.setTop (mkF m q L (.long z :: st)))) : Goes p e below G (T.setTop (mkF m pc L (.int y :: .long x :: st))) := by
  obtain ⟨hx, -, -, hby, -⟩ := C
  obtain ⟨_, _, _, X, -⟩ := X
  subst hq hz
  exact go_st (fun t k => XS.lushr X.here hx rfl (hb hby hd) rfl k) r
theorem g_ldiv (C : Cx p s m meth c Z own bytes ml rt mn) (X : St p l e R s m args below meth c n0 T h k n) {x y z : Int64} (hd : decode bytes pc = .ok (.ldiv, 1)) (hq : pc + 1 = q) (hy : y ≠ 0) (hz : x / y = z) (r : Goes p e below G (T.setTop (mkF m q L (.long z :: st)))) : Goes p e below G (T.setTop (mkF m pc L (.long y :: .long x :: st))) := by
  obtain ⟨hx, -, -, hby, -⟩ := C
  obtain ⟨_, _, _, X, -⟩ := X
  subst hq hz
  exact go_st (fun t k => XS.ldiv X.here hx rfl (hb hby hd) rfl hy k) r
theorem g_lrem (C : Cx p s m meth c Z own bytes ml rt mn) (X : St p l e R s m args below meth c n0 T h k n) {x y z : Int64} (hd : decode bytes pc = .ok (.lrem, 1)) (hq : pc + 1 = q) (hy : y ≠ 0) (hz : x % y = z) (r : Goes p e below G (T.setTop (mkF m q L (.long z :: st)))) : Goes p e below G (T.setTop (mkF m pc L (.long y :: .long x :: st))) := by
  obtain ⟨hx, -, -, hby, -⟩ := C
  obtain ⟨_, _, _, X, -⟩ := X
  subst hq hz
  have w := lrem_mod x y
  exact go_st (fun t k => XS.lrem X.here hx rfl (hb hby hd) rfl hy (by rw [w]; exact k)) r
theorem g_lneg (C : Cx p s m meth c Z own bytes ml rt mn) (X : St p l e R s m args below meth c n0 T h k n) {x z : Int64} (hd : decode bytes pc = .ok (.lneg, 1)) (hq : pc + 1 = q) (hz : -x = z) (r : Goes p e below G (T.setTop (mkF m q L (.long z :: st)))) : Goes p e below G (T.setTop (mkF m pc L (.long x :: st))) := by
  obtain ⟨hx, -, -, hby, -⟩ := C
  obtain ⟨_, _, _, X, -⟩ := X
  subst hq hz
  exact go_st (fun t k => XS.lneg X.here hx rfl (hb hby hd) rfl k) r
theorem g_i2l (C : Cx p s m meth c Z own bytes ml rt mn) (X : St p l e R s m args below meth c n0 T h k n) {x : Int32} {z : Int64} (hd : decode bytes pc = .ok (.i2l, 1)) (hq : pc + 1 = q) (hz : x.toInt64 = z) (r : Goes p e below G (T.setTop (mkF m q L (.long z :: st)))) : Goes p e below G (T.setTop (mkF m pc L (.int x :: st))) := by
  obtain ⟨hx, -, -, hby, -⟩ := C
  obtain ⟨_, _, _, X, -⟩ := X
  subst hq hz
  exact go_st (fun t k => XS.i2l X.here hx rfl (hb hby hd) rfl k) r
theorem g_l2i (C : Cx p s m meth c Z own bytes ml rt mn) (X : St p l e R s m args below meth c n0 T h k n) {x : Int64} {z : Int32} (hd : decode bytes pc = .ok (.l2i, 1)) (hq : pc + 1 = q) (hz : x.toInt32 = z) (r : Goes p e below G (T.setTop (mkF m q L (.int z :: st)))) : Goes p e below G (T.setTop (mkF m pc L (.long x :: st))) := by
  obtain ⟨hx, -, -, hby, -⟩ := C
  obtain ⟨_, _, _, X, -⟩ := X
  subst hq hz
  exact go_st (fun t k => XS.l2i X.here hx rfl (hb hby hd) rfl k) r
theorem g_i2b (C : Cx p s m meth c Z own bytes ml rt mn) (X : St p l e R s m args below meth c n0 T h k n) {x z : Int32} (hd : decode bytes pc = .ok (.i2b, 1)) (hq : pc + 1 = q) (hz : x.toInt8.toInt32 = z) (r : Goes p e below G (T.setTop (mkF m q L (.int z :: st)))) : Goes p e below G (T.setTop (mkF m pc L (.int x :: st))) := by
  obtain ⟨hx, -, -, hby, -⟩ := C
  obtain ⟨_, _, _, X, -⟩ := X
  subst hq hz
  exact go_st (fun t k => XS.i2b X.here hx rfl (hb hby hd) rfl k) r
theorem g_i2s (C : Cx p s m meth c Z own bytes ml rt mn) (X : St p l e R s m args below meth c n0 T h k n) {x z : Int32} (hd : decode bytes pc = .ok (.i2s, 1)) (hq : pc + 1 = q) (hz : x.toInt16.toInt32 = z) (r : Goes p e below G (T.setTop (mkF m q L (.int z :: st)))) : Goes p e below G (T.setTop (mkF m pc L (.int x :: st))) := by
  obtain ⟨hx, -, -, hby, -⟩ := C
  obtain ⟨_, _, _, X, -⟩ := X
  subst hq hz
  exact go_st (fun t k => XS.i2s X.here hx rfl (hb hby hd) rfl k) r
theorem g_i2c (C : Cx p s m meth c Z own bytes ml rt mn) (X : St p l e R s m args below meth c n0 T h k n) {x z : Int32} (hd : decode bytes pc = .ok (.i2c, 1)) (hq : pc + 1 = q) (hz : x.toUInt32.toUInt16.toUInt32.toInt32 = z) (r : Goes p e below G (T.setTop (mkF m q L (.int z :: st)))) : Goes p e below G (T.setTop (mkF m pc L (.int x :: st))) := by
  obtain ⟨hx, -, -, hby, -⟩ := C
  obtain ⟨_, _, _, X, -⟩ := X
  subst hq hz
  exact go_st (fun t k => XS.i2c X.here hx rfl (hb hby hd) rfl k) r
theorem g_lconst (C : Cx p s m meth c Z own bytes ml rt mn) (X : St p l e R s m args below meth c n0 T h k n) {i : Fin 2} {z : Int64} (hd : decode bytes pc = .ok (.lconst i, 1)) (hq : pc + 1 = q) (hz : (i.val.toInt64) = z) (r : Goes p e below G (T.setTop (mkF m q L (.long z :: st)))) : Goes p e below G (T.setTop (mkF m pc L (st))) := by
  obtain ⟨hx, -, -, hby, -⟩ := C
  obtain ⟨_, _, _, X, -⟩ := X
  subst hq hz
  exact go_st (fun t k => XS.lconst X.here hx rfl (hb hby hd) k) r
theorem own_lcW (x y : Int64) : (if x > y then (1 : Int32) else if x = y then 0 else -1) = lcmpW x y := rfl
theorem g_lcmp (C : Cx p s m meth c Z own bytes ml rt mn) (X : St p l e R s m args below meth c n0 T h k n) {x y : Int64} {z : Int32} (hd : decode bytes pc = .ok (.lcmp, 1)) (hq : pc + 1 = q) (hz : lcmpW x y = z) (r : Goes p e below G (T.setTop (mkF m q L (.int z :: st)))) : Goes p e below G (T.setTop (mkF m pc L (.long y :: .long x :: st))) := by
  obtain ⟨hx, -, -, hby, -⟩ := C
  obtain ⟨_, _, _, X, -⟩ := X
  subst hq hz
  exact go_st (fun t k => XS.lcmp X.here hx rfl (hb hby hd) rfl k) r
theorem g_dup (C : Cx p s m meth c Z own bytes ml rt mn) (X : St p l e R s m args below meth c n0 T h k n) {x : Value} (hd : decode bytes pc = .ok (.dup, 1)) (hq : pc + 1 = q) (hc : x.category = 1) (r : Goes p e below G (T.setTop (mkF m q L (x :: x :: st)))) : Goes p e below G (T.setTop (mkF m pc L (x :: st))) := by
  obtain ⟨hx, -, -, hby, -⟩ := C
  obtain ⟨_, _, _, X, -⟩ := X
  subst hq 
  exact go_st (fun t k => XS.dup X.here hx rfl (hb hby hd) rfl hc k) r
theorem g_pop (C : Cx p s m meth c Z own bytes ml rt mn) (X : St p l e R s m args below meth c n0 T h k n) {x : Value} (hd : decode bytes pc = .ok (.pop, 1)) (hq : pc + 1 = q) (hc : x.category = 1) (r : Goes p e below G (T.setTop (mkF m q L (st)))) : Goes p e below G (T.setTop (mkF m pc L (x :: st))) := by
  obtain ⟨hx, -, -, hby, -⟩ := C
  obtain ⟨_, _, _, X, -⟩ := X
  subst hq 
  exact go_st (fun t k => XS.pop X.here hx rfl (hb hby hd) rfl hc k) r
theorem g_dupX1 (C : Cx p s m meth c Z own bytes ml rt mn) (X : St p l e R s m args below meth c n0 T h k n) {x y : Value} (hd : decode bytes pc = .ok (.dup_x1, 1)) (hq : pc + 1 = q) (hc : x.category = 1) (hc' : y.category = 1) (r : Goes p e below G (T.setTop (mkF m q L (x :: y :: x :: st)))) : Goes p e below G (T.setTop (mkF m pc L (x :: y :: st))) := by
  obtain ⟨hx, -, -, hby, -⟩ := C
  obtain ⟨_, _, _, X, -⟩ := X
  subst hq 
  exact go_st (fun t k => XS.dupX1 X.here hx rfl (hb hby hd) rfl hc hc' k) r
theorem g_dup2 (C : Cx p s m meth c Z own bytes ml rt mn) (X : St p l e R s m args below meth c n0 T h k n) {x y : Value} (hd : decode bytes pc = .ok (.dup2, 1)) (hq : pc + 1 = q) (hc : x.category = 1) (hc' : y.category = 1) (r : Goes p e below G (T.setTop (mkF m q L (x :: y :: x :: y :: st)))) : Goes p e below G (T.setTop (mkF m pc L (x :: y :: st))) := by
  obtain ⟨hx, -, -, hby, -⟩ := C
  obtain ⟨_, _, _, X, -⟩ := X
  subst hq 
  exact go_st (fun t k => Jvm.Free.XT.dup2 X.here hx rfl (hb hby hd) rfl hc hc' k) r
theorem g_istoreN (C : Cx p s m meth c Z own bytes ml rt mn) (X : St p l e R s m args below meth c n0 T h k n) {j : Fin 4} {x : Int32} {L' : Array Slot} (hd : decode bytes pc = .ok (.istore_n j, 1)) (hq : pc + 1 = q) (hl : storeLocals L j.val (.int x) = some L') (r : Goes p e below G (T.setTop (mkF m q L' (st)))) : Goes p e below G (T.setTop (mkF m pc L (.int x :: st))) := by
  obtain ⟨hx, -, -, hby, -⟩ := C
  obtain ⟨_, _, _, X, -⟩ := X
  subst hq 
  exact go_st (fun t k => XS.istoreN X.here hx rfl (hb hby hd) rfl hl k) r
theorem g_istore (C : Cx p s m meth c Z own bytes ml rt mn) (X : St p l e R s m args below meth c n0 T h k n) {j : Nat} {x : Int32} {L' : Array Slot} (hd : decode bytes pc = .ok (.istore j, 2)) (hq : pc + 2 = q) (hl : storeLocals L j (.int x) = some L') (r : Goes p e below G (T.setTop (mkF m q L' (st)))) : Goes p e below G (T.setTop (mkF m pc L (.int x :: st))) := by
  obtain ⟨hx, -, -, hby, -⟩ := C
  obtain ⟨_, _, _, X, -⟩ := X
  subst hq 
  exact go_st (fun t k => XS.istore X.here hx rfl (hb hby hd) rfl hl k) r
theorem g_lstoreN (C : Cx p s m meth c Z own bytes ml rt mn) (X : St p l e R s m args below meth c n0 T h k n) {j : Fin 4} {x : Int64} {L' : Array Slot} (hd : decode bytes pc = .ok (.lstore_n j, 1)) (hq : pc + 1 = q) (hl : storeLocals L j.val (.long x) = some L') (r : Goes p e below G (T.setTop (mkF m q L' (st)))) : Goes p e below G (T.setTop (mkF m pc L (.long x :: st))) := by
  obtain ⟨hx, -, -, hby, -⟩ := C
  obtain ⟨_, _, _, X, -⟩ := X
  subst hq 
  exact go_st (fun t k => XS.lstoreN X.here hx rfl (hb hby hd) rfl hl k) r
theorem g_lstore (C : Cx p s m meth c Z own bytes ml rt mn) (X : St p l e R s m args below meth c n0 T h k n) {j : Nat} {x : Int64} {L' : Array Slot} (hd : decode bytes pc = .ok (.lstore j, 2)) (hq : pc + 2 = q) (hl : storeLocals L j (.long x) = some L') (r : Goes p e below G (T.setTop (mkF m q L' (st)))) : Goes p e below G (T.setTop (mkF m pc L (.long x :: st))) := by
  obtain ⟨hx, -, -, hby, -⟩ := C
  obtain ⟨_, _, _, X, -⟩ := X
  subst hq 
  exact go_st (fun t k => XS.lstore X.here hx rfl (hb hby hd) rfl hl k) r
theorem g_astoreN (C : Cx p s m meth c Z own bytes ml rt mn) (X : St p l e R s m args below meth c n0 T h k n) {j : Fin 4} {x : Value} {L' : Array Slot} (hd : decode bytes pc = .ok (.astore_n j, 1)) (hq : pc + 1 = q) (hv : x.isRef = true) (hl : storeLocals L j.val x = some L') (r : Goes p e below G (T.setTop (mkF m q L' (st)))) : Goes p e below G (T.setTop (mkF m pc L (x :: st))) := by
  obtain ⟨hx, -, -, hby, -⟩ := C
  obtain ⟨_, _, _, X, -⟩ := X
  subst hq 
  exact go_st (fun t k => XS.astoreN X.here hx rfl (hb hby hd) rfl hv hl k) r
theorem g_astore (C : Cx p s m meth c Z own bytes ml rt mn) (X : St p l e R s m args below meth c n0 T h k n) {j : Nat} {x : Value} {L' : Array Slot} (hd : decode bytes pc = .ok (.astore j, 2)) (hq : pc + 2 = q) (hv : x.isRef = true) (hl : storeLocals L j x = some L') (r : Goes p e below G (T.setTop (mkF m q L' (st)))) : Goes p e below G (T.setTop (mkF m pc L (x :: st))) := by
  obtain ⟨hx, -, -, hby, -⟩ := C
  obtain ⟨_, _, _, X, -⟩ := X
  subst hq 
  exact go_st (fun t k => XS.astore X.here hx rfl (hb hby hd) rfl hv hl k) r
theorem g_iinc (C : Cx p s m meth c Z own bytes ml rt mn) (X : St p l e R s m args below meth c n0 T h k n) {j : Nat} {i : Int} {x z : Int32} {L' : Array Slot} (hd : decode bytes pc = .ok (.iinc j i, 3)) (hq : pc + 3 = q) (hl : L[j]? = some (.val (.int x))) (hz : x + Int32.ofInt i = z) (hl' : storeLocals L j (.int z) = some L') (r : Goes p e below G (T.setTop (mkF m q L' (st)))) : Goes p e below G (T.setTop (mkF m pc L (st))) := by
  obtain ⟨hx, -, -, hby, -⟩ := C
  obtain ⟨_, _, _, X, -⟩ := X
  subst hq hz
  exact go_st (fun t k => XS.iinc X.here hx rfl (hb hby hd) hl hl' k) r
theorem g_goto (C : Cx p s m meth c Z own bytes ml rt mn) (X : St p l e R s m args below meth c n0 T h k n)  {o : Int} (hd : decode bytes pc = .ok (.goto o, 3)) (ho : 0 ≤ (pc : Int) + o) (hq : ((pc : Int) + o).toNat = q)  (r : Goes p e below G (T.setTop (mkF m q L st))) : Goes p e below G (T.setTop (mkF m pc L (st))) := by
  obtain ⟨hx, -, -, hby, -⟩ := C
  obtain ⟨_, _, _, X, -⟩ := X
  exact go_st (fun t k => XS.goto X.here hx rfl rfl (hb hby hd) ho hq k) r
theorem g_ifY (C : Cx p s m meth c Z own bytes ml rt mn) (X : St p l e R s m args below meth c n0 T h k n) {cd : ClassFile.Cond} {x : Int32} {o : Int} (hd : decode bytes pc = .ok (.ifCond cd o, 3)) (ho : 0 ≤ (pc : Int) + o) (hq : ((pc : Int) + o).toNat = q) (hc : if_icmp.holds cd x 0 = true) (r : Goes p e below G (T.setTop (mkF m q L st))) : Goes p e below G (T.setTop (mkF m pc L (.int x :: st))) := by
  obtain ⟨hx, -, -, hby, -⟩ := C
  obtain ⟨_, _, _, X, -⟩ := X
  exact go_st (fun t k => XS.ifYes X.here hx rfl rfl (hb hby hd) rfl ((if0 _ _).trans hc) ho hq k) r
theorem g_ifN (C : Cx p s m meth c Z own bytes ml rt mn) (X : St p l e R s m args below meth c n0 T h k n) {cd : ClassFile.Cond} {x : Int32} {o : Int} (hd : decode bytes pc = .ok (.ifCond cd o, 3)) (hq : pc + 3 = q) (hc : if_icmp.holds cd x 0 = false) (r : Goes p e below G (T.setTop (mkF m q L st))) : Goes p e below G (T.setTop (mkF m pc L (.int x :: st))) := by
  obtain ⟨hx, -, -, hby, -⟩ := C
  obtain ⟨_, _, _, X, -⟩ := X
  subst hq
  exact go_st (fun t k => XS.ifNo X.here hx rfl (hb hby hd) rfl ((if0 _ _).trans hc) k) r
theorem g_icY (C : Cx p s m meth c Z own bytes ml rt mn) (X : St p l e R s m args below meth c n0 T h k n) {cd : ClassFile.Cond} {x y : Int32} {o : Int} (hd : decode bytes pc = .ok (.if_icmp cd o, 3)) (ho : 0 ≤ (pc : Int) + o) (hq : ((pc : Int) + o).toNat = q) (hc : if_icmp.holds cd x y = true) (r : Goes p e below G (T.setTop (mkF m q L st))) : Goes p e below G (T.setTop (mkF m pc L (.int y :: .int x :: st))) := by
  obtain ⟨hx, -, -, hby, -⟩ := C
  obtain ⟨_, _, _, X, -⟩ := X
  exact go_st (fun t k => XS.icmpYes X.here hx rfl rfl (hb hby hd) rfl hc ho hq k) r
theorem g_icN (C : Cx p s m meth c Z own bytes ml rt mn) (X : St p l e R s m args below meth c n0 T h k n) {cd : ClassFile.Cond} {x y : Int32} {o : Int} (hd : decode bytes pc = .ok (.if_icmp cd o, 3)) (hq : pc + 3 = q) (hc : if_icmp.holds cd x y = false) (r : Goes p e below G (T.setTop (mkF m q L st))) : Goes p e below G (T.setTop (mkF m pc L (.int y :: .int x :: st))) := by
  obtain ⟨hx, -, -, hby, -⟩ := C
  obtain ⟨_, _, _, X, -⟩ := X
  subst hq
  exact go_st (fun t k => XS.icmpNo X.here hx rfl (hb hby hd) rfl hc k) r
theorem g_nulY (C : Cx p s m meth c Z own bytes ml rt mn) (X : St p l e R s m args below meth c n0 T h k n)  {o : Int} (hd : decode bytes pc = .ok (.ifnull o, 3)) (ho : 0 ≤ (pc : Int) + o) (hq : ((pc : Int) + o).toNat = q)  (r : Goes p e below G (T.setTop (mkF m q L st))) : Goes p e below G (T.setTop (mkF m pc L (.null :: st))) := by
  obtain ⟨hx, -, -, hby, -⟩ := C
  obtain ⟨_, _, _, X, -⟩ := X
  exact go_st (fun t k => XS.ifnullYes X.here hx rfl rfl (hb hby hd) rfl ho hq k) r
theorem g_nulN (C : Cx p s m meth c Z own bytes ml rt mn) (X : St p l e R s m args below meth c n0 T h k n) {b : Addr} {o : Int} (hd : decode bytes pc = .ok (.ifnull o, 3)) (hq : pc + 3 = q)  (r : Goes p e below G (T.setTop (mkF m q L st))) : Goes p e below G (T.setTop (mkF m pc L (.ref b :: st))) := by
  obtain ⟨hx, -, -, hby, -⟩ := C
  obtain ⟨_, _, _, X, -⟩ := X
  subst hq
  exact go_st (fun t k => XS.ifnullNo X.here hx rfl (hb hby hd) rfl k) r
theorem g_nonY (C : Cx p s m meth c Z own bytes ml rt mn) (X : St p l e R s m args below meth c n0 T h k n) {b : Addr} {o : Int} (hd : decode bytes pc = .ok (.ifnonnull o, 3)) (ho : 0 ≤ (pc : Int) + o) (hq : ((pc : Int) + o).toNat = q)  (r : Goes p e below G (T.setTop (mkF m q L st))) : Goes p e below G (T.setTop (mkF m pc L (.ref b :: st))) := by
  obtain ⟨hx, -, -, hby, -⟩ := C
  obtain ⟨_, _, _, X, -⟩ := X
  exact go_st (fun t k => XS.ifnonnullYes X.here hx rfl rfl (hb hby hd) rfl ho hq k) r
theorem g_nonN (C : Cx p s m meth c Z own bytes ml rt mn) (X : St p l e R s m args below meth c n0 T h k n)  {o : Int} (hd : decode bytes pc = .ok (.ifnonnull o, 3)) (hq : pc + 3 = q)  (r : Goes p e below G (T.setTop (mkF m q L st))) : Goes p e below G (T.setTop (mkF m pc L (.null :: st))) := by
  obtain ⟨hx, -, -, hby, -⟩ := C
  obtain ⟨_, _, _, X, -⟩ := X
  subst hq
  exact go_st (fun t k => XS.ifnonnullNo X.here hx rfl (hb hby hd) rfl k) r
theorem g_boolF (C : Cx p s m meth c Z own bytes ml rt mn) (X : St p l e R s m args below meth c n0 T h k n) {cd : ClassFile.Cond} {x : Int32} (hd : decode bytes pc = .ok (.ifCond cd 7, 3)) (hd1 : decode bytes (pc + 3) = .ok (.iconst 1, 1)) (hd2 : decode bytes (pc + 4) = .ok (.goto 4, 3)) (hd3 : decode bytes (pc + 7) = .ok (.iconst 0, 1)) (hq : pc + 8 = q) (r : ∀ b : Int32, (if_icmp.holds cd x 0 = true → b = 0) → (if_icmp.holds cd x 0 = false → b = 1) → Goes p e below G (T.setTop (mkF m q L (.int b :: st)))) : Goes p e below G (T.setTop (mkF m pc L (.int x :: st))) := by
  subst hq
  cases hc : if_icmp.holds cd x 0
  · refine g_ifN C X hd (q := pc + 3) rfl hc ?_
    refine g_iconst C X hd1 (q := pc + 4) rfl (z := 1) rfl ?_
    refine g_goto C X hd2 (by omega) (q := pc + 8) (by omega) ?_
    exact r 1 (fun z => by rw [hc] at z; cases z) (fun _ => rfl)
  · refine g_ifY C X hd (by omega) (q := pc + 7) (by omega) hc ?_
    refine g_iconst C X hd3 (q := pc + 8) rfl (z := 0) rfl ?_
    exact r 0 (fun _ => rfl) (fun z => by rw [hc] at z; cases z)
theorem g_selF (C : Cx p s m meth c Z own bytes ml rt mn) (X : St p l e R s m args below meth c n0 T h k n) {cd : ClassFile.Cond} {x v1 v2 : Int32} {j1 j2 : Fin 4} (hd : decode bytes pc = .ok (.ifCond cd 7, 3)) (hd1 : decode bytes (pc + 3) = .ok (.iload_n j1, 1)) (hd2 : decode bytes (pc + 4) = .ok (.goto 4, 3)) (hd3 : decode bytes (pc + 7) = .ok (.iload_n j2, 1)) (hq : pc + 8 = q) (l1 : L[j1.val]? = some (.val (.int v1))) (l2 : L[j2.val]? = some (.val (.int v2))) (r : ∀ b : Int32, (if_icmp.holds cd x 0 = true → b = v2) → (if_icmp.holds cd x 0 = false → b = v1) → Goes p e below G (T.setTop (mkF m q L (.int b :: st)))) : Goes p e below G (T.setTop (mkF m pc L (.int x :: st))) := by
  subst hq
  cases hc : if_icmp.holds cd x 0
  · refine g_ifN C X hd (q := pc + 3) rfl hc ?_
    refine g_iloadN C X hd1 (q := pc + 4) rfl l1 ?_
    refine g_goto C X hd2 (by omega) (q := pc + 8) (by omega) ?_
    exact r v1 (fun z => by rw [hc] at z; cases z) (fun _ => rfl)
  · refine g_ifY C X hd (by omega) (q := pc + 7) (by omega) hc ?_
    refine g_iloadN C X hd3 (q := pc + 8) rfl l2 ?_
    exact r v2 (fun _ => rfl) (fun z => by rw [hc] at z; cases z)
theorem g_boolC (C : Cx p s m meth c Z own bytes ml rt mn) (X : St p l e R s m args below meth c n0 T h k n) {cd : ClassFile.Cond} {x y : Int32} (hd : decode bytes pc = .ok (.if_icmp cd 7, 3)) (hd1 : decode bytes (pc + 3) = .ok (.iconst 1, 1)) (hd2 : decode bytes (pc + 4) = .ok (.goto 4, 3)) (hd3 : decode bytes (pc + 7) = .ok (.iconst 0, 1)) (hq : pc + 8 = q) (r : ∀ b : Int32, (if_icmp.holds cd x y = true → b = 0) → (if_icmp.holds cd x y = false → b = 1) → Goes p e below G (T.setTop (mkF m q L (.int b :: st)))) : Goes p e below G (T.setTop (mkF m pc L (.int y :: .int x :: st))) := by
  subst hq
  cases hc : if_icmp.holds cd x y
  · refine g_icN C X hd (q := pc + 3) rfl hc ?_
    refine g_iconst C X hd1 (q := pc + 4) rfl (z := 1) rfl ?_
    refine g_goto C X hd2 (by omega) (q := pc + 8) (by omega) ?_
    exact r 1 (fun z => by rw [hc] at z; cases z) (fun _ => rfl)
  · refine g_icY C X hd (by omega) (q := pc + 7) (by omega) hc ?_
    refine g_iconst C X hd3 (q := pc + 8) rfl (z := 0) rfl ?_
    exact r 0 (fun _ => rfl) (fun z => by rw [hc] at z; cases z)
theorem g_acmp (C : Cx p s m meth c Z own bytes ml rt mn) (X : St p l e R s m args below meth c n0 T h k n) {cd : ACond} {x y : Value} {o : Int} {same : Bool} (hd : decode bytes pc = .ok (.if_acmp cd o, 3)) (h1 : x.isRef = true) (h2 : y.isRef = true) (hs : decide (x = y) = same) (ho : 0 ≤ (pc : Int) + o) (hq : q = if acV cd same = true then ((pc : Int) + o).toNat else pc + 3) (r : Goes p e below G (T.setTop (mkF m q L st))) : Goes p e below G (T.setTop (mkF m pc L (y :: x :: st))) := by
  obtain ⟨hx, -, -, hby, -⟩ := C
  obtain ⟨_, _, _, X, -⟩ := X
  exact go_st (fun t k => Jvm.RoadKit.acmp (g := mkF m pc L (y :: x :: st)) X hx rfl h1 h2 rfl (hb hby hd) rfl hs ho hq k) r
theorem g_lsw (C : Cx p s m meth c Z own bytes ml rt mn) (X : St p l e R s m args below meth c n0 T h k n) {d o : Int} {ps : Array (Int × Int)} {i : Int32} {len : Nat} (hd : decode bytes pc = .ok (.lookupswitch d ps, len)) (hinc : (ps.toList.zip (ps.toList.drop 1)).all (fun (a, next) => a.1 < next.1) = true) (hoff : lookupswitch.offset ps.toList d i.toInt = o) (ho : 0 ≤ (pc : Int) + o) (hq : ((pc : Int) + o).toNat = q) (r : Goes p e below G (T.setTop (mkF m q L st))) : Goes p e below G (T.setTop (mkF m pc L (.int i :: st))) := by
  obtain ⟨hx, -, -, hby, -⟩ := C
  obtain ⟨_, _, _, X, -⟩ := X
  subst hq
  refine go_st (fun t k => ?_) r
  have hd' := hb hby hd
  show Steps p.tables e below (T.setTop { method := m, pc := pc, locals := L, stack := .int i :: st, locked := none }) _
  jvm_step X.here [X.here.top, hx, hd', lookupswitch.wp_chain, hoff, ho]
  refine ⟨?_, k⟩
  intro a b a1 b1 hm
  simpa using List.all_eq_true.mp hinc ((a, b), a1, b1) (by simpa using hm)
theorem g_tswI (C : Cx p s m meth c Z own bytes ml rt mn) (X : St p l e R s m args below meth c n0 T h k n) {d lo hi o : Int} {offs : Array Int} {i : Int32} {len : Nat} (hd : decode bytes pc = .ok (.tableswitch d lo hi offs, len)) (hin : ¬ (i.toInt < lo ∨ i.toInt > hi)) (hoff : offs[(i.toInt - lo).toNat]? = some o) (ho : 0 ≤ (pc : Int) + o) (hq : ((pc : Int) + o).toNat = q) (r : Goes p e below G (T.setTop (mkF m q L st))) : Goes p e below G (T.setTop (mkF m pc L (.int i :: st))) := by
  obtain ⟨hx, -, -, hby, -⟩ := C
  obtain ⟨_, _, _, X, -⟩ := X
  exact go_st (fun t k => XS.tswIn X.here hx rfl rfl (hb hby hd) rfl hin hoff ho hq k) r
theorem g_tswO (C : Cx p s m meth c Z own bytes ml rt mn) (X : St p l e R s m args below meth c n0 T h k n) {d lo hi : Int} {offs : Array Int} {i : Int32} {len : Nat} (hd : decode bytes pc = .ok (.tableswitch d lo hi offs, len)) (hin : i.toInt < lo ∨ i.toInt > hi) (ho : 0 ≤ (pc : Int) + d) (hq : ((pc : Int) + d).toNat = q) (r : Goes p e below G (T.setTop (mkF m q L st))) : Goes p e below G (T.setTop (mkF m pc L (.int i :: st))) := by
  obtain ⟨hx, -, -, hby, -⟩ := C
  obtain ⟨_, _, _, X, -⟩ := X
  exact go_st (fun t k => XS.tswOut X.here hx rfl rfl (hb hby hd) rfl hin ho hq k) r
theorem g_ldcI (C : Cx p s m meth c Z own bytes ml rt mn) (X : St p l e R s m args below meth c n0 T h k n) {i : Nat} {v : Int32} (w : (Cond.constant own i v).before a0 Z = true) (hd : decode bytes pc = .ok (.ldc i, 2)) (hq : pc + 2 = q) (r : Goes p e below G (T.setTop (mkF m q L (.int v :: st)))) : Goes p e below G (T.setTop (mkF m pc L st)) := by
  obtain ⟨hx, hZ, hown, hby, -⟩ := C
  obtain ⟨_, _, _, X, -⟩ := X
  subst hq
  exact go_st (fun t k => X.ldcInt hx hown (mvT hZ w) (g := mkF m pc L st) rfl (hb hby hd) t k) r
theorem g_ldcJ (C : Cx p s m meth c Z own bytes ml rt mn) (X : St p l e R s m args below meth c n0 T h k n) {i : Nat} {v : Int64} (w : (Cond.constantLong own i v).before a0 Z = true) (hd : decode bytes pc = .ok (.ldc2_w i, 3)) (hq : pc + 3 = q) (r : Goes p e below G (T.setTop (mkF m q L (.long v :: st)))) : Goes p e below G (T.setTop (mkF m pc L st)) := by
  obtain ⟨hx, hZ, hown, hby, -⟩ := C
  obtain ⟨_, _, _, X, -⟩ := X
  subst hq
  exact go_st (fun t k => X.ldc2Long hx hown (mvT hZ w) (g := mkF m pc L st) rfl (hb hby hd) t k) r
theorem own_end (C : Cx p s m meth c Z own bytes ml rt mn) (X : St p l e R s m args below meth c n0 T h k n) {Q : Option Value → Heap → Prop} {K N : Nat} {S : State} {v : Option Value} (hv : rt = none → v = none) (hk : k ≤ K) (hn : n ≤ N) (hQ : Q v h)
    (f : ∀ locs cells slots fs, Stand p l e R s m args below meth c T locs cells slots → (∀ (f : JFrame) (acts : List Action), f.method = m → f.locked = none → f.entered = [] → (doReturn e (T.setTop f) acts v).1 = T.setFrames fs) → Steps p.tables e below S (T.setFrames fs)) : Goes p e below (FinN Q s n0 K N) S := by
  obtain ⟨hx, -, -, hby, -, hret, hlk, -⟩ := C
  obtain ⟨locs, cells, slots, X, hF, rfl, h1, h2⟩ := X
  obtain ⟨fs, hr, hrun, hended, hW, hsame⟩ := X.leave (v := v) (fun h => hv (hret.symm.trans h)) hlk
  exact ⟨_, _, f _ _ _ fs X hr, hrun, hended, _, _, rfl, ⟨hF, hQ⟩, ⟨_, rfl⟩, hW, hsame.mono (Nat.le_trans h1 hk) (Nat.le_trans h2 hn)⟩
theorem g_retI (C : Cx p s m meth c Z own bytes ml (some .int) mn) (X : St p l e R s m args below meth c n0 T h k n) {Q : Option Value → Heap → Prop} {K N : Nat} {z : Int32} (hd : decode bytes pc = .ok (.ireturn, 1)) (hk : k ≤ K) (hn : n ≤ N) (hQ : Q (some (.int z)) h) : Goes p e below (FinN Q s n0 K N) (T.setTop (mkF m pc L (.int z :: st))) := by
  refine own_end C X (by simp) hk hn hQ fun locs cells slots fs X hr => ?_
  obtain ⟨hx, -, -, hby, -, hret, hlk, -⟩ := C
  exact retOut X hx hret rfl (Or.inl ⟨rfl, Or.inl rfl, _, rfl⟩) (hb hby hd) hr
theorem g_retN {t : FieldType} (C : Cx p s m meth c Z own bytes ml (some t) mn) (X : St p l e R s m args below meth c n0 T h k n) {Q : Option Value → Heap → Prop} {K N : Nat} {z z' : Int32} (ht : t = .boolean ∨ t = .byte ∨ t = .char ∨ t = .short) (hz : nar t z = z') (hd : decode bytes pc = .ok (.ireturn, 1)) (hk : k ≤ K) (hn : n ≤ N) (hQ : Q (some (.int z')) h) : Goes p e below (FinN Q s n0 K N) (T.setTop (mkF m pc L (.int z :: st))) := by
  subst hz
  refine own_end C X (by simp) hk hn hQ fun locs cells slots fs X hr => ?_
  obtain ⟨hx, -, -, hby, -, hret, hlk, -⟩ := C
  exact retN X hx hret ht (hb hby hd) hr
theorem g_retA {t : FieldType} (C : Cx p s m meth c Z own bytes ml (some t) mn) (X : St p l e R s m args below meth c n0 T h k n) {Q : Option Value → Heap → Prop} {K N : Nat} {v : Value} (ht : t.isReference = true) (hv : v.isRef = true) (hd : decode bytes pc = .ok (.areturn, 1)) (hk : k ≤ K) (hn : n ≤ N) (hQ : Q (some v) h) : Goes p e below (FinN Q s n0 K N) (T.setTop (mkF m pc L (v :: st))) := by
  refine own_end C X (by simp) hk hn hQ fun locs cells slots fs X hr => ?_
  obtain ⟨hx, -, -, hby, -, hret, hlk, -⟩ := C
  have hn' : narrow t v = v := by rcases ref_cases hv with rfl | ⟨b, rfl⟩ <;> cases t <;> first | rfl | (cases ht)
  exact retOut X hx hret hn' (Or.inr (Or.inr (Or.inr (Or.inr ⟨rfl, ht, hv⟩)))) (hb hby hd) hr
theorem g_retJ (C : Cx p s m meth c Z own bytes ml (some .long) mn) (X : St p l e R s m args below meth c n0 T h k n) {Q : Option Value → Heap → Prop} {K N : Nat} {z : Int64} (hd : decode bytes pc = .ok (.lreturn, 1)) (hk : k ≤ K) (hn : n ≤ N) (hQ : Q (some (.long z)) h) : Goes p e below (FinN Q s n0 K N) (T.setTop (mkF m pc L (.long z :: st))) := by
  refine own_end C X (by simp) hk hn hQ fun locs cells slots fs X hr => ?_
  obtain ⟨hx, -, -, hby, -, hret, hlk, -⟩ := C
  exact retOut X hx hret rfl (Or.inr (Or.inl ⟨rfl, rfl, _, rfl⟩)) (hb hby hd) hr
theorem g_retV (C : Cx p s m meth c Z own bytes ml none mn) (X : St p l e R s m args below meth c n0 T h k n) {Q : Option Value → Heap → Prop} {K N : Nat} (hd : decode bytes pc = .ok (.return_, 1)) (hk : k ≤ K) (hn : n ≤ N) (hQ : Q none h) : Goes p e below (FinN Q s n0 K N) (T.setTop (mkF m pc L [])) := by
  refine own_end C X (fun _ => rfl) hk hn hQ fun locs cells slots fs X hr => ?_
  obtain ⟨hx, -, -, hby, -, hret, hlk, -⟩ := C
  exact X.returnOut hx hret (hb hby hd) hr
theorem g_dloadN (C : Cx p s m meth c Z own bytes ml rt mn) (X : St p l e R s m args below meth c n0 T h k n) {j : Fin 4} {v : UInt64} (hd : decode bytes pc = .ok (.dload_n j, 1)) (hq : pc + 1 = q) (hl : L[j.val]? = some (.val (.double v))) (r : Goes p e below G (T.setTop (mkF m q L (.double v :: st)))) : Goes p e below G (T.setTop (mkF m pc L (st))) := by
  obtain ⟨hx, -, -, hby, -⟩ := C
  obtain ⟨_, _, _, X, -⟩ := X
  subst hq 
  exact go_st (fun t k => XS.dloadN X.here hx rfl (hb hby hd) hl k) r
theorem g_dload (C : Cx p s m meth c Z own bytes ml rt mn) (X : St p l e R s m args below meth c n0 T h k n) {j : Nat} {v : UInt64} (hd : decode bytes pc = .ok (.dload j, 2)) (hq : pc + 2 = q) (hl : L[j]? = some (.val (.double v))) (r : Goes p e below G (T.setTop (mkF m q L (.double v :: st)))) : Goes p e below G (T.setTop (mkF m pc L (st))) := by
  obtain ⟨hx, -, -, hby, -⟩ := C
  obtain ⟨_, _, _, X, -⟩ := X
  subst hq 
  exact go_st (fun t k => XS.dload X.here hx rfl (hb hby hd) hl k) r
theorem g_dstoreN (C : Cx p s m meth c Z own bytes ml rt mn) (X : St p l e R s m args below meth c n0 T h k n) {j : Fin 4} {x : UInt64} {L' : Array Slot} (hd : decode bytes pc = .ok (.dstore_n j, 1)) (hq : pc + 1 = q) (hl : storeLocals L j.val (.double x) = some L') (r : Goes p e below G (T.setTop (mkF m q L' (st)))) : Goes p e below G (T.setTop (mkF m pc L (.double x :: st))) := by
  obtain ⟨hx, -, -, hby, -⟩ := C
  obtain ⟨_, _, _, X, -⟩ := X
  subst hq 
  exact go_st (fun t k => XS.dstoreN X.here hx rfl (hb hby hd) rfl hl k) r
theorem g_dstore (C : Cx p s m meth c Z own bytes ml rt mn) (X : St p l e R s m args below meth c n0 T h k n) {j : Nat} {x : UInt64} {L' : Array Slot} (hd : decode bytes pc = .ok (.dstore j, 2)) (hq : pc + 2 = q) (hl : storeLocals L j (.double x) = some L') (r : Goes p e below G (T.setTop (mkF m q L' (st)))) : Goes p e below G (T.setTop (mkF m pc L (.double x :: st))) := by
  obtain ⟨hx, -, -, hby, -⟩ := C
  obtain ⟨_, _, _, X, -⟩ := X
  subst hq 
  exact go_st (fun t k => XS.dstore X.here hx rfl (hb hby hd) rfl hl k) r
theorem g_i2d (C : Cx p s m meth c Z own bytes ml rt mn) (X : St p l e R s m args below meth c n0 T h k n) {x : Int32} {z : UInt64} (hd : decode bytes pc = .ok (.i2d, 1)) (hq : pc + 1 = q) (hz : FP.i2d x = z) (r : Goes p e below G (T.setTop (mkF m q L (.double z :: st)))) : Goes p e below G (T.setTop (mkF m pc L (.int x :: st))) := by
  obtain ⟨hx, -, -, hby, -⟩ := C
  obtain ⟨_, _, _, X, -⟩ := X
  subst hq 
  exact go_st (fun t k => XS.i2dS X.here hx rfl (hb hby hd) rfl hz k) r
theorem g_dcmp (C : Cx p s m meth c Z own bytes ml rt mn) (X : St p l e R s m args below meth c n0 T h k n) {o : CmpOp} {x y : UInt64} {z : Int32} (hd : decode bytes pc = .ok (.dcmp o, 1)) (hq : pc + 1 = q) (hz : cmpValue (FP.dcmp x y) o = z) (r : Goes p e below G (T.setTop (mkF m q L (.int z :: st)))) : Goes p e below G (T.setTop (mkF m pc L (.double y :: .double x :: st))) := by
  obtain ⟨hx, -, -, hby, -⟩ := C
  obtain ⟨_, _, _, X, -⟩ := X
  subst hq 
  exact go_st (fun t k => XS.dcmpS X.here hx rfl (hb hby hd) rfl hz k) r
theorem g_pop2 (C : Cx p s m meth c Z own bytes ml rt mn) (X : St p l e R s m args below meth c n0 T h k n) {x : Value} (hd : decode bytes pc = .ok (.pop2, 1)) (hq : pc + 1 = q) (hc : x.category = 2) (r : Goes p e below G (T.setTop (mkF m q L st))) : Goes p e below G (T.setTop (mkF m pc L (x :: st))) := by
  obtain ⟨hx, -, -, hby, -⟩ := C
  obtain ⟨_, _, _, X, -⟩ := X
  subst hq
  refine go_st (fun t k => ?_) r
  have hd' := hb hby hd
  show Steps p.tables e below (T.setTop { method := m, pc := pc, locals := L, stack := x :: st, locked := none }) _
  jvm_step X.here [X.here.top, hx, hd', hc]
  exact k
theorem g_dmul (C : Cx p s m meth c Z own bytes ml rt mn) (X : St p l e R s m args below meth c n0 T h k n) {x y z : UInt64} (hd : decode bytes pc = .ok (.dmul, 1)) (hq : pc + 1 = q) (hn : Jvm.Free.Fl.NoNaN64 (FP.dmul x y)) (hz : FP.dmul x y = z) (r : Goes p e below G (T.setTop (mkF m q L (.double z :: st)))) : Goes p e below G (T.setTop (mkF m pc L (.double y :: .double x :: st))) := by
  obtain ⟨hx, -, -, hby, -⟩ := C
  obtain ⟨_, _, _, X, -⟩ := X
  subst hq 
  exact go_st (fun t k => XS.dmulS X.here hx rfl (hb hby hd) rfl hn hz k) r
theorem g_ddiv (C : Cx p s m meth c Z own bytes ml rt mn) (X : St p l e R s m args below meth c n0 T h k n) {x y z : UInt64} (hd : decode bytes pc = .ok (.ddiv, 1)) (hq : pc + 1 = q) (hn : Jvm.Free.Fl.NoNaN64 (FP.ddiv x y)) (hz : FP.ddiv x y = z) (r : Goes p e below G (T.setTop (mkF m q L (.double z :: st)))) : Goes p e below G (T.setTop (mkF m pc L (.double y :: .double x :: st))) := by
  obtain ⟨hx, -, -, hby, -⟩ := C
  obtain ⟨_, _, _, X, -⟩ := X
  subst hq 
  exact go_st (fun t k => XS.ddivS X.here hx rfl (hb hby hd) rfl hn hz k) r
theorem g_ldcD (C : Cx p s m meth c Z own bytes ml rt mn) (X : St p l e R s m args below meth c n0 T h k n) {i : Nat} {v : UInt64} (w : (Cond.constantDouble own i v).before a0 Z = true) (hd : decode bytes pc = .ok (.ldc2_w i, 3)) (hq : pc + 3 = q) (r : Goes p e below G (T.setTop (mkF m q L (.double v :: st)))) : Goes p e below G (T.setTop (mkF m pc L st)) := by
  obtain ⟨hx, hZ, hown, hby, -⟩ := C
  obtain ⟨_, _, _, X, -⟩ := X
  subst hq
  exact go_st (fun t k => X.ldc2DoubleC hx hown (mvT hZ w) (g := mkF m pc L st) rfl (hb hby hd) t k) r
theorem g_dconst0 (C : Cx p s m meth c Z own bytes ml rt mn) (X : St p l e R s m args below meth c n0 T h k n) {z : UInt64} (hd : decode bytes pc = .ok (.dconst 0, 1)) (hq : pc + 1 = q) (hz : FP.dconst0 = z) (r : Goes p e below G (T.setTop (mkF m q L (.double z :: st)))) : Goes p e below G (T.setTop (mkF m pc L (st))) := by
  obtain ⟨hx, -, -, hby, -⟩ := C
  obtain ⟨_, _, _, X, -⟩ := X
  subst hq 
  exact go_st (fun t k => XS.dconst0 X.here hx rfl (hb hby hd) hz k) r
theorem g_dconst1 (C : Cx p s m meth c Z own bytes ml rt mn) (X : St p l e R s m args below meth c n0 T h k n) {z : UInt64} (hd : decode bytes pc = .ok (.dconst 1, 1)) (hq : pc + 1 = q) (hz : FP.dconst1 = z) (r : Goes p e below G (T.setTop (mkF m q L (.double z :: st)))) : Goes p e below G (T.setTop (mkF m pc L (st))) := by
  obtain ⟨hx, -, -, hby, -⟩ := C
  obtain ⟨_, _, _, X, -⟩ := X
  subst hq 
  exact go_st (fun t k => XS.dconst1 X.here hx rfl (hb hby hd) hz k) r
theorem g_retD (C : Cx p s m meth c Z own bytes ml (some .double) mn) (X : St p l e R s m args below meth c n0 T h k n) {Q : Option Value → Heap → Prop} {K N : Nat} {z : UInt64} (hd : decode bytes pc = .ok (.dreturn, 1)) (hk : k ≤ K) (hn : n ≤ N) (hQ : Q (some (.double z)) h) : Goes p e below (FinN Q s n0 K N) (T.setTop (mkF m pc L (.double z :: st))) := by
  refine own_end C X (by simp) hk hn hQ fun locs cells slots fs X hr => ?_
  obtain ⟨hx, -, -, hby, -, hret, hlk, -⟩ := C
  exact retOut X hx hret rfl (Or.inr (Or.inr (Or.inl ⟨rfl, rfl, _, rfl⟩))) (hb hby hd) hr
theorem g_getS (C : Cx p s m meth c Z own bytes ml rt mn) (X : St p l e R s m args below meth c n0 T h k n) {R0 O f d host : String} {i : Nat} {v : Value} (w : (Cond.fieldLink own i R0 f d).before a0 Z = true ∨ (Cond.fieldLinkNest own i R0 f d host).before a0 Z = true) (via : Via Z R0 O f d) (F : Sta Z h O f d v) (hd : decode bytes pc = .ok (.getstatic i, 3)) (hq : pc + 3 = q) (r : ∀ T', St p l e R s m args below meth c n0 T' h k n → Goes p e below G (T'.setTop (mkF m q L (v :: st)))) : Goes p e below G (T.setTop (mkF m pc L st)) := by
  obtain ⟨hx, hZ, hown, hby, -⟩ := C
  obtain ⟨_, _, _, X, hF, eT, h1, h2⟩ := X
  subst hq
  obtain ⟨T', X', e', st'⟩ := getS2 X hx hZ hown w via eT F (g := mkF m pc L st) rfl (hb hby hd)
  exact go_st st' (r T' ⟨_, _, _, X', hF, e', h1, h2⟩)
theorem g_getF (C : Cx p s m meth c Z own bytes ml rt mn) (X : St p l e R s m args below meth c n0 T h k n) {R0 O f d host : String} {i : Nat} {a : Addr} {v : Value} (w : (Cond.fieldLink own i R0 f d).before a0 Z = true ∨ (Cond.fieldLinkNest own i R0 f d host).before a0 Z = true) (via : Via Z R0 O f d) (F : Fld Z h a O f d v) (hd : decode bytes pc = .ok (.getfield i, 3)) (hq : pc + 3 = q) (r : ∀ T', St p l e R s m args below meth c n0 T' h k n → Goes p e below G (T'.setTop (mkF m q L (v :: st)))) : Goes p e below G (T.setTop (mkF m pc L (.ref a :: st))) := by
  obtain ⟨hx, hZ, hown, hby, -⟩ := C
  obtain ⟨_, _, _, X, hF, eT, h1, h2⟩ := X
  subst hq
  obtain ⟨T', X', e', st'⟩ := getF X hx hZ hown w via eT F (g := mkF m pc L (.ref a :: st)) rfl rfl (hb hby hd)
  exact go_st st' (r T' ⟨_, _, _, X', hF, e', h1, h2⟩)
theorem g_putF (C : Cx p s m meth c Z own bytes ml rt mn) (X : St p l e R s m args below meth c n0 T h k n) {R0 O f d host K : String} {i kk : Nat} {ty : FieldType} {a : Addr} {v old : Value} (w : (Cond.fieldLink own i R0 f d).before a0 Z = true ∨ (Cond.fieldLinkNest own i R0 f d host).before a0 Z = true) (via : Via Z R0 O f d) (F : Fld Z h a O f d old) (E : Exa Z h a K) (Ly : (Cond.lays K O f d).before a0 Z = true ∨ ((Cond.laysFinal K O f d).before a0 Z = true ∧ own = O ∧ mn = "<init>")) (wi : (Cond.instantiable K kk).before a0 Z = true)
    (hty : parseFieldDescriptor d = some ty) (hnn : narrow ty v = v) (hff : fits ty v = true) (hd : decode bytes pc = .ok (.putfield i, 3)) (hq : pc + 3 = q) (ha : n0 ≤ a) (r : ∀ T' h', St p l e R s m args below meth c n0 T' h' k n → Wr h h' a (Jvm.RoadKit.slotOf Z O f d) v → Goes p e below G (T'.setTop (mkF m q L st))) : Goes p e below G (T.setTop (mkF m pc L (v :: .ref a :: st))) := by
  obtain ⟨hx, hZ, hown, hby, -, -, -, hnm⟩ := C
  obtain ⟨_, _, _, X, hF, eT, h1, h2⟩ := X
  subst hq
  obtain ⟨T', h', X', e', W', st'⟩ := putF X hx hZ hown w via eT F E (Ly.imp id fun z => ⟨z.1, z.2.1, hnm.trans z.2.2⟩) wi hty hnn hff (g := mkF m pc L (v :: .ref a :: st)) rfl rfl (hb hby hd)
  exact go_st st' (r T' h' ⟨_, _, _, X', Fr.snoc X' hF ha, e', h1, h2⟩ W')
theorem g_putFN (C : Cx p s m meth c Z own bytes ml rt mn) (X : St p l e R s m args below meth c n0 T h k n) {R0 O f d K : String} {i kk : Nat} {ty : FieldType} {a : Addr} {v v' old : Value} (w : (Cond.fieldLink own i R0 f d).before a0 Z = true) (via : Via Z R0 O f d) (F : Fld Z h a O f d old) (E : Exa Z h a K) (Ly : (Cond.lays K O f d).before a0 Z = true ∨ ((Cond.laysFinal K O f d).before a0 Z = true ∧ own = O ∧ mn = "<init>")) (wi : (Cond.instantiable K kk).before a0 Z = true)
    (hty : parseFieldDescriptor d = some ty) (hnn : narrow ty v = v') (hff : fits ty v' = true) (hd : decode bytes pc = .ok (.putfield i, 3)) (hq : pc + 3 = q) (ha : n0 ≤ a) (r : ∀ T' h', St p l e R s m args below meth c n0 T' h' k n → Wr h h' a (Jvm.RoadKit.slotOf Z O f d) v' → Goes p e below G (T'.setTop (mkF m q L st))) : Goes p e below G (T.setTop (mkF m pc L (v :: .ref a :: st))) := by
  obtain ⟨hx, hZ, hown, hby, -, -, -, hnm⟩ := C
  obtain ⟨_, _, _, X, hF, eT, h1, h2⟩ := X
  subst hq
  obtain ⟨T', h', X', e', W', st'⟩ := putFN X hx hZ hown w via eT F E (Ly.imp id fun z => ⟨z.1, z.2.1, hnm.trans z.2.2⟩) wi hty hnn hff (g := mkF m pc L (v :: .ref a :: st)) rfl rfl (hb hby hd)
  exact go_st st' (r T' h' ⟨_, _, _, X', Fr.snoc X' hF ha, e', h1, h2⟩ W')
theorem g_new (C : Cx p s m meth c Z own bytes ml rt mn) (X : St p l e R s m args below meth c n0 T h k n) {K : String} {i z k' n' : Nat} (w : (Cond.classLink own i K).before a0 Z = true) (wi : (Cond.instantiable K z).before a0 Z = true) (wz : (Cond.initialized K).before a0 Z = true) (hd : decode bytes pc = .ok (.new i, 3)) (hq : pc + 3 = q) (hk : k + 1 = k') (hn : n + z = n') (hkR : k' ≤ R.cells) (hnR : n' ≤ R.slots)
    (r : ∀ T' h' a, a = h.size → St p l e R s m args below meth c n0 T' h' k' n' → Ext h h' → Exa Z h' a K → (∀ {O nm d : String} {ty : FieldType}, Laid Z a0 K O nm d → parseFieldDescriptor d = some ty → Fld Z h' a O nm d (defaultValue ty)) → Goes p e below G (T'.setTop (mkF m q L (.ref a :: st)))) : Goes p e below G (T.setTop (mkF m pc L st)) := by
  obtain ⟨hx, hZ, hown, hby, -⟩ := C
  obtain ⟨_, _, _, X, hF, eT, h1, h2⟩ := X
  subst hq hk hn
  obtain ⟨T', h', X', e', E', A', D', -, st'⟩ := newO X hx hZ hown w wi wz eT (g := mkF m pc L st) rfl (hb hby hd) (Nat.le_trans (Nat.add_le_add_right h1 1) hkR) (Nat.le_trans (Nat.add_le_add_right h2 z) hnR)
  exact go_st st' (r T' h' _ rfl ⟨_, _, _, X', hF, e', Nat.add_le_add_right h1 1, Nat.add_le_add_right h2 z⟩ E' A' D')
theorem g_newP (C : Cx p s m meth c Z own bytes ml rt mn) (X : St p l e R s m args below meth c n0 T h k n) {aty : ArrayType} {ty : FieldType} {z : Int32} {cap k' n' : Nat} (w : (Cond.arrayClass ty).before a0 Z = true) (hty : newarray.typeOf aty = ty) (hd : decode bytes pc = .ok (.newarray aty, 2)) (hq : pc + 2 = q) (hz : ¬ z < 0) (hcap : z.toNatClampNeg ≤ cap) (hcb : cap * 8 ≤ 536870912) (hk : k + 1 = k') (hn : n + cap = n') (hkR : k' ≤ R.cells) (hnR : n' ≤ R.slots)
    (r : ∀ T' h' cA a, a = h.size → St p l e R s m args below meth c n0 T' h' k' n' → Ext h h' → Arv Z h' a cA ty z [] (defaultValue ty) → Goes p e below G (T'.setTop (mkF m q L (.ref a :: st)))) : Goes p e below G (T.setTop (mkF m pc L (.int z :: st))) := by
  obtain ⟨hx, hZ, hown, hby, -⟩ := C
  obtain ⟨_, _, _, X, hF, eT, h1, h2⟩ := X
  subst hq hk hn hty
  obtain ⟨T', h', cA, X', e', E', A', st'⟩ := newP X hx hZ w eT (g := mkF m pc L (.int z :: st)) rfl (hb hby hd) rfl hz (cap := cap) hcap hcb (Nat.le_trans (Nat.add_le_add_right h1 1) hkR) (Nat.le_trans (Nat.add_le_add_right h2 cap) hnR)
  exact go_st st' (r T' h' cA _ rfl ⟨_, _, _, X', hF, e', Nat.add_le_add_right h1 1, Nat.add_le_add_right h2 cap⟩ E' (Arv.new A' hz))
theorem g_initO (C : Cx p s m meth c Z own bytes ml rt mn) (X : St p l e R s m args below meth c n0 T h k n) {i : Nat} {a : Addr} (w1 : (Cond.methodLink own i Lib.objectInit).before a0 Z = true) (w2 : (Cond.instanceMethod Lib.objectInit).before a0 Z = true) (w3 : (Cond.code Lib.objectInit ⟨#[0xb1]⟩ 1 none).before a0 Z = true) (hsz : L.size = ml) (hd : decode bytes pc = .ok (.invokespecial i, 3)) (hq : pc + 3 = q) (hf : 1 ≤ R.frames) (hW : (st.map fun v => v.category).sum + 12 ≤ R.locals)
    (r : ∀ T', St p l e R s m args below meth c n0 T' h k n → Goes p e below G (T'.setTop (mkF m q L st))) : Goes p e below G (T.setTop (mkF m pc L (.ref a :: st))) := by
  obtain ⟨hx, hZ, hown, hby, hml, -⟩ := C
  obtain ⟨_, _, _, X, hF, eT, h1, h2⟩ := X
  subst hq
  obtain ⟨T', X', e', st'⟩ := initO X hx hZ hown w1 w2 w3 eT (g := mkF m pc L (.ref a :: st)) rfl (hsz.trans hml.symm) rfl (hb hby hd) hf (W := (st.map fun v => v.category).sum) (by show 2 * 0 + _ ≤ _; omega) hW
  exact go_st st' (r T' ⟨_, _, _, X', hF, e', h1, h2⟩)
theorem g_iastore (C : Cx p s m meth c Z own bytes ml rt mn) (X : St p l e R s m args below meth c n0 T h k n) {a : Addr} {cA : ClassId} {z j : Int32} {vs vs' : List Value} {dv : Value} {i : Nat} {v : Int32} (V : Arv Z h a cA .int z vs dv) (hj : ¬ j < 0 ∧ j < z) (hi : j.toNatClampNeg = i) (hlt : i < vs.length) (hvs : vs.set i (.int v) = vs') (ha : n0 ≤ a) (hd : decode bytes pc = .ok (.iastore, 1)) (hq : pc + 1 = q)
    (r : ∀ T' h', St p l e R s m args below meth c n0 T' h' k n → Wr h h' a i (.int v) → Arv Z h' a cA .int z vs' dv → Goes p e below G (T'.setTop (mkF m q L st))) : Goes p e below G (T.setTop (mkF m pc L (.int v :: .int j :: .ref a :: st))) := by
  obtain ⟨hx, hZ, hown, hby, -⟩ := C
  obtain ⟨_, _, _, X, hF, eT, h1, h2⟩ := X
  subst hq hi hvs
  obtain ⟨cl, A, q1, Sz, q3, H, Gf⟩ := V
  obtain ⟨T', h', X', e', W', st'⟩ := stI X hx hZ eT A (j := j) (inb_of Sz hj) (g := mkF m pc L (.int v :: .int j :: .ref a :: st)) rfl rfl (hb hby hd)
  exact go_st st' (r T' h' ⟨_, _, _, X', Fr.snoc X' hF ha, e', h1, h2⟩ W' (Arv.set A q1 Sz q3 H Gf rfl W' _ rfl hlt))
theorem g_castore (C : Cx p s m meth c Z own bytes ml rt mn) (X : St p l e R s m args below meth c n0 T h k n) {a : Addr} {cA : ClassId} {z j : Int32} {vs vs' : List Value} {dv : Value} {i : Nat} {v : Int32} (V : Arv Z h a cA .char z vs dv) (hj : ¬ j < 0 ∧ j < z) (hi : j.toNatClampNeg = i) (hlt : i < vs.length) (hvs : vs.set i (.int (nar .char v)) = vs') (ha : n0 ≤ a) (hd : decode bytes pc = .ok (.castore, 1)) (hq : pc + 1 = q)
    (r : ∀ T' h', St p l e R s m args below meth c n0 T' h' k n → Wr h h' a i (.int (nar .char v)) → Arv Z h' a cA .char z vs' dv → Goes p e below G (T'.setTop (mkF m q L st))) : Goes p e below G (T.setTop (mkF m pc L (.int v :: .int j :: .ref a :: st))) := by
  obtain ⟨hx, hZ, hown, hby, -⟩ := C
  obtain ⟨_, _, _, X, hF, eT, h1, h2⟩ := X
  subst hq hi hvs
  obtain ⟨cl, A, q1, Sz, q3, H, Gf⟩ := V
  obtain ⟨T', h', X', e', W', st'⟩ := stC X hx hZ eT A (j := j) (inb_of Sz hj) (g := mkF m pc L (.int v :: .int j :: .ref a :: st)) rfl rfl (hb hby hd)
  exact go_st st' (r T' h' ⟨_, _, _, X', Fr.snoc X' hF ha, e', h1, h2⟩ W' (Arv.set A q1 Sz q3 H Gf (fits_nar_char _) W' _ rfl hlt))
theorem g_bastore (C : Cx p s m meth c Z own bytes ml rt mn) (X : St p l e R s m args below meth c n0 T h k n) {a : Addr} {cA : ClassId} {z j : Int32} {vs vs' : List Value} {dv : Value} {i : Nat} {v : Int32} (V : Arv Z h a cA .byte z vs dv) (hj : ¬ j < 0 ∧ j < z) (hi : j.toNatClampNeg = i) (hlt : i < vs.length) (hvs : vs.set i (.int (nar .byte v)) = vs') (ha : n0 ≤ a) (hd : decode bytes pc = .ok (.bastore, 1)) (hq : pc + 1 = q)
    (r : ∀ T' h', St p l e R s m args below meth c n0 T' h' k n → Wr h h' a i (.int (nar .byte v)) → Arv Z h' a cA .byte z vs' dv → Goes p e below G (T'.setTop (mkF m q L st))) : Goes p e below G (T.setTop (mkF m pc L (.int v :: .int j :: .ref a :: st))) := by
  obtain ⟨hx, hZ, hown, hby, -⟩ := C
  obtain ⟨_, _, _, X, hF, eT, h1, h2⟩ := X
  subst hq hi hvs
  obtain ⟨cl, A, q1, Sz, q3, H, Gf⟩ := V
  obtain ⟨T', h', X', e', W', st'⟩ := stB X hx hZ eT A (j := j) (inb_of Sz hj) (g := mkF m pc L (.int v :: .int j :: .ref a :: st)) rfl rfl (hb hby hd)
  exact go_st st' (r T' h' ⟨_, _, _, X', Fr.snoc X' hF ha, e', h1, h2⟩ W' (Arv.set A q1 Sz q3 H Gf (fits_nar_byte _) W' _ rfl hlt))
theorem g_zastore (C : Cx p s m meth c Z own bytes ml rt mn) (X : St p l e R s m args below meth c n0 T h k n) {a : Addr} {cA : ClassId} {z j : Int32} {vs vs' : List Value} {dv : Value} {i : Nat} {v : Int32} (V : Arv Z h a cA .boolean z vs dv) (hj : ¬ j < 0 ∧ j < z) (hi : j.toNatClampNeg = i) (hlt : i < vs.length) (hvs : vs.set i (.int (nar .boolean v)) = vs') (ha : n0 ≤ a) (hd : decode bytes pc = .ok (.bastore, 1)) (hq : pc + 1 = q)
    (r : ∀ T' h', St p l e R s m args below meth c n0 T' h' k n → Wr h h' a i (.int (nar .boolean v)) → Arv Z h' a cA .boolean z vs' dv → Goes p e below G (T'.setTop (mkF m q L st))) : Goes p e below G (T.setTop (mkF m pc L (.int v :: .int j :: .ref a :: st))) := by
  obtain ⟨hx, hZ, hown, hby, -⟩ := C
  obtain ⟨_, _, _, X, hF, eT, h1, h2⟩ := X
  subst hq hi hvs
  obtain ⟨cl, A, q1, Sz, q3, H, Gf⟩ := V
  obtain ⟨T', h', X', e', W', st'⟩ := stZ X hx hZ eT A (j := j) (inb_of Sz hj) (g := mkF m pc L (.int v :: .int j :: .ref a :: st)) rfl rfl (hb hby hd)
  exact go_st st' (r T' h' ⟨_, _, _, X', Fr.snoc X' hF ha, e', h1, h2⟩ W' (Arv.set A q1 Sz q3 H Gf (fits_nar_bool _) W' _ rfl hlt))
theorem g_lastore (C : Cx p s m meth c Z own bytes ml rt mn) (X : St p l e R s m args below meth c n0 T h k n) {a : Addr} {cA : ClassId} {z j : Int32} {vs vs' : List Value} {dv : Value} {i : Nat} {v : Int64} (V : Arv Z h a cA .long z vs dv) (hj : ¬ j < 0 ∧ j < z) (hi : j.toNatClampNeg = i) (hlt : i < vs.length) (hvs : vs.set i (.long v) = vs') (ha : n0 ≤ a) (hd : decode bytes pc = .ok (.lastore, 1)) (hq : pc + 1 = q)
    (r : ∀ T' h', St p l e R s m args below meth c n0 T' h' k n → Wr h h' a i (.long v) → Arv Z h' a cA .long z vs' dv → Goes p e below G (T'.setTop (mkF m q L st))) : Goes p e below G (T.setTop (mkF m pc L (.long v :: .int j :: .ref a :: st))) := by
  obtain ⟨hx, hZ, hown, hby, -⟩ := C
  obtain ⟨_, _, _, X, hF, eT, h1, h2⟩ := X
  subst hq hi hvs
  obtain ⟨cl, A, q1, Sz, q3, H, Gf⟩ := V
  obtain ⟨T', h', X', e', W', st'⟩ := stJ X hx hZ eT A (j := j) (inb_of Sz hj) (g := mkF m pc L (.long v :: .int j :: .ref a :: st)) rfl rfl (hb hby hd)
  exact go_st st' (r T' h' ⟨_, _, _, X', Fr.snoc X' hF ha, e', h1, h2⟩ W' (Arv.set A q1 Sz q3 H Gf rfl W' _ rfl hlt))
theorem g_dastore (C : Cx p s m meth c Z own bytes ml rt mn) (X : St p l e R s m args below meth c n0 T h k n) {a : Addr} {cA : ClassId} {z j : Int32} {vs vs' : List Value} {dv : Value} {i : Nat} {v : UInt64} (V : Arv Z h a cA .double z vs dv) (hj : ¬ j < 0 ∧ j < z) (hi : j.toNatClampNeg = i) (hlt : i < vs.length) (hvs : vs.set i (.double v) = vs') (ha : n0 ≤ a) (hd : decode bytes pc = .ok (.dastore, 1)) (hq : pc + 1 = q)
    (r : ∀ T' h', St p l e R s m args below meth c n0 T' h' k n → Wr h h' a i (.double v) → Arv Z h' a cA .double z vs' dv → Goes p e below G (T'.setTop (mkF m q L st))) : Goes p e below G (T.setTop (mkF m pc L (.double v :: .int j :: .ref a :: st))) := by
  obtain ⟨hx, hZ, hown, hby, -⟩ := C
  obtain ⟨_, _, _, X, hF, eT, h1, h2⟩ := X
  subst hq hi hvs
  obtain ⟨cl, A, q1, Sz, q3, H, Gf⟩ := V
  obtain ⟨T', h', X', e', W', st'⟩ := stD X hx hZ eT A (j := j) (inb_of Sz hj) (g := mkF m pc L (.double v :: .int j :: .ref a :: st)) rfl rfl (hb hby hd)
  exact go_st st' (r T' h' ⟨_, _, _, X', Fr.snoc X' hF ha, e', h1, h2⟩ W' (Arv.set A q1 Sz q3 H Gf rfl W' _ rfl hlt))
theorem g_aastore (C : Cx p s m meth c Z own bytes ml rt mn) (X : St p l e R s m args below meth c n0 T h k n) {a : Addr} {cA : ClassId} {z j : Int32} {vs vs' : List Value} {dv v : Value} {ty : FieldType} {i : Nat} (V : Arv Z h a cA ty z vs dv) (hty : ty.isReference = true) (F : Sto Z h a v) (hfv : fits ty v = true) (hj : ¬ j < 0 ∧ j < z) (hi : j.toNatClampNeg = i) (hlt : i < vs.length) (hvs : vs.set i v = vs') (ha : n0 ≤ a) (hd : decode bytes pc = .ok (.aastore, 1)) (hq : pc + 1 = q)
    (r : ∀ T' h', St p l e R s m args below meth c n0 T' h' k n → Wr h h' a i v → Arv Z h' a cA ty z vs' dv → Goes p e below G (T'.setTop (mkF m q L st))) : Goes p e below G (T.setTop (mkF m pc L (v :: .int j :: .ref a :: st))) := by
  obtain ⟨hx, hZ, hown, hby, -⟩ := C
  obtain ⟨_, _, _, X, hF, eT, h1, h2⟩ := X
  subst hq hi hvs
  obtain ⟨cl, A, q1, Sz, q3, H, Gf⟩ := V
  obtain ⟨T', h', X', e', W', st'⟩ := stR X hx hZ eT A (j := j) (inb_of Sz hj) hty F (g := mkF m pc L (v :: .int j :: .ref a :: st)) rfl rfl (hb hby hd)
  exact go_st st' (r T' h' ⟨_, _, _, X', Fr.snoc X' hF ha, e', h1, h2⟩ W' (Arv.set A q1 Sz q3 H Gf hfv W' _ rfl hlt))
theorem g_iaload (C : Cx p s m meth c Z own bytes ml rt mn) (X : St p l e R s m args below meth c n0 T h k n) {a : Addr} {cA : ClassId} {z j : Int32} {vs : List Value} {dv w : Value}  (V : Arv Z h a cA .int z vs dv) (hj : ¬ j < 0 ∧ j < z) (hv : vs.getD j.toNatClampNeg dv = w) (hd : decode bytes pc = .ok (.iaload, 1)) (hq : pc + 1 = q) (r : Goes p e below G (T.setTop (mkF m q L (w :: st)))) : Goes p e below G (T.setTop (mkF m pc L (.int j :: .ref a :: st))) := by
  obtain ⟨hx, hZ, hown, hby, -⟩ := C
  obtain ⟨_, _, _, X, hF, eT, h1, h2⟩ := X
  subst hq
  obtain ⟨cl, A, q1, Sz, q3, H, Gf⟩ := V
  exact go_st (fun t k => X.iaload hx (j := j) (v := w) (by rw [eT]; exact A.1) (State.isArrayOf_alike hZ.alike A.2.1) A.2.2 (inb_of Sz hj) (H.at (inb_of Sz hj) hv) (g := mkF m pc L (.int j :: .ref a :: st)) rfl rfl (hb hby hd) t k) r
theorem g_caload (C : Cx p s m meth c Z own bytes ml rt mn) (X : St p l e R s m args below meth c n0 T h k n) {a : Addr} {cA : ClassId} {z j : Int32} {vs : List Value} {dv w : Value}  (V : Arv Z h a cA .char z vs dv) (hj : ¬ j < 0 ∧ j < z) (hv : vs.getD j.toNatClampNeg dv = w) (hd : decode bytes pc = .ok (.caload, 1)) (hq : pc + 1 = q) (r : Goes p e below G (T.setTop (mkF m q L (w :: st)))) : Goes p e below G (T.setTop (mkF m pc L (.int j :: .ref a :: st))) := by
  obtain ⟨hx, hZ, hown, hby, -⟩ := C
  obtain ⟨_, _, _, X, hF, eT, h1, h2⟩ := X
  subst hq
  obtain ⟨cl, A, q1, Sz, q3, H, Gf⟩ := V
  exact go_st (fun t k => X.caload hx (j := j) (v := w) (by rw [eT]; exact A.1) (State.isArrayOf_alike hZ.alike A.2.1) A.2.2 (inb_of Sz hj) (H.at (inb_of Sz hj) hv) (g := mkF m pc L (.int j :: .ref a :: st)) rfl rfl (hb hby hd) t k) r
theorem g_baload (C : Cx p s m meth c Z own bytes ml rt mn) (X : St p l e R s m args below meth c n0 T h k n) {a : Addr} {cA : ClassId} {z j : Int32} {vs : List Value} {dv w : Value}  (V : Arv Z h a cA .byte z vs dv) (hj : ¬ j < 0 ∧ j < z) (hv : vs.getD j.toNatClampNeg dv = w) (hd : decode bytes pc = .ok (.baload, 1)) (hq : pc + 1 = q) (r : Goes p e below G (T.setTop (mkF m q L (w :: st)))) : Goes p e below G (T.setTop (mkF m pc L (.int j :: .ref a :: st))) := by
  obtain ⟨hx, hZ, hown, hby, -⟩ := C
  obtain ⟨_, _, _, X, hF, eT, h1, h2⟩ := X
  subst hq
  obtain ⟨cl, A, q1, Sz, q3, H, Gf⟩ := V
  exact go_st (fun t k => X.baloadBytes hx (j := j) (v := w) (by rw [eT]; exact A.1) (State.isArrayOf_alike hZ.alike A.2.1) A.2.2 (inb_of Sz hj) (H.at (inb_of Sz hj) hv) (g := mkF m pc L (.int j :: .ref a :: st)) rfl rfl (hb hby hd) t k) r
theorem g_zaload (C : Cx p s m meth c Z own bytes ml rt mn) (X : St p l e R s m args below meth c n0 T h k n) {a : Addr} {cA : ClassId} {z j : Int32} {vs : List Value} {dv w : Value}  (V : Arv Z h a cA .boolean z vs dv) (hj : ¬ j < 0 ∧ j < z) (hv : vs.getD j.toNatClampNeg dv = w) (hd : decode bytes pc = .ok (.baload, 1)) (hq : pc + 1 = q) (r : Goes p e below G (T.setTop (mkF m q L (w :: st)))) : Goes p e below G (T.setTop (mkF m pc L (.int j :: .ref a :: st))) := by
  obtain ⟨hx, hZ, hown, hby, -⟩ := C
  obtain ⟨_, _, _, X, hF, eT, h1, h2⟩ := X
  subst hq
  obtain ⟨cl, A, q1, Sz, q3, H, Gf⟩ := V
  exact go_st (fun t k => X.baloadBooleans hx (j := j) (v := w) (by rw [eT]; exact A.1) (State.isArrayOf_alike hZ.alike A.2.1) A.2.2 (inb_of Sz hj) (H.at (inb_of Sz hj) hv) (g := mkF m pc L (.int j :: .ref a :: st)) rfl rfl (hb hby hd) t k) r
theorem g_laload (C : Cx p s m meth c Z own bytes ml rt mn) (X : St p l e R s m args below meth c n0 T h k n) {a : Addr} {cA : ClassId} {z j : Int32} {vs : List Value} {dv w : Value}  (V : Arv Z h a cA .long z vs dv) (hj : ¬ j < 0 ∧ j < z) (hv : vs.getD j.toNatClampNeg dv = w) (hd : decode bytes pc = .ok (.laload, 1)) (hq : pc + 1 = q) (r : Goes p e below G (T.setTop (mkF m q L (w :: st)))) : Goes p e below G (T.setTop (mkF m pc L (.int j :: .ref a :: st))) := by
  obtain ⟨hx, hZ, hown, hby, -⟩ := C
  obtain ⟨_, _, _, X, hF, eT, h1, h2⟩ := X
  subst hq
  obtain ⟨cl, A, q1, Sz, q3, H, Gf⟩ := V
  exact go_st (fun t k => X.laload hx (j := j) (v := w) (by rw [eT]; exact A.1) (State.isArrayOf_alike hZ.alike A.2.1) A.2.2 (inb_of Sz hj) (H.at (inb_of Sz hj) hv) (g := mkF m pc L (.int j :: .ref a :: st)) rfl rfl (hb hby hd) t k) r
theorem g_daload (C : Cx p s m meth c Z own bytes ml rt mn) (X : St p l e R s m args below meth c n0 T h k n) {a : Addr} {cA : ClassId} {z j : Int32} {vs : List Value} {dv w : Value}  (V : Arv Z h a cA .double z vs dv) (hj : ¬ j < 0 ∧ j < z) (hv : vs.getD j.toNatClampNeg dv = w) (hd : decode bytes pc = .ok (.daload, 1)) (hq : pc + 1 = q) (r : Goes p e below G (T.setTop (mkF m q L (w :: st)))) : Goes p e below G (T.setTop (mkF m pc L (.int j :: .ref a :: st))) := by
  obtain ⟨hx, hZ, hown, hby, -⟩ := C
  obtain ⟨_, _, _, X, hF, eT, h1, h2⟩ := X
  subst hq
  obtain ⟨cl, A, q1, Sz, q3, H, Gf⟩ := V
  exact go_st (fun t k => X.daload hx (j := j) (v := w) (by rw [eT]; exact A.1) (State.isArrayOf_alike hZ.alike A.2.1) A.2.2 (inb_of Sz hj) (H.at (inb_of Sz hj) hv) (g := mkF m pc L (.int j :: .ref a :: st)) rfl rfl (hb hby hd) t k) r
theorem g_aaload (C : Cx p s m meth c Z own bytes ml rt mn) (X : St p l e R s m args below meth c n0 T h k n) {a : Addr} {cA : ClassId} {z j : Int32} {vs : List Value} {dv w : Value} {ty : FieldType} (hty : ty.isReference = true) (V : Arv Z h a cA ty z vs dv) (hj : ¬ j < 0 ∧ j < z) (hv : vs.getD j.toNatClampNeg dv = w) (hd : decode bytes pc = .ok (.aaload, 1)) (hq : pc + 1 = q) (r : Goes p e below G (T.setTop (mkF m q L (w :: st)))) : Goes p e below G (T.setTop (mkF m pc L (.int j :: .ref a :: st))) := by
  obtain ⟨hx, hZ, hown, hby, -⟩ := C
  obtain ⟨_, _, _, X, hF, eT, h1, h2⟩ := X
  subst hq
  obtain ⟨cl, A, q1, Sz, q3, H, Gf⟩ := V
  exact go_st (fun t k => X.aaload hx (j := j) (v := w) (by rw [eT]; exact A.1) (State.isArrayOf_alike hZ.alike A.2.1) hty A.2.2 (inb_of Sz hj) (H.at (inb_of Sz hj) hv) (g := mkF m pc L (.int j :: .ref a :: st)) rfl rfl (hb hby hd) t k) r
theorem g_alen (C : Cx p s m meth c Z own bytes ml rt mn) (X : St p l e R s m args below meth c n0 T h k n) {a : Addr} {cA : ClassId} {z : Int32} {vs : List Value} {dv : Value} {ty : FieldType} (V : Arv Z h a cA ty z vs dv) (hd : decode bytes pc = .ok (.arraylength, 1)) (hq : pc + 1 = q) (r : Goes p e below G (T.setTop (mkF m q L (.int z :: st)))) : Goes p e below G (T.setTop (mkF m pc L (.ref a :: st))) := by
  obtain ⟨hx, hZ, hown, hby, -⟩ := C
  obtain ⟨_, _, _, X, hF, eT, h1, h2⟩ := X
  subst hq
  obtain ⟨cl, A, q1, Sz, q3, H, Gf⟩ := V
  exact go_st (fun t k => X.arraylength hx (by rw [eT]; exact A.1) (State.isArrayOf_alike hZ.alike A.2.1) (g := mkF m pc L (.ref a :: st)) rfl rfl (hb hby hd) t (by rw [len_of Sz q3]; exact k)) r
theorem g_newR (C : Cx p s m meth c Z own bytes ml rt mn) (X : St p l e R s m args below meth c n0 T h k n) {K : String} {i cap k' n' : Nat} {z : Int32} (w1 : (Cond.classLink own i K).before a0 Z = true) (w2 : (Cond.arrayOver (.object K)).before a0 Z = true) (hd : decode bytes pc = .ok (.anewarray i, 3)) (hq : pc + 3 = q) (hz : ¬ z < 0) (hcap : z.toNatClampNeg ≤ cap) (hcb : cap * 8 ≤ 536870912) (hk : k + 1 = k') (hn : n + cap = n') (hkR : k' ≤ R.cells) (hnR : n' ≤ R.slots)
    (r : ∀ T' h' cA a, a = h.size → St p l e R s m args below meth c n0 T' h' k' n' → Ext h h' → Arv Z h' a cA (.object K) z [] .null → Ovr Z cA K → Goes p e below G (T'.setTop (mkF m q L (.ref a :: st)))) : Goes p e below G (T.setTop (mkF m pc L (.int z :: st))) := by
  obtain ⟨hx, hZ, hown, hby, -⟩ := C
  obtain ⟨_, _, _, X, hF, eT, h1, h2⟩ := X
  subst hq hk hn
  obtain ⟨T', h', cA, X', e', E', A', O', st'⟩ := newR X hx hZ hown w1 w2 eT (g := mkF m pc L (.int z :: st)) rfl (hb hby hd) rfl hz (cap := cap) hcap hcb (Nat.le_trans (Nat.add_le_add_right h1 1) hkR) (Nat.le_trans (Nat.add_le_add_right h2 cap) hnR)
  exact go_st st' (r T' h' cA _ rfl ⟨_, _, _, X', hF, e', Nat.add_le_add_right h1 1, Nat.add_le_add_right h2 cap⟩ E' (Arv.new A' hz) O')
theorem g_castY (C : Cx p s m meth c Z own bytes ml rt mn) (X : St p l e R s m args below meth c n0 T h k n) {K : String} {i : Nat} {a : Addr} (w : (Cond.classLink own i K).before a0 Z = true) (I : Ins Z h a K true) (hd : decode bytes pc = .ok (.checkcast i, 3)) (hq : pc + 3 = q) (r : ∀ T', St p l e R s m args below meth c n0 T' h k n → Goes p e below G (T'.setTop (mkF m q L (.ref a :: st)))) : Goes p e below G (T.setTop (mkF m pc L (.ref a :: st))) := by
  obtain ⟨hx, hZ, hown, hby, -⟩ := C
  obtain ⟨_, _, _, X, hF, eT, h1, h2⟩ := X
  subst hq
  obtain ⟨T', X', e', st'⟩ := castY X hx hZ hown w eT I (g := mkF m pc L (.ref a :: st)) rfl rfl (hb hby hd)
  exact go_st st' (r T' ⟨_, _, _, X', hF, e', h1, h2⟩)
theorem g_instY (C : Cx p s m meth c Z own bytes ml rt mn) (X : St p l e R s m args below meth c n0 T h k n) {K : String} {i : Nat} {a : Addr} (w : (Cond.classLink own i K).before a0 Z = true) (I : Ins Z h a K true) (hd : decode bytes pc = .ok (.instanceof i, 3)) (hq : pc + 3 = q) (r : ∀ T', St p l e R s m args below meth c n0 T' h k n → Goes p e below G (T'.setTop (mkF m q L (.int 1 :: st)))) : Goes p e below G (T.setTop (mkF m pc L (.ref a :: st))) := by
  obtain ⟨hx, hZ, hown, hby, -⟩ := C
  obtain ⟨_, _, _, X, hF, eT, h1, h2⟩ := X
  subst hq
  obtain ⟨T', X', e', st'⟩ := instY X hx hZ hown w eT I (g := mkF m pc L (.ref a :: st)) rfl rfl (hb hby hd)
  exact go_st st' (r T' ⟨_, _, _, X', hF, e', h1, h2⟩)
theorem g_instNo (C : Cx p s m meth c Z own bytes ml rt mn) (X : St p l e R s m args below meth c n0 T h k n) {K K' : String} {i : Nat} {a : Addr} (w : (Cond.classLink own i K).before a0 Z = true) (E : Exa Z h a K') (F : ∃ c t, Z.vm.findClass K' = some c ∧ Z.vm.findClass K = some t ∧ Z.vm.assignable c t = false) (hd : decode bytes pc = .ok (.instanceof i, 3)) (hq : pc + 3 = q) (r : ∀ T', St p l e R s m args below meth c n0 T' h k n → Goes p e below G (T'.setTop (mkF m q L (.int 0 :: st)))) : Goes p e below G (T.setTop (mkF m pc L (.ref a :: st))) := by
  obtain ⟨hx, hZ, hown, hby, -⟩ := C
  obtain ⟨_, _, _, X, hF, eT, h1, h2⟩ := X
  subst hq
  obtain ⟨T', X', e', st'⟩ := instNo X hx hZ hown w eT E F (g := mkF m pc L (.ref a :: st)) rfl rfl (hb hby hd)
  exact go_st st' (r T' ⟨_, _, _, X', hF, e', h1, h2⟩)
theorem g_instNull (C : Cx p s m meth c Z own bytes ml rt mn) (X : St p l e R s m args below meth c n0 T h k n) {i : Nat} (hd : decode bytes pc = .ok (.instanceof i, 3)) (hq : pc + 3 = q) (r : Goes p e below G (T.setTop (mkF m q L (.int 0 :: st)))) : Goes p e below G (T.setTop (mkF m pc L (.null :: st))) := by
  obtain ⟨hx, hZ, hown, hby, -⟩ := C
  obtain ⟨_, _, _, X, hF, eT, h1, h2⟩ := X
  subst hq
  exact go_st (fun t k => X.instanceofNull hx (g := mkF m pc L (.null :: st)) rfl rfl (hb hby hd) t k) r
theorem g_castNull (C : Cx p s m meth c Z own bytes ml rt mn) (X : St p l e R s m args below meth c n0 T h k n) {i : Nat} (hd : decode bytes pc = .ok (.checkcast i, 3)) (hq : pc + 3 = q) (r : Goes p e below G (T.setTop (mkF m q L (.null :: st)))) : Goes p e below G (T.setTop (mkF m pc L (.null :: st))) := by
  obtain ⟨hx, hZ, hown, hby, -⟩ := C
  obtain ⟨_, _, _, X, hF, eT, h1, h2⟩ := X
  subst hq
  exact go_st (fun t k => X.checkcastNull hx (g := mkF m pc L (.null :: st)) rfl rfl (hb hby hd) t k) r
theorem g_getClass (C : Cx p s m meth c Z own bytes ml rt mn) (X : St p l e R s m args below meth c n0 T h k n) {K : String} {i : Nat} {a mr : Addr} (w1 : (Cond.methodLink own i ⟨"java/lang/Object", "getClass", "()Ljava/lang/Class;"⟩).before a0 Z = true) (w2 : (Cond.declares ⟨"java/lang/Object", "getClass", "()Ljava/lang/Class;"⟩).before a0 Z = true) (w4 : (Cond.selects K ⟨"java/lang/Object", "getClass", "()Ljava/lang/Class;"⟩ ⟨"java/lang/Object", "getClass", "()Ljava/lang/Class;"⟩).before a0 Z = true)
    (w5 : (Cond.instanceMethod ⟨"java/lang/Object", "getClass", "()Ljava/lang/Class;"⟩).before a0 Z = true) (w6 : (Cond.native ⟨"java/lang/Object", "getClass", "()Ljava/lang/Class;"⟩).before a0 Z = true) (E : Exa Z h a K) (M : ∃ c k, Z.vm.findClass K = some c ∧ Z.vm.classes[c]? = some k ∧ k.mirror = some mr) (hsz : L.size = ml) (hd : decode bytes pc = .ok (.invokevirtual i, 3)) (hq : pc + 3 = q) (hf : 1 ≤ R.frames) (hl : (st.map fun v => v.category).sum + (nativeFrameWords "java/lang/Object" "getClass" 1 + 11) ≤ R.locals)
    (r : ∀ T', St p l e R s m args below meth c n0 T' h k n → Goes p e below G (T'.setTop (mkF m q L (.ref mr :: st)))) : Goes p e below G (T.setTop (mkF m pc L (.ref a :: st))) := by
  obtain ⟨hx, hZ, hown, hby, hml, -⟩ := C
  obtain ⟨_, _, _, X, hF, eT, h1, h2⟩ := X
  subst hq
  obtain ⟨cB, kB, i1, i2, i3⟩ := isOf hZ eT E
  obtain ⟨cc, kc, m1, m2, m3⟩ := M
  rw [hZ.alike.findClass] at i1
  cases i1.symm.trans m1
  obtain ⟨k', q, ek⟩ := hZ.alike.2.2 _ _ m2
  obtain ⟨vm', X', st'⟩ := X.getClassOf hx hown (mvT hZ w1) (mvT hZ w2) (notFace_of_selects (args := #[]) (mvT hZ w4)) (mvT hZ w4) (mvT hZ w5) (mvT hZ w6) (by rw [hZ.alike.findClass]; exact m1) i3 q (by rw [ek]; exact m3) (g := mkF m pc L (.ref a :: st)) rfl (hsz.trans hml.symm) rfl (hb hby hd) hf (by show 2 * 0 + _ + _ ≤ _; omega)
  exact go_st st' (r _ ⟨_, _, _, X', hF, eT, h1, h2⟩)
theorem g_callSb (C : Cx p s m meth c Z own bytes ml rt mn) (X : St p l e R s m args below meth c n0 T h k n) {as' : Array Value} {argsL : List Value} {ps : List FieldType} {rt' : Option FieldType} {k' n' W kc ks : Nat} {QL : Option Value → Heap → List Loc → Prop} {y : MethodName} {i : Nat} (hy : y.cls ≠ "java/lang/invoke/MethodHandle" ∧ y.cls ≠ "java/lang/invoke/VarHandle") (w1 : (Cond.methodLink own i y).before a0 Z = true) (w2 : (Cond.static y).before a0 Z = true) {bts : ByteArray} {mxl : Nat} {rty : Option FieldType} (w8 : (Cond.code y bts mxl rty).before a0 Z = true) (w9 : (Cond.initialized y.cls).before a0 Z = true) (bk : Back l R p e below s args y 3 W (fun A a => a = as' ∧ A.U.heap = h ∧ A.cells + kc ≤ R.cells ∧ A.slots + ks ≤ R.slots) (fun A _ v B => ∃ L, QL v B.U.heap L ∧ B.locs = A.locs ++ L ∧ B.cells = A.cells + kc ∧ B.slots = A.slots + ks)) (hk : k + kc = k') (hn : n + ks = n') (hkR : k' ≤ R.cells) (hnR : n' ≤ R.slots) (hsz : L.size = ml) (hdd : parseMethodDescriptor y.desc = some ⟨ps, rt'⟩) (hlen : argsL.length = ps.length) (hst : st = argsL.reverse ++ rest) (has : argsL.toArray = as') (hW : (rest.map fun v => v.category).sum = W) (hd : decode bytes pc = .ok (.invokestatic i, 3)) (hq : pc + 3 = q)
    (r : ∀ v T' h' L', St p l e R s m args below meth c n0 T' h' k' n' ∨ ¬ Fr n0 L' → QL v h' L' → Goes p e below G (T'.setTop (mkF m q L (v.toList ++ rest)))) : Goes p e below G (T.setTop (mkF m pc L st)) := by
  obtain ⟨hx, hZ, hown, hby, hml, -⟩ := C
  obtain ⟨_, cells, slots, X, hF, eT, h1, h2⟩ := X
  subst hq hk hn has hst hW
  obtain ⟨_, _, ⟨T', Lo, kk, nn⟩, -, X', ⟨Lc, hQ, q1, q2, q3⟩, st'⟩ := Jvm.LawKit.callS X hx hown (mvT hZ w1) (mvT hZ w2) (mvT hZ w9) (mvT hZ w8) hy bk (g := mkF m pc L (argsL.reverse ++ rest)) rfl (hsz.trans hml.symm) (argsL := argsL) (rest := rest) (lenOf hdd hlen) rfl (by show 2 * 0 + _ ≤ _; omega) (hb hby hd) (fun _ _ => ⟨rfl, eT, Nat.le_trans (Nat.add_le_add_right h1 _) hkR, Nat.le_trans (Nat.add_le_add_right h2 _) hnR⟩)
  dsimp only [Pt.U, Pt.locs, Pt.cells, Pt.slots] at X' q1 q2 q3 st' hQ
  subst q1 q2 q3
  refine go_st st' (r _ T' _ Lc ?_ hQ)
  by_cases hFr : Fr n0 Lc
  · exact Or.inl ⟨_, _, _, X', Fr.app hF hFr, rfl, Nat.add_le_add_right h1 _, Nat.add_le_add_right h2 _⟩
  · exact Or.inr hFr
theorem g_callS1 (C : Cx p s m meth c Z own bytes ml rt mn) (X : St p l e R s m args below meth c n0 T h k n) {rm : Room} {as' : Array Value} {bts : ByteArray} {mxl : Nat} {rty : Option FieldType} {argsL : List Value} {ps : List FieldType} {rt' : Option FieldType} {k' n' W : Nat} {Q : Value → Heap → Prop} {y : MethodName} {i : Nat} (hy : y.cls ≠ "java/lang/invoke/MethodHandle" ∧ y.cls ≠ "java/lang/invoke/VarHandle") (w1 : (Cond.methodLink own i y).before a0 Z = true) (w2 : (Cond.static y).before a0 Z = true) (w8 : (Cond.code y bts mxl rty).before a0 Z = true) (w9 : (Cond.initialized y.cls).before a0 Z = true) (hM : Met1 l Z y bts mxl rty rm as' h n0 Q) (hf : rm.frames + 1 ≤ R.frames) (hl : W + (mxl + 11) + rm.locals ≤ R.locals) (hk : k + rm.cells = k') (hn : n + rm.slots = n') (hkR : k' ≤ R.cells) (hnR : n' ≤ R.slots) (hsz : L.size = ml) (hdd : parseMethodDescriptor y.desc = some ⟨ps, rt'⟩) (hlen : argsL.length = ps.length) (hst : st = argsL.reverse ++ rest) (has : argsL.toArray = as') (hW : (rest.map fun v => v.category).sum = W) (hd : decode bytes pc = .ok (.invokestatic i, 3)) (hq : pc + 3 = q)
    (r : ∀ w T' h', St p l e R s m args below meth c n0 T' h' k' n' → Q w h' → Goes p e below G (T'.setTop (mkF m q L (w :: rest)))) : Goes p e below G (T.setTop (mkF m pc L st)) := by
  have bk := backOf (Q := fun v h L => Fr n0 L ∧ (∃ w, v = some w ∧ Q w h)) (R := R) (p := p) (e := e) (below := below) (s := s) (args := args) (len := 3) (W := W) (hM []) C.2.1 w8 w9 hf hl
  refine g_callSb C X (QL := fun v h L => Fr n0 L ∧ (∃ w, v = some w ∧ Q w h)) hy w1 w2 w8 w9 bk hk hn hkR hnR hsz hdd hlen hst has hW hd hq ?_
  rintro v T' h' L' hX ⟨hFr, hQ⟩
  obtain ⟨w, rfl, hQ⟩ := hQ
  exact r w T' h' (hX.resolve_right fun z => z hFr) hQ
theorem g_callS0 (C : Cx p s m meth c Z own bytes ml rt mn) (X : St p l e R s m args below meth c n0 T h k n) {rm : Room} {as' : Array Value} {bts : ByteArray} {mxl : Nat} {rty : Option FieldType} {argsL : List Value} {ps : List FieldType} {rt' : Option FieldType} {k' n' W : Nat} {Q : Heap → Prop} {y : MethodName} {i : Nat} (hy : y.cls ≠ "java/lang/invoke/MethodHandle" ∧ y.cls ≠ "java/lang/invoke/VarHandle") (w1 : (Cond.methodLink own i y).before a0 Z = true) (w2 : (Cond.static y).before a0 Z = true) (w8 : (Cond.code y bts mxl rty).before a0 Z = true) (w9 : (Cond.initialized y.cls).before a0 Z = true) (hM : Met0 l Z y bts mxl rty rm as' h n0 Q) (hf : rm.frames + 1 ≤ R.frames) (hl : W + (mxl + 11) + rm.locals ≤ R.locals) (hk : k + rm.cells = k') (hn : n + rm.slots = n') (hkR : k' ≤ R.cells) (hnR : n' ≤ R.slots) (hsz : L.size = ml) (hdd : parseMethodDescriptor y.desc = some ⟨ps, rt'⟩) (hlen : argsL.length = ps.length) (hst : st = argsL.reverse ++ rest) (has : argsL.toArray = as') (hW : (rest.map fun v => v.category).sum = W) (hd : decode bytes pc = .ok (.invokestatic i, 3)) (hq : pc + 3 = q)
    (r : ∀ T' h', St p l e R s m args below meth c n0 T' h' k' n' → Q h' → Goes p e below G (T'.setTop (mkF m q L rest))) : Goes p e below G (T.setTop (mkF m pc L st)) := by
  have bk := backOf (Q := fun v h L => Fr n0 L ∧ (v = none ∧ Q h)) (R := R) (p := p) (e := e) (below := below) (s := s) (args := args) (len := 3) (W := W) (hM []) C.2.1 w8 w9 hf hl
  refine g_callSb C X (QL := fun v h L => Fr n0 L ∧ (v = none ∧ Q h)) hy w1 w2 w8 w9 bk hk hn hkR hnR hsz hdd hlen hst has hW hd hq ?_
  rintro v T' h' L' hX ⟨hFr, hQ⟩
  obtain ⟨rfl, hQ⟩ := hQ
  exact r T' h' (hX.resolve_right fun z => z hFr) hQ
theorem g_callIb (C : Cx p s m meth c Z own bytes ml rt mn) (X : St p l e R s m args below meth c n0 T h k n) {as' : Array Value} {argsL : List Value} {ps : List FieldType} {rt' : Option FieldType} {k' n' W kc ks : Nat} {QL : Option Value → Heap → List Loc → Prop} {y : MethodName} {i : Nat} {a : Addr} (hy : y.cls ≠ "java/lang/invoke/MethodHandle" ∧ y.cls ≠ "java/lang/invoke/VarHandle") (hy1 : y.name = "<init>") (w1 : (Cond.methodLink own i y).before a0 Z = true) (w2 : (Cond.instanceMethod y).before a0 Z = true) {bts : ByteArray} {mxl : Nat} (w8 : (Cond.code y bts mxl none).before a0 Z = true) (bk : Back l R p e below s args y 3 W (fun A a => a = as' ∧ A.U.heap = h ∧ A.cells + kc ≤ R.cells ∧ A.slots + ks ≤ R.slots) (fun A _ v B => ∃ L, QL v B.U.heap L ∧ B.locs = A.locs ++ L ∧ B.cells = A.cells + kc ∧ B.slots = A.slots + ks)) (hk : k + kc = k') (hn : n + ks = n') (hkR : k' ≤ R.cells) (hnR : n' ≤ R.slots) (hsz : L.size = ml) (hdd : parseMethodDescriptor y.desc = some ⟨ps, rt'⟩) (hlen : argsL.length = ps.length) (hst : st = argsL.reverse ++ .ref a :: rest) (has : (.ref a :: argsL).toArray = as') (hW : (rest.map fun v => v.category).sum = W) (hd : decode bytes pc = .ok (.invokespecial i, 3)) (hq : pc + 3 = q)
    (r : ∀ v T' h' L', St p l e R s m args below meth c n0 T' h' k' n' ∨ ¬ Fr n0 L' → QL v h' L' → Goes p e below G (T'.setTop (mkF m q L (v.toList ++ rest)))) : Goes p e below G (T.setTop (mkF m pc L st)) := by
  obtain ⟨hx, hZ, hown, hby, hml, -⟩ := C
  obtain ⟨_, cells, slots, X, hF, eT, h1, h2⟩ := X
  subst hq hk hn has hst hW
  obtain ⟨_, _, ⟨T', Lo, kk, nn⟩, -, X', ⟨Lc, hQ, q1, q2, q3⟩, st'⟩ := X.specialBack hx hy1 hown (mvT hZ w1) (mvT hZ w2) (mvT hZ w8) hy bk (g := mkF m pc L (argsL.reverse ++ .ref a :: rest)) rfl (hsz.trans hml.symm) (Steps.refl _) (a := a) (argsL := argsL) (rest := rest) (lenOf hdd hlen) rfl (by show 2 * 0 + _ ≤ _; omega) (hb hby hd) (fun _ _ => ⟨rfl, eT, Nat.le_trans (Nat.add_le_add_right h1 _) hkR, Nat.le_trans (Nat.add_le_add_right h2 _) hnR⟩)
  dsimp only [Pt.U, Pt.locs, Pt.cells, Pt.slots] at X' q1 q2 q3 st' hQ
  subst q1 q2 q3
  refine go_tr st' (r _ T' _ Lc ?_ hQ)
  by_cases hFr : Fr n0 Lc
  · exact Or.inl ⟨_, _, _, X', Fr.app hF hFr, rfl, Nat.add_le_add_right h1 _, Nat.add_le_add_right h2 _⟩
  · exact Or.inr hFr
theorem g_callI0 (C : Cx p s m meth c Z own bytes ml rt mn) (X : St p l e R s m args below meth c n0 T h k n) {rm : Room} {as' : Array Value} {bts : ByteArray} {mxl : Nat} {argsL : List Value} {ps : List FieldType} {rt' : Option FieldType} {k' n' W : Nat} {Q : Heap → Prop} {y : MethodName} {i : Nat} {a : Addr} (hy : y.cls ≠ "java/lang/invoke/MethodHandle" ∧ y.cls ≠ "java/lang/invoke/VarHandle") (hy1 : y.name = "<init>") (w1 : (Cond.methodLink own i y).before a0 Z = true) (w2 : (Cond.instanceMethod y).before a0 Z = true) (w8 : (Cond.code y bts mxl none).before a0 Z = true) (w9 : (Cond.initialized y.cls).before a0 Z = true) (hM : Met0 l Z y bts mxl none rm as' h n0 Q) (hf : rm.frames + 1 ≤ R.frames) (hl : W + (mxl + 11) + rm.locals ≤ R.locals) (hk : k + rm.cells = k') (hn : n + rm.slots = n') (hkR : k' ≤ R.cells) (hnR : n' ≤ R.slots) (hsz : L.size = ml) (hdd : parseMethodDescriptor y.desc = some ⟨ps, rt'⟩) (hlen : argsL.length = ps.length) (hst : st = argsL.reverse ++ .ref a :: rest) (has : (.ref a :: argsL).toArray = as') (hW : (rest.map fun v => v.category).sum = W) (hd : decode bytes pc = .ok (.invokespecial i, 3)) (hq : pc + 3 = q)
    (r : ∀ T' h', St p l e R s m args below meth c n0 T' h' k' n' → Q h' → Goes p e below G (T'.setTop (mkF m q L rest))) : Goes p e below G (T.setTop (mkF m pc L st)) := by
  have bk := backOf (Q := fun v h L => Fr n0 L ∧ (v = none ∧ Q h)) (R := R) (p := p) (e := e) (below := below) (s := s) (args := args) (len := 3) (W := W) (hM []) C.2.1 w8 w9 hf hl
  refine g_callIb C X (QL := fun v h L => Fr n0 L ∧ (v = none ∧ Q h)) hy hy1 w1 w2 w8 bk hk hn hkR hnR hsz hdd hlen hst has hW hd hq ?_
  rintro v T' h' L' hX ⟨hFr, hQ⟩
  obtain ⟨rfl, hQ⟩ := hQ
  exact r T' h' (hX.resolve_right fun z => z hFr) hQ
theorem g_callVb (C : Cx p s m meth c Z own bytes ml rt mn) (X : St p l e R s m args below meth c n0 T h k n) {as' : Array Value} {argsL : List Value} {ps : List FieldType} {rt' : Option FieldType} {k' n' W kc ks : Nat} {QL : Option Value → Heap → List Loc → Prop} {y z : MethodName} {i : Nat} {a : Addr} {K : String} (hy : y.cls ≠ "java/lang/invoke/MethodHandle" ∧ y.cls ≠ "java/lang/invoke/VarHandle") (w1 : (Cond.methodLink own i y).before a0 Z = true) (w2 : (Cond.declares y).before a0 Z = true) (w3 : (Cond.selects K y z).before a0 Z = true) (w4 : (Cond.instanceMethod z).before a0 Z = true) (hnf : ∀ s' : State, Z.Warmed39 s'.vm → NotFace s' y) (E : Exa Z h a K) (bk : Back l R p e below s args z 3 W (fun A a => a = as' ∧ A.U.heap = h ∧ A.cells + kc ≤ R.cells ∧ A.slots + ks ≤ R.slots) (fun A _ v B => ∃ L, QL v B.U.heap L ∧ B.locs = A.locs ++ L ∧ B.cells = A.cells + kc ∧ B.slots = A.slots + ks)) (hk : k + kc = k') (hn : n + ks = n') (hkR : k' ≤ R.cells) (hnR : n' ≤ R.slots) (hsz : L.size = ml) (hdd : parseMethodDescriptor y.desc = some ⟨ps, rt'⟩) (hlen : argsL.length = ps.length) (hst : st = argsL.reverse ++ .ref a :: rest) (has : (.ref a :: argsL).toArray = as') (hW : (rest.map fun v => v.category).sum = W) (hd : decode bytes pc = .ok (.invokevirtual i, 3)) (hq : pc + 3 = q)
    (r : ∀ v T' h' L', St p l e R s m args below meth c n0 T' h' k' n' ∨ ¬ Fr n0 L' → QL v h' L' → Goes p e below G (T'.setTop (mkF m q L (v.toList ++ rest)))) : Goes p e below G (T.setTop (mkF m pc L st)) := by
  obtain ⟨hx, hZ, hown, hby, hml, -⟩ := C
  obtain ⟨_, cells, slots, X, hF, eT, h1, h2⟩ := X
  subst hq hk hn has hst hW
  obtain ⟨cB, kB, qa, qb, qc⟩ := isOf hZ eT E
  obtain ⟨_, _, ⟨T', Lo, kk, nn⟩, -, X', ⟨Lc, hQ, q1, q2, q3⟩, st'⟩ := X.virtualBack hx hown (mvT hZ w1) (mvT hZ w2) (hnf s hZ) (mvT hZ w3) (mvT hZ w4) hy bk qa qc (g := mkF m pc L (argsL.reverse ++ .ref a :: rest)) rfl (hsz.trans hml.symm) (Steps.refl _) (argsL := argsL) (rest := rest) (lenOf hdd hlen) rfl (by show 2 * 0 + _ ≤ _; omega) (hb hby hd) (fun _ _ => ⟨rfl, eT, Nat.le_trans (Nat.add_le_add_right h1 _) hkR, Nat.le_trans (Nat.add_le_add_right h2 _) hnR⟩)
  dsimp only [Pt.U, Pt.locs, Pt.cells, Pt.slots] at X' q1 q2 q3 st' hQ
  subst q1 q2 q3
  refine go_tr st' (r _ T' _ Lc ?_ hQ)
  by_cases hFr : Fr n0 Lc
  · exact Or.inl ⟨_, _, _, X', Fr.app hF hFr, rfl, Nat.add_le_add_right h1 _, Nat.add_le_add_right h2 _⟩
  · exact Or.inr hFr
theorem g_callV1 (C : Cx p s m meth c Z own bytes ml rt mn) (X : St p l e R s m args below meth c n0 T h k n) {rm : Room} {as' : Array Value} {bts : ByteArray} {mxl : Nat} {rty : Option FieldType} {argsL : List Value} {ps : List FieldType} {rt' : Option FieldType} {k' n' W : Nat} {Q : Value → Heap → Prop} {y z : MethodName} {i : Nat} {a : Addr} {K : String} (hy : y.cls ≠ "java/lang/invoke/MethodHandle" ∧ y.cls ≠ "java/lang/invoke/VarHandle") (w1 : (Cond.methodLink own i y).before a0 Z = true) (w2 : (Cond.declares y).before a0 Z = true) (w3 : (Cond.selects K y z).before a0 Z = true) (w4 : (Cond.instanceMethod z).before a0 Z = true) (hnf : ∀ s' : State, Z.Warmed39 s'.vm → NotFace s' y) (E : Exa Z h a K) (w8 : (Cond.code z bts mxl rty).before a0 Z = true) (w9 : (Cond.initialized z.cls).before a0 Z = true) (hM : Met1 l Z z bts mxl rty rm as' h n0 Q) (hf : rm.frames + 1 ≤ R.frames) (hl : W + (mxl + 11) + rm.locals ≤ R.locals) (hk : k + rm.cells = k') (hn : n + rm.slots = n') (hkR : k' ≤ R.cells) (hnR : n' ≤ R.slots) (hsz : L.size = ml) (hdd : parseMethodDescriptor y.desc = some ⟨ps, rt'⟩) (hlen : argsL.length = ps.length) (hst : st = argsL.reverse ++ .ref a :: rest) (has : (.ref a :: argsL).toArray = as') (hW : (rest.map fun v => v.category).sum = W) (hd : decode bytes pc = .ok (.invokevirtual i, 3)) (hq : pc + 3 = q)
    (r : ∀ w T' h', St p l e R s m args below meth c n0 T' h' k' n' → Q w h' → Goes p e below G (T'.setTop (mkF m q L (w :: rest)))) : Goes p e below G (T.setTop (mkF m pc L st)) := by
  have bk := backOf (Q := fun v h L => Fr n0 L ∧ (∃ w, v = some w ∧ Q w h)) (R := R) (p := p) (e := e) (below := below) (s := s) (args := args) (len := 3) (W := W) (hM []) C.2.1 w8 w9 hf hl
  refine g_callVb C X (QL := fun v h L => Fr n0 L ∧ (∃ w, v = some w ∧ Q w h)) hy w1 w2 w3 w4 hnf E bk hk hn hkR hnR hsz hdd hlen hst has hW hd hq ?_
  rintro v T' h' L' hX ⟨hFr, hQ⟩
  obtain ⟨w, rfl, hQ⟩ := hQ
  exact r w T' h' (hX.resolve_right fun z => z hFr) hQ
theorem g_callV0 (C : Cx p s m meth c Z own bytes ml rt mn) (X : St p l e R s m args below meth c n0 T h k n) {rm : Room} {as' : Array Value} {bts : ByteArray} {mxl : Nat} {rty : Option FieldType} {argsL : List Value} {ps : List FieldType} {rt' : Option FieldType} {k' n' W : Nat} {Q : Heap → Prop} {y z : MethodName} {i : Nat} {a : Addr} {K : String} (hy : y.cls ≠ "java/lang/invoke/MethodHandle" ∧ y.cls ≠ "java/lang/invoke/VarHandle") (w1 : (Cond.methodLink own i y).before a0 Z = true) (w2 : (Cond.declares y).before a0 Z = true) (w3 : (Cond.selects K y z).before a0 Z = true) (w4 : (Cond.instanceMethod z).before a0 Z = true) (hnf : ∀ s' : State, Z.Warmed39 s'.vm → NotFace s' y) (E : Exa Z h a K) (w8 : (Cond.code z bts mxl rty).before a0 Z = true) (w9 : (Cond.initialized z.cls).before a0 Z = true) (hM : Met0 l Z z bts mxl rty rm as' h n0 Q) (hf : rm.frames + 1 ≤ R.frames) (hl : W + (mxl + 11) + rm.locals ≤ R.locals) (hk : k + rm.cells = k') (hn : n + rm.slots = n') (hkR : k' ≤ R.cells) (hnR : n' ≤ R.slots) (hsz : L.size = ml) (hdd : parseMethodDescriptor y.desc = some ⟨ps, rt'⟩) (hlen : argsL.length = ps.length) (hst : st = argsL.reverse ++ .ref a :: rest) (has : (.ref a :: argsL).toArray = as') (hW : (rest.map fun v => v.category).sum = W) (hd : decode bytes pc = .ok (.invokevirtual i, 3)) (hq : pc + 3 = q)
    (r : ∀ T' h', St p l e R s m args below meth c n0 T' h' k' n' → Q h' → Goes p e below G (T'.setTop (mkF m q L rest))) : Goes p e below G (T.setTop (mkF m pc L st)) := by
  have bk := backOf (Q := fun v h L => Fr n0 L ∧ (v = none ∧ Q h)) (R := R) (p := p) (e := e) (below := below) (s := s) (args := args) (len := 3) (W := W) (hM []) C.2.1 w8 w9 hf hl
  refine g_callVb C X (QL := fun v h L => Fr n0 L ∧ (v = none ∧ Q h)) hy w1 w2 w3 w4 hnf E bk hk hn hkR hnR hsz hdd hlen hst has hW hd hq ?_
  rintro v T' h' L' hX ⟨hFr, hQ⟩
  obtain ⟨rfl, hQ⟩ := hQ
  exact r T' h' (hX.resolve_right fun z => z hFr) hQ
theorem g_callUb (C : Cx p s m meth c Z own bytes ml rt mn) (X : St p l e R s m args below meth c n0 T h k n) {as' : Array Value} {argsL : List Value} {ps : List FieldType} {rt' : Option FieldType} {k' n' W kc ks : Nat} {QL : Option Value → Heap → List Loc → Prop} {y z : MethodName} {i : Nat} {a : Addr} {K owner : String} (hy : owner ≠ "java/lang/invoke/MethodHandle" ∧ owner ≠ "java/lang/invoke/VarHandle") (w1 : (Cond.methodLink own i y).before a0 Z = true) (w2 : (Cond.sameMethod y.cls owner y.name y.desc).before a0 Z = true) (w2' : (Cond.declares ⟨owner, y.name, y.desc⟩).before a0 Z = true) (w3 : (Cond.selects K y z).before a0 Z = true) (w4 : (Cond.instanceMethod z).before a0 Z = true) (E : Exa Z h a K) (bk : Back l R p e below s args z 3 W (fun A a => a = as' ∧ A.U.heap = h ∧ A.cells + kc ≤ R.cells ∧ A.slots + ks ≤ R.slots) (fun A _ v B => ∃ L, QL v B.U.heap L ∧ B.locs = A.locs ++ L ∧ B.cells = A.cells + kc ∧ B.slots = A.slots + ks)) (hk : k + kc = k') (hn : n + ks = n') (hkR : k' ≤ R.cells) (hnR : n' ≤ R.slots) (hsz : L.size = ml) (hdd : parseMethodDescriptor y.desc = some ⟨ps, rt'⟩) (hlen : argsL.length = ps.length) (hst : st = argsL.reverse ++ .ref a :: rest) (has : (.ref a :: argsL).toArray = as') (hW : (rest.map fun v => v.category).sum = W) (hd : decode bytes pc = .ok (.invokevirtual i, 3)) (hq : pc + 3 = q)
    (r : ∀ v T' h' L', St p l e R s m args below meth c n0 T' h' k' n' ∨ ¬ Fr n0 L' → QL v h' L' → Goes p e below G (T'.setTop (mkF m q L (v.toList ++ rest)))) : Goes p e below G (T.setTop (mkF m pc L st)) := by
  obtain ⟨hx, hZ, hown, hby, hml, -⟩ := C
  obtain ⟨_, cells, slots, X, hF, eT, h1, h2⟩ := X
  subst hq hk hn has hst hW
  obtain ⟨cB, kB, qa, qb, qc⟩ := isOf hZ eT E
  obtain ⟨_, _, ⟨T', Lo, kk, nn⟩, -, X', ⟨Lc, hQ, q1, q2, q3⟩, st'⟩ := X.virtualBackUp hx hown (mvT hZ w1) (mvT hZ w2) (mvT hZ w2') hy (mvT hZ w3) (mvT hZ w4) bk qa qc (g := mkF m pc L (argsL.reverse ++ .ref a :: rest)) rfl (hsz.trans hml.symm) (Steps.refl _) (argsL := argsL) (rest := rest) (lenOf hdd hlen) rfl (by show 2 * 0 + _ ≤ _; omega) (hb hby hd) (fun _ _ => ⟨rfl, eT, Nat.le_trans (Nat.add_le_add_right h1 _) hkR, Nat.le_trans (Nat.add_le_add_right h2 _) hnR⟩)
  dsimp only [Pt.U, Pt.locs, Pt.cells, Pt.slots] at X' q1 q2 q3 st' hQ
  subst q1 q2 q3
  refine go_tr st' (r _ T' _ Lc ?_ hQ)
  by_cases hFr : Fr n0 Lc
  · exact Or.inl ⟨_, _, _, X', Fr.app hF hFr, rfl, Nat.add_le_add_right h1 _, Nat.add_le_add_right h2 _⟩
  · exact Or.inr hFr
theorem g_callU1 (C : Cx p s m meth c Z own bytes ml rt mn) (X : St p l e R s m args below meth c n0 T h k n) {rm : Room} {as' : Array Value} {bts : ByteArray} {mxl : Nat} {rty : Option FieldType} {argsL : List Value} {ps : List FieldType} {rt' : Option FieldType} {k' n' W : Nat} {Q : Value → Heap → Prop} {y z : MethodName} {i : Nat} {a : Addr} {K owner : String} (hy : owner ≠ "java/lang/invoke/MethodHandle" ∧ owner ≠ "java/lang/invoke/VarHandle") (w1 : (Cond.methodLink own i y).before a0 Z = true) (w2 : (Cond.sameMethod y.cls owner y.name y.desc).before a0 Z = true) (w2' : (Cond.declares ⟨owner, y.name, y.desc⟩).before a0 Z = true) (w3 : (Cond.selects K y z).before a0 Z = true) (w4 : (Cond.instanceMethod z).before a0 Z = true) (E : Exa Z h a K) (w8 : (Cond.code z bts mxl rty).before a0 Z = true) (w9 : (Cond.initialized z.cls).before a0 Z = true) (hM : Met1 l Z z bts mxl rty rm as' h n0 Q) (hf : rm.frames + 1 ≤ R.frames) (hl : W + (mxl + 11) + rm.locals ≤ R.locals) (hk : k + rm.cells = k') (hn : n + rm.slots = n') (hkR : k' ≤ R.cells) (hnR : n' ≤ R.slots) (hsz : L.size = ml) (hdd : parseMethodDescriptor y.desc = some ⟨ps, rt'⟩) (hlen : argsL.length = ps.length) (hst : st = argsL.reverse ++ .ref a :: rest) (has : (.ref a :: argsL).toArray = as') (hW : (rest.map fun v => v.category).sum = W) (hd : decode bytes pc = .ok (.invokevirtual i, 3)) (hq : pc + 3 = q)
    (r : ∀ w T' h', St p l e R s m args below meth c n0 T' h' k' n' → Q w h' → Goes p e below G (T'.setTop (mkF m q L (w :: rest)))) : Goes p e below G (T.setTop (mkF m pc L st)) := by
  have bk := backOf (Q := fun v h L => Fr n0 L ∧ (∃ w, v = some w ∧ Q w h)) (R := R) (p := p) (e := e) (below := below) (s := s) (args := args) (len := 3) (W := W) (hM []) C.2.1 w8 w9 hf hl
  refine g_callUb C X (QL := fun v h L => Fr n0 L ∧ (∃ w, v = some w ∧ Q w h)) hy w1 w2 w2' w3 w4 E bk hk hn hkR hnR hsz hdd hlen hst has hW hd hq ?_
  rintro v T' h' L' hX ⟨hFr, hQ⟩
  obtain ⟨w, rfl, hQ⟩ := hQ
  exact r w T' h' (hX.resolve_right fun z => z hFr) hQ
theorem g_callU0 (C : Cx p s m meth c Z own bytes ml rt mn) (X : St p l e R s m args below meth c n0 T h k n) {rm : Room} {as' : Array Value} {bts : ByteArray} {mxl : Nat} {rty : Option FieldType} {argsL : List Value} {ps : List FieldType} {rt' : Option FieldType} {k' n' W : Nat} {Q : Heap → Prop} {y z : MethodName} {i : Nat} {a : Addr} {K owner : String} (hy : owner ≠ "java/lang/invoke/MethodHandle" ∧ owner ≠ "java/lang/invoke/VarHandle") (w1 : (Cond.methodLink own i y).before a0 Z = true) (w2 : (Cond.sameMethod y.cls owner y.name y.desc).before a0 Z = true) (w2' : (Cond.declares ⟨owner, y.name, y.desc⟩).before a0 Z = true) (w3 : (Cond.selects K y z).before a0 Z = true) (w4 : (Cond.instanceMethod z).before a0 Z = true) (E : Exa Z h a K) (w8 : (Cond.code z bts mxl rty).before a0 Z = true) (w9 : (Cond.initialized z.cls).before a0 Z = true) (hM : Met0 l Z z bts mxl rty rm as' h n0 Q) (hf : rm.frames + 1 ≤ R.frames) (hl : W + (mxl + 11) + rm.locals ≤ R.locals) (hk : k + rm.cells = k') (hn : n + rm.slots = n') (hkR : k' ≤ R.cells) (hnR : n' ≤ R.slots) (hsz : L.size = ml) (hdd : parseMethodDescriptor y.desc = some ⟨ps, rt'⟩) (hlen : argsL.length = ps.length) (hst : st = argsL.reverse ++ .ref a :: rest) (has : (.ref a :: argsL).toArray = as') (hW : (rest.map fun v => v.category).sum = W) (hd : decode bytes pc = .ok (.invokevirtual i, 3)) (hq : pc + 3 = q)
    (r : ∀ T' h', St p l e R s m args below meth c n0 T' h' k' n' → Q h' → Goes p e below G (T'.setTop (mkF m q L rest))) : Goes p e below G (T.setTop (mkF m pc L st)) := by
  have bk := backOf (Q := fun v h L => Fr n0 L ∧ (v = none ∧ Q h)) (R := R) (p := p) (e := e) (below := below) (s := s) (args := args) (len := 3) (W := W) (hM []) C.2.1 w8 w9 hf hl
  refine g_callUb C X (QL := fun v h L => Fr n0 L ∧ (v = none ∧ Q h)) hy w1 w2 w2' w3 w4 E bk hk hn hkR hnR hsz hdd hlen hst has hW hd hq ?_
  rintro v T' h' L' hX ⟨hFr, hQ⟩
  obtain ⟨rfl, hQ⟩ := hQ
  exact r T' h' (hX.resolve_right fun z => z hFr) hQ
theorem g_callPb (C : Cx p s m meth c Z own bytes ml rt mn) (X : St p l e R s m args below meth c n0 T h k n) {as' : Array Value} {argsL : List Value} {ps : List FieldType} {rt' : Option FieldType} {k' n' W kc ks : Nat} {QL : Option Value → Heap → List Loc → Prop} {y : MethodName} {i : Nat} {a : Addr} {K : String} (hy : y.cls ≠ "java/lang/invoke/MethodHandle" ∧ y.cls ≠ "java/lang/invoke/VarHandle") (w1 : (Cond.methodLink own i y).before a0 Z = true) (w3 : (Cond.selects y.cls y y).before a0 Z = true) (w4 : (Cond.instanceMethod y).before a0 Z = true) (w5 : (Cond.privateMethod y).before a0 Z = true) (E : Exa Z h a K) {bts : ByteArray} {mxl : Nat} {rty : Option FieldType} (w8 : (Cond.code y bts mxl rty).before a0 Z = true) (bk : Back l R p e below s args y 3 W (fun A a => a = as' ∧ A.U.heap = h ∧ A.cells + kc ≤ R.cells ∧ A.slots + ks ≤ R.slots) (fun A _ v B => ∃ L, QL v B.U.heap L ∧ B.locs = A.locs ++ L ∧ B.cells = A.cells + kc ∧ B.slots = A.slots + ks)) (hk : k + kc = k') (hn : n + ks = n') (hkR : k' ≤ R.cells) (hnR : n' ≤ R.slots) (hsz : L.size = ml) (hdd : parseMethodDescriptor y.desc = some ⟨ps, rt'⟩) (hlen : argsL.length = ps.length) (hst : st = argsL.reverse ++ .ref a :: rest) (has : (.ref a :: argsL).toArray = as') (hW : (rest.map fun v => v.category).sum = W) (hd : decode bytes pc = .ok (.invokevirtual i, 3)) (hq : pc + 3 = q)
    (r : ∀ v T' h' L', St p l e R s m args below meth c n0 T' h' k' n' ∨ ¬ Fr n0 L' → QL v h' L' → Goes p e below G (T'.setTop (mkF m q L (v.toList ++ rest)))) : Goes p e below G (T.setTop (mkF m pc L st)) := by
  obtain ⟨hx, hZ, hown, hby, hml, -⟩ := C
  obtain ⟨_, cells, slots, X, hF, eT, h1, h2⟩ := X
  subst hq hk hn has hst hW
  obtain ⟨cq, qa, qb⟩ := E.cell
  obtain ⟨_, _, ⟨T', Lo, kk, nn⟩, -, X', ⟨Lc, hQ, q1, q2, q3⟩, st'⟩ := X.privateBack hx hown (mvT hZ w1) (mvT hZ w4) (mvT hZ w3) (Cond.privateMethod_at (mvP hZ w5 (args := #[]))) (mvT hZ w8) hy bk (g := mkF m pc L (argsL.reverse ++ .ref a :: rest)) rfl (hsz.trans hml.symm) (Steps.refl _) (a := a) (by rw [eT]; exact qa) qb (argsL := argsL) (rest := rest) (lenOf hdd hlen) rfl (by show 2 * 0 + _ ≤ _; omega) (hb hby hd) (fun _ _ => ⟨rfl, eT, Nat.le_trans (Nat.add_le_add_right h1 _) hkR, Nat.le_trans (Nat.add_le_add_right h2 _) hnR⟩)
  dsimp only [Pt.U, Pt.locs, Pt.cells, Pt.slots] at X' q1 q2 q3 st' hQ
  subst q1 q2 q3
  refine go_tr st' (r _ T' _ Lc ?_ hQ)
  by_cases hFr : Fr n0 Lc
  · exact Or.inl ⟨_, _, _, X', Fr.app hF hFr, rfl, Nat.add_le_add_right h1 _, Nat.add_le_add_right h2 _⟩
  · exact Or.inr hFr
theorem g_callP1 (C : Cx p s m meth c Z own bytes ml rt mn) (X : St p l e R s m args below meth c n0 T h k n) {rm : Room} {as' : Array Value} {bts : ByteArray} {mxl : Nat} {rty : Option FieldType} {argsL : List Value} {ps : List FieldType} {rt' : Option FieldType} {k' n' W : Nat} {Q : Value → Heap → Prop} {y : MethodName} {i : Nat} {a : Addr} {K : String} (hy : y.cls ≠ "java/lang/invoke/MethodHandle" ∧ y.cls ≠ "java/lang/invoke/VarHandle") (w1 : (Cond.methodLink own i y).before a0 Z = true) (w3 : (Cond.selects y.cls y y).before a0 Z = true) (w4 : (Cond.instanceMethod y).before a0 Z = true) (w5 : (Cond.privateMethod y).before a0 Z = true) (E : Exa Z h a K) (w8 : (Cond.code y bts mxl rty).before a0 Z = true) (w9 : (Cond.initialized y.cls).before a0 Z = true) (hM : Met1 l Z y bts mxl rty rm as' h n0 Q) (hf : rm.frames + 1 ≤ R.frames) (hl : W + (mxl + 11) + rm.locals ≤ R.locals) (hk : k + rm.cells = k') (hn : n + rm.slots = n') (hkR : k' ≤ R.cells) (hnR : n' ≤ R.slots) (hsz : L.size = ml) (hdd : parseMethodDescriptor y.desc = some ⟨ps, rt'⟩) (hlen : argsL.length = ps.length) (hst : st = argsL.reverse ++ .ref a :: rest) (has : (.ref a :: argsL).toArray = as') (hW : (rest.map fun v => v.category).sum = W) (hd : decode bytes pc = .ok (.invokevirtual i, 3)) (hq : pc + 3 = q)
    (r : ∀ w T' h', St p l e R s m args below meth c n0 T' h' k' n' → Q w h' → Goes p e below G (T'.setTop (mkF m q L (w :: rest)))) : Goes p e below G (T.setTop (mkF m pc L st)) := by
  have bk := backOf (Q := fun v h L => Fr n0 L ∧ (∃ w, v = some w ∧ Q w h)) (R := R) (p := p) (e := e) (below := below) (s := s) (args := args) (len := 3) (W := W) (hM []) C.2.1 w8 w9 hf hl
  refine g_callPb C X (QL := fun v h L => Fr n0 L ∧ (∃ w, v = some w ∧ Q w h)) hy w1 w3 w4 w5 E w8 bk hk hn hkR hnR hsz hdd hlen hst has hW hd hq ?_
  rintro v T' h' L' hX ⟨hFr, hQ⟩
  obtain ⟨w, rfl, hQ⟩ := hQ
  exact r w T' h' (hX.resolve_right fun z => z hFr) hQ
theorem g_callP0 (C : Cx p s m meth c Z own bytes ml rt mn) (X : St p l e R s m args below meth c n0 T h k n) {rm : Room} {as' : Array Value} {bts : ByteArray} {mxl : Nat} {rty : Option FieldType} {argsL : List Value} {ps : List FieldType} {rt' : Option FieldType} {k' n' W : Nat} {Q : Heap → Prop} {y : MethodName} {i : Nat} {a : Addr} {K : String} (hy : y.cls ≠ "java/lang/invoke/MethodHandle" ∧ y.cls ≠ "java/lang/invoke/VarHandle") (w1 : (Cond.methodLink own i y).before a0 Z = true) (w3 : (Cond.selects y.cls y y).before a0 Z = true) (w4 : (Cond.instanceMethod y).before a0 Z = true) (w5 : (Cond.privateMethod y).before a0 Z = true) (E : Exa Z h a K) (w8 : (Cond.code y bts mxl rty).before a0 Z = true) (w9 : (Cond.initialized y.cls).before a0 Z = true) (hM : Met0 l Z y bts mxl rty rm as' h n0 Q) (hf : rm.frames + 1 ≤ R.frames) (hl : W + (mxl + 11) + rm.locals ≤ R.locals) (hk : k + rm.cells = k') (hn : n + rm.slots = n') (hkR : k' ≤ R.cells) (hnR : n' ≤ R.slots) (hsz : L.size = ml) (hdd : parseMethodDescriptor y.desc = some ⟨ps, rt'⟩) (hlen : argsL.length = ps.length) (hst : st = argsL.reverse ++ .ref a :: rest) (has : (.ref a :: argsL).toArray = as') (hW : (rest.map fun v => v.category).sum = W) (hd : decode bytes pc = .ok (.invokevirtual i, 3)) (hq : pc + 3 = q)
    (r : ∀ T' h', St p l e R s m args below meth c n0 T' h' k' n' → Q h' → Goes p e below G (T'.setTop (mkF m q L rest))) : Goes p e below G (T.setTop (mkF m pc L st)) := by
  have bk := backOf (Q := fun v h L => Fr n0 L ∧ (v = none ∧ Q h)) (R := R) (p := p) (e := e) (below := below) (s := s) (args := args) (len := 3) (W := W) (hM []) C.2.1 w8 w9 hf hl
  refine g_callPb C X (QL := fun v h L => Fr n0 L ∧ (v = none ∧ Q h)) hy w1 w3 w4 w5 E w8 bk hk hn hkR hnR hsz hdd hlen hst has hW hd hq ?_
  rintro v T' h' L' hX ⟨hFr, hQ⟩
  obtain ⟨rfl, hQ⟩ := hQ
  exact r T' h' (hX.resolve_right fun z => z hFr) hQ
theorem sel_priv {y : MethodName} {kk : Nat} (wi : (Cond.instantiable y.cls kk).before a0 Z = true) (w4 : (Cond.instanceMethod y).before a0 Z = true) (w5 : (Cond.privateMethod y).before a0 Z = true) (hy : y.cls ≠ "java/lang/invoke/MethodHandle" ∧ y.cls ≠ "java/lang/invoke/VarHandle") : (Cond.selects y.cls y y).before a0 Z = true := by
  obtain ⟨c1, k1, i1, i2, -, i4, -⟩ := Cond.instantiable_spec wi
  exact Stand.selects_self_of_private i1 i2 (by simp only [Bool.or_eq_false_iff] at i4; exact i4.1) (Cond.privateMethod_at w5) w4 hy
theorem own_noInst {K O Ko : String} {nn : Nat} (wO : (Cond.noSuperclass O).before a0 Z = true) (wC : (Cond.superclass Ko O).before a0 Z = true) (wK : (Cond.instantiable K nn).before a0 Z = true) (h1 : Ko ≠ K) (h2 : O ≠ K) : ∃ c t, Z.vm.findClass Ko = some c ∧ Z.vm.findClass K = some t ∧ Z.vm.assignable c t = false := by
  obtain ⟨t, kt, g1, g2, g3, g4, -⟩ := Cond.instantiable_spec wK
  obtain ⟨o, ko, o1, o2, o3, -, -⟩ := Cond.noSuperclass_spec wO
  have neO := ids_ne o1 g1 h2
  have nO : NS Z O K := ⟨o, t, o1, g1, fun fuel => by
    cases fuel with
    | zero => rfl
    | succ f => simp [Vm.isSubclassAux, neO, o2, o3]⟩
  obtain ⟨c, t', h0, g0, n3⟩ := NS.step wC nO h1
  cases g1.symm.trans g0
  obtain ⟨p, k, kp, q1, q2, q3, q4, q5, -, q7⟩ := Cond.superclass_spec h0 wC
  have neC := ids_ne h0 g1 h1
  simp only [Bool.or_eq_false_iff] at g4
  refine ⟨c, t, h0, g1, ?_⟩
  show Z.vm.assignableAux (255 + 1) c t = false
  simp [Vm.assignableAux, neC, q2, g2, q5, g3, g4.1, Vm.isSubclass, n3]
theorem own_nb {b : Int32} {t : Bool} (h1 : t = true → b = 0) (h2 : t = false → b = 1) : nar .boolean b = b := by
  cases t
  · rw [h2 rfl]; decide
  · rw [h1 rfl]; decide
theorem nf_sel {y : MethodName} {K : String} (w : (Cond.selects K y y).before a0 Z = true) : ∀ s' : State, Z.Warmed39 s'.vm → NotFace s' y := fun s' hZ => notFace_of_selects (args := #[]) (mvT hZ w)
end OwnKit
theorem own_i32 {x y : Int32} (h : x.toInt = y.toInt) : x = y := Int32.toInt_inj.mp h
theorem own_r1 {u w : Int32} {hi : Int} (h : u.toInt ≤ hi) (hw : hi < w.toInt) : u < w := Int32.lt_iff_toInt_lt.mpr (Int.lt_of_le_of_lt h hw)
theorem own_r2 {u w : Int32} {lo : Int} (h : lo ≤ u.toInt) (hw : w.toInt ≤ lo) : ¬ u < w := fun q => by have := Int32.lt_iff_toInt_lt.mp q; omega
theorem own_r3 {u w : Int32} {lo : Int} (h : lo ≤ w.toInt) (hu : u.toInt < lo) : u < w := Int32.lt_iff_toInt_lt.mpr (by omega)
theorem own_r4 {u w : Int32} {hi : Int} (h : w.toInt ≤ hi) (hu : hi ≤ u.toInt) : ¬ u < w := fun q => by have := Int32.lt_iff_toInt_lt.mp q; omega
theorem own_r5 {u w : Int32} {lo : Int} (h : lo ≤ u.toInt) (hw : w.toInt < lo) : ¬ u = w := fun q => by subst q; omega
theorem own_r6 {u w : Int32} {hi : Int} (h : u.toInt ≤ hi) (hw : hi < w.toInt) : ¬ u = w := fun q => by subst q; omega
theorem own_f0 {u w : Int32} {z : Int} (h1 : z ≤ u.toInt) (h2 : u.toInt ≤ z) (hz : w.toInt = z) : u = w := own_i32 (by omega)
theorem own_f1 {u w : Int32} {z : Int} (h : u < w) (hz : w.toInt = z + 1) : u.toInt ≤ z := by have := Int32.lt_iff_toInt_lt.mp h; omega
theorem own_f2 {u w : Int32} {z : Int} (h : ¬ u < w) (hz : w.toInt = z) : z ≤ u.toInt := by rw [Int32.lt_iff_toInt_lt] at h; omega
theorem own_f3 {u w : Int32} {z : Int} (h : w < u) (hz : w.toInt + 1 = z) : z ≤ u.toInt := by have := Int32.lt_iff_toInt_lt.mp h; omega
theorem own_f4 {u w : Int32} {z : Int} (h : ¬ w < u) (hz : w.toInt = z) : u.toInt ≤ z := by rw [Int32.lt_iff_toInt_lt] at h; omega
theorem own_f5 {u w : Int32} {z lo : Int} (h : ¬ u = w) (hl : lo ≤ u.toInt) (hz : w.toInt = lo ∧ z = lo + 1) : z ≤ u.toInt := by
  have : u.toInt ≠ w.toInt := fun q => h (own_i32 q)
  omega
theorem own_f6 {u w : Int32} {z hi : Int} (h : ¬ u = w) (hl : u.toInt ≤ hi) (hz : w.toInt = hi ∧ z = hi - 1) : u.toInt ≤ z := by
  have : u.toInt ≠ w.toInt := fun q => h (own_i32 q)
  omega
theorem own_i2c {v : Int32} {lo hi : Int} (h1 : lo ≤ v.toInt) (h2 : v.toInt ≤ hi) (h3 : 0 ≤ lo) (h4 : hi ≤ 65535) : v.toUInt32.toUInt16.toUInt32.toInt32 = v := by
  have h := c_i2c v
  apply own_i32
  omega
theorem own_narC {v : Int32} {lo hi : Int} (h1 : lo ≤ v.toInt) (h2 : v.toInt ≤ hi) (h3 : 0 ≤ lo) (h4 : hi ≤ 65535) : nar .char v = v := own_i2c h1 h2 h3 h4
theorem own_ch {v : Int32} {lo hi : Int} (h1 : lo ≤ v.toInt) (h2 : v.toInt ≤ hi) (h3 : 0 ≤ lo) (h4 : hi ≤ 255) : ¬ v < 0 ∧ ¬ (255 : Int32) < v := ⟨own_r2 h1 h3, own_r4 h2 h4⟩
theorem own_rem {x y : Int32} {d : Int} (hy : y.toInt = d + 1) (hd : 0 < d + 1) (hx : 0 ≤ x.toInt) : 0 ≤ (x % y).toInt ∧ (x % y).toInt ≤ d := by
  have h := (c_irem x y (d + 1) hy).1 hx
  rw [h]
  have := Int.emod_nonneg x.toInt (show d + 1 ≠ 0 by omega)
  have := Int.emod_lt_of_pos x.toInt hd
  omega
theorem own_ne {a b : Addr} {h : Heap} (h1 : a < h.size) (h2 : b = h.size) : a ≠ b := fun q => by subst q; subst h2; exact Nat.lt_irrefl _ h1
theorem own_ge {Z : State} {n0 : Nat} {h : Heap} {a : Addr} (O : Old Z n0 h) (g : a = h.size) : n0 ≤ a := by rw [g, ← O.1]; exact O.2.1
theorem own_szO {Z : State} {n0 : Nat} {h : Heap} (O : Old Z n0 h) : n0 ≤ h.size := by rw [← O.1]; exact O.2.1
theorem own_sz {h h' : Heap} {a : Addr} (q : h.size ≤ h'.size) (g : a = h'.size) : h.size ≤ a := g ▸ q
theorem own_neO {Z : State} {n0 : Nat} {h : Heap} {a b : Addr} (q : a < Z.heap.size) (O : Old Z n0 h) (r : n0 ≤ b) : a ≠ b := O.ne q r
theorem own_sta {s : State} {args : Array Value} {C n d K : String} (h : (Jvm.Cond.exactly (.static C n d) K).value args s none s [] = some true) (hi : (Jvm.Cond.initializedFor C n d).before args s = true ∨ ((Jvm.Cond.initialized C).before args s = true ∧ (Jvm.Cond.laysStatic C n d).before args s = true)) : ∃ a, (Term.static C n d).eval args s none [] s = some (.ref a) ∧ Sta s s.heap C n d (.ref a) ∧ Exa s s.heap a K := by
  obtain ⟨a, ev⟩ := exa_v h
  exact ⟨a, ev, Sta.start ev hi, Exa.start ev h⟩
theorem own_fldI {s : State} {args : Array Value} {t : Term} {C n d : String} {v : Int32} {a : Addr} (ev : t.eval args s none [] s = some (.ref a)) (h : (Jvm.Cond.eq (.field t C n d) (.int v)).value args s none s [] = some true) : Fld s s.heap a C n d (.int v) := by
  apply Fld.start
  cases hf : s.fieldOf? a C n d with
  | none => simp [Cond.value, Term.eval, ev, hf] at h
  | some x => cases x <;> simp [Cond.value, Term.eval, ev, hf] at h; subst h; rfl
theorem own_fldN {s : State} {args : Array Value} {t : Term} {C n d : String} {a : Addr} (ev : t.eval args s none [] s = some (.ref a)) (h : (Jvm.Cond.eq (.field t C n d) .null).value args s none s [] = some true) : Fld s s.heap a C n d .null := by
  apply Fld.start
  have := null_v h
  rw [fld_at ev] at this
  exact this
theorem own_fldR {s : State} {args : Array Value} {t : Term} {C n d K : String} {a : Addr} (ev : t.eval args s none [] s = some (.ref a)) (h : (Jvm.Cond.exactly (.field t C n d) K).value args s none s [] = some true) : ∃ b, (Term.field t C n d).eval args s none [] s = some (.ref b) ∧ Fld s s.heap a C n d (.ref b) ∧ Exa s s.heap b K := by
  obtain ⟨b, e2⟩ := exa_v h
  refine ⟨b, e2, Fld.start ?_, Exa.start e2 h⟩
  rw [← fld_at ev]; exact e2
def consts_1 : List (Prod String Nat) := []
section OwnWide
variable {p : Program} {l : Launch} {e : Env} {R : Room} {s : State} {m : MethodId} {args : Array Value} {below : List Frame} {meth : Method} {c : Code} {T : State} {Z : State} {own mn : String} {bytes : ByteArray} {ml n0 k n : Nat} {rt : Option FieldType} {h h' : Heap} {G : Outcome → State → Prop} {pc q : Nat} {L : Array Slot} {st rest : List Value} {a0 : Array Value} {EL : List (String × Nat)} {vm : Vm}
def FinW (Z : State) (EL : List (String × Nat)) (Q : Option Value → Heap → Prop) (s : State) (n0 k n : Nat) (o : Outcome) (U : State) : Prop := ∃ v L, o = .returned v ∧ (Fr n0 L ∧ Q v U.heap) ∧ CHr Z EL s.vm s.heap U.vm U.heap ∧ ReturnedEndW s o U L k n
def MetW (l : Launch) (Z : State) (EL : List (String × Nat)) (y : MethodName) (bytes : ByteArray) (ml : Nat) (rt : Option FieldType) (rm : Room) (as' : Array Value) (h0 : Heap) (n0 : Nat) (Q : Option Value → Heap → Prop) : Prop :=
  ∀ ws : List Jvm.Cond, MetFree l y (head1 (Jvm.Cond.code y bytes ml rt :: ws) rm) (fun a U => a = as' ∧ Z.Warmed39 U.vm ∧ U.heap = h0 ∧ CHv Z EL U.vm h0) (fun _ _ _ _ _ => True) (fun _ U o U' => ∃ v L, o = .returned v ∧ (Fr n0 L ∧ Q v U'.heap) ∧ CHr Z EL U.vm U.heap U'.vm U'.heap ∧ ReturnedEndW U o U' L rm.cells rm.slots)
abbrev MetW1 (l : Launch) (Z : State) (EL : List (String × Nat)) (y : MethodName) (bytes : ByteArray) (ml : Nat) (rt : Option FieldType) (rm : Room) (as' : Array Value) (h0 : Heap) (n0 : Nat) (Q : Value → Heap → Prop) : Prop := MetW l Z EL y bytes ml rt rm as' h0 n0 (fun v h => ∃ w, v = some w ∧ Q w h)
abbrev MetW0 (l : Launch) (Z : State) (EL : List (String × Nat)) (y : MethodName) (bytes : ByteArray) (ml : Nat) (rt : Option FieldType) (rm : Room) (as' : Array Value) (h0 : Heap) (n0 : Nat) (Q : Heap → Prop) : Prop := MetW l Z EL y bytes ml rt rm as' h0 n0 (fun v h => v = none ∧ Q h)
/-- what a wide walk bears besides: its tables come of the start's, and what they book is said -/
def Wx (Z : State) (EL : List (String × Nat)) (s : State) (vm : Vm) (h : Heap) : Prop := (∃ k0, s.Since vm k0 ∧ k0 ≤ h.size) ∧ CHr Z EL s.vm s.heap vm h
theorem Wx.ext (Y : Wx Z EL s vm h) (E : Ext h h') : Wx Z EL s vm h' := by
  obtain ⟨⟨k0, h1, h2⟩, h3⟩ := Y
  exact ⟨⟨k0, h1, Nat.le_trans h2 E.1⟩, h3.trans (CHr.ext E h3.1)⟩
theorem Wx.wr (Y : Wx Z EL s vm h) {a : Addr} {sl : Nat} {v : Value} (W : Wr h h' a sl v) (S : Safe Z EL vm h a) : Wx Z EL s vm h' := by
  obtain ⟨⟨k0, h1, h2⟩, h3⟩ := Y
  exact ⟨⟨k0, h1, by rw [W.size]; exact h2⟩, h3.trans (CHr.wr W S h3.1)⟩
theorem Wx.keep (Y : Wx Z EL s vm h) {ws : List Addr} (K : Keep h h' ws) (S : ∀ x ∈ ws, Safe Z EL vm h x) : Wx Z EL s vm h' := by
  obtain ⟨⟨k0, h1, h2⟩, h3⟩ := Y
  exact ⟨⟨k0, h1, Nat.le_trans h2 K.1⟩, h3.trans (CHr.keep K S h3.1)⟩
theorem Wx.safe0 (Y : Wx Z EL s vm h) {x : Addr} (hx : h.size ≤ x) : Safe Z EL vm h x := Safe.new hx
theorem Wx.safeE (Y : Wx Z EL s vm h) {x : Addr} (S : Safe Z EL vm h x) (E : Ext h h') : Safe Z EL vm h' x := Safe.ext E Y.2.1 S
theorem Wx.safeW (Y : Wx Z EL s vm h) {a x : Addr} {sl : Nat} {v : Value} (S : Safe Z EL vm h x) (W : Wr h h' a sl v) (Sa : Safe Z EL vm h a) : Safe Z EL vm h' x := Safe.wr W Sa Y.2.1 S
theorem Wx.safeK (Y : Wx Z EL s vm h) {x : Addr} {ws : List Addr} (S : Safe Z EL vm h x) (K : Keep h h' ws) (Sa : ∀ x ∈ ws, Safe Z EL vm h x) : Safe Z EL vm h' x := Safe.keep K Sa Y.2.1 S
theorem Cx.alike (C : Cx p (s.setVm vm) m meth c Z own bytes ml rt mn) : Z.vm.Alike vm := C.2.1.alike
theorem metW_of {y : MethodName} {rm : Room} {as' : Array Value} {Q : Option Value → Heap → Prop} (hp : plainFor y = true) (hef : ∀ m, entryFrame m as' ml = mkF m 0 L [])
    (body : ∀ (p : Program) (e : Env) (s : State) (m : MethodId) (below : List Frame) (meth : Method) (c : Code) (T : State) (vm : Vm), Cx p (s.setVm vm) m meth c Z y.cls bytes ml rt y.name → St p l e rm (s.setVm vm) m as' below meth c n0 T h 0 0 → Wx Z EL s vm h → Goes p e below (FinW Z EL Q s n0 rm.cells rm.slots) (T.setTop (mkF m 0 L []))) :
    MetW l Z EL y bytes ml rt rm as' h n0 Q := by
  intro ws
  refine MetFree.of_bodySF hp hisR ?_
  intro p e s m args below meth c s₁ Bd hml hP hK
  obtain ⟨rfl, hZ, hh, hCH⟩ := hP
  have e0 : s₁.heap = h := by rw [← hh, Bd.state]; rfl
  have b := body p e s m below meth c s₁ s.vm ⟨Bd.exec, hZ, findClass_of_methodNamed Bd.named, Bd.bytes, hml, Bd.returns, BodyLoose.notSynchronized Bd, (name_of_methodNamed Bd.named Bd.method).1⟩ ⟨[], 0, 0, Stand.of_body Bd, Fr.nil _, e0, Nat.le_refl _, Nat.le_refl _⟩
    ⟨⟨0, (State.WarmedH.refl s).since 0, Nat.zero_le _⟩, by rw [hh]; exact CHr.refl hCH⟩
  rw [hef m]
  exact b
theorem own_endW (C : Cx p (s.setVm vm) m meth c Z own bytes ml rt mn) (X : St p l e R (s.setVm vm) m args below meth c n0 T h k n) (Y : Wx Z EL s vm h) (hEL : EW Z a0 EL) {Q : Option Value → Heap → Prop} {K N : Nat} {S : State} {v : Option Value} (hv : rt = none → v = none) (hk : k ≤ K) (hn : n ≤ N) (hQ : Q v h)
    (f : ∀ locs cells slots fs, Stand p l e R (s.setVm vm) m args below meth c T locs cells slots → (∀ (f : JFrame) (acts : List Action), f.method = m → f.locked = none → f.entered = [] → (doReturn e (T.setTop f) acts v).1 = T.setFrames fs) → Steps p.tables e below S (T.setFrames fs)) : Goes p e below (FinW Z EL Q s n0 K N) S := by
  obtain ⟨hx, hZ, -, hby, -, hret, hlk, -⟩ := C
  obtain ⟨locs, cells, slots, X, hF, rfl, h1, h2⟩ := X
  obtain ⟨⟨k0, hS, hk0⟩, hC⟩ := Y
  have hA := CHv.at X hZ hEL hC.1
  obtain ⟨fs, hr, hrun, hended, hW, hsame⟩ := X.leave (v := v) (fun h => hv (hret.symm.trans h)) hlk
  have hS2 : s.Since (T.setFrames fs).vm T.heap.size := hS.trans (hW.since _) hk0
  refine ⟨_, _, f _ _ _ fs X hr, hrun, hended, _, _, rfl, ⟨hF, hQ⟩, hC.trans hA, ⟨_, rfl⟩, hS2.1, ?_, ?_⟩
  · intro j pp hj hp
    exact hS2.2 j pp hj hp
  · exact (hsame.setVm s.vm).mono (Nat.le_trans h1 hk) (Nat.le_trans h2 hn)
theorem gW_retI (C : Cx p (s.setVm vm) m meth c Z own bytes ml (some .int) mn) (X : St p l e R (s.setVm vm) m args below meth c n0 T h k n) (Y : Wx Z EL s vm h) (hEL : EW Z a0 EL) {Q : Option Value → Heap → Prop} {K N : Nat} {z : Int32} (hd : decode bytes pc = .ok (.ireturn, 1)) (hk : k ≤ K) (hn : n ≤ N) (hQ : Q (some (.int z)) h) : Goes p e below (FinW Z EL Q s n0 K N) (T.setTop (mkF m pc L (.int z :: st))) := by
  refine own_endW C X Y hEL (by simp) hk hn hQ fun locs cells slots fs X hr => ?_
  obtain ⟨hx, -, -, hby, -, hret, hlk, -⟩ := C
  exact retOut X hx hret rfl (Or.inl ⟨rfl, Or.inl rfl, _, rfl⟩) (hb hby hd) hr
theorem gW_retN {t : FieldType} (C : Cx p (s.setVm vm) m meth c Z own bytes ml (some t) mn) (X : St p l e R (s.setVm vm) m args below meth c n0 T h k n) (Y : Wx Z EL s vm h) (hEL : EW Z a0 EL) {Q : Option Value → Heap → Prop} {K N : Nat} {z z' : Int32} (ht : t = .boolean ∨ t = .byte ∨ t = .char ∨ t = .short) (hz : nar t z = z') (hd : decode bytes pc = .ok (.ireturn, 1)) (hk : k ≤ K) (hn : n ≤ N) (hQ : Q (some (.int z')) h) : Goes p e below (FinW Z EL Q s n0 K N) (T.setTop (mkF m pc L (.int z :: st))) := by
  subst hz
  refine own_endW C X Y hEL (by simp) hk hn hQ fun locs cells slots fs X hr => ?_
  obtain ⟨hx, -, -, hby, -, hret, hlk, -⟩ := C
  exact retN X hx hret ht (hb hby hd) hr
theorem gW_retA {t : FieldType} (C : Cx p (s.setVm vm) m meth c Z own bytes ml (some t) mn) (X : St p l e R (s.setVm vm) m args below meth c n0 T h k n) (Y : Wx Z EL s vm h) (hEL : EW Z a0 EL) {Q : Option Value → Heap → Prop} {K N : Nat} {v : Value} (ht : t.isReference = true) (hv : v.isRef = true) (hd : decode bytes pc = .ok (.areturn, 1)) (hk : k ≤ K) (hn : n ≤ N) (hQ : Q (some v) h) : Goes p e below (FinW Z EL Q s n0 K N) (T.setTop (mkF m pc L (v :: st))) := by
  refine own_endW C X Y hEL (by simp) hk hn hQ fun locs cells slots fs X hr => ?_
  obtain ⟨hx, -, -, hby, -, hret, hlk, -⟩ := C
  have hn' : narrow t v = v := by rcases ref_cases hv with rfl | ⟨b, rfl⟩ <;> cases t <;> first | rfl | (cases ht)
  exact retOut X hx hret hn' (Or.inr (Or.inr (Or.inr (Or.inr ⟨rfl, ht, hv⟩)))) (hb hby hd) hr
theorem gW_retV (C : Cx p (s.setVm vm) m meth c Z own bytes ml none mn) (X : St p l e R (s.setVm vm) m args below meth c n0 T h k n) (Y : Wx Z EL s vm h) (hEL : EW Z a0 EL) {Q : Option Value → Heap → Prop} {K N : Nat} (hd : decode bytes pc = .ok (.return_, 1)) (hk : k ≤ K) (hn : n ≤ N) (hQ : Q none h) : Goes p e below (FinW Z EL Q s n0 K N) (T.setTop (mkF m pc L [])) := by
  refine own_endW C X Y hEL (fun _ => rfl) hk hn hQ fun locs cells slots fs X hr => ?_
  obtain ⟨hx, -, -, hby, -, hret, hlk, -⟩ := C
  exact X.returnOut hx hret (hb hby hd) hr
theorem gW_ldcO (C : Cx p (s.setVm vm) m meth c Z own bytes ml rt mn) (X : St p l e R (s.setVm vm) m args below meth c n0 T h k n) (Y : Wx Z EL s vm h) (hEL : EW Z a0 EL) {text : String} {i nn k' n' : Nat} (w : (Cond.stringLink own i text).before a0 Z = true) (wS : ∀ a ∈ Bundle.stringAtoms, a.before a0 Z = true) (hd : decode bytes pc = .ok (.ldc i, 2)) (hq : pc + 2 = q) (hnn : 4 * text.toList.length ≤ nn) (hbig : nn ≤ 536870912) (hk : k + 2 = k') (hn : n + (nn + 4) = n') (hkR : k' ≤ R.cells) (hnR : n' ≤ R.slots)
    (r : ∀ a T' h' vm', Cx p (s.setVm vm') m meth c Z own bytes ml rt mn → St p l e R (s.setVm vm') m args below meth c n0 T' h' k' n' → Wx Z EL s vm' h' → Ext h h' → CHr Z EL vm h vm' h' → Goes p e below G (T'.setTop (mkF m q L (.ref a :: st)))) : Goes p e below G (T.setTop (mkF m pc L st)) := by
  obtain ⟨hx, hZ, hown, hby, hml, hret, hlk, hnm⟩ := C
  obtain ⟨locs, cells, slots, X, hF, eT, h1, h2⟩ := X
  obtain ⟨⟨k0, hS, hk0⟩, hC⟩ := Y
  subst hq hk hn
  obtain ⟨a, T', h', k1, X', e', E', hS', hk1, hZ', hown', hC', -, st'⟩ := ldcOH X hx hZ hown w wS eT hS hk0 hEL hC.1 (g := mkF m pc L st) rfl (hb hby hd) hnn hbig (Nat.le_trans (Nat.add_le_add_right h1 2) hkR) (Nat.le_trans (Nat.add_le_add_right h2 _) hnR)
  exact go_st st' (r a T' h' T'.vm ⟨hx, hZ', hown', hby, hml, hret, hlk, hnm⟩ ⟨_, _, _, X', hF, e', Nat.add_le_add_right h1 2, Nat.add_le_add_right h2 _⟩ ⟨⟨k1, hS', hk1⟩, hC.trans hC'⟩ E' hC')
theorem gW_ldcC (C : Cx p (s.setVm vm) m meth c Z own bytes ml rt mn) (X : St p l e R (s.setVm vm) m args below meth c n0 T h k n) (Y : Wx Z EL s vm h) (hEL : EW Z a0 EL) {text : String} {i nn k' n' : Nat} {vs : List Value} {z : Int32} (w : (Cond.stringLink own i text).before a0 Z = true) (wS : ∀ a ∈ Bundle.stringAtoms, a.before a0 Z = true) (hmem : (own, i) ∈ EL) (ht : (∀ c ∈ text.toList, c.toNat < 256) ∧ text.toList.map (fun c => Value.int (Jvm.Lit.byteI c.toNat.toUInt16)) = vs) (hz : ¬ z < 0) (hl : z.toNatClampNeg = vs.length) (hd : decode bytes pc = .ok (.ldc i, 2)) (hq : pc + 2 = q) (hnn : 4 * text.toList.length ≤ nn) (hbig : nn ≤ 536870912) (hk : k + 2 = k') (hn : n + (nn + 4) = n') (hkR : k' ≤ R.cells) (hnR : n' ≤ R.slots)
    (r : ∀ a b kk T' h' vm', Cx p (s.setVm vm') m meth c Z own bytes ml rt mn → St p l e R (s.setVm vm') m args below meth c n0 T' h' k' n' → Wx Z EL s vm' h' → Ext h h' → CHr Z EL vm h vm' h' → Exa Z h' a "java/lang/String" → Fld Z h' a "java/lang/String" "coder" "B" (.int 0) → Fld Z h' a "java/lang/String" "value" "[B" (.ref b) → Arv Z h' b kk .byte z vs (.int 0) → (∀ x, Safe Z EL vm' h' x → x ≠ a ∧ x ≠ b) → Goes p e below G (T'.setTop (mkF m q L (.ref a :: st)))) : Goes p e below G (T.setTop (mkF m pc L st)) := by
  obtain ⟨hx, hZ, hown, hby, hml, hret, hlk, hnm⟩ := C
  obtain ⟨locs, cells, slots, X, hF, eT, h1, h2⟩ := X
  obtain ⟨⟨k0, hS, hk0⟩, hC⟩ := Y
  subst hq hk hn
  obtain ⟨a, T', h', k1, b, kk, X', e', E', hS', hk1, hZ', hown', f1, f2, f3, f4, -, -, hC', -, hsf, st'⟩ := ldcCH X hx hZ hown w wS eT hS hk0 hEL hmem hC.1 ht hz hl (g := mkF m pc L st) rfl (hb hby hd) hnn hbig (Nat.le_trans (Nat.add_le_add_right h1 2) hkR) (Nat.le_trans (Nat.add_le_add_right h2 _) hnR)
  exact go_st st' (r a b kk T' h' T'.vm ⟨hx, hZ', hown', hby, hml, hret, hlk, hnm⟩ ⟨_, _, _, X', hF, e', Nat.add_le_add_right h1 2, Nat.add_le_add_right h2 _⟩ ⟨⟨k1, hS', hk1⟩, hC.trans hC'⟩ E' hC' f1 f2 f3 f4 hsf)
theorem gW_callS1 (C : Cx p (s.setVm vm) m meth c Z own bytes ml rt mn) (X : St p l e R (s.setVm vm) m args below meth c n0 T h k n) (Y : Wx Z EL s vm h) (hEL : EW Z a0 EL) {rm : Room} {as' : Array Value} {bts : ByteArray} {mxl : Nat} {rty : Option FieldType} {argsL : List Value} {ps : List FieldType} {rt' : Option FieldType} {k' n' W : Nat} {Q : Value → Heap → Prop} {y : MethodName} {i : Nat} (hy : y.cls ≠ "java/lang/invoke/MethodHandle" ∧ y.cls ≠ "java/lang/invoke/VarHandle") (w1 : (Cond.methodLink own i y).before a0 Z = true) (w2 : (Cond.static y).before a0 Z = true) (w8 : (Cond.code y bts mxl rty).before a0 Z = true) (w9 : (Cond.initialized y.cls).before a0 Z = true) (hM : MetW1 l Z EL y bts mxl rty rm as' h n0 Q) (hf : rm.frames + 1 ≤ R.frames) (hl : W + (mxl + 11) + rm.locals ≤ R.locals) (hk : k + rm.cells = k') (hn : n + rm.slots = n') (hkR : k' ≤ R.cells) (hnR : n' ≤ R.slots) (hsz : L.size = ml) (hdd : parseMethodDescriptor y.desc = some ⟨ps, rt'⟩) (hlen : argsL.length = ps.length) (hst : st = argsL.reverse ++ rest) (has : argsL.toArray = as') (hW : (rest.map fun v => v.category).sum = W) (hd : decode bytes pc = .ok (.invokestatic i, 3)) (hq : pc + 3 = q)
    (r : ∀ w T' h' vm', Cx p (s.setVm vm') m meth c Z own bytes ml rt mn → St p l e R (s.setVm vm') m args below meth c n0 T' h' k' n' → Wx Z EL s vm' h' → CHr Z EL vm h vm' h' → Q w h' → Goes p e below G (T'.setTop (mkF m q L (w :: rest)))) : Goes p e below G (T.setTop (mkF m pc L st)) := by
  obtain ⟨hx, hZ, hown, hby, hml, hret, hlk, hnm⟩ := C
  obtain ⟨_, cells, slots, X, hF, eT, h1, h2⟩ := X
  obtain ⟨⟨k0, hS, hk0⟩, hC⟩ := Y
  subst hq hk hn has hst hW
  have bk := backOfSH (Q := fun v h L => Fr n0 L ∧ (∃ w, v = some w ∧ Q w h)) (R := R) (p := p) (e := e) (below := below) (s := s) (args := args) (len := 3) (W := (rest.map fun v => v.category).sum) (hM []) hZ w8 w9 hf hl hEL hC.1
  obtain ⟨_, _, ⟨T', Lo, kk, nn⟩, -, X', hS', hg', ⟨Lc, hQ, q1, q2, q3, hC'⟩, st'⟩ := callSS X hx hown (mvT hZ w1) (mvT hZ w2) (mvT hZ w9) (mvT hZ w8) hy bk (g := mkF m pc L (argsL.reverse ++ rest)) rfl (hsz.trans hml.symm) (argsL := argsL) (rest := rest) (lenOf hdd hlen) rfl (by show 2 * 0 + _ ≤ _; omega) (hb hby hd) (fun _ _ => ⟨rfl, eT, Nat.le_trans (Nat.add_le_add_right h1 _) hkR, Nat.le_trans (Nat.add_le_add_right h2 _) hnR⟩)
  dsimp only [Pt.U, Pt.locs, Pt.cells, Pt.slots] at X' hS' hg' q1 q2 q3 st' hQ hC'
  subst q1 q2 q3
  obtain ⟨hFr, hQ'⟩ := hQ
  obtain ⟨w, rfl, hQ'⟩ := hQ'
  rw [eT] at hg'
  obtain ⟨X2, hS2, hZ2, hown2⟩ := rebS hS hk0 X' hS' hg' hZ hown
  exact go_tr st' (r w T' _ T'.vm ⟨hx, hZ2, hown2, hby, hml, hret, hlk, hnm⟩ ⟨_, _, _, X2, Fr.app hF hFr, rfl, Nat.add_le_add_right h1 _, Nat.add_le_add_right h2 _⟩ ⟨⟨_, hS2, Nat.le_refl _⟩, hC.trans hC'⟩ hC' hQ')
theorem gW_callS0 (C : Cx p (s.setVm vm) m meth c Z own bytes ml rt mn) (X : St p l e R (s.setVm vm) m args below meth c n0 T h k n) (Y : Wx Z EL s vm h) (hEL : EW Z a0 EL) {rm : Room} {as' : Array Value} {bts : ByteArray} {mxl : Nat} {rty : Option FieldType} {argsL : List Value} {ps : List FieldType} {rt' : Option FieldType} {k' n' W : Nat} {Q : Heap → Prop} {y : MethodName} {i : Nat} (hy : y.cls ≠ "java/lang/invoke/MethodHandle" ∧ y.cls ≠ "java/lang/invoke/VarHandle") (w1 : (Cond.methodLink own i y).before a0 Z = true) (w2 : (Cond.static y).before a0 Z = true) (w8 : (Cond.code y bts mxl rty).before a0 Z = true) (w9 : (Cond.initialized y.cls).before a0 Z = true) (hM : MetW0 l Z EL y bts mxl rty rm as' h n0 Q) (hf : rm.frames + 1 ≤ R.frames) (hl : W + (mxl + 11) + rm.locals ≤ R.locals) (hk : k + rm.cells = k') (hn : n + rm.slots = n') (hkR : k' ≤ R.cells) (hnR : n' ≤ R.slots) (hsz : L.size = ml) (hdd : parseMethodDescriptor y.desc = some ⟨ps, rt'⟩) (hlen : argsL.length = ps.length) (hst : st = argsL.reverse ++ rest) (has : argsL.toArray = as') (hW : (rest.map fun v => v.category).sum = W) (hd : decode bytes pc = .ok (.invokestatic i, 3)) (hq : pc + 3 = q)
    (r : ∀ T' h' vm', Cx p (s.setVm vm') m meth c Z own bytes ml rt mn → St p l e R (s.setVm vm') m args below meth c n0 T' h' k' n' → Wx Z EL s vm' h' → CHr Z EL vm h vm' h' → Q h' → Goes p e below G (T'.setTop (mkF m q L rest))) : Goes p e below G (T.setTop (mkF m pc L st)) := by
  obtain ⟨hx, hZ, hown, hby, hml, hret, hlk, hnm⟩ := C
  obtain ⟨_, cells, slots, X, hF, eT, h1, h2⟩ := X
  obtain ⟨⟨k0, hS, hk0⟩, hC⟩ := Y
  subst hq hk hn has hst hW
  have bk := backOfSH (Q := fun v h L => Fr n0 L ∧ (v = none ∧ Q h)) (R := R) (p := p) (e := e) (below := below) (s := s) (args := args) (len := 3) (W := (rest.map fun v => v.category).sum) (hM []) hZ w8 w9 hf hl hEL hC.1
  obtain ⟨_, _, ⟨T', Lo, kk, nn⟩, -, X', hS', hg', ⟨Lc, hQ, q1, q2, q3, hC'⟩, st'⟩ := callSS X hx hown (mvT hZ w1) (mvT hZ w2) (mvT hZ w9) (mvT hZ w8) hy bk (g := mkF m pc L (argsL.reverse ++ rest)) rfl (hsz.trans hml.symm) (argsL := argsL) (rest := rest) (lenOf hdd hlen) rfl (by show 2 * 0 + _ ≤ _; omega) (hb hby hd) (fun _ _ => ⟨rfl, eT, Nat.le_trans (Nat.add_le_add_right h1 _) hkR, Nat.le_trans (Nat.add_le_add_right h2 _) hnR⟩)
  dsimp only [Pt.U, Pt.locs, Pt.cells, Pt.slots] at X' hS' hg' q1 q2 q3 st' hQ hC'
  subst q1 q2 q3
  obtain ⟨hFr, hQ'⟩ := hQ
  obtain ⟨rfl, hQ'⟩ := hQ'
  rw [eT] at hg'
  obtain ⟨X2, hS2, hZ2, hown2⟩ := rebS hS hk0 X' hS' hg' hZ hown
  exact go_tr st' (r T' _ T'.vm ⟨hx, hZ2, hown2, hby, hml, hret, hlk, hnm⟩ ⟨_, _, _, X2, Fr.app hF hFr, rfl, Nat.add_le_add_right h1 _, Nat.add_le_add_right h2 _⟩ ⟨⟨_, hS2, Nat.le_refl _⟩, hC.trans hC'⟩ hC' hQ')
theorem gW_callI1 (C : Cx p (s.setVm vm) m meth c Z own bytes ml rt mn) (X : St p l e R (s.setVm vm) m args below meth c n0 T h k n) (Y : Wx Z EL s vm h) (hEL : EW Z a0 EL) {rm : Room} {as' : Array Value} {bts : ByteArray} {mxl : Nat} {rty : Option FieldType} {argsL : List Value} {ps : List FieldType} {rt' : Option FieldType} {k' n' W : Nat} {Q : Value → Heap → Prop} {y : MethodName} {i : Nat} {a : Addr} (hy : y.cls ≠ "java/lang/invoke/MethodHandle" ∧ y.cls ≠ "java/lang/invoke/VarHandle") (hy1 : y.name = "<init>") (hrn : rty = none) (w1 : (Cond.methodLink own i y).before a0 Z = true) (w2 : (Cond.instanceMethod y).before a0 Z = true) (w8 : (Cond.code y bts mxl rty).before a0 Z = true) (w9 : (Cond.initialized y.cls).before a0 Z = true) (hM : MetW1 l Z EL y bts mxl rty rm as' h n0 Q) (hf : rm.frames + 1 ≤ R.frames) (hl : W + (mxl + 11) + rm.locals ≤ R.locals) (hk : k + rm.cells = k') (hn : n + rm.slots = n') (hkR : k' ≤ R.cells) (hnR : n' ≤ R.slots) (hsz : L.size = ml) (hdd : parseMethodDescriptor y.desc = some ⟨ps, rt'⟩) (hlen : argsL.length = ps.length) (hst : st = argsL.reverse ++ .ref a :: rest) (has : (.ref a :: argsL).toArray = as') (hW : (rest.map fun v => v.category).sum = W) (hd : decode bytes pc = .ok (.invokespecial i, 3)) (hq : pc + 3 = q)
    (r : ∀ w T' h' vm', Cx p (s.setVm vm') m meth c Z own bytes ml rt mn → St p l e R (s.setVm vm') m args below meth c n0 T' h' k' n' → Wx Z EL s vm' h' → CHr Z EL vm h vm' h' → Q w h' → Goes p e below G (T'.setTop (mkF m q L (w :: rest)))) : Goes p e below G (T.setTop (mkF m pc L st)) := by
  obtain ⟨hx, hZ, hown, hby, hml, hret, hlk, hnm⟩ := C
  obtain ⟨_, cells, slots, X, hF, eT, h1, h2⟩ := X
  obtain ⟨⟨k0, hS, hk0⟩, hC⟩ := Y
  subst hq hk hn has hst hW
  have bk := backOfSH (Q := fun v h L => Fr n0 L ∧ (∃ w, v = some w ∧ Q w h)) (R := R) (p := p) (e := e) (below := below) (s := s) (args := args) (len := 3) (W := (rest.map fun v => v.category).sum) (hM []) hZ w8 w9 hf hl hEL hC.1
  subst hrn
  obtain ⟨_, _, ⟨T', Lo, kk, nn⟩, -, X', hS', hg', ⟨Lc, hQ, q1, q2, q3, hC'⟩, st'⟩ := X.specialBackS hx hy1 hown (mvT hZ w1) (mvT hZ w2) (mvT hZ w8) hy bk (g := mkF m pc L (argsL.reverse ++ .ref a :: rest)) rfl (hsz.trans hml.symm) (Steps.refl _) (a := a) (argsL := argsL) (rest := rest) (lenOf hdd hlen) rfl (by show 2 * 0 + _ ≤ _; omega) (hb hby hd) (fun _ _ => ⟨rfl, eT, Nat.le_trans (Nat.add_le_add_right h1 _) hkR, Nat.le_trans (Nat.add_le_add_right h2 _) hnR⟩)
  dsimp only [Pt.U, Pt.locs, Pt.cells, Pt.slots] at X' hS' hg' q1 q2 q3 st' hQ hC'
  subst q1 q2 q3
  obtain ⟨hFr, hQ'⟩ := hQ
  obtain ⟨w, rfl, hQ'⟩ := hQ'
  rw [eT] at hg'
  obtain ⟨X2, hS2, hZ2, hown2⟩ := rebS hS hk0 X' hS' hg' hZ hown
  exact go_tr st' (r w T' _ T'.vm ⟨hx, hZ2, hown2, hby, hml, hret, hlk, hnm⟩ ⟨_, _, _, X2, Fr.app hF hFr, rfl, Nat.add_le_add_right h1 _, Nat.add_le_add_right h2 _⟩ ⟨⟨_, hS2, Nat.le_refl _⟩, hC.trans hC'⟩ hC' hQ')
theorem gW_callI0 (C : Cx p (s.setVm vm) m meth c Z own bytes ml rt mn) (X : St p l e R (s.setVm vm) m args below meth c n0 T h k n) (Y : Wx Z EL s vm h) (hEL : EW Z a0 EL) {rm : Room} {as' : Array Value} {bts : ByteArray} {mxl : Nat} {rty : Option FieldType} {argsL : List Value} {ps : List FieldType} {rt' : Option FieldType} {k' n' W : Nat} {Q : Heap → Prop} {y : MethodName} {i : Nat} {a : Addr} (hy : y.cls ≠ "java/lang/invoke/MethodHandle" ∧ y.cls ≠ "java/lang/invoke/VarHandle") (hy1 : y.name = "<init>") (hrn : rty = none) (w1 : (Cond.methodLink own i y).before a0 Z = true) (w2 : (Cond.instanceMethod y).before a0 Z = true) (w8 : (Cond.code y bts mxl rty).before a0 Z = true) (w9 : (Cond.initialized y.cls).before a0 Z = true) (hM : MetW0 l Z EL y bts mxl rty rm as' h n0 Q) (hf : rm.frames + 1 ≤ R.frames) (hl : W + (mxl + 11) + rm.locals ≤ R.locals) (hk : k + rm.cells = k') (hn : n + rm.slots = n') (hkR : k' ≤ R.cells) (hnR : n' ≤ R.slots) (hsz : L.size = ml) (hdd : parseMethodDescriptor y.desc = some ⟨ps, rt'⟩) (hlen : argsL.length = ps.length) (hst : st = argsL.reverse ++ .ref a :: rest) (has : (.ref a :: argsL).toArray = as') (hW : (rest.map fun v => v.category).sum = W) (hd : decode bytes pc = .ok (.invokespecial i, 3)) (hq : pc + 3 = q)
    (r : ∀ T' h' vm', Cx p (s.setVm vm') m meth c Z own bytes ml rt mn → St p l e R (s.setVm vm') m args below meth c n0 T' h' k' n' → Wx Z EL s vm' h' → CHr Z EL vm h vm' h' → Q h' → Goes p e below G (T'.setTop (mkF m q L rest))) : Goes p e below G (T.setTop (mkF m pc L st)) := by
  obtain ⟨hx, hZ, hown, hby, hml, hret, hlk, hnm⟩ := C
  obtain ⟨_, cells, slots, X, hF, eT, h1, h2⟩ := X
  obtain ⟨⟨k0, hS, hk0⟩, hC⟩ := Y
  subst hq hk hn has hst hW
  have bk := backOfSH (Q := fun v h L => Fr n0 L ∧ (v = none ∧ Q h)) (R := R) (p := p) (e := e) (below := below) (s := s) (args := args) (len := 3) (W := (rest.map fun v => v.category).sum) (hM []) hZ w8 w9 hf hl hEL hC.1
  subst hrn
  obtain ⟨_, _, ⟨T', Lo, kk, nn⟩, -, X', hS', hg', ⟨Lc, hQ, q1, q2, q3, hC'⟩, st'⟩ := X.specialBackS hx hy1 hown (mvT hZ w1) (mvT hZ w2) (mvT hZ w8) hy bk (g := mkF m pc L (argsL.reverse ++ .ref a :: rest)) rfl (hsz.trans hml.symm) (Steps.refl _) (a := a) (argsL := argsL) (rest := rest) (lenOf hdd hlen) rfl (by show 2 * 0 + _ ≤ _; omega) (hb hby hd) (fun _ _ => ⟨rfl, eT, Nat.le_trans (Nat.add_le_add_right h1 _) hkR, Nat.le_trans (Nat.add_le_add_right h2 _) hnR⟩)
  dsimp only [Pt.U, Pt.locs, Pt.cells, Pt.slots] at X' hS' hg' q1 q2 q3 st' hQ hC'
  subst q1 q2 q3
  obtain ⟨hFr, hQ'⟩ := hQ
  obtain ⟨rfl, hQ'⟩ := hQ'
  rw [eT] at hg'
  obtain ⟨X2, hS2, hZ2, hown2⟩ := rebS hS hk0 X' hS' hg' hZ hown
  exact go_tr st' (r T' _ T'.vm ⟨hx, hZ2, hown2, hby, hml, hret, hlk, hnm⟩ ⟨_, _, _, X2, Fr.app hF hFr, rfl, Nat.add_le_add_right h1 _, Nat.add_le_add_right h2 _⟩ ⟨⟨_, hS2, Nat.le_refl _⟩, hC.trans hC'⟩ hC' hQ')
theorem gW_callV1 (C : Cx p (s.setVm vm) m meth c Z own bytes ml rt mn) (X : St p l e R (s.setVm vm) m args below meth c n0 T h k n) (Y : Wx Z EL s vm h) (hEL : EW Z a0 EL) {rm : Room} {as' : Array Value} {bts : ByteArray} {mxl : Nat} {rty : Option FieldType} {argsL : List Value} {ps : List FieldType} {rt' : Option FieldType} {k' n' W : Nat} {Q : Value → Heap → Prop} {y z : MethodName} {i : Nat} {a : Addr} {K : String} (hy : y.cls ≠ "java/lang/invoke/MethodHandle" ∧ y.cls ≠ "java/lang/invoke/VarHandle") (w1 : (Cond.methodLink own i y).before a0 Z = true) (w2 : (Cond.declares y).before a0 Z = true) (w3 : (Cond.selects K y z).before a0 Z = true) (w4 : (Cond.instanceMethod z).before a0 Z = true) (hnf : ∀ s' : State, Z.Warmed39 s'.vm → NotFace s' y) (E : Exa Z h a K) (w8 : (Cond.code z bts mxl rty).before a0 Z = true) (w9 : (Cond.initialized z.cls).before a0 Z = true) (hM : MetW1 l Z EL z bts mxl rty rm as' h n0 Q) (hf : rm.frames + 1 ≤ R.frames) (hl : W + (mxl + 11) + rm.locals ≤ R.locals) (hk : k + rm.cells = k') (hn : n + rm.slots = n') (hkR : k' ≤ R.cells) (hnR : n' ≤ R.slots) (hsz : L.size = ml) (hdd : parseMethodDescriptor y.desc = some ⟨ps, rt'⟩) (hlen : argsL.length = ps.length) (hst : st = argsL.reverse ++ .ref a :: rest) (has : (.ref a :: argsL).toArray = as') (hW : (rest.map fun v => v.category).sum = W) (hd : decode bytes pc = .ok (.invokevirtual i, 3)) (hq : pc + 3 = q)
    (r : ∀ w T' h' vm', Cx p (s.setVm vm') m meth c Z own bytes ml rt mn → St p l e R (s.setVm vm') m args below meth c n0 T' h' k' n' → Wx Z EL s vm' h' → CHr Z EL vm h vm' h' → Q w h' → Goes p e below G (T'.setTop (mkF m q L (w :: rest)))) : Goes p e below G (T.setTop (mkF m pc L st)) := by
  obtain ⟨hx, hZ, hown, hby, hml, hret, hlk, hnm⟩ := C
  obtain ⟨_, cells, slots, X, hF, eT, h1, h2⟩ := X
  obtain ⟨⟨k0, hS, hk0⟩, hC⟩ := Y
  subst hq hk hn has hst hW
  have bk := backOfSH (Q := fun v h L => Fr n0 L ∧ (∃ w, v = some w ∧ Q w h)) (R := R) (p := p) (e := e) (below := below) (s := s) (args := args) (len := 3) (W := (rest.map fun v => v.category).sum) (hM []) hZ w8 w9 hf hl hEL hC.1
  obtain ⟨cB, kB, qa, qb, qc⟩ := isOf hZ eT E
  obtain ⟨_, _, ⟨T', Lo, kk, nn⟩, -, X', hS', hg', ⟨Lc, hQ, q1, q2, q3, hC'⟩, st'⟩ := X.virtualBackS hx hown (mvT hZ w1) (mvT hZ w2) (hnf _ hZ) (mvT hZ w3) (mvT hZ w4) hy bk qa qc (g := mkF m pc L (argsL.reverse ++ .ref a :: rest)) rfl (hsz.trans hml.symm) (Steps.refl _) (argsL := argsL) (rest := rest) (lenOf hdd hlen) rfl (by show 2 * 0 + _ ≤ _; omega) (hb hby hd) (fun _ _ => ⟨rfl, eT, Nat.le_trans (Nat.add_le_add_right h1 _) hkR, Nat.le_trans (Nat.add_le_add_right h2 _) hnR⟩)
  dsimp only [Pt.U, Pt.locs, Pt.cells, Pt.slots] at X' hS' hg' q1 q2 q3 st' hQ hC'
  subst q1 q2 q3
  obtain ⟨hFr, hQ'⟩ := hQ
  obtain ⟨w, rfl, hQ'⟩ := hQ'
  rw [eT] at hg'
  obtain ⟨X2, hS2, hZ2, hown2⟩ := rebS hS hk0 X' hS' hg' hZ hown
  exact go_tr st' (r w T' _ T'.vm ⟨hx, hZ2, hown2, hby, hml, hret, hlk, hnm⟩ ⟨_, _, _, X2, Fr.app hF hFr, rfl, Nat.add_le_add_right h1 _, Nat.add_le_add_right h2 _⟩ ⟨⟨_, hS2, Nat.le_refl _⟩, hC.trans hC'⟩ hC' hQ')
theorem gW_callV0 (C : Cx p (s.setVm vm) m meth c Z own bytes ml rt mn) (X : St p l e R (s.setVm vm) m args below meth c n0 T h k n) (Y : Wx Z EL s vm h) (hEL : EW Z a0 EL) {rm : Room} {as' : Array Value} {bts : ByteArray} {mxl : Nat} {rty : Option FieldType} {argsL : List Value} {ps : List FieldType} {rt' : Option FieldType} {k' n' W : Nat} {Q : Heap → Prop} {y z : MethodName} {i : Nat} {a : Addr} {K : String} (hy : y.cls ≠ "java/lang/invoke/MethodHandle" ∧ y.cls ≠ "java/lang/invoke/VarHandle") (w1 : (Cond.methodLink own i y).before a0 Z = true) (w2 : (Cond.declares y).before a0 Z = true) (w3 : (Cond.selects K y z).before a0 Z = true) (w4 : (Cond.instanceMethod z).before a0 Z = true) (hnf : ∀ s' : State, Z.Warmed39 s'.vm → NotFace s' y) (E : Exa Z h a K) (w8 : (Cond.code z bts mxl rty).before a0 Z = true) (w9 : (Cond.initialized z.cls).before a0 Z = true) (hM : MetW0 l Z EL z bts mxl rty rm as' h n0 Q) (hf : rm.frames + 1 ≤ R.frames) (hl : W + (mxl + 11) + rm.locals ≤ R.locals) (hk : k + rm.cells = k') (hn : n + rm.slots = n') (hkR : k' ≤ R.cells) (hnR : n' ≤ R.slots) (hsz : L.size = ml) (hdd : parseMethodDescriptor y.desc = some ⟨ps, rt'⟩) (hlen : argsL.length = ps.length) (hst : st = argsL.reverse ++ .ref a :: rest) (has : (.ref a :: argsL).toArray = as') (hW : (rest.map fun v => v.category).sum = W) (hd : decode bytes pc = .ok (.invokevirtual i, 3)) (hq : pc + 3 = q)
    (r : ∀ T' h' vm', Cx p (s.setVm vm') m meth c Z own bytes ml rt mn → St p l e R (s.setVm vm') m args below meth c n0 T' h' k' n' → Wx Z EL s vm' h' → CHr Z EL vm h vm' h' → Q h' → Goes p e below G (T'.setTop (mkF m q L rest))) : Goes p e below G (T.setTop (mkF m pc L st)) := by
  obtain ⟨hx, hZ, hown, hby, hml, hret, hlk, hnm⟩ := C
  obtain ⟨_, cells, slots, X, hF, eT, h1, h2⟩ := X
  obtain ⟨⟨k0, hS, hk0⟩, hC⟩ := Y
  subst hq hk hn has hst hW
  have bk := backOfSH (Q := fun v h L => Fr n0 L ∧ (v = none ∧ Q h)) (R := R) (p := p) (e := e) (below := below) (s := s) (args := args) (len := 3) (W := (rest.map fun v => v.category).sum) (hM []) hZ w8 w9 hf hl hEL hC.1
  obtain ⟨cB, kB, qa, qb, qc⟩ := isOf hZ eT E
  obtain ⟨_, _, ⟨T', Lo, kk, nn⟩, -, X', hS', hg', ⟨Lc, hQ, q1, q2, q3, hC'⟩, st'⟩ := X.virtualBackS hx hown (mvT hZ w1) (mvT hZ w2) (hnf _ hZ) (mvT hZ w3) (mvT hZ w4) hy bk qa qc (g := mkF m pc L (argsL.reverse ++ .ref a :: rest)) rfl (hsz.trans hml.symm) (Steps.refl _) (argsL := argsL) (rest := rest) (lenOf hdd hlen) rfl (by show 2 * 0 + _ ≤ _; omega) (hb hby hd) (fun _ _ => ⟨rfl, eT, Nat.le_trans (Nat.add_le_add_right h1 _) hkR, Nat.le_trans (Nat.add_le_add_right h2 _) hnR⟩)
  dsimp only [Pt.U, Pt.locs, Pt.cells, Pt.slots] at X' hS' hg' q1 q2 q3 st' hQ hC'
  subst q1 q2 q3
  obtain ⟨hFr, hQ'⟩ := hQ
  obtain ⟨rfl, hQ'⟩ := hQ'
  rw [eT] at hg'
  obtain ⟨X2, hS2, hZ2, hown2⟩ := rebS hS hk0 X' hS' hg' hZ hown
  exact go_tr st' (r T' _ T'.vm ⟨hx, hZ2, hown2, hby, hml, hret, hlk, hnm⟩ ⟨_, _, _, X2, Fr.app hF hFr, rfl, Nat.add_le_add_right h1 _, Nat.add_le_add_right h2 _⟩ ⟨⟨_, hS2, Nat.le_refl _⟩, hC.trans hC'⟩ hC' hQ')
theorem gW_callP1 (C : Cx p (s.setVm vm) m meth c Z own bytes ml rt mn) (X : St p l e R (s.setVm vm) m args below meth c n0 T h k n) (Y : Wx Z EL s vm h) (hEL : EW Z a0 EL) {rm : Room} {as' : Array Value} {bts : ByteArray} {mxl : Nat} {rty : Option FieldType} {argsL : List Value} {ps : List FieldType} {rt' : Option FieldType} {k' n' W : Nat} {Q : Value → Heap → Prop} {y : MethodName} {i : Nat} {a : Addr} {K : String} (hy : y.cls ≠ "java/lang/invoke/MethodHandle" ∧ y.cls ≠ "java/lang/invoke/VarHandle") (w1 : (Cond.methodLink own i y).before a0 Z = true) (w3 : (Cond.selects y.cls y y).before a0 Z = true) (w4 : (Cond.instanceMethod y).before a0 Z = true) (w5 : (Cond.privateMethod y).before a0 Z = true) (E : Exa Z h a K) (w8 : (Cond.code y bts mxl rty).before a0 Z = true) (w9 : (Cond.initialized y.cls).before a0 Z = true) (hM : MetW1 l Z EL y bts mxl rty rm as' h n0 Q) (hf : rm.frames + 1 ≤ R.frames) (hl : W + (mxl + 11) + rm.locals ≤ R.locals) (hk : k + rm.cells = k') (hn : n + rm.slots = n') (hkR : k' ≤ R.cells) (hnR : n' ≤ R.slots) (hsz : L.size = ml) (hdd : parseMethodDescriptor y.desc = some ⟨ps, rt'⟩) (hlen : argsL.length = ps.length) (hst : st = argsL.reverse ++ .ref a :: rest) (has : (.ref a :: argsL).toArray = as') (hW : (rest.map fun v => v.category).sum = W) (hd : decode bytes pc = .ok (.invokevirtual i, 3)) (hq : pc + 3 = q)
    (r : ∀ w T' h' vm', Cx p (s.setVm vm') m meth c Z own bytes ml rt mn → St p l e R (s.setVm vm') m args below meth c n0 T' h' k' n' → Wx Z EL s vm' h' → CHr Z EL vm h vm' h' → Q w h' → Goes p e below G (T'.setTop (mkF m q L (w :: rest)))) : Goes p e below G (T.setTop (mkF m pc L st)) := by
  obtain ⟨hx, hZ, hown, hby, hml, hret, hlk, hnm⟩ := C
  obtain ⟨_, cells, slots, X, hF, eT, h1, h2⟩ := X
  obtain ⟨⟨k0, hS, hk0⟩, hC⟩ := Y
  subst hq hk hn has hst hW
  have bk := backOfSH (Q := fun v h L => Fr n0 L ∧ (∃ w, v = some w ∧ Q w h)) (R := R) (p := p) (e := e) (below := below) (s := s) (args := args) (len := 3) (W := (rest.map fun v => v.category).sum) (hM []) hZ w8 w9 hf hl hEL hC.1
  obtain ⟨cq, qa, qb⟩ := E.cell
  obtain ⟨_, _, ⟨T', Lo, kk, nn⟩, -, X', hS', hg', ⟨Lc, hQ, q1, q2, q3, hC'⟩, st'⟩ := X.privateBackS hx hown (mvT hZ w1) (mvT hZ w4) (mvT hZ w3) (Cond.privateMethod_at (mvP hZ w5 (args := #[]))) (mvT hZ w8) hy bk (g := mkF m pc L (argsL.reverse ++ .ref a :: rest)) rfl (hsz.trans hml.symm) (Steps.refl _) (a := a) (by rw [eT]; exact qa) qb (argsL := argsL) (rest := rest) (lenOf hdd hlen) rfl (by show 2 * 0 + _ ≤ _; omega) (hb hby hd) (fun _ _ => ⟨rfl, eT, Nat.le_trans (Nat.add_le_add_right h1 _) hkR, Nat.le_trans (Nat.add_le_add_right h2 _) hnR⟩)
  dsimp only [Pt.U, Pt.locs, Pt.cells, Pt.slots] at X' hS' hg' q1 q2 q3 st' hQ hC'
  subst q1 q2 q3
  obtain ⟨hFr, hQ'⟩ := hQ
  obtain ⟨w, rfl, hQ'⟩ := hQ'
  rw [eT] at hg'
  obtain ⟨X2, hS2, hZ2, hown2⟩ := rebS hS hk0 X' hS' hg' hZ hown
  exact go_tr st' (r w T' _ T'.vm ⟨hx, hZ2, hown2, hby, hml, hret, hlk, hnm⟩ ⟨_, _, _, X2, Fr.app hF hFr, rfl, Nat.add_le_add_right h1 _, Nat.add_le_add_right h2 _⟩ ⟨⟨_, hS2, Nat.le_refl _⟩, hC.trans hC'⟩ hC' hQ')
theorem gW_callP0 (C : Cx p (s.setVm vm) m meth c Z own bytes ml rt mn) (X : St p l e R (s.setVm vm) m args below meth c n0 T h k n) (Y : Wx Z EL s vm h) (hEL : EW Z a0 EL) {rm : Room} {as' : Array Value} {bts : ByteArray} {mxl : Nat} {rty : Option FieldType} {argsL : List Value} {ps : List FieldType} {rt' : Option FieldType} {k' n' W : Nat} {Q : Heap → Prop} {y : MethodName} {i : Nat} {a : Addr} {K : String} (hy : y.cls ≠ "java/lang/invoke/MethodHandle" ∧ y.cls ≠ "java/lang/invoke/VarHandle") (w1 : (Cond.methodLink own i y).before a0 Z = true) (w3 : (Cond.selects y.cls y y).before a0 Z = true) (w4 : (Cond.instanceMethod y).before a0 Z = true) (w5 : (Cond.privateMethod y).before a0 Z = true) (E : Exa Z h a K) (w8 : (Cond.code y bts mxl rty).before a0 Z = true) (w9 : (Cond.initialized y.cls).before a0 Z = true) (hM : MetW0 l Z EL y bts mxl rty rm as' h n0 Q) (hf : rm.frames + 1 ≤ R.frames) (hl : W + (mxl + 11) + rm.locals ≤ R.locals) (hk : k + rm.cells = k') (hn : n + rm.slots = n') (hkR : k' ≤ R.cells) (hnR : n' ≤ R.slots) (hsz : L.size = ml) (hdd : parseMethodDescriptor y.desc = some ⟨ps, rt'⟩) (hlen : argsL.length = ps.length) (hst : st = argsL.reverse ++ .ref a :: rest) (has : (.ref a :: argsL).toArray = as') (hW : (rest.map fun v => v.category).sum = W) (hd : decode bytes pc = .ok (.invokevirtual i, 3)) (hq : pc + 3 = q)
    (r : ∀ T' h' vm', Cx p (s.setVm vm') m meth c Z own bytes ml rt mn → St p l e R (s.setVm vm') m args below meth c n0 T' h' k' n' → Wx Z EL s vm' h' → CHr Z EL vm h vm' h' → Q h' → Goes p e below G (T'.setTop (mkF m q L rest))) : Goes p e below G (T.setTop (mkF m pc L st)) := by
  obtain ⟨hx, hZ, hown, hby, hml, hret, hlk, hnm⟩ := C
  obtain ⟨_, cells, slots, X, hF, eT, h1, h2⟩ := X
  obtain ⟨⟨k0, hS, hk0⟩, hC⟩ := Y
  subst hq hk hn has hst hW
  have bk := backOfSH (Q := fun v h L => Fr n0 L ∧ (v = none ∧ Q h)) (R := R) (p := p) (e := e) (below := below) (s := s) (args := args) (len := 3) (W := (rest.map fun v => v.category).sum) (hM []) hZ w8 w9 hf hl hEL hC.1
  obtain ⟨cq, qa, qb⟩ := E.cell
  obtain ⟨_, _, ⟨T', Lo, kk, nn⟩, -, X', hS', hg', ⟨Lc, hQ, q1, q2, q3, hC'⟩, st'⟩ := X.privateBackS hx hown (mvT hZ w1) (mvT hZ w4) (mvT hZ w3) (Cond.privateMethod_at (mvP hZ w5 (args := #[]))) (mvT hZ w8) hy bk (g := mkF m pc L (argsL.reverse ++ .ref a :: rest)) rfl (hsz.trans hml.symm) (Steps.refl _) (a := a) (by rw [eT]; exact qa) qb (argsL := argsL) (rest := rest) (lenOf hdd hlen) rfl (by show 2 * 0 + _ ≤ _; omega) (hb hby hd) (fun _ _ => ⟨rfl, eT, Nat.le_trans (Nat.add_le_add_right h1 _) hkR, Nat.le_trans (Nat.add_le_add_right h2 _) hnR⟩)
  dsimp only [Pt.U, Pt.locs, Pt.cells, Pt.slots] at X' hS' hg' q1 q2 q3 st' hQ hC'
  subst q1 q2 q3
  obtain ⟨hFr, hQ'⟩ := hQ
  obtain ⟨rfl, hQ'⟩ := hQ'
  rw [eT] at hg'
  obtain ⟨X2, hS2, hZ2, hown2⟩ := rebS hS hk0 X' hS' hg' hZ hown
  exact go_tr st' (r T' _ T'.vm ⟨hx, hZ2, hown2, hby, hml, hret, hlk, hnm⟩ ⟨_, _, _, X2, Fr.app hF hFr, rfl, Nat.add_le_add_right h1 _, Nat.add_le_add_right h2 _⟩ ⟨⟨_, hS2, Nat.le_refl _⟩, hC.trans hC'⟩ hC' hQ')
end OwnWide
section OwnRing
/-- a place that holds something -/
def nb : Value → Bool
  | .null => false
  | _ => true
abbrev o32 (n : Nat) : Int32 := Int32.ofNat n
/-- which places of a ring of n places hold something: z places from hd on -/
def pat (n hd z : Nat) : List Bool := (List.range n).map fun j => decide ((j + n - hd) % n < z)
def adv (x n : Int32) : Int32 := if x + 1 < n then x + 1 else 0
def imax (x y : Int32) : Int32 := if x < y then y else x
def imin (x y : Int32) : Int32 := if y < x then y else x
def Bd (n hd z c : Nat) : Prop := n < 5 ∧ hd < n ∧ z < n + 1 ∧ 1 ≤ c ∧ c < n + 1
def IntB (Z : State) (v : Value) : Prop := v = .null ∨ ∃ b, v = .ref b ∧ Exa Z Z.heap b "java/lang/Integer"
def RBf (Z : State) (h : Heap) (o A : Addr) (hI tI cI rI mI : Int32) : Prop := Exa Z h o "com/example/rondel/rondel/RingBuffer" ∧ Fld Z h o "com/example/rondel/rondel/RingBuffer" "head" "I" (.int hI) ∧ Fld Z h o "com/example/rondel/rondel/RingBuffer" "tail" "I" (.int tI) ∧ Fld Z h o "com/example/rondel/rondel/RingBuffer" "elements" "[Ljava/lang/Object;" (.ref A) ∧ Fld Z h o "com/example/rondel/rondel/RingBuffer" "capacity" "I" (.int cI) ∧ Fld Z h o "com/example/rondel/rondel/RingBuffer" "rejects" "Z" (.int rI) ∧ Fld Z h o "com/example/rondel/rondel/RingBuffer" "modCount" "I" (.int mI)
def RN (Z : State) (h : Heap) (o A : Addr) (k : ClassId) (n hd z c : Nat) (rI : Int32) : Prop := ∃ (mI : Int32) (vs : List Value), RBf Z h o A (o32 hd) (o32 ((hd + z) % n)) (o32 c) rI mI ∧ Arv Z h A k (.object "java/lang/Object") (o32 n) vs .null ∧ vs.map nb = pat n hd z ∧ ∀ v ∈ vs, IntB Z v
variable {Z : State} {h : Heap} {vs : List Value} {n hd z c : Nat}
theorem IntB.ref {v : Value} (q : IntB Z v) : v.isRef = true := by rcases q with rfl | ⟨b, rfl, -⟩ <;> rfl
theorem IntB.getD (H : ∀ v ∈ vs, IntB Z v) (i : Nat) : IntB Z (vs.getD i .null) := by
  rw [List.getD_eq_getElem?_getD]
  cases q : vs[i]? with
  | none => exact Or.inl rfl
  | some w => exact H w (List.mem_of_getElem? q)
theorem IntB.set (H : ∀ v ∈ vs, IntB Z v) {i : Nat} {v : Value} (hv : IntB Z v) : ∀ w ∈ vs.set i v, IntB Z w := fun w hw => (List.mem_or_eq_of_mem_set hw).elim (H w) fun e => e ▸ hv
theorem nb_getD (vs : List Value) (i : Nat) : nb (vs.getD i .null) = (vs.map nb).getD i false := by
  simp only [List.getD_eq_getElem?_getD, List.getElem?_map]; cases vs[i]? <;> rfl
theorem own_catR {v : Value} (q : v.isRef = true) : v.category = 1 := by cases v <;> first | rfl | cases q
theorem own_len (P : vs.map nb = pat n hd z) : vs.length = n := by simpa [pat] using congrArg List.length P
theorem own_tl (B : Bd n hd z c) : (hd + z) % n < n := Nat.mod_lt _ (Nat.lt_of_le_of_lt (Nat.zero_le _) B.2.1)
theorem r_bd : ∀ n, n < 5 → ∀ j, j < n → (¬ o32 j < 0 ∧ o32 j < o32 n) ∧ (o32 j).toNatClampNeg = j := by decide +kernel
theorem own_ix {j : Nat} (hn : n < 5) (hj : j < n) (P : vs.map nb = pat n hd z) : (o32 j).toNatClampNeg < vs.length := by rw [(r_bd n hn j hj).2, own_len P]; exact hj
theorem own_cI {a : Addr} {C f d : String} {x y : Int32} (e : x = y) (F : Fld Z h a C f d (.int x)) : Fld Z h a C f d (.int y) := e ▸ F
theorem own_stoV {a y : Addr} {k : ClassId} {ty : FieldType} {q : Int32} {d : Value} {C : String} (V : Arv Z h a k ty q vs d) (O : Ovr Z k C) (I : Ins Z h y C true) : Sto Z h a (.ref y) := by obtain ⟨c, A, e, -⟩ := V; exact Sto.ofV A e O I
theorem r_sz1 : ∀ n, n < 5 → ∀ hd, hd < n → ∀ z, z < n + 1 → o32 ((hd + z) % n) - o32 hd < 0 → o32 ((hd + z) % n) - o32 hd + o32 n = o32 z := by decide +kernel
theorem r_sz2 : ∀ n, n < 5 → ∀ hd, hd < n → ∀ z, z < n + 1 → ¬ o32 ((hd + z) % n) - o32 hd < 0 → ¬ o32 ((hd + z) % n) - o32 hd = 0 → o32 ((hd + z) % n) - o32 hd = o32 z := by decide +kernel
theorem r_sz3 : ∀ n, n < 5 → ∀ hd, hd < n → ∀ z, z < n + 1 → o32 ((hd + z) % n) - o32 hd = 0 → (pat n hd z).getD hd false = false → o32 ((hd + z) % n) - o32 hd = o32 z := by decide +kernel
theorem r_sz4 : ∀ n, n < 5 → ∀ hd, hd < n → ∀ z, z < n + 1 → o32 ((hd + z) % n) - o32 hd = 0 → (pat n hd z).getD hd false = true → o32 n = o32 z := by decide +kernel
theorem r_ap : ∀ n, n < 5 → ∀ hd, hd < n → ∀ z, z < n → adv (o32 ((hd + z) % n)) (o32 n) = o32 ((hd + (z + 1)) % n) ∧ (pat n hd z).set ((hd + z) % n) true = pat n hd (z + 1) := by decide +kernel
theorem r_dr_0 : ∀ n, n < 5 → ∀ hd, hd < n → ∀ z, z < n + 1 → 1 ≤ z → adv (o32 hd) (o32 n) = o32 ((hd + 1) % n) := by decide +kernel
theorem r_dr_1 : ∀ n, n < 5 → ∀ hd, hd < n → ∀ z, z < n + 1 → 1 ≤ z → (pat n hd z).set hd false = pat n ((hd + 1) % n) (z - 1) := by decide +kernel
theorem r_dr_2 : ∀ n, n < 5 → ∀ hd, hd < n → ∀ z, z < n + 1 → 1 ≤ z → (hd + 1) % n < n := by decide +kernel
theorem r_dr_3 : ∀ n, n < 5 → ∀ hd, hd < n → ∀ z, z < n + 1 → 1 ≤ z → (hd + z) % n = ((hd + 1) % n + (z - 1)) % n := by decide +kernel
theorem r_dr : ∀ n, n < 5 → ∀ hd, hd < n → ∀ z, z < n + 1 → 1 ≤ z → adv (o32 hd) (o32 n) = o32 ((hd + 1) % n) ∧ (pat n hd z).set hd false = pat n ((hd + 1) % n) (z - 1) ∧ (hd + 1) % n < n ∧ (hd + z) % n = ((hd + 1) % n + (z - 1)) % n := fun n a hd b z d e => ⟨r_dr_0 n a hd b z d e, r_dr_1 n a hd b z d e, r_dr_2 n a hd b z d e, r_dr_3 n a hd b z d e⟩
theorem r_fe_0 : ∀ n, n < 5 → ∀ hd, hd < n → ∀ z, z < n + 1 → z = n → adv (o32 ((hd + z) % n)) (o32 n) = o32 ((hd + 1) % n) := by decide +kernel
theorem r_fe_1 : ∀ n, n < 5 → ∀ hd, hd < n → ∀ z, z < n + 1 → z = n → (pat n hd z).set ((hd + z) % n) true = pat n ((hd + 1) % n) z := by decide +kernel
theorem r_fe_2 : ∀ n, n < 5 → ∀ hd, hd < n → ∀ z, z < n + 1 → z = n → (hd + 1) % n < n := by decide +kernel
theorem r_fe_3 : ∀ n, n < 5 → ∀ hd, hd < n → ∀ z, z < n + 1 → z = n → (hd + 1) % n = ((hd + 1) % n + z) % n := by decide +kernel
theorem r_fe : ∀ n, n < 5 → ∀ hd, hd < n → ∀ z, z < n + 1 → z = n → adv (o32 ((hd + z) % n)) (o32 n) = o32 ((hd + 1) % n) ∧ (pat n hd z).set ((hd + z) % n) true = pat n ((hd + 1) % n) z ∧ (hd + 1) % n < n ∧ (hd + 1) % n = ((hd + 1) % n + z) % n := fun n a hd b z d e => ⟨r_fe_0 n a hd b z d e, r_fe_1 n a hd b z d e, r_fe_2 n a hd b z d e, r_fe_3 n a hd b z d e⟩
theorem r_lt1 : ∀ n, n < 5 → ∀ hd, hd < n → ∀ z, z < n + 1 → ¬ o32 ((hd + z) % n) = o32 hd → z < n := by decide +kernel
theorem r_lt2 : ∀ n, n < 5 → ∀ hd, hd < n → ∀ z, z < n + 1 → o32 ((hd + z) % n) = o32 hd → (pat n hd z).getD ((hd + z) % n) false = false → z < n := by decide +kernel
theorem r_eq : ∀ n, n < 5 → ∀ hd, hd < n → ∀ z, z < n + 1 → o32 ((hd + z) % n) = o32 hd → (pat n hd z).getD ((hd + z) % n) false = true → z = n := by decide +kernel
theorem r_cmp : ∀ x, x < 5 → ∀ y, y < 5 → (o32 x < o32 y → x < y) ∧ (¬ o32 x < o32 y → ¬ x < y) ∧ (o32 x = o32 y → x = y) ∧ (¬ o32 x = o32 y → ¬ x = y) := by decide +kernel
theorem r_po : ∀ n, n < 5 → ∀ hd, hd < n → ∀ z, z < n + 1 → (pat n hd z).getD hd false = decide (1 ≤ z) := by decide +kernel
theorem own_at {j : Nat} {w : Value} (hn : n < 5) (hj : j < n) (P : vs.map nb = pat n hd z) (hw : vs.getD (o32 j).toNatClampNeg .null = w) : (pat n hd z).getD j false = nb w := by
  rw [← hw, nb_getD, P, (r_bd n hn j hj).2]
theorem own_setP {j : Nat} {v : Value} {Q : List Bool} (hn : n < 5) (hj : j < n) (P : vs.map nb = pat n hd z) (e : (pat n hd z).set j (nb v) = Q) : (vs.set (o32 j).toNatClampNeg v).map nb = Q := by
  rw [List.map_set, P, (r_bd n hn j hj).2]; exact e
/-- the places of a new array behind the two copies -/
def cpy (n hd z m : Nat) (vs : List Value) : List Value :=
  let k := min z (n - hd)
  let us := (List.replicate m Value.null).take 0 ++ ((List.range k).map fun i => vs.getD (hd + i) .null) ++ (List.replicate m Value.null).drop (0 + k)
  us.take k ++ ((List.range (z - k)).map fun i => vs.getD (0 + i) .null) ++ us.drop (k + (z - k))
def cpyB (n hd z m : Nat) (bs : List Bool) : List Bool :=
  let k := min z (n - hd)
  let us := (List.replicate m false).take 0 ++ ((List.range k).map fun i => bs.getD (hd + i) false) ++ (List.replicate m false).drop (0 + k)
  us.take k ++ ((List.range (z - k)).map fun i => bs.getD (0 + i) false) ++ us.drop (k + (z - k))
theorem cpy_nb (n hd z m : Nat) (vs : List Value) : (cpy n hd z m vs).map nb = cpyB n hd z m (vs.map nb) := by
  simp only [cpy, cpyB, List.map_append, List.map_take, List.map_drop, List.map_map, List.map_replicate]
  have e : ∀ j, (nb ∘ fun i => vs.getD (j + i) .null) = fun i => (vs.map nb).getD (j + i) false := fun j => funext fun i => nb_getD vs (j + i)
  rw [e, e]; rfl
theorem cpy_int (H : ∀ v ∈ vs, IntB Z v) (n hd z m : Nat) : ∀ v ∈ cpy n hd z m vs, IntB Z v := by
  have h1 : ∀ v ∈ List.replicate m Value.null, IntB Z v := fun v hv => Or.inl (List.eq_of_mem_replicate hv)
  have h2 : ∀ k j, ∀ v ∈ (List.range k).map fun i => vs.getD (j + i) .null, IntB Z v := fun k j v hv => by
    obtain ⟨i, -, rfl⟩ := List.mem_map.mp hv
    exact IntB.getD H _
  have h3 : ∀ k, ∀ v ∈ (List.replicate m Value.null).take 0 ++ ((List.range k).map fun i => vs.getD (hd + i) .null) ++ (List.replicate m Value.null).drop (0 + k), IntB Z v := fun k v hv => by
    rcases List.mem_append.mp hv with hv | hv
    · rcases List.mem_append.mp hv with hv | hv
      · exact h1 v (List.mem_of_mem_take hv)
      · exact h2 _ _ v hv
    · exact h1 v (List.mem_of_mem_drop hv)
  intro v hv
  rcases List.mem_append.mp hv with hv | hv
  · rcases List.mem_append.mp hv with hv | hv
    · exact h3 _ v (List.mem_of_mem_take hv)
    · exact h2 _ _ v hv
  · exact h3 _ v (List.mem_of_mem_drop hv)
def cpOk (n hd z : Nat) : Bool := (List.range 5).all fun m => !(decide (z < m + 1) && decide (1 ≤ m)) || (cpyB n hd z m (pat n hd z) == pat m 0 z)
theorem r_cp0 : ∀ n, n < 5 → ∀ hd, hd < n → ∀ z, z < n + 1 → cpOk n hd z = true := by decide +kernel
theorem r_cp : ∀ n, n < 5 → ∀ hd, hd < n → ∀ z, z < n + 1 → ∀ m, m < 5 → z < m + 1 → 1 ≤ m → cpyB n hd z m (pat n hd z) = pat m 0 z := fun n a hd b z d m e f g => by
  have q := List.all_eq_true.mp (r_cp0 n a hd b z d) m (List.mem_range.mpr e)
  simpa [f, g] using q
theorem r_min_0 : ∀ n, n < 5 → ∀ hd, hd < n → ∀ z, z < n + 1 → imin (o32 z) (o32 n - o32 hd) = o32 (min z (n - hd)) := by decide +kernel
theorem r_min_1 : ∀ n, n < 5 → ∀ hd, hd < n → ∀ z, z < n + 1 → o32 z - o32 (min z (n - hd)) = o32 (z - min z (n - hd)) := by decide +kernel
theorem r_min_2 : ∀ n, n < 5 → ∀ hd, hd < n → ∀ z, z < n + 1 → ¬ o32 (min z (n - hd)) < 0 := by decide +kernel
theorem r_min_3 : ∀ n, n < 5 → ∀ hd, hd < n → ∀ z, z < n + 1 → ¬ o32 (z - min z (n - hd)) < 0 := by decide +kernel
theorem r_min_4 : ∀ n, n < 5 → ∀ hd, hd < n → ∀ z, z < n + 1 → (o32 (min z (n - hd))).toNatClampNeg = min z (n - hd) := by decide +kernel
theorem r_min_5 : ∀ n, n < 5 → ∀ hd, hd < n → ∀ z, z < n + 1 → (o32 (z - min z (n - hd))).toNatClampNeg = z - min z (n - hd) := by decide +kernel
theorem r_min_6 : ∀ n, n < 5 → ∀ hd, hd < n → ∀ z, z < n + 1 → hd + min z (n - hd) ≤ n := by decide +kernel
theorem r_min_7 : ∀ n, n < 5 → ∀ hd, hd < n → ∀ z, z < n + 1 → z - min z (n - hd) ≤ n := by decide +kernel
theorem r_min : ∀ n, n < 5 → ∀ hd, hd < n → ∀ z, z < n + 1 → imin (o32 z) (o32 n - o32 hd) = o32 (min z (n - hd)) ∧ o32 z - o32 (min z (n - hd)) = o32 (z - min z (n - hd)) ∧ ¬ o32 (min z (n - hd)) < 0 ∧ ¬ o32 (z - min z (n - hd)) < 0 ∧ (o32 (min z (n - hd))).toNatClampNeg = min z (n - hd) ∧ (o32 (z - min z (n - hd))).toNatClampNeg = z - min z (n - hd) ∧ hd + min z (n - hd) ≤ n ∧ z - min z (n - hd) ≤ n := fun n a hd b z d => ⟨r_min_0 n a hd b z d, r_min_1 n a hd b z d, r_min_2 n a hd b z d, r_min_3 n a hd b z d, r_min_4 n a hd b z d, r_min_5 n a hd b z d, r_min_6 n a hd b z d, r_min_7 n a hd b z d⟩
theorem r_nn : ∀ m, m < 5 → ¬ o32 m < 0 ∧ (o32 m).toNatClampNeg = m := by decide +kernel
theorem r_max : ∀ c, c < 5 → ∀ z, z < 5 → 1 ≤ c → imax (o32 c) (o32 z) = o32 (max c z) ∧ ¬ o32 c < 1 := by decide +kernel
theorem r_tl0 : ∀ m, m < 5 → ∀ z, z < m + 1 → 1 ≤ m → (o32 z = o32 m → (0 : Int32) = o32 ((0 + z) % m)) ∧ (¬ o32 z = o32 m → o32 z = o32 ((0 + z) % m)) := by decide +kernel
theorem r_cap {x : Int32} (h1 : 0 ≤ x.toInt) (h2 : x.toInt ≤ 3) : ∃ c, c < 5 ∧ 1 ≤ c ∧ 1 + x = o32 c := by
  have : x.toInt = 0 ∨ x.toInt = 1 ∨ x.toInt = 2 ∨ x.toInt = 3 := by omega
  rcases this with q | q | q | q
  · exact ⟨1, by decide, by decide, by rw [show x = 0 from Int32.toInt_inj.mp q]; decide⟩
  · exact ⟨2, by decide, by decide, by rw [show x = 1 from Int32.toInt_inj.mp q]; decide⟩
  · exact ⟨3, by decide, by decide, by rw [show x = 2 from Int32.toInt_inj.mp q]; decide⟩
  · exact ⟨4, by decide, by decide, by rw [show x = 3 from Int32.toInt_inj.mp q]; decide⟩
theorem r_inc : ∀ z, z < 5 → o32 z + 1 = o32 (z + 1) ∧ (0 < o32 z → o32 z - 1 = o32 (z - 1)) ∧ (¬ 0 < o32 z → z - 1 = z) := by decide +kernel
theorem r_ini : ∀ c, c < 5 → 1 ≤ c → (List.replicate c false) = pat c 0 0 ∧ (0 : Int32) = o32 0 ∧ (0 : Int32) = o32 ((0 + 0) % c) ∧ Bd c 0 0 c := by
  intro c h1 h2
  exact ⟨(by decide +kernel : ∀ c, c < 5 → List.replicate c false = pat c 0 0) c h1, rfl, by rw [Nat.zero_mod]; rfl, h1, h2, Nat.succ_pos _, h2, Nat.lt_succ_self _⟩
end OwnRing
section OwnRing2
variable {p : Program} {l : Launch} {e : Env} {R : Room} {s : State} {m : MethodId} {args : Array Value} {below : List Frame} {meth : Method} {c : Code} {T : State} {Z : State} {own mn : String} {bytes : ByteArray} {ml n0 k n : Nat} {rt : Option FieldType} {h : Heap} {G : Outcome → State → Prop} {pc q : Nat} {L : Array Slot} {st rest : List Value} {a0 : Array Value}
theorem g_cpA (C : Cx p s m meth c Z own bytes ml rt mn) (X : St p l e R s m args below meth c n0 T h k n) {i W : Nat} (w1 : (Cond.methodLink own i Jvm.Stand.acN).before a0 Z = true) (w2 : (Cond.native Jvm.Stand.acN).before a0 Z = true) (w3 : (Cond.static Jvm.Stand.acN).before a0 Z = true) (w4 : (Cond.initialized "java/lang/System").before a0 Z = true)
    {a b : Addr} {ka kb : ClassId} {z z' sp dp nn : Int32} {vs vd vd' : List Value} (A : Arv Z h a ka (.object "java/lang/Object") z vs .null) (B : Arv Z h b kb (.object "java/lang/Object") z' vd .null) (Q : StoL Z h b ((List.range nn.toNatClampNeg).map fun i => vs.getD (sp.toNatClampNeg + i) .null))
    (h1 : ¬ sp < 0) (h2 : ¬ dp < 0) (h3 : ¬ nn < 0) (h4 : sp.toNatClampNeg + nn.toNatClampNeg ≤ z.toNatClampNeg) (h5 : dp.toNatClampNeg + nn.toNatClampNeg ≤ z'.toNatClampNeg) (hl : dp.toNatClampNeg + nn.toNatClampNeg ≤ vd.length)
    (hv : vd.take dp.toNatClampNeg ++ ((List.range nn.toNatClampNeg).map fun i => vs.getD (sp.toNatClampNeg + i) .null) ++ vd.drop (dp.toNatClampNeg + nn.toNatClampNeg) = vd') (ge : n0 ≤ b) (hsz : L.size = ml) (hd : decode bytes pc = .ok (.invokestatic i, 3)) (hq : pc + 3 = q) (hf : 1 ≤ R.frames) (hW : (rest.map fun v => v.category).sum = W) (hlo : W + 18 ≤ R.locals)
    (r : ∀ T' h', St p l e R s m args below meth c n0 T' h' k n → Keep h h' [b] → Arv Z h' b kb (.object "java/lang/Object") z' vd' .null → Goes p e below G (T'.setTop (mkF m q L rest))) : Goes p e below G (T.setTop (mkF m pc L (.int nn :: .int dp :: .ref b :: .int sp :: .ref a :: rest))) := by
  obtain ⟨hx, hZ, hown, hby, hml, -⟩ := C
  obtain ⟨_, _, _, X, hF, eT, u1, u2⟩ := X
  subst hq hv hW
  obtain ⟨T', h', L', X', e', N', K', V', st'⟩ := cpA X hx hZ hown w1 w2 w3 w4 eT A B (Or.inr ⟨rfl, rfl, Q⟩) h1 h2 h3 h4 h5 rfl hl hF ge (g := mkF m pc L (.int nn :: .int dp :: .ref b :: .int sp :: .ref a :: rest)) rfl (hsz.trans hml.symm) rfl (hb hby hd) hf (W := (rest.map fun v => v.category).sum) (by show 2 * 0 + _ ≤ _; omega) hlo
  exact go_st st' (r T' h' ⟨_, _, _, X', N', e', u1, u2⟩ K' V')
theorem g_aaloadA (C : Cx p s m meth c Z own bytes ml rt mn) (X : St p l e R s m args below meth c n0 T h k n) {a : Addr} {cl : Cell} {j : Int32} {w : Value} {ty : FieldType} (hty : ty.isReference = true) (A : Arr Z h a cl ty) (hj : ¬ (j < 0 ∨ cl.slots.size ≤ j.toNatClampNeg)) (hv : cl.slots[j.toNatClampNeg]? = some w) (hd : decode bytes pc = .ok (.aaload, 1)) (hq : pc + 1 = q) (r : Goes p e below G (T.setTop (mkF m q L (w :: st)))) : Goes p e below G (T.setTop (mkF m pc L (.int j :: .ref a :: st))) := by
  obtain ⟨hx, hZ, hown, hby, -⟩ := C
  obtain ⟨_, _, _, X, hF, eT, h1, h2⟩ := X
  subst hq
  exact go_st (fun t k => X.aaload hx (j := j) (v := w) (by rw [eT]; exact A.1) (State.isArrayOf_alike hZ.alike A.2.1) hty A.2.2 hj hv (g := mkF m pc L (.int j :: .ref a :: st)) rfl rfl (hb hby hd) t k) r
theorem own_stoL {b : Addr} : ∀ {us : List Value}, (∀ v ∈ us, Sto Z h b v) → StoL Z h b us
  | [], _ => trivial
  | v :: r, H => ⟨H v (List.mem_cons_self ..), own_stoL fun w hw => H w (List.mem_cons_of_mem _ hw)⟩
theorem own_stoI {b : Addr} {kb : ClassId} {z : Int32} {vd : List Value} (E : Ext Z.heap h) (V : Arv Z h b kb (.object "java/lang/Object") z vd .null) (O : Ovr Z kb "java/lang/Object") (wc : (Cond.castable "java/lang/Integer" "java/lang/Object").before a0 Z = true) {us : List Value} (H : ∀ v ∈ us, IntB Z v) : StoL Z h b us :=
  own_stoL fun v hv => by
    rcases H v hv with rfl | ⟨y, rfl, q⟩
    · exact Or.inl rfl
    · exact own_stoV V O (Ins.of_exa (q.ext E) wc)
theorem own_intM {vs : List Value} (H : ∀ v ∈ vs, IntB Z v) (k j : Nat) : ∀ v ∈ (List.range k).map fun i => vs.getD (j + i) .null, IntB Z v := fun v hv => by
  obtain ⟨i, -, rfl⟩ := List.mem_map.mp hv
  exact IntB.getD H _
theorem own_rep (m i : Nat) : (List.replicate m Value.null).getD i .null = ([] : List Value).getD i .null := by
  simp only [List.getD_eq_getElem?_getD, List.getElem?_replicate]
  split <;> rfl
theorem own_geA {h0 : Heap} {A A' : Addr} (O : Old Z n0 h0) (g : n0 ≤ A) (q : A' = A ∨ h0.size ≤ A') : n0 ≤ A' := by
  rcases q with rfl | q
  · exact g
  · exact Nat.le_trans (own_szO O) q
theorem own_neA {h0 : Heap} {A A' x : Addr} (g : x ≠ A) (lt : x < h0.size) (q : A' = A ∨ h0.size ≤ A') : x ≠ A' := by
  rcases q with rfl | q
  · exact g
  · exact Nat.ne_of_lt (Nat.lt_of_lt_of_le lt q)
theorem own_vj {ii : Int32} {sz : Nat} (h1 : 0 ≤ ii.toInt) (h2 : ii.toInt ≤ 7) (hs : sz = (256 : Int32).toNatClampNeg) : ¬ (ii + 128 < 0 ∨ sz ≤ (ii + 128).toNatClampNeg) := by
  have : ii.toInt = 0 ∨ ii.toInt = 1 ∨ ii.toInt = 2 ∨ ii.toInt = 3 ∨ ii.toInt = 4 ∨ ii.toInt = 5 ∨ ii.toInt = 6 ∨ ii.toInt = 7 := by omega
  rcases this with q | q | q | q | q | q | q | q
  · rw [show ii = 0 from Int32.toInt_inj.mp q, hs]; decide
  · rw [show ii = 1 from Int32.toInt_inj.mp q, hs]; decide
  · rw [show ii = 2 from Int32.toInt_inj.mp q, hs]; decide
  · rw [show ii = 3 from Int32.toInt_inj.mp q, hs]; decide
  · rw [show ii = 4 from Int32.toInt_inj.mp q, hs]; decide
  · rw [show ii = 5 from Int32.toInt_inj.mp q, hs]; decide
  · rw [show ii = 6 from Int32.toInt_inj.mp q, hs]; decide
  · rw [show ii = 7 from Int32.toInt_inj.mp q, hs]; decide
section Nats
variable {n hd z c d : Nat}
theorem own_pz (B : Bd n hd z c) : z - 1 < n := by have := B.2.1; have := B.2.2.1; omega
theorem own_B1 (B : Bd n hd z c) (q : z < n) : Bd n hd (z + 1) c := ⟨B.1, B.2.1, by omega, B.2.2.2⟩
theorem own_B2 (B : Bd n hd z c) : Bd n ((hd + 1) % n) (z - 1) c := ⟨B.1, Nat.mod_lt _ (by have := B.2.1; omega), by have := B.2.2.1; omega, B.2.2.2⟩
theorem own_B2' (B : Bd n hd z c) : Bd n ((hd + 1) % n) z c := ⟨B.1, Nat.mod_lt _ (by have := B.2.1; omega), B.2.2⟩
theorem own_z5 (B : Bd n hd z c) : z < 5 := by have := B.1; have := B.2.2.1; omega
theorem own_c5 (B : Bd n hd z c) : c < 5 := by have := B.1; have := B.2.2.2.2; omega
theorem own_zc1 (B : Bd n hd z c) (q : z < n) (e : o32 c = o32 n) : z < c := by rw [(r_cmp c (own_c5 B) n B.1).2.2.1 e]; exact q
theorem own_zc2 (B : Bd n hd z c) (q : o32 z < o32 c) : z < c := (r_cmp z (own_z5 B) c (own_c5 B)).1 q
theorem own_zc3 (B : Bd n hd z c) (q : ¬ o32 z < o32 c) : ¬ z < c := (r_cmp z (own_z5 B) c (own_c5 B)).2.1 q
theorem own_zc4 (B : Bd n hd z c) (e : z = n) : ¬ z < c := by have := B.2.2.2.2; omega
theorem own_1z (B : Bd n hd z c) (q : ¬ o32 z < o32 c) : 1 ≤ z := by have := own_zc3 B q; have := B.2.2.2.1; omega
theorem own_mx {n' : Nat} (B : Bd n hd z c) (h5 : d < 5) : max d z < 5 := by have := own_z5 B; omega
theorem own_B3 (B : Bd n hd z c) (h5 : d < 5) (h1 : 1 ≤ d) (e : o32 (max d z) = o32 n) : Bd n hd z d := by
  have := (r_cmp (max d z) (by have := own_z5 B; omega) n B.1).2.2.1 e
  exact ⟨B.1, B.2.1, B.2.2.1, h1, by omega⟩
theorem own_B4 (B : Bd n hd z c) (h5 : d < 5) (h1 : 1 ≤ d) : Bd (max d z) 0 z d := ⟨by have := own_z5 B; omega, by omega, by omega, h1, by omega⟩
end Nats
end OwnRing2
section OwnYar
variable {Z : State} {h h' : Heap} {o x : Addr} {ty : FieldType} {ws : List Addr} {sl : Nat} {v : Value}
def Yar (Z : State) (h : Heap) (a : Addr) (ty : FieldType) : Prop := ∃ c : Cell, Arr Z h a c ty
theorem Yar.of {cA : ClassId} {z : Int32} {vs : List Value} {dv : Value} (V : Arv Z h o cA ty z vs dv) : Yar Z h o ty := by obtain ⟨c, A, -⟩ := V; exact ⟨c, A⟩
theorem Yar.ext (Y : Yar Z h o ty) (E : Ext h h') : Yar Z h' o ty := by obtain ⟨c, A⟩ := Y; exact ⟨c, A.ext E⟩
theorem Yar.wr (Y : Yar Z h o ty) (W : Wr h h' x sl v) : Yar Z h' o ty := by
  obtain ⟨c, A⟩ := Y
  by_cases q : o = x
  · subst q; exact ⟨_, A.same W⟩
  · exact ⟨_, A.other W q⟩
theorem Yar.keep (Y : Yar Z h o ty) (K : Keep h h' ws) : Yar Z h' o ty := by
  obtain ⟨c, A1, ⟨A2, kc, A3, comp, A4⟩, A5⟩ := Y
  obtain ⟨c', q1, q2, q3, -⟩ := K.2.2 _ _ A1
  exact ⟨c', q1, ⟨fun r z => A2 r (by rw [← q3]; exact z), kc, by rw [q2]; exact A3, comp, A4⟩, by rw [q3]; exact A5⟩
theorem own_safeY {Z : State} {EL : List (String × Nat)} {vm : Vm} {h : Heap} {o : Addr} {ty : FieldType} (hal : Z.vm.Alike vm) (Y : Yar Z h o ty) (ht : ty ≠ .byte) : Safe Z EL vm h o := by obtain ⟨c, A⟩ := Y; exact Safe.arr hal A ht
end OwnYar
def Wd (Z : State) (a_EVICT_OLDEST : Addr) (a_REJECT : Addr) (a_REFUSED : Addr) (ca : Addr) (cc : Cell) : Prop := Sta Z Z.heap "com/example/rondel/rondel/OverflowPolicy" "EVICT_OLDEST" "Lcom/example/rondel/rondel/OverflowPolicy;" (.ref a_EVICT_OLDEST) ∧ Exa Z Z.heap a_EVICT_OLDEST "com/example/rondel/rondel/OverflowPolicy" ∧ Sta Z Z.heap "com/example/rondel/rondel/OverflowPolicy" "REJECT" "Lcom/example/rondel/rondel/OverflowPolicy;" (.ref a_REJECT) ∧ Exa Z Z.heap a_REJECT "com/example/rondel/rondel/OverflowPolicy" ∧ Fld Z Z.heap a_EVICT_OLDEST "java/lang/Enum" "ordinal" "I" (.int (0 : Int32)) ∧ Fld Z Z.heap a_REJECT "java/lang/Enum" "ordinal" "I" (.int (1 : Int32)) ∧ Sta Z Z.heap "com/example/rondel/rondel/RingBuffer" "REFUSED" "Ljava/lang/Object;" (.ref a_REFUSED) ∧ Exa Z Z.heap a_REFUSED "java/lang/Object" ∧ Sta Z Z.heap "java/lang/Integer$IntegerCache" "high" "I" (.int 127) ∧ Sta Z Z.heap "java/lang/Integer$IntegerCache" "cache" "[Ljava/lang/Integer;" (.ref ca) ∧ Bxs Z ca cc "java/lang/Integer" "I" 256 (fun j => .int (j - 128))
theorem w1 {Z : State} {a0 : Array Value} (hw : ∀ d ∈ tables_1, d.before a0 Z = true) : (Jvm.Cond.initialized "com/example/rondel/rondel/OverflowPolicy").before a0 Z = true := hw _ (List.mem_of_getElem? (i := 1) rfl)
theorem w2 {Z : State} {a0 : Array Value} (hw : ∀ d ∈ tables_1, d.before a0 Z = true) : (Jvm.Cond.laysStatic "com/example/rondel/rondel/OverflowPolicy" "EVICT_OLDEST" "Lcom/example/rondel/rondel/OverflowPolicy;").before a0 Z = true := hw _ (List.mem_of_getElem? (i := 2) rfl)
theorem w39 {Z : State} {a0 : Array Value} (hw : ∀ d ∈ tables_1, d.before a0 Z = true) : (Jvm.Cond.laysStatic "com/example/rondel/rondel/OverflowPolicy" "REJECT" "Lcom/example/rondel/rondel/OverflowPolicy;").before a0 Z = true := hw _ (List.mem_of_getElem? (i := 39) rfl)
theorem w5 {Z : State} {a0 : Array Value} (hw : ∀ d ∈ tables_1, d.before a0 Z = true) : (Jvm.Cond.initialized "com/example/rondel/rondel/RingBuffer").before a0 Z = true := hw _ (List.mem_of_getElem? (i := 5) rfl)
theorem w90 {Z : State} {a0 : Array Value} (hw : ∀ d ∈ tables_1, d.before a0 Z = true) : (Jvm.Cond.laysStatic "com/example/rondel/rondel/RingBuffer" "REFUSED" "Ljava/lang/Object;").before a0 Z = true := hw _ (List.mem_of_getElem? (i := 90) rfl)
theorem w68 {Z : State} {a0 : Array Value} (hw : ∀ d ∈ tables_1, d.before a0 Z = true) : (Jvm.Cond.initialized "java/lang/Integer$IntegerCache").before a0 Z = true := hw _ (List.mem_of_getElem? (i := 68) rfl)
theorem own_lenT {s : State} {args : Array Value} {t : Term} {a : Addr} {cl : Cell} {z : Int32} (ev : t.eval args s none [] s = some (.ref a)) (ha : s.arrayAt? a = some cl) (hL : (Jvm.Cond.eq (.length t) (.int z)).value args s none s [] = some true) : cl.slots.size < 2 ^ 31 ∧ cl.slots.size.toInt32 = z := by
  by_cases h31 : cl.slots.size < 2 ^ 31
  · refine ⟨h31, ?_⟩
    have e := len_f ev ha h31
    simp only [Cond.value, e, Term.int_eval] at hL
    simpa using hL
  · exfalso
    cases he : (Term.length t).eval args s none [] s with
    | none => simp [Cond.value, he] at hL
    | some v => simp [Term.eval, ev, ha, h31] at he
theorem own_high {s : State} {args : Array Value} (hsets : ∀ d ∈ jdkStatics_1, d.before args s = true) : Sta s s.heap "java/lang/Integer$IntegerCache" "high" "I" (.int 127) := by
  have h3 := Cond.before_iff.mp (hsets _ (List.mem_of_getElem? (i := 3) rfl))
  have e : (Term.static "java/lang/Integer$IntegerCache" "high" "I").eval args s none [] s = some (.int 127) := eqv_i (Term.int_eval (127)) h3
  exact Sta.start e (Or.inl (hsets _ (List.mem_of_getElem? (i := 1) rfl)))
theorem own_cache {s : State} {args : Array Value} (hw : ∀ d ∈ tables_1, d.before args s = true) (hsets : ∀ d ∈ jdkStatics_1, d.before args s = true) : ∃ (ca : Addr) (cc : Cell), Sta s s.heap "java/lang/Integer$IntegerCache" "cache" "[Ljava/lang/Integer;" (.ref ca) ∧ Bxs s ca cc "java/lang/Integer" "I" 256 (fun j => .int (j - 128)) := by
  have h4 := Cond.before_iff.mp (hsets _ (List.mem_of_getElem? (i := 4) rfl))
  obtain ⟨ca, ev⟩ := arr_v h4
  obtain ⟨cc, A⟩ := Arr.start ev h4
  have q := own_lenT ev (Arr.fin (Vm.Alike.refl _) A) (Cond.before_iff.mp (hsets _ (List.mem_of_getElem? (i := 6) rfl)))
  refine ⟨ca, cc, Sta.start ev (Or.inr ⟨(w68 hw), (hsets _ (List.mem_of_getElem? (i := 2) rfl))⟩), Bxs.start (args := args) (t := Term.static "java/lang/Integer$IntegerCache" "cache" "[Ljava/lang/Integer;") (fun _ => ev) A q.1 q.2 (by decide) (Cond.before_iff.mp (hsets _ (List.mem_of_getElem? (i := 7) rfl))) ?_⟩
  intro X j hj he
  refine eqv_i ?_ he
  have hi := idx_at (args := args) (s := s) (first := s) (o := none) hj
  simp only [Term.eval] at hi ⊢
  rw [hi]; rfl

theorem d5_0 : decode prog_2_method_26_code 0 = .ok (.iload_n 0, 1) := by decide +kernel
theorem d5_1 : decode prog_2_method_26_code 1 = .ok (.iconst 1, 1) := by decide +kernel
theorem d5_2 : decode prog_2_method_26_code 2 = .ok (.if_icmp .ge 17, 3) := by decide +kernel
theorem d5_19 : decode prog_2_method_26_code 19 = .ok (.return_, 1) := by decide +kernel
theorem pn_4 : plainName "com/example/rondel/rondel/RingBuffer" = true := by first | (simp [plainName, overriddenIn]; done) | decide +kernel
theorem d15_0 : decode jdk_29_method_65_code 0 = .ok (.iload_n 0, 1) := by decide +kernel
theorem d15_1 : decode jdk_29_method_65_code 1 = .ok (.iload_n 1, 1) := by decide +kernel
theorem d15_2 : decode jdk_29_method_65_code 2 = .ok (.if_icmp .lt 7, 3) := by decide +kernel
theorem d15_9 : decode jdk_29_method_65_code 9 = .ok (.iload_n 1, 1) := by decide +kernel
theorem d15_10 : decode jdk_29_method_65_code 10 = .ok (.ireturn, 1) := by decide +kernel
theorem d15_5 : decode jdk_29_method_65_code 5 = .ok (.iload_n 0, 1) := by decide +kernel
theorem d15_6 : decode jdk_29_method_65_code 6 = .ok (.goto 4, 3) := by decide +kernel
theorem d17_0 : decode jdk_29_method_69_code 0 = .ok (.iload_n 0, 1) := by decide +kernel
theorem d17_1 : decode jdk_29_method_69_code 1 = .ok (.iload_n 1, 1) := by decide +kernel
theorem d17_2 : decode jdk_29_method_69_code 2 = .ok (.if_icmp .gt 7, 3) := by decide +kernel
theorem d17_9 : decode jdk_29_method_69_code 9 = .ok (.iload_n 1, 1) := by decide +kernel
theorem d17_10 : decode jdk_29_method_69_code 10 = .ok (.ireturn, 1) := by decide +kernel
theorem d17_5 : decode jdk_29_method_69_code 5 = .ok (.iload_n 0, 1) := by decide +kernel
theorem d17_6 : decode jdk_29_method_69_code 6 = .ok (.goto 4, 3) := by decide +kernel
theorem d6_0 : decode jdk_31_method_11_code 0 = .ok (.aload_n 0, 1) := by decide +kernel
theorem d6_1 : decode jdk_31_method_11_code 1 = .ok (.ifnonnull 12, 3) := by decide +kernel
theorem d6_13 : decode jdk_31_method_11_code 13 = .ok (.aload_n 0, 1) := by decide +kernel
theorem d6_14 : decode jdk_31_method_11_code 14 = .ok (.areturn, 1) := by decide +kernel
theorem pn_23 : plainName "java/util/Objects" = true := by first | (simp [plainName, overriddenIn]; done) | decide +kernel
theorem d3_0 : decode jdk_22_method_1_code 0 = .ok (.aload_n 0, 1) := by decide +kernel
theorem d3_1 : decode jdk_22_method_1_code 1 = .ok (.invokespecial 1, 3) := by decide +kernel
theorem w20 {Z : State} {a0 : Array Value} (hw : ∀ d ∈ tables_1, d.before a0 Z = true) : (Jvm.Cond.methodLink "java/util/AbstractCollection" (1 : Nat) ({ cls := "java/lang/Object", name := "<init>", desc := "()V" } : Jvm.MethodName)).before a0 Z = true := hw _ (List.mem_of_getElem? (i := 20) rfl)
theorem w21 {Z : State} {a0 : Array Value} (hw : ∀ d ∈ tables_1, d.before a0 Z = true) : (Jvm.Cond.instanceMethod ({ cls := "java/lang/Object", name := "<init>", desc := "()V" } : Jvm.MethodName)).before a0 Z = true := hw _ (List.mem_of_getElem? (i := 21) rfl)
theorem w22 {Z : State} {a0 : Array Value} (hw : ∀ d ∈ tables_1, d.before a0 Z = true) : (Jvm.Cond.code ({ cls := "java/lang/Object", name := "<init>", desc := "()V" } : Jvm.MethodName) object_method_1_code (1 : Nat) (Option.none : Option Jvm.ClassFile.FieldType)).before a0 Z = true := hw _ (List.mem_of_getElem? (i := 22) rfl)
theorem d3_4 : decode jdk_22_method_1_code 4 = .ok (.return_, 1) := by decide +kernel
theorem pn_27 : plainName "java/util/AbstractCollection" = true := by first | (simp [plainName, overriddenIn]; done) | decide +kernel
theorem d2_0 : decode jdk_2435_method_1_code 0 = .ok (.aload_n 0, 1) := by decide +kernel
theorem d2_1 : decode jdk_2435_method_1_code 1 = .ok (.invokespecial 1, 3) := by decide +kernel
theorem w14 {Z : State} {a0 : Array Value} (hw : ∀ d ∈ tables_1, d.before a0 Z = true) : (Jvm.Cond.methodLink "java/util/AbstractQueue" (1 : Nat) ({ cls := "java/util/AbstractCollection", name := "<init>", desc := "()V" } : Jvm.MethodName)).before a0 Z = true := hw _ (List.mem_of_getElem? (i := 14) rfl)
theorem w19 {Z : State} {a0 : Array Value} (hw : ∀ d ∈ tables_1, d.before a0 Z = true) : (Jvm.Cond.code ({ cls := "java/util/AbstractCollection", name := "<init>", desc := "()V" } : Jvm.MethodName) jdk_22_method_1_code (1 : Nat) (Option.none : Option Jvm.ClassFile.FieldType)).before a0 Z = true := hw _ (List.mem_of_getElem? (i := 19) rfl)
theorem w18 {Z : State} {a0 : Array Value} (hw : ∀ d ∈ tables_1, d.before a0 Z = true) : (Jvm.Cond.initialized "java/util/AbstractCollection").before a0 Z = true := hw _ (List.mem_of_getElem? (i := 18) rfl)
theorem pd_30 : parseMethodDescriptor "()V" = some ⟨[], none⟩ := by decide +kernel
theorem w15 {Z : State} {a0 : Array Value} (hw : ∀ d ∈ tables_1, d.before a0 Z = true) : (Jvm.Cond.instanceMethod ({ cls := "java/util/AbstractCollection", name := "<init>", desc := "()V" } : Jvm.MethodName)).before a0 Z = true := hw _ (List.mem_of_getElem? (i := 15) rfl)
theorem d2_4 : decode jdk_2435_method_1_code 4 = .ok (.return_, 1) := by decide +kernel
theorem pn_32 : plainName "java/util/AbstractQueue" = true := by first | (simp [plainName, overriddenIn]; done) | decide +kernel
theorem d13_0 : decode prog_2_method_32_code 0 = .ok (.iload_n 1, 1) := by decide +kernel
theorem d13_1 : decode prog_2_method_32_code 1 = .ok (.iconst 1, 1) := by decide +kernel
theorem d13_2 : decode prog_2_method_32_code 2 = .ok (.iadd, 1) := by decide +kernel
theorem d13_3 : decode prog_2_method_32_code 3 = .ok (.istore_n 3, 1) := by decide +kernel
theorem d13_4 : decode prog_2_method_32_code 4 = .ok (.iload_n 3, 1) := by decide +kernel
theorem d13_5 : decode prog_2_method_32_code 5 = .ok (.iload_n 2, 1) := by decide +kernel
theorem d13_6 : decode prog_2_method_32_code 6 = .ok (.if_icmp .lt 15, 3) := by decide +kernel
theorem d13_21 : decode prog_2_method_32_code 21 = .ok (.iload_n 3, 1) := by decide +kernel
theorem d13_22 : decode prog_2_method_32_code 22 = .ok (.ireturn, 1) := by decide +kernel
theorem d13_9 : decode prog_2_method_32_code 9 = .ok (.iconst 0, 1) := by decide +kernel
theorem d13_10 : decode prog_2_method_32_code 10 = .ok (.istore_n 3, 1) := by decide +kernel
theorem d13_11 : decode prog_2_method_32_code 11 = .ok (.aload_n 0, 1) := by decide +kernel
theorem d13_12 : decode prog_2_method_32_code 12 = .ok (.dup, 1) := by decide +kernel
theorem d13_13 : decode prog_2_method_32_code 13 = .ok (.getfield 67, 3) := by decide +kernel
theorem w112 {Z : State} {a0 : Array Value} (hw : ∀ d ∈ tables_1, d.before a0 Z = true) : (Jvm.Cond.fieldLink "com/example/rondel/rondel/RingBuffer" (67 : Nat) "com/example/rondel/rondel/RingBuffer" "modCount" "I").before a0 Z = true := hw _ (List.mem_of_getElem? (i := 112) rfl)
theorem d13_16 : decode prog_2_method_32_code 16 = .ok (.iconst 1, 1) := by decide +kernel
theorem d13_17 : decode prog_2_method_32_code 17 = .ok (.iadd, 1) := by decide +kernel
theorem d13_18 : decode prog_2_method_32_code 18 = .ok (.putfield 67, 3) := by decide +kernel
theorem w113 {Z : State} {a0 : Array Value} (hw : ∀ d ∈ tables_1, d.before a0 Z = true) : (Jvm.Cond.lays "com/example/rondel/rondel/RingBuffer" "com/example/rondel/rondel/RingBuffer" "modCount" "I").before a0 Z = true := hw _ (List.mem_of_getElem? (i := 113) rfl)
theorem w4 {Z : State} {a0 : Array Value} (hw : ∀ d ∈ tables_1, d.before a0 Z = true) : (Jvm.Cond.instantiable "com/example/rondel/rondel/RingBuffer" (6 : Nat)).before a0 Z = true := hw _ (List.mem_of_getElem? (i := 4) rfl)
theorem w61 {Z : State} {a0 : Array Value} (hw : ∀ d ∈ tables_1, d.before a0 Z = true) : (Jvm.Cond.lays "com/example/rondel/rondel/RingBuffer" "com/example/rondel/rondel/RingBuffer" "head" "I").before a0 Z = true := hw _ (List.mem_of_getElem? (i := 61) rfl)
theorem w59 {Z : State} {a0 : Array Value} (hw : ∀ d ∈ tables_1, d.before a0 Z = true) : (Jvm.Cond.lays "com/example/rondel/rondel/RingBuffer" "com/example/rondel/rondel/RingBuffer" "tail" "I").before a0 Z = true := hw _ (List.mem_of_getElem? (i := 59) rfl)
theorem w47 {Z : State} {a0 : Array Value} (hw : ∀ d ∈ tables_1, d.before a0 Z = true) : (Jvm.Cond.lays "com/example/rondel/rondel/RingBuffer" "com/example/rondel/rondel/RingBuffer" "elements" "[Ljava/lang/Object;").before a0 Z = true := hw _ (List.mem_of_getElem? (i := 47) rfl)
theorem w43 {Z : State} {a0 : Array Value} (hw : ∀ d ∈ tables_1, d.before a0 Z = true) : (Jvm.Cond.lays "com/example/rondel/rondel/RingBuffer" "com/example/rondel/rondel/RingBuffer" "capacity" "I").before a0 Z = true := hw _ (List.mem_of_getElem? (i := 43) rfl)
theorem w41 {Z : State} {a0 : Array Value} (hw : ∀ d ∈ tables_1, d.before a0 Z = true) : (Jvm.Cond.laysFinal "com/example/rondel/rondel/RingBuffer" "com/example/rondel/rondel/RingBuffer" "rejects" "Z").before a0 Z = true := hw _ (List.mem_of_getElem? (i := 41) rfl)
theorem d8_0 : decode prog_2_method_7_code 0 = .ok (.aload_n 0, 1) := by decide +kernel
theorem d8_1 : decode prog_2_method_7_code 1 = .ok (.getfield 64, 3) := by decide +kernel
theorem w58 {Z : State} {a0 : Array Value} (hw : ∀ d ∈ tables_1, d.before a0 Z = true) : (Jvm.Cond.fieldLink "com/example/rondel/rondel/RingBuffer" (64 : Nat) "com/example/rondel/rondel/RingBuffer" "tail" "I").before a0 Z = true := hw _ (List.mem_of_getElem? (i := 58) rfl)
theorem d8_4 : decode prog_2_method_7_code 4 = .ok (.aload_n 0, 1) := by decide +kernel
theorem d8_5 : decode prog_2_method_7_code 5 = .ok (.getfield 61, 3) := by decide +kernel
theorem w60 {Z : State} {a0 : Array Value} (hw : ∀ d ∈ tables_1, d.before a0 Z = true) : (Jvm.Cond.fieldLink "com/example/rondel/rondel/RingBuffer" (61 : Nat) "com/example/rondel/rondel/RingBuffer" "head" "I").before a0 Z = true := hw _ (List.mem_of_getElem? (i := 60) rfl)
theorem d8_8 : decode prog_2_method_7_code 8 = .ok (.isub, 1) := by decide +kernel
theorem d8_9 : decode prog_2_method_7_code 9 = .ok (.istore_n 1, 1) := by decide +kernel
theorem d8_10 : decode prog_2_method_7_code 10 = .ok (.iload_n 1, 1) := by decide +kernel
theorem d8_11 : decode prog_2_method_7_code 11 = .ok (.ifCond .ge 14, 3) := by decide +kernel
theorem d8_14 : decode prog_2_method_7_code 14 = .ok (.iload_n 1, 1) := by decide +kernel
theorem d8_15 : decode prog_2_method_7_code 15 = .ok (.aload_n 0, 1) := by decide +kernel
theorem d8_16 : decode prog_2_method_7_code 16 = .ok (.getfield 43, 3) := by decide +kernel
theorem w46 {Z : State} {a0 : Array Value} (hw : ∀ d ∈ tables_1, d.before a0 Z = true) : (Jvm.Cond.fieldLink "com/example/rondel/rondel/RingBuffer" (43 : Nat) "com/example/rondel/rondel/RingBuffer" "elements" "[Ljava/lang/Object;").before a0 Z = true := hw _ (List.mem_of_getElem? (i := 46) rfl)
theorem d8_19 : decode prog_2_method_7_code 19 = .ok (.arraylength, 1) := by decide +kernel
theorem d8_20 : decode prog_2_method_7_code 20 = .ok (.iadd, 1) := by decide +kernel
theorem d8_21 : decode prog_2_method_7_code 21 = .ok (.istore_n 1, 1) := by decide +kernel
theorem d8_22 : decode prog_2_method_7_code 22 = .ok (.goto 25, 3) := by decide +kernel
theorem d8_47 : decode prog_2_method_7_code 47 = .ok (.iload_n 1, 1) := by decide +kernel
theorem d8_48 : decode prog_2_method_7_code 48 = .ok (.ireturn, 1) := by decide +kernel
theorem d8_25 : decode prog_2_method_7_code 25 = .ok (.iload_n 1, 1) := by decide +kernel
theorem d8_26 : decode prog_2_method_7_code 26 = .ok (.ifCond .ne 21, 3) := by decide +kernel
theorem d8_29 : decode prog_2_method_7_code 29 = .ok (.aload_n 0, 1) := by decide +kernel
theorem d8_30 : decode prog_2_method_7_code 30 = .ok (.getfield 43, 3) := by decide +kernel
theorem d8_33 : decode prog_2_method_7_code 33 = .ok (.aload_n 0, 1) := by decide +kernel
theorem d8_34 : decode prog_2_method_7_code 34 = .ok (.getfield 61, 3) := by decide +kernel
theorem d8_37 : decode prog_2_method_7_code 37 = .ok (.aaload, 1) := by decide +kernel
theorem d8_38 : decode prog_2_method_7_code 38 = .ok (.ifnull 9, 3) := by decide +kernel
theorem d8_41 : decode prog_2_method_7_code 41 = .ok (.aload_n 0, 1) := by decide +kernel
theorem d8_42 : decode prog_2_method_7_code 42 = .ok (.getfield 43, 3) := by decide +kernel
theorem d8_45 : decode prog_2_method_7_code 45 = .ok (.arraylength, 1) := by decide +kernel
theorem d8_46 : decode prog_2_method_7_code 46 = .ok (.istore_n 1, 1) := by decide +kernel
theorem d21_0 : decode prog_2_method_30_code 0 = .ok (.aload_n 0, 1) := by decide +kernel
theorem d21_1 : decode prog_2_method_30_code 1 = .ok (.getfield 43, 3) := by decide +kernel
theorem d21_4 : decode prog_2_method_30_code 4 = .ok (.astore_n 1, 1) := by decide +kernel
theorem d21_5 : decode prog_2_method_30_code 5 = .ok (.aload_n 0, 1) := by decide +kernel
theorem d21_6 : decode prog_2_method_30_code 6 = .ok (.getfield 61, 3) := by decide +kernel
theorem d21_9 : decode prog_2_method_30_code 9 = .ok (.istore_n 2, 1) := by decide +kernel
theorem d21_10 : decode prog_2_method_30_code 10 = .ok (.aload_n 1, 1) := by decide +kernel
theorem d21_11 : decode prog_2_method_30_code 11 = .ok (.iload_n 2, 1) := by decide +kernel
theorem d21_12 : decode prog_2_method_30_code 12 = .ok (.aconst_null, 1) := by decide +kernel
theorem d21_13 : decode prog_2_method_30_code 13 = .ok (.aastore, 1) := by decide +kernel
theorem d21_14 : decode prog_2_method_30_code 14 = .ok (.aload_n 0, 1) := by decide +kernel
theorem d21_15 : decode prog_2_method_30_code 15 = .ok (.aload_n 0, 1) := by decide +kernel
theorem d21_16 : decode prog_2_method_30_code 16 = .ok (.iload_n 2, 1) := by decide +kernel
theorem d21_17 : decode prog_2_method_30_code 17 = .ok (.aload_n 1, 1) := by decide +kernel
theorem d21_18 : decode prog_2_method_30_code 18 = .ok (.arraylength, 1) := by decide +kernel
theorem d21_19 : decode prog_2_method_30_code 19 = .ok (.invokevirtual 173, 3) := by decide +kernel
theorem w85 {Z : State} {a0 : Array Value} (hw : ∀ d ∈ tables_1, d.before a0 Z = true) : (Jvm.Cond.methodLink "com/example/rondel/rondel/RingBuffer" (173 : Nat) ({ cls := "com/example/rondel/rondel/RingBuffer", name := "advance", desc := "(II)I" } : Jvm.MethodName)).before a0 Z = true := hw _ (List.mem_of_getElem? (i := 85) rfl)
theorem w88 {Z : State} {a0 : Array Value} (hw : ∀ d ∈ tables_1, d.before a0 Z = true) : (Jvm.Cond.code ({ cls := "com/example/rondel/rondel/RingBuffer", name := "advance", desc := "(II)I" } : Jvm.MethodName) prog_2_method_32_code (4 : Nat) (Option.some Jvm.ClassFile.FieldType.int)).before a0 Z = true := hw _ (List.mem_of_getElem? (i := 88) rfl)
theorem pd_95 : parseMethodDescriptor "(II)I" = some ⟨[.int, .int], some .int⟩ := by decide +kernel
theorem w86 {Z : State} {a0 : Array Value} (hw : ∀ d ∈ tables_1, d.before a0 Z = true) : (Jvm.Cond.instanceMethod ({ cls := "com/example/rondel/rondel/RingBuffer", name := "advance", desc := "(II)I" } : Jvm.MethodName)).before a0 Z = true := hw _ (List.mem_of_getElem? (i := 86) rfl)
theorem w87 {Z : State} {a0 : Array Value} (hw : ∀ d ∈ tables_1, d.before a0 Z = true) : (Jvm.Cond.privateMethod ({ cls := "com/example/rondel/rondel/RingBuffer", name := "advance", desc := "(II)I" } : Jvm.MethodName)).before a0 Z = true := hw _ (List.mem_of_getElem? (i := 87) rfl)
theorem d21_22 : decode prog_2_method_30_code 22 = .ok (.putfield 61, 3) := by decide +kernel
theorem d21_25 : decode prog_2_method_30_code 25 = .ok (.return_, 1) := by decide +kernel
theorem d12_0 : decode prog_2_method_28_code 0 = .ok (.aload_n 0, 1) := by decide +kernel
theorem d12_1 : decode prog_2_method_28_code 1 = .ok (.getfield 43, 3) := by decide +kernel
theorem d12_4 : decode prog_2_method_28_code 4 = .ok (.astore_n 2, 1) := by decide +kernel
theorem d12_5 : decode prog_2_method_28_code 5 = .ok (.aload_n 0, 1) := by decide +kernel
theorem d12_6 : decode prog_2_method_28_code 6 = .ok (.getfield 64, 3) := by decide +kernel
theorem d12_9 : decode prog_2_method_28_code 9 = .ok (.istore_n 3, 1) := by decide +kernel
theorem d12_10 : decode prog_2_method_28_code 10 = .ok (.aload_n 2, 1) := by decide +kernel
theorem d12_11 : decode prog_2_method_28_code 11 = .ok (.iload_n 3, 1) := by decide +kernel
theorem d12_12 : decode prog_2_method_28_code 12 = .ok (.aload_n 1, 1) := by decide +kernel
theorem d12_13 : decode prog_2_method_28_code 13 = .ok (.aastore, 1) := by decide +kernel
theorem w84 {Z : State} {a0 : Array Value} (hw : ∀ d ∈ tables_1, d.before a0 Z = true) : (Jvm.Cond.castable "java/lang/Integer" "java/lang/Object").before a0 Z = true := hw _ (List.mem_of_getElem? (i := 84) rfl)
theorem d12_14 : decode prog_2_method_28_code 14 = .ok (.aload_n 0, 1) := by decide +kernel
theorem d12_15 : decode prog_2_method_28_code 15 = .ok (.aload_n 0, 1) := by decide +kernel
theorem d12_16 : decode prog_2_method_28_code 16 = .ok (.iload_n 3, 1) := by decide +kernel
theorem d12_17 : decode prog_2_method_28_code 17 = .ok (.aload_n 2, 1) := by decide +kernel
theorem d12_18 : decode prog_2_method_28_code 18 = .ok (.arraylength, 1) := by decide +kernel
theorem d12_19 : decode prog_2_method_28_code 19 = .ok (.invokevirtual 173, 3) := by decide +kernel
theorem d12_22 : decode prog_2_method_28_code 22 = .ok (.putfield 64, 3) := by decide +kernel
theorem d12_25 : decode prog_2_method_28_code 25 = .ok (.return_, 1) := by decide +kernel
theorem d20_0 : decode prog_2_method_33_code 0 = .ok (.aload_n 0, 1) := by decide +kernel
theorem d20_1 : decode prog_2_method_33_code 1 = .ok (.getfield 43, 3) := by decide +kernel
theorem d20_4 : decode prog_2_method_33_code 4 = .ok (.iload_n 1, 1) := by decide +kernel
theorem d20_5 : decode prog_2_method_33_code 5 = .ok (.aaload, 1) := by decide +kernel
theorem d20_6 : decode prog_2_method_33_code 6 = .ok (.areturn, 1) := by decide +kernel
theorem d19_0 : decode prog_2_method_12_code 0 = .ok (.aload_n 0, 1) := by decide +kernel
theorem d19_1 : decode prog_2_method_12_code 1 = .ok (.aload_n 0, 1) := by decide +kernel
theorem d19_2 : decode prog_2_method_12_code 2 = .ok (.getfield 61, 3) := by decide +kernel
theorem d19_5 : decode prog_2_method_12_code 5 = .ok (.invokevirtual 91, 3) := by decide +kernel
theorem w124 {Z : State} {a0 : Array Value} (hw : ∀ d ∈ tables_1, d.before a0 Z = true) : (Jvm.Cond.methodLink "com/example/rondel/rondel/RingBuffer" (91 : Nat) ({ cls := "com/example/rondel/rondel/RingBuffer", name := "elementAt", desc := "(I)Ljava/lang/Object;" } : Jvm.MethodName)).before a0 Z = true := hw _ (List.mem_of_getElem? (i := 124) rfl)
theorem w127 {Z : State} {a0 : Array Value} (hw : ∀ d ∈ tables_1, d.before a0 Z = true) : (Jvm.Cond.code ({ cls := "com/example/rondel/rondel/RingBuffer", name := "elementAt", desc := "(I)Ljava/lang/Object;" } : Jvm.MethodName) prog_2_method_33_code (2 : Nat) (Option.some (Jvm.ClassFile.FieldType.object "java/lang/Object"))).before a0 Z = true := hw _ (List.mem_of_getElem? (i := 127) rfl)
theorem pd_125 : parseMethodDescriptor "(I)Ljava/lang/Object;" = some ⟨[.int], some (.object "java/lang/Object")⟩ := by decide +kernel
theorem w125 {Z : State} {a0 : Array Value} (hw : ∀ d ∈ tables_1, d.before a0 Z = true) : (Jvm.Cond.instanceMethod ({ cls := "com/example/rondel/rondel/RingBuffer", name := "elementAt", desc := "(I)Ljava/lang/Object;" } : Jvm.MethodName)).before a0 Z = true := hw _ (List.mem_of_getElem? (i := 125) rfl)
theorem w126 {Z : State} {a0 : Array Value} (hw : ∀ d ∈ tables_1, d.before a0 Z = true) : (Jvm.Cond.privateMethod ({ cls := "com/example/rondel/rondel/RingBuffer", name := "elementAt", desc := "(I)Ljava/lang/Object;" } : Jvm.MethodName)).before a0 Z = true := hw _ (List.mem_of_getElem? (i := 126) rfl)
theorem d19_8 : decode prog_2_method_12_code 8 = .ok (.areturn, 1) := by decide +kernel
theorem d18_0 : decode prog_2_method_11_code 0 = .ok (.aload_n 0, 1) := by decide +kernel
theorem d18_1 : decode prog_2_method_11_code 1 = .ok (.invokevirtual 84, 3) := by decide +kernel
theorem w119 {Z : State} {a0 : Array Value} (hw : ∀ d ∈ tables_1, d.before a0 Z = true) : (Jvm.Cond.methodLink "com/example/rondel/rondel/RingBuffer" (84 : Nat) ({ cls := "com/example/rondel/rondel/RingBuffer", name := "peek", desc := "()Ljava/lang/Object;" } : Jvm.MethodName)).before a0 Z = true := hw _ (List.mem_of_getElem? (i := 119) rfl)
theorem w123 {Z : State} {a0 : Array Value} (hw : ∀ d ∈ tables_1, d.before a0 Z = true) : (Jvm.Cond.code ({ cls := "com/example/rondel/rondel/RingBuffer", name := "peek", desc := "()Ljava/lang/Object;" } : Jvm.MethodName) prog_2_method_12_code (1 : Nat) (Option.some (Jvm.ClassFile.FieldType.object "java/lang/Object"))).before a0 Z = true := hw _ (List.mem_of_getElem? (i := 123) rfl)
theorem pd_129 : parseMethodDescriptor "()Ljava/lang/Object;" = some ⟨[], some (.object "java/lang/Object")⟩ := by decide +kernel
theorem w120 {Z : State} {a0 : Array Value} (hw : ∀ d ∈ tables_1, d.before a0 Z = true) : (Jvm.Cond.declares ({ cls := "com/example/rondel/rondel/RingBuffer", name := "peek", desc := "()Ljava/lang/Object;" } : Jvm.MethodName)).before a0 Z = true := hw _ (List.mem_of_getElem? (i := 120) rfl)
theorem w122 {Z : State} {a0 : Array Value} (hw : ∀ d ∈ tables_1, d.before a0 Z = true) : (Jvm.Cond.selects "com/example/rondel/rondel/RingBuffer" ({ cls := "com/example/rondel/rondel/RingBuffer", name := "peek", desc := "()Ljava/lang/Object;" } : Jvm.MethodName) ({ cls := "com/example/rondel/rondel/RingBuffer", name := "peek", desc := "()Ljava/lang/Object;" } : Jvm.MethodName)).before a0 Z = true := hw _ (List.mem_of_getElem? (i := 122) rfl)
theorem w121 {Z : State} {a0 : Array Value} (hw : ∀ d ∈ tables_1, d.before a0 Z = true) : (Jvm.Cond.instanceMethod ({ cls := "com/example/rondel/rondel/RingBuffer", name := "peek", desc := "()Ljava/lang/Object;" } : Jvm.MethodName)).before a0 Z = true := hw _ (List.mem_of_getElem? (i := 121) rfl)
theorem d18_4 : decode prog_2_method_11_code 4 = .ok (.astore_n 1, 1) := by decide +kernel
theorem d18_5 : decode prog_2_method_11_code 5 = .ok (.aload_n 1, 1) := by decide +kernel
theorem d18_6 : decode prog_2_method_11_code 6 = .ok (.ifnull 7, 3) := by decide +kernel
theorem d18_13 : decode prog_2_method_11_code 13 = .ok (.aload_n 1, 1) := by decide +kernel
theorem d18_14 : decode prog_2_method_11_code 14 = .ok (.areturn, 1) := by decide +kernel
theorem d18_9 : decode prog_2_method_11_code 9 = .ok (.aload_n 0, 1) := by decide +kernel
theorem d18_10 : decode prog_2_method_11_code 10 = .ok (.invokevirtual 88, 3) := by decide +kernel
theorem w128 {Z : State} {a0 : Array Value} (hw : ∀ d ∈ tables_1, d.before a0 Z = true) : (Jvm.Cond.methodLink "com/example/rondel/rondel/RingBuffer" (88 : Nat) ({ cls := "com/example/rondel/rondel/RingBuffer", name := "dropOldest", desc := "()V" } : Jvm.MethodName)).before a0 Z = true := hw _ (List.mem_of_getElem? (i := 128) rfl)
theorem w131 {Z : State} {a0 : Array Value} (hw : ∀ d ∈ tables_1, d.before a0 Z = true) : (Jvm.Cond.code ({ cls := "com/example/rondel/rondel/RingBuffer", name := "dropOldest", desc := "()V" } : Jvm.MethodName) prog_2_method_30_code (3 : Nat) (Option.none : Option Jvm.ClassFile.FieldType)).before a0 Z = true := hw _ (List.mem_of_getElem? (i := 131) rfl)
theorem w129 {Z : State} {a0 : Array Value} (hw : ∀ d ∈ tables_1, d.before a0 Z = true) : (Jvm.Cond.instanceMethod ({ cls := "com/example/rondel/rondel/RingBuffer", name := "dropOldest", desc := "()V" } : Jvm.MethodName)).before a0 Z = true := hw _ (List.mem_of_getElem? (i := 129) rfl)
theorem w130 {Z : State} {a0 : Array Value} (hw : ∀ d ∈ tables_1, d.before a0 Z = true) : (Jvm.Cond.privateMethod ({ cls := "com/example/rondel/rondel/RingBuffer", name := "dropOldest", desc := "()V" } : Jvm.MethodName)).before a0 Z = true := hw _ (List.mem_of_getElem? (i := 130) rfl)
theorem d11_0 : decode prog_2_method_27_code 0 = .ok (.aload_n 1, 1) := by decide +kernel
theorem d11_1 : decode prog_2_method_27_code 1 = .ok (.ldc 163, 2) := by decide +kernel
theorem w79 {Z : State} {a0 : Array Value} (hw : ∀ d ∈ tables_1, d.before a0 Z = true) : (Jvm.Cond.stringLink "com/example/rondel/rondel/RingBuffer" (163 : Nat) "element").before a0 Z = true := hw _ (List.mem_of_getElem? (i := 79) rfl)
theorem d11_3 : decode prog_2_method_27_code 3 = .ok (.invokestatic 24, 3) := by decide +kernel
theorem w34 {Z : State} {a0 : Array Value} (hw : ∀ d ∈ tables_1, d.before a0 Z = true) : (Jvm.Cond.methodLink "com/example/rondel/rondel/RingBuffer" (24 : Nat) ({ cls := "java/util/Objects", name := "requireNonNull", desc := "(Ljava/lang/Object;Ljava/lang/String;)Ljava/lang/Object;" } : Jvm.MethodName)).before a0 Z = true := hw _ (List.mem_of_getElem? (i := 34) rfl)
theorem w37 {Z : State} {a0 : Array Value} (hw : ∀ d ∈ tables_1, d.before a0 Z = true) : (Jvm.Cond.code ({ cls := "java/util/Objects", name := "requireNonNull", desc := "(Ljava/lang/Object;Ljava/lang/String;)Ljava/lang/Object;" } : Jvm.MethodName) jdk_31_method_11_code (2 : Nat) (Option.some (Jvm.ClassFile.FieldType.object "java/lang/Object"))).before a0 Z = true := hw _ (List.mem_of_getElem? (i := 37) rfl)
theorem w36 {Z : State} {a0 : Array Value} (hw : ∀ d ∈ tables_1, d.before a0 Z = true) : (Jvm.Cond.initialized "java/util/Objects").before a0 Z = true := hw _ (List.mem_of_getElem? (i := 36) rfl)
theorem pd_140 : parseMethodDescriptor "(Ljava/lang/Object;Ljava/lang/String;)Ljava/lang/Object;" = some ⟨[(.object "java/lang/Object"), (.object "java/lang/String")], some (.object "java/lang/Object")⟩ := by decide +kernel
theorem w35 {Z : State} {a0 : Array Value} (hw : ∀ d ∈ tables_1, d.before a0 Z = true) : (Jvm.Cond.static ({ cls := "java/util/Objects", name := "requireNonNull", desc := "(Ljava/lang/Object;Ljava/lang/String;)Ljava/lang/Object;" } : Jvm.MethodName)).before a0 Z = true := hw _ (List.mem_of_getElem? (i := 35) rfl)
theorem d11_6 : decode prog_2_method_27_code 6 = .ok (.pop, 1) := by decide +kernel
theorem d11_7 : decode prog_2_method_27_code 7 = .ok (.aload_n 0, 1) := by decide +kernel
theorem d11_8 : decode prog_2_method_27_code 8 = .ok (.getfield 43, 3) := by decide +kernel
theorem d11_11 : decode prog_2_method_27_code 11 = .ok (.astore_n 3, 1) := by decide +kernel
theorem d11_12 : decode prog_2_method_27_code 12 = .ok (.aload_n 0, 1) := by decide +kernel
theorem d11_13 : decode prog_2_method_27_code 13 = .ok (.getfield 64, 3) := by decide +kernel
theorem d11_16 : decode prog_2_method_27_code 16 = .ok (.istore 4, 2) := by decide +kernel
theorem d11_18 : decode prog_2_method_27_code 18 = .ok (.iload 4, 2) := by decide +kernel
theorem d11_20 : decode prog_2_method_27_code 20 = .ok (.aload_n 0, 1) := by decide +kernel
theorem d11_21 : decode prog_2_method_27_code 21 = .ok (.getfield 61, 3) := by decide +kernel
theorem d11_24 : decode prog_2_method_27_code 24 = .ok (.if_icmp .ne 10, 3) := by decide +kernel
theorem d11_27 : decode prog_2_method_27_code 27 = .ok (.aload_n 3, 1) := by decide +kernel
theorem d11_28 : decode prog_2_method_27_code 28 = .ok (.iload 4, 2) := by decide +kernel
theorem d11_30 : decode prog_2_method_27_code 30 = .ok (.aaload, 1) := by decide +kernel
theorem d11_31 : decode prog_2_method_27_code 31 = .ok (.goto 4, 3) := by decide +kernel
theorem d11_35 : decode prog_2_method_27_code 35 = .ok (.astore 5, 2) := by decide +kernel
theorem d11_37 : decode prog_2_method_27_code 37 = .ok (.aconst_null, 1) := by decide +kernel
theorem d11_38 : decode prog_2_method_27_code 38 = .ok (.astore 6, 2) := by decide +kernel
theorem d11_40 : decode prog_2_method_27_code 40 = .ok (.aload 5, 2) := by decide +kernel
theorem d11_42 : decode prog_2_method_27_code 42 = .ok (.ifnonnull 31, 3) := by decide +kernel
theorem d11_45 : decode prog_2_method_27_code 45 = .ok (.aload_n 0, 1) := by decide +kernel
theorem d11_46 : decode prog_2_method_27_code 46 = .ok (.getfield 37, 3) := by decide +kernel
theorem w42 {Z : State} {a0 : Array Value} (hw : ∀ d ∈ tables_1, d.before a0 Z = true) : (Jvm.Cond.fieldLink "com/example/rondel/rondel/RingBuffer" (37 : Nat) "com/example/rondel/rondel/RingBuffer" "capacity" "I").before a0 Z = true := hw _ (List.mem_of_getElem? (i := 42) rfl)
theorem d11_49 : decode prog_2_method_27_code 49 = .ok (.aload_n 3, 1) := by decide +kernel
theorem d11_50 : decode prog_2_method_27_code 50 = .ok (.arraylength, 1) := by decide +kernel
theorem d11_51 : decode prog_2_method_27_code 51 = .ok (.if_icmp .eq 14, 3) := by decide +kernel
theorem d11_65 : decode prog_2_method_27_code 65 = .ok (.aload_n 0, 1) := by decide +kernel
theorem d11_66 : decode prog_2_method_27_code 66 = .ok (.aload_n 1, 1) := by decide +kernel
theorem d11_67 : decode prog_2_method_27_code 67 = .ok (.invokevirtual 165, 3) := by decide +kernel
theorem w80 {Z : State} {a0 : Array Value} (hw : ∀ d ∈ tables_1, d.before a0 Z = true) : (Jvm.Cond.methodLink "com/example/rondel/rondel/RingBuffer" (165 : Nat) ({ cls := "com/example/rondel/rondel/RingBuffer", name := "append", desc := "(Ljava/lang/Object;)V" } : Jvm.MethodName)).before a0 Z = true := hw _ (List.mem_of_getElem? (i := 80) rfl)
theorem w83 {Z : State} {a0 : Array Value} (hw : ∀ d ∈ tables_1, d.before a0 Z = true) : (Jvm.Cond.code ({ cls := "com/example/rondel/rondel/RingBuffer", name := "append", desc := "(Ljava/lang/Object;)V" } : Jvm.MethodName) prog_2_method_28_code (4 : Nat) (Option.none : Option Jvm.ClassFile.FieldType)).before a0 Z = true := hw _ (List.mem_of_getElem? (i := 83) rfl)
theorem pd_169 : parseMethodDescriptor "(Ljava/lang/Object;)V" = some ⟨[(.object "java/lang/Object")], none⟩ := by decide +kernel
theorem w81 {Z : State} {a0 : Array Value} (hw : ∀ d ∈ tables_1, d.before a0 Z = true) : (Jvm.Cond.instanceMethod ({ cls := "com/example/rondel/rondel/RingBuffer", name := "append", desc := "(Ljava/lang/Object;)V" } : Jvm.MethodName)).before a0 Z = true := hw _ (List.mem_of_getElem? (i := 81) rfl)
theorem w82 {Z : State} {a0 : Array Value} (hw : ∀ d ∈ tables_1, d.before a0 Z = true) : (Jvm.Cond.privateMethod ({ cls := "com/example/rondel/rondel/RingBuffer", name := "append", desc := "(Ljava/lang/Object;)V" } : Jvm.MethodName)).before a0 Z = true := hw _ (List.mem_of_getElem? (i := 82) rfl)
theorem d11_70 : decode prog_2_method_27_code 70 = .ok (.goto 96, 3) := by decide +kernel
theorem d11_166 : decode prog_2_method_27_code 166 = .ok (.aload 6, 2) := by decide +kernel
theorem d11_168 : decode prog_2_method_27_code 168 = .ok (.areturn, 1) := by decide +kernel
theorem d11_54 : decode prog_2_method_27_code 54 = .ok (.aload_n 0, 1) := by decide +kernel
theorem d11_55 : decode prog_2_method_27_code 55 = .ok (.invokevirtual 47, 3) := by decide +kernel
theorem w96 {Z : State} {a0 : Array Value} (hw : ∀ d ∈ tables_1, d.before a0 Z = true) : (Jvm.Cond.methodLink "com/example/rondel/rondel/RingBuffer" (47 : Nat) ({ cls := "com/example/rondel/rondel/RingBuffer", name := "size", desc := "()I" } : Jvm.MethodName)).before a0 Z = true := hw _ (List.mem_of_getElem? (i := 96) rfl)
theorem w57 {Z : State} {a0 : Array Value} (hw : ∀ d ∈ tables_1, d.before a0 Z = true) : (Jvm.Cond.code ({ cls := "com/example/rondel/rondel/RingBuffer", name := "size", desc := "()I" } : Jvm.MethodName) prog_2_method_7_code (2 : Nat) (Option.some Jvm.ClassFile.FieldType.int)).before a0 Z = true := hw _ (List.mem_of_getElem? (i := 57) rfl)
theorem pd_175 : parseMethodDescriptor "()I" = some ⟨[], some .int⟩ := by decide +kernel
theorem w54 {Z : State} {a0 : Array Value} (hw : ∀ d ∈ tables_1, d.before a0 Z = true) : (Jvm.Cond.declares ({ cls := "com/example/rondel/rondel/RingBuffer", name := "size", desc := "()I" } : Jvm.MethodName)).before a0 Z = true := hw _ (List.mem_of_getElem? (i := 54) rfl)
theorem w56 {Z : State} {a0 : Array Value} (hw : ∀ d ∈ tables_1, d.before a0 Z = true) : (Jvm.Cond.selects "com/example/rondel/rondel/RingBuffer" ({ cls := "com/example/rondel/rondel/RingBuffer", name := "size", desc := "()I" } : Jvm.MethodName) ({ cls := "com/example/rondel/rondel/RingBuffer", name := "size", desc := "()I" } : Jvm.MethodName)).before a0 Z = true := hw _ (List.mem_of_getElem? (i := 56) rfl)
theorem w55 {Z : State} {a0 : Array Value} (hw : ∀ d ∈ tables_1, d.before a0 Z = true) : (Jvm.Cond.instanceMethod ({ cls := "com/example/rondel/rondel/RingBuffer", name := "size", desc := "()I" } : Jvm.MethodName)).before a0 Z = true := hw _ (List.mem_of_getElem? (i := 55) rfl)
theorem d11_58 : decode prog_2_method_27_code 58 = .ok (.aload_n 0, 1) := by decide +kernel
theorem d11_59 : decode prog_2_method_27_code 59 = .ok (.getfield 37, 3) := by decide +kernel
theorem d11_62 : decode prog_2_method_27_code 62 = .ok (.if_icmp .ge 11, 3) := by decide +kernel
theorem d11_73 : decode prog_2_method_27_code 73 = .ok (.aload_n 0, 1) := by decide +kernel
theorem d11_74 : decode prog_2_method_27_code 74 = .ok (.getfield 33, 3) := by decide +kernel
theorem w40 {Z : State} {a0 : Array Value} (hw : ∀ d ∈ tables_1, d.before a0 Z = true) : (Jvm.Cond.fieldLink "com/example/rondel/rondel/RingBuffer" (33 : Nat) "com/example/rondel/rondel/RingBuffer" "rejects" "Z").before a0 Z = true := hw _ (List.mem_of_getElem? (i := 40) rfl)
theorem d11_77 : decode prog_2_method_27_code 77 = .ok (.ifCond .eq 32, 3) := by decide +kernel
theorem d11_109 : decode prog_2_method_27_code 109 = .ok (.aload 5, 2) := by decide +kernel
theorem d11_111 : decode prog_2_method_27_code 111 = .ok (.ifnull 35, 3) := by decide +kernel
theorem d11_146 : decode prog_2_method_27_code 146 = .ok (.aload_n 0, 1) := by decide +kernel
theorem d11_147 : decode prog_2_method_27_code 147 = .ok (.getfield 43, 3) := by decide +kernel
theorem d11_150 : decode prog_2_method_27_code 150 = .ok (.aload_n 0, 1) := by decide +kernel
theorem d11_151 : decode prog_2_method_27_code 151 = .ok (.getfield 61, 3) := by decide +kernel
theorem d11_154 : decode prog_2_method_27_code 154 = .ok (.aaload, 1) := by decide +kernel
theorem d11_155 : decode prog_2_method_27_code 155 = .ok (.astore 6, 2) := by decide +kernel
theorem d11_157 : decode prog_2_method_27_code 157 = .ok (.aload_n 0, 1) := by decide +kernel
theorem d11_158 : decode prog_2_method_27_code 158 = .ok (.invokevirtual 88, 3) := by decide +kernel
theorem d11_161 : decode prog_2_method_27_code 161 = .ok (.aload_n 0, 1) := by decide +kernel
theorem d11_162 : decode prog_2_method_27_code 162 = .ok (.aload_n 1, 1) := by decide +kernel
theorem d11_163 : decode prog_2_method_27_code 163 = .ok (.invokevirtual 165, 3) := by decide +kernel
theorem d11_80 : decode prog_2_method_27_code 80 = .ok (.iload_n 2, 1) := by decide +kernel
theorem d11_81 : decode prog_2_method_27_code 81 = .ok (.ifCond .eq 20, 3) := by decide +kernel
theorem d11_101 : decode prog_2_method_27_code 101 = .ok (.getstatic 80, 3) := by decide +kernel
theorem w89 {Z : State} {a0 : Array Value} (hw : ∀ d ∈ tables_1, d.before a0 Z = true) : (Jvm.Cond.fieldLink "com/example/rondel/rondel/RingBuffer" (80 : Nat) "com/example/rondel/rondel/RingBuffer" "REFUSED" "Ljava/lang/Object;").before a0 Z = true := hw _ (List.mem_of_getElem? (i := 89) rfl)
theorem d11_104 : decode prog_2_method_27_code 104 = .ok (.astore 6, 2) := by decide +kernel
theorem d11_106 : decode prog_2_method_27_code 106 = .ok (.goto 60, 3) := by decide +kernel
theorem d11_114 : decode prog_2_method_27_code 114 = .ok (.aload 5, 2) := by decide +kernel
theorem d11_116 : decode prog_2_method_27_code 116 = .ok (.astore 6, 2) := by decide +kernel
theorem d11_118 : decode prog_2_method_27_code 118 = .ok (.aload_n 3, 1) := by decide +kernel
theorem d11_119 : decode prog_2_method_27_code 119 = .ok (.iload 4, 2) := by decide +kernel
theorem d11_121 : decode prog_2_method_27_code 121 = .ok (.aload_n 1, 1) := by decide +kernel
theorem d11_122 : decode prog_2_method_27_code 122 = .ok (.aastore, 1) := by decide +kernel
theorem d11_123 : decode prog_2_method_27_code 123 = .ok (.aload_n 0, 1) := by decide +kernel
theorem d11_124 : decode prog_2_method_27_code 124 = .ok (.aload_n 0, 1) := by decide +kernel
theorem d11_125 : decode prog_2_method_27_code 125 = .ok (.iload 4, 2) := by decide +kernel
theorem d11_127 : decode prog_2_method_27_code 127 = .ok (.aload_n 3, 1) := by decide +kernel
theorem d11_128 : decode prog_2_method_27_code 128 = .ok (.arraylength, 1) := by decide +kernel
theorem d11_129 : decode prog_2_method_27_code 129 = .ok (.invokevirtual 173, 3) := by decide +kernel
theorem d11_132 : decode prog_2_method_27_code 132 = .ok (.putfield 64, 3) := by decide +kernel
theorem d11_135 : decode prog_2_method_27_code 135 = .ok (.aload_n 0, 1) := by decide +kernel
theorem d11_136 : decode prog_2_method_27_code 136 = .ok (.aload_n 0, 1) := by decide +kernel
theorem d11_137 : decode prog_2_method_27_code 137 = .ok (.getfield 64, 3) := by decide +kernel
theorem d11_140 : decode prog_2_method_27_code 140 = .ok (.putfield 61, 3) := by decide +kernel
theorem d11_143 : decode prog_2_method_27_code 143 = .ok (.goto 23, 3) := by decide +kernel
theorem d11_34 : decode prog_2_method_27_code 34 = .ok (.aconst_null, 1) := by decide +kernel
theorem d10_0 : decode prog_2_method_10_code 0 = .ok (.aload_n 0, 1) := by decide +kernel
theorem d10_1 : decode prog_2_method_10_code 1 = .ok (.aload_n 1, 1) := by decide +kernel
theorem d10_2 : decode prog_2_method_10_code 2 = .ok (.iconst 0, 1) := by decide +kernel
theorem d10_3 : decode prog_2_method_10_code 3 = .ok (.invokevirtual 72, 3) := by decide +kernel
theorem w75 {Z : State} {a0 : Array Value} (hw : ∀ d ∈ tables_1, d.before a0 Z = true) : (Jvm.Cond.methodLink "com/example/rondel/rondel/RingBuffer" (72 : Nat) ({ cls := "com/example/rondel/rondel/RingBuffer", name := "push", desc := "(Ljava/lang/Object;Z)Ljava/lang/Object;" } : Jvm.MethodName)).before a0 Z = true := hw _ (List.mem_of_getElem? (i := 75) rfl)
theorem w78 {Z : State} {a0 : Array Value} (hw : ∀ d ∈ tables_1, d.before a0 Z = true) : (Jvm.Cond.code ({ cls := "com/example/rondel/rondel/RingBuffer", name := "push", desc := "(Ljava/lang/Object;Z)Ljava/lang/Object;" } : Jvm.MethodName) prog_2_method_27_code (7 : Nat) (Option.some (Jvm.ClassFile.FieldType.object "java/lang/Object"))).before a0 Z = true := hw _ (List.mem_of_getElem? (i := 78) rfl)
theorem pd_223 : parseMethodDescriptor "(Ljava/lang/Object;Z)Ljava/lang/Object;" = some ⟨[(.object "java/lang/Object"), .boolean], some (.object "java/lang/Object")⟩ := by decide +kernel
theorem w76 {Z : State} {a0 : Array Value} (hw : ∀ d ∈ tables_1, d.before a0 Z = true) : (Jvm.Cond.instanceMethod ({ cls := "com/example/rondel/rondel/RingBuffer", name := "push", desc := "(Ljava/lang/Object;Z)Ljava/lang/Object;" } : Jvm.MethodName)).before a0 Z = true := hw _ (List.mem_of_getElem? (i := 76) rfl)
theorem w77 {Z : State} {a0 : Array Value} (hw : ∀ d ∈ tables_1, d.before a0 Z = true) : (Jvm.Cond.privateMethod ({ cls := "com/example/rondel/rondel/RingBuffer", name := "push", desc := "(Ljava/lang/Object;Z)Ljava/lang/Object;" } : Jvm.MethodName)).before a0 Z = true := hw _ (List.mem_of_getElem? (i := 77) rfl)
theorem d10_6 : decode prog_2_method_10_code 6 = .ok (.getstatic 80, 3) := by decide +kernel
theorem d10_9 : decode prog_2_method_10_code 9 = .ok (.if_acmp .eq 7, 3) := by decide +kernel
theorem d10_12 : decode prog_2_method_10_code 12 = .ok (.iconst 1, 1) := by decide +kernel
theorem d10_13 : decode prog_2_method_10_code 13 = .ok (.goto 4, 3) := by decide +kernel
theorem d10_17 : decode prog_2_method_10_code 17 = .ok (.ireturn, 1) := by decide +kernel
theorem d10_16 : decode prog_2_method_10_code 16 = .ok (.iconst 0, 1) := by decide +kernel
theorem own_c1 {nN hN zN mN : Nat} {vs : List Value} (B : nN < 5 ∧ hN < nN ∧ zN < nN + 1) (m5 : mN < 5) (zm : zN < mN + 1) : (List.replicate mN Value.null).take (0 : Int32).toNatClampNeg ++ ((List.range (o32 (min zN (nN - hN))).toNatClampNeg).map fun i => vs.getD ((o32 hN).toNatClampNeg + i) .null) ++ (List.replicate mN Value.null).drop ((0 : Int32).toNatClampNeg + (o32 (min zN (nN - hN))).toNatClampNeg) = (List.replicate mN Value.null).take 0 ++ ((List.range (min zN (nN - hN))).map fun i => vs.getD (hN + i) .null) ++ (List.replicate mN Value.null).drop (0 + min zN (nN - hN)) := by
  rw [(r_bd nN B.1 hN B.2.1).2, (r_min nN B.1 hN B.2.1 zN B.2.2).2.2.2.2.1]; rfl
theorem own_c2 {nN hN zN mN : Nat} {vs us : List Value} (B : nN < 5 ∧ hN < nN ∧ zN < nN + 1) (e : us = (List.replicate mN Value.null).take 0 ++ ((List.range (min zN (nN - hN))).map fun i => vs.getD (hN + i) .null) ++ (List.replicate mN Value.null).drop (0 + min zN (nN - hN))) : us.take (o32 (min zN (nN - hN))).toNatClampNeg ++ ((List.range (o32 (zN - min zN (nN - hN))).toNatClampNeg).map fun i => vs.getD ((0 : Int32).toNatClampNeg + i) .null) ++ us.drop ((o32 (min zN (nN - hN))).toNatClampNeg + (o32 (zN - min zN (nN - hN))).toNatClampNeg) = cpy nN hN zN mN vs := by
  have q := r_min nN B.1 hN B.2.1 zN B.2.2
  rw [q.2.2.2.2.1, q.2.2.2.2.2.1, e]; rfl
theorem own_c3 {nN hN zN mN : Nat} {vs : List Value} (zm : zN < mN + 1) : ((List.replicate mN Value.null).take 0 ++ ((List.range (min zN (nN - hN))).map fun i => vs.getD (hN + i) .null) ++ (List.replicate mN Value.null).drop (0 + min zN (nN - hN))).length = mN := by
  simp; omega
theorem d16_0 : decode prog_2_method_25_code 0 = .ok (.aload_n 0, 1) := by decide +kernel
theorem d16_1 : decode prog_2_method_25_code 1 = .ok (.invokevirtual 47, 3) := by decide +kernel
theorem d16_4 : decode prog_2_method_25_code 4 = .ok (.istore_n 2, 1) := by decide +kernel
theorem d16_5 : decode prog_2_method_25_code 5 = .ok (.iload_n 2, 1) := by decide +kernel
theorem d16_6 : decode prog_2_method_25_code 6 = .ok (.aload_n 0, 1) := by decide +kernel
theorem d16_7 : decode prog_2_method_25_code 7 = .ok (.getfield 43, 3) := by decide +kernel
theorem d16_10 : decode prog_2_method_25_code 10 = .ok (.arraylength, 1) := by decide +kernel
theorem d16_11 : decode prog_2_method_25_code 11 = .ok (.aload_n 0, 1) := by decide +kernel
theorem d16_12 : decode prog_2_method_25_code 12 = .ok (.getfield 61, 3) := by decide +kernel
theorem d16_15 : decode prog_2_method_25_code 15 = .ok (.isub, 1) := by decide +kernel
theorem d16_16 : decode prog_2_method_25_code 16 = .ok (.invokestatic 145, 3) := by decide +kernel
theorem w105 {Z : State} {a0 : Array Value} (hw : ∀ d ∈ tables_1, d.before a0 Z = true) : (Jvm.Cond.methodLink "com/example/rondel/rondel/RingBuffer" (145 : Nat) ({ cls := "java/lang/Math", name := "min", desc := "(II)I" } : Jvm.MethodName)).before a0 Z = true := hw _ (List.mem_of_getElem? (i := 105) rfl)
theorem w107 {Z : State} {a0 : Array Value} (hw : ∀ d ∈ tables_1, d.before a0 Z = true) : (Jvm.Cond.code ({ cls := "java/lang/Math", name := "min", desc := "(II)I" } : Jvm.MethodName) jdk_29_method_69_code (2 : Nat) (Option.some Jvm.ClassFile.FieldType.int)).before a0 Z = true := hw _ (List.mem_of_getElem? (i := 107) rfl)
theorem w99 {Z : State} {a0 : Array Value} (hw : ∀ d ∈ tables_1, d.before a0 Z = true) : (Jvm.Cond.initialized "java/lang/Math").before a0 Z = true := hw _ (List.mem_of_getElem? (i := 99) rfl)
theorem w106 {Z : State} {a0 : Array Value} (hw : ∀ d ∈ tables_1, d.before a0 Z = true) : (Jvm.Cond.static ({ cls := "java/lang/Math", name := "min", desc := "(II)I" } : Jvm.MethodName)).before a0 Z = true := hw _ (List.mem_of_getElem? (i := 106) rfl)
theorem d16_19 : decode prog_2_method_25_code 19 = .ok (.istore_n 3, 1) := by decide +kernel
theorem d16_20 : decode prog_2_method_25_code 20 = .ok (.aload_n 0, 1) := by decide +kernel
theorem d16_21 : decode prog_2_method_25_code 21 = .ok (.getfield 43, 3) := by decide +kernel
theorem d16_24 : decode prog_2_method_25_code 24 = .ok (.aload_n 0, 1) := by decide +kernel
theorem d16_25 : decode prog_2_method_25_code 25 = .ok (.getfield 61, 3) := by decide +kernel
theorem d16_28 : decode prog_2_method_25_code 28 = .ok (.aload_n 1, 1) := by decide +kernel
theorem d16_29 : decode prog_2_method_25_code 29 = .ok (.iconst 0, 1) := by decide +kernel
theorem d16_30 : decode prog_2_method_25_code 30 = .ok (.iload_n 3, 1) := by decide +kernel
theorem d16_31 : decode prog_2_method_25_code 31 = .ok (.invokestatic 148, 3) := by decide +kernel
theorem w108 {Z : State} {a0 : Array Value} (hw : ∀ d ∈ tables_1, d.before a0 Z = true) : (Jvm.Cond.methodLink "com/example/rondel/rondel/RingBuffer" (148 : Nat) ({ cls := "java/lang/System", name := "arraycopy", desc := "(Ljava/lang/Object;ILjava/lang/Object;II)V" } : Jvm.MethodName)).before a0 Z = true := hw _ (List.mem_of_getElem? (i := 108) rfl)
theorem w111 {Z : State} {a0 : Array Value} (hw : ∀ d ∈ tables_1, d.before a0 Z = true) : (Jvm.Cond.native ({ cls := "java/lang/System", name := "arraycopy", desc := "(Ljava/lang/Object;ILjava/lang/Object;II)V" } : Jvm.MethodName)).before a0 Z = true := hw _ (List.mem_of_getElem? (i := 111) rfl)
theorem w109 {Z : State} {a0 : Array Value} (hw : ∀ d ∈ tables_1, d.before a0 Z = true) : (Jvm.Cond.static ({ cls := "java/lang/System", name := "arraycopy", desc := "(Ljava/lang/Object;ILjava/lang/Object;II)V" } : Jvm.MethodName)).before a0 Z = true := hw _ (List.mem_of_getElem? (i := 109) rfl)
theorem w110 {Z : State} {a0 : Array Value} (hw : ∀ d ∈ tables_1, d.before a0 Z = true) : (Jvm.Cond.initialized "java/lang/System").before a0 Z = true := hw _ (List.mem_of_getElem? (i := 110) rfl)
theorem d16_34 : decode prog_2_method_25_code 34 = .ok (.aload_n 0, 1) := by decide +kernel
theorem d16_35 : decode prog_2_method_25_code 35 = .ok (.getfield 43, 3) := by decide +kernel
theorem d16_38 : decode prog_2_method_25_code 38 = .ok (.iconst 0, 1) := by decide +kernel
theorem d16_39 : decode prog_2_method_25_code 39 = .ok (.aload_n 1, 1) := by decide +kernel
theorem d16_40 : decode prog_2_method_25_code 40 = .ok (.iload_n 3, 1) := by decide +kernel
theorem d16_41 : decode prog_2_method_25_code 41 = .ok (.iload_n 2, 1) := by decide +kernel
theorem d16_42 : decode prog_2_method_25_code 42 = .ok (.iload_n 3, 1) := by decide +kernel
theorem d16_43 : decode prog_2_method_25_code 43 = .ok (.isub, 1) := by decide +kernel
theorem d16_44 : decode prog_2_method_25_code 44 = .ok (.invokestatic 148, 3) := by decide +kernel
theorem d16_47 : decode prog_2_method_25_code 47 = .ok (.return_, 1) := by decide +kernel
theorem d14_0 : decode prog_2_method_4_code 0 = .ok (.iload_n 1, 1) := by decide +kernel
theorem d14_1 : decode prog_2_method_4_code 1 = .ok (.invokestatic 18, 3) := by decide +kernel
theorem w23 {Z : State} {a0 : Array Value} (hw : ∀ d ∈ tables_1, d.before a0 Z = true) : (Jvm.Cond.methodLink "com/example/rondel/rondel/RingBuffer" (18 : Nat) ({ cls := "com/example/rondel/rondel/RingBuffer", name := "checkCapacity", desc := "(I)V" } : Jvm.MethodName)).before a0 Z = true := hw _ (List.mem_of_getElem? (i := 23) rfl)
theorem w25 {Z : State} {a0 : Array Value} (hw : ∀ d ∈ tables_1, d.before a0 Z = true) : (Jvm.Cond.code ({ cls := "com/example/rondel/rondel/RingBuffer", name := "checkCapacity", desc := "(I)V" } : Jvm.MethodName) prog_2_method_26_code (1 : Nat) (Option.none : Option Jvm.ClassFile.FieldType)).before a0 Z = true := hw _ (List.mem_of_getElem? (i := 25) rfl)
theorem pd_262 : parseMethodDescriptor "(I)V" = some ⟨[.int], none⟩ := by decide +kernel
theorem w24 {Z : State} {a0 : Array Value} (hw : ∀ d ∈ tables_1, d.before a0 Z = true) : (Jvm.Cond.static ({ cls := "com/example/rondel/rondel/RingBuffer", name := "checkCapacity", desc := "(I)V" } : Jvm.MethodName)).before a0 Z = true := hw _ (List.mem_of_getElem? (i := 24) rfl)
theorem d14_4 : decode prog_2_method_4_code 4 = .ok (.aload_n 0, 1) := by decide +kernel
theorem d14_5 : decode prog_2_method_4_code 5 = .ok (.invokevirtual 47, 3) := by decide +kernel
theorem d14_8 : decode prog_2_method_4_code 8 = .ok (.istore_n 2, 1) := by decide +kernel
theorem d14_9 : decode prog_2_method_4_code 9 = .ok (.iload_n 1, 1) := by decide +kernel
theorem d14_10 : decode prog_2_method_4_code 10 = .ok (.iload_n 2, 1) := by decide +kernel
theorem d14_11 : decode prog_2_method_4_code 11 = .ok (.invokestatic 51, 3) := by decide +kernel
theorem w97 {Z : State} {a0 : Array Value} (hw : ∀ d ∈ tables_1, d.before a0 Z = true) : (Jvm.Cond.methodLink "com/example/rondel/rondel/RingBuffer" (51 : Nat) ({ cls := "java/lang/Math", name := "max", desc := "(II)I" } : Jvm.MethodName)).before a0 Z = true := hw _ (List.mem_of_getElem? (i := 97) rfl)
theorem w100 {Z : State} {a0 : Array Value} (hw : ∀ d ∈ tables_1, d.before a0 Z = true) : (Jvm.Cond.code ({ cls := "java/lang/Math", name := "max", desc := "(II)I" } : Jvm.MethodName) jdk_29_method_65_code (2 : Nat) (Option.some Jvm.ClassFile.FieldType.int)).before a0 Z = true := hw _ (List.mem_of_getElem? (i := 100) rfl)
theorem w98 {Z : State} {a0 : Array Value} (hw : ∀ d ∈ tables_1, d.before a0 Z = true) : (Jvm.Cond.static ({ cls := "java/lang/Math", name := "max", desc := "(II)I" } : Jvm.MethodName)).before a0 Z = true := hw _ (List.mem_of_getElem? (i := 98) rfl)
theorem d14_14 : decode prog_2_method_4_code 14 = .ok (.istore_n 3, 1) := by decide +kernel
theorem d14_15 : decode prog_2_method_4_code 15 = .ok (.iload_n 3, 1) := by decide +kernel
theorem d14_16 : decode prog_2_method_4_code 16 = .ok (.aload_n 0, 1) := by decide +kernel
theorem d14_17 : decode prog_2_method_4_code 17 = .ok (.getfield 43, 3) := by decide +kernel
theorem d14_20 : decode prog_2_method_4_code 20 = .ok (.arraylength, 1) := by decide +kernel
theorem d14_21 : decode prog_2_method_4_code 21 = .ok (.if_icmp .eq 40, 3) := by decide +kernel
theorem d14_61 : decode prog_2_method_4_code 61 = .ok (.aload_n 0, 1) := by decide +kernel
theorem d14_62 : decode prog_2_method_4_code 62 = .ok (.iload_n 1, 1) := by decide +kernel
theorem d14_63 : decode prog_2_method_4_code 63 = .ok (.putfield 37, 3) := by decide +kernel
theorem d14_66 : decode prog_2_method_4_code 66 = .ok (.aload_n 0, 1) := by decide +kernel
theorem d14_67 : decode prog_2_method_4_code 67 = .ok (.dup, 1) := by decide +kernel
theorem d14_68 : decode prog_2_method_4_code 68 = .ok (.getfield 67, 3) := by decide +kernel
theorem d14_71 : decode prog_2_method_4_code 71 = .ok (.iconst 1, 1) := by decide +kernel
theorem d14_72 : decode prog_2_method_4_code 72 = .ok (.iadd, 1) := by decide +kernel
theorem d14_73 : decode prog_2_method_4_code 73 = .ok (.putfield 67, 3) := by decide +kernel
theorem d14_76 : decode prog_2_method_4_code 76 = .ok (.return_, 1) := by decide +kernel
theorem d14_24 : decode prog_2_method_4_code 24 = .ok (.iload_n 3, 1) := by decide +kernel
theorem d14_25 : decode prog_2_method_4_code 25 = .ok (.anewarray 41, 3) := by decide +kernel
theorem w44 {Z : State} {a0 : Array Value} (hw : ∀ d ∈ tables_1, d.before a0 Z = true) : (Jvm.Cond.classLink "com/example/rondel/rondel/RingBuffer" (41 : Nat) "java/lang/Object").before a0 Z = true := hw _ (List.mem_of_getElem? (i := 44) rfl)
theorem w45 {Z : State} {a0 : Array Value} (hw : ∀ d ∈ tables_1, d.before a0 Z = true) : (Jvm.Cond.arrayOver (Jvm.ClassFile.FieldType.object "java/lang/Object")).before a0 Z = true := hw _ (List.mem_of_getElem? (i := 45) rfl)
theorem d14_28 : decode prog_2_method_4_code 28 = .ok (.astore 4, 2) := by decide +kernel
theorem d14_30 : decode prog_2_method_4_code 30 = .ok (.aload_n 0, 1) := by decide +kernel
theorem d14_31 : decode prog_2_method_4_code 31 = .ok (.aload 4, 2) := by decide +kernel
theorem d14_33 : decode prog_2_method_4_code 33 = .ok (.invokevirtual 57, 3) := by decide +kernel
theorem w101 {Z : State} {a0 : Array Value} (hw : ∀ d ∈ tables_1, d.before a0 Z = true) : (Jvm.Cond.methodLink "com/example/rondel/rondel/RingBuffer" (57 : Nat) ({ cls := "com/example/rondel/rondel/RingBuffer", name := "copyInto", desc := "([Ljava/lang/Object;)V" } : Jvm.MethodName)).before a0 Z = true := hw _ (List.mem_of_getElem? (i := 101) rfl)
theorem w104 {Z : State} {a0 : Array Value} (hw : ∀ d ∈ tables_1, d.before a0 Z = true) : (Jvm.Cond.code ({ cls := "com/example/rondel/rondel/RingBuffer", name := "copyInto", desc := "([Ljava/lang/Object;)V" } : Jvm.MethodName) prog_2_method_25_code (4 : Nat) (Option.none : Option Jvm.ClassFile.FieldType)).before a0 Z = true := hw _ (List.mem_of_getElem? (i := 104) rfl)
theorem pd_291 : parseMethodDescriptor "([Ljava/lang/Object;)V" = some ⟨[(.array (.object "java/lang/Object"))], none⟩ := by decide +kernel
theorem w102 {Z : State} {a0 : Array Value} (hw : ∀ d ∈ tables_1, d.before a0 Z = true) : (Jvm.Cond.instanceMethod ({ cls := "com/example/rondel/rondel/RingBuffer", name := "copyInto", desc := "([Ljava/lang/Object;)V" } : Jvm.MethodName)).before a0 Z = true := hw _ (List.mem_of_getElem? (i := 102) rfl)
theorem w103 {Z : State} {a0 : Array Value} (hw : ∀ d ∈ tables_1, d.before a0 Z = true) : (Jvm.Cond.privateMethod ({ cls := "com/example/rondel/rondel/RingBuffer", name := "copyInto", desc := "([Ljava/lang/Object;)V" } : Jvm.MethodName)).before a0 Z = true := hw _ (List.mem_of_getElem? (i := 103) rfl)
theorem d14_36 : decode prog_2_method_4_code 36 = .ok (.aload_n 0, 1) := by decide +kernel
theorem d14_37 : decode prog_2_method_4_code 37 = .ok (.aload 4, 2) := by decide +kernel
theorem d14_39 : decode prog_2_method_4_code 39 = .ok (.putfield 43, 3) := by decide +kernel
theorem d14_42 : decode prog_2_method_4_code 42 = .ok (.aload_n 0, 1) := by decide +kernel
theorem d14_43 : decode prog_2_method_4_code 43 = .ok (.iconst 0, 1) := by decide +kernel
theorem d14_44 : decode prog_2_method_4_code 44 = .ok (.putfield 61, 3) := by decide +kernel
theorem d14_47 : decode prog_2_method_4_code 47 = .ok (.aload_n 0, 1) := by decide +kernel
theorem d14_48 : decode prog_2_method_4_code 48 = .ok (.iload_n 2, 1) := by decide +kernel
theorem d14_49 : decode prog_2_method_4_code 49 = .ok (.iload_n 3, 1) := by decide +kernel
theorem d14_50 : decode prog_2_method_4_code 50 = .ok (.if_icmp .ne 7, 3) := by decide +kernel
theorem d14_53 : decode prog_2_method_4_code 53 = .ok (.iconst 0, 1) := by decide +kernel
theorem d14_54 : decode prog_2_method_4_code 54 = .ok (.goto 4, 3) := by decide +kernel
theorem d14_58 : decode prog_2_method_4_code 58 = .ok (.putfield 64, 3) := by decide +kernel
theorem d14_57 : decode prog_2_method_4_code 57 = .ok (.iload_n 2, 1) := by decide +kernel
theorem d1_0 : decode prog_2_method_2_code 0 = .ok (.aload_n 0, 1) := by decide +kernel
theorem d1_1 : decode prog_2_method_2_code 1 = .ok (.invokespecial 13, 3) := by decide +kernel
theorem w9 {Z : State} {a0 : Array Value} (hw : ∀ d ∈ tables_1, d.before a0 Z = true) : (Jvm.Cond.methodLink "com/example/rondel/rondel/RingBuffer" (13 : Nat) ({ cls := "java/util/AbstractQueue", name := "<init>", desc := "()V" } : Jvm.MethodName)).before a0 Z = true := hw _ (List.mem_of_getElem? (i := 9) rfl)
theorem w13 {Z : State} {a0 : Array Value} (hw : ∀ d ∈ tables_1, d.before a0 Z = true) : (Jvm.Cond.code ({ cls := "java/util/AbstractQueue", name := "<init>", desc := "()V" } : Jvm.MethodName) jdk_2435_method_1_code (1 : Nat) (Option.none : Option Jvm.ClassFile.FieldType)).before a0 Z = true := hw _ (List.mem_of_getElem? (i := 13) rfl)
theorem w12 {Z : State} {a0 : Array Value} (hw : ∀ d ∈ tables_1, d.before a0 Z = true) : (Jvm.Cond.initialized "java/util/AbstractQueue").before a0 Z = true := hw _ (List.mem_of_getElem? (i := 12) rfl)
theorem w10 {Z : State} {a0 : Array Value} (hw : ∀ d ∈ tables_1, d.before a0 Z = true) : (Jvm.Cond.instanceMethod ({ cls := "java/util/AbstractQueue", name := "<init>", desc := "()V" } : Jvm.MethodName)).before a0 Z = true := hw _ (List.mem_of_getElem? (i := 10) rfl)
theorem d1_4 : decode prog_2_method_2_code 4 = .ok (.iload_n 1, 1) := by decide +kernel
theorem d1_5 : decode prog_2_method_2_code 5 = .ok (.invokestatic 18, 3) := by decide +kernel
theorem d1_8 : decode prog_2_method_2_code 8 = .ok (.aload_n 0, 1) := by decide +kernel
theorem d1_9 : decode prog_2_method_2_code 9 = .ok (.aload_n 2, 1) := by decide +kernel
theorem d1_10 : decode prog_2_method_2_code 10 = .ok (.ldc 22, 2) := by decide +kernel
theorem w26 {Z : State} {a0 : Array Value} (hw : ∀ d ∈ tables_1, d.before a0 Z = true) : (Jvm.Cond.stringLink "com/example/rondel/rondel/RingBuffer" (22 : Nat) "policy").before a0 Z = true := hw _ (List.mem_of_getElem? (i := 26) rfl)
theorem d1_12 : decode prog_2_method_2_code 12 = .ok (.invokestatic 24, 3) := by decide +kernel
theorem d1_15 : decode prog_2_method_2_code 15 = .ok (.getstatic 30, 3) := by decide +kernel
theorem w38 {Z : State} {a0 : Array Value} (hw : ∀ d ∈ tables_1, d.before a0 Z = true) : (Jvm.Cond.fieldLink "com/example/rondel/rondel/RingBuffer" (30 : Nat) "com/example/rondel/rondel/OverflowPolicy" "REJECT" "Lcom/example/rondel/rondel/OverflowPolicy;").before a0 Z = true := hw _ (List.mem_of_getElem? (i := 38) rfl)
theorem d1_18 : decode prog_2_method_2_code 18 = .ok (.if_acmp .ne 7, 3) := by decide +kernel
theorem d1_25 : decode prog_2_method_2_code 25 = .ok (.iconst 0, 1) := by decide +kernel
theorem d1_26 : decode prog_2_method_2_code 26 = .ok (.putfield 33, 3) := by decide +kernel
theorem d1_29 : decode prog_2_method_2_code 29 = .ok (.aload_n 0, 1) := by decide +kernel
theorem d1_30 : decode prog_2_method_2_code 30 = .ok (.iload_n 1, 1) := by decide +kernel
theorem d1_31 : decode prog_2_method_2_code 31 = .ok (.putfield 37, 3) := by decide +kernel
theorem d1_34 : decode prog_2_method_2_code 34 = .ok (.aload_n 0, 1) := by decide +kernel
theorem d1_35 : decode prog_2_method_2_code 35 = .ok (.iload_n 1, 1) := by decide +kernel
theorem d1_36 : decode prog_2_method_2_code 36 = .ok (.anewarray 41, 3) := by decide +kernel
theorem d1_39 : decode prog_2_method_2_code 39 = .ok (.putfield 43, 3) := by decide +kernel
theorem d1_42 : decode prog_2_method_2_code 42 = .ok (.return_, 1) := by decide +kernel
theorem d1_21 : decode prog_2_method_2_code 21 = .ok (.iconst 1, 1) := by decide +kernel
theorem d1_22 : decode prog_2_method_2_code 22 = .ok (.goto 4, 3) := by decide +kernel
theorem d9_0 : decode jdk_33_method_22_code 0 = .ok (.iload_n 0, 1) := by decide +kernel
theorem d9_1 : decode jdk_33_method_22_code 1 = .ok (.bipush (-128), 2) := by decide +kernel
theorem d9_3 : decode jdk_33_method_22_code 3 = .ok (.if_icmp .lt 20, 3) := by decide +kernel
theorem d9_6 : decode jdk_33_method_22_code 6 = .ok (.iload_n 0, 1) := by decide +kernel
theorem d9_7 : decode jdk_33_method_22_code 7 = .ok (.getstatic 191, 3) := by decide +kernel
theorem w67 {Z : State} {a0 : Array Value} (hw : ∀ d ∈ tables_1, d.before a0 Z = true) : (Jvm.Cond.fieldLink "java/lang/Integer" (191 : Nat) "java/lang/Integer$IntegerCache" "high" "I").before a0 Z = true := hw _ (List.mem_of_getElem? (i := 67) rfl)
theorem d9_10 : decode jdk_33_method_22_code 10 = .ok (.if_icmp .gt 13, 3) := by decide +kernel
theorem d9_13 : decode jdk_33_method_22_code 13 = .ok (.getstatic 195, 3) := by decide +kernel
theorem w69 {Z : State} {a0 : Array Value} (hw : ∀ d ∈ tables_1, d.before a0 Z = true) : (Jvm.Cond.fieldLink "java/lang/Integer" (195 : Nat) "java/lang/Integer$IntegerCache" "cache" "[Ljava/lang/Integer;").before a0 Z = true := hw _ (List.mem_of_getElem? (i := 69) rfl)
theorem d9_16 : decode jdk_33_method_22_code 16 = .ok (.iload_n 0, 1) := by decide +kernel
theorem d9_17 : decode jdk_33_method_22_code 17 = .ok (.sipush 128, 3) := by decide +kernel
theorem d9_20 : decode jdk_33_method_22_code 20 = .ok (.iadd, 1) := by decide +kernel
theorem d9_21 : decode jdk_33_method_22_code 21 = .ok (.aaload, 1) := by decide +kernel
theorem d9_22 : decode jdk_33_method_22_code 22 = .ok (.areturn, 1) := by decide +kernel
theorem pn_340 : plainName "java/lang/Integer" = true := by first | (simp [plainName, overriddenIn]; done) | decide +kernel
theorem d7_0 : decode method_3_code 0 = .ok (.iload 4, 2) := by decide +kernel
theorem d7_2 : decode method_3_code 2 = .ok (.iload 5, 2) := by decide +kernel
theorem d7_4 : decode method_3_code 4 = .ok (.if_icmp .lt 4, 3) := by decide +kernel
theorem d7_8 : decode method_3_code 8 = .ok (.iload_n 2, 1) := by decide +kernel
theorem d7_9 : decode method_3_code 9 = .ok (.iconst 2, 1) := by decide +kernel
theorem d7_10 : decode method_3_code 10 = .ok (.iload 4, 2) := by decide +kernel
theorem d7_12 : decode method_3_code 12 = .ok (.imul, 1) := by decide +kernel
theorem d7_13 : decode method_3_code 13 = .ok (.iushr, 1) := by decide +kernel
theorem d7_14 : decode method_3_code 14 = .ok (.iconst 3, 1) := by decide +kernel
theorem d7_15 : decode method_3_code 15 = .ok (.iand, 1) := by decide +kernel
theorem d7_16 : decode method_3_code 16 = .ok (.istore 6, 2) := by decide +kernel
theorem d7_18 : decode method_3_code 18 = .ok (.iload 6, 2) := by decide +kernel
theorem d7_20 : decode method_3_code 20 = .ok (.iconst 1, 1) := by decide +kernel
theorem d7_21 : decode method_3_code 21 = .ok (.if_icmp .gt 33, 3) := by decide +kernel
theorem d7_54 : decode method_3_code 54 = .ok (.iload 6, 2) := by decide +kernel
theorem d7_56 : decode method_3_code 56 = .ok (.iconst 2, 1) := by decide +kernel
theorem d7_57 : decode method_3_code 57 = .ok (.if_icmp .ne 25, 3) := by decide +kernel
theorem d7_60 : decode method_3_code 60 = .ok (.aload_n 0, 1) := by decide +kernel
theorem d7_61 : decode method_3_code 61 = .ok (.invokevirtual 41, 3) := by decide +kernel
theorem w114 {Z : State} {a0 : Array Value} (hw : ∀ d ∈ tables_1, d.before a0 Z = true) : (Jvm.Cond.methodLink "com/example/rondel/rondel/RingBufferSizePinLaw" (41 : Nat) ({ cls := "com/example/rondel/rondel/RingBuffer", name := "poll", desc := "()Ljava/lang/Object;" } : Jvm.MethodName)).before a0 Z = true := hw _ (List.mem_of_getElem? (i := 114) rfl)
theorem w118 {Z : State} {a0 : Array Value} (hw : ∀ d ∈ tables_1, d.before a0 Z = true) : (Jvm.Cond.code ({ cls := "com/example/rondel/rondel/RingBuffer", name := "poll", desc := "()Ljava/lang/Object;" } : Jvm.MethodName) prog_2_method_11_code (2 : Nat) (Option.some (Jvm.ClassFile.FieldType.object "java/lang/Object"))).before a0 Z = true := hw _ (List.mem_of_getElem? (i := 118) rfl)
theorem w115 {Z : State} {a0 : Array Value} (hw : ∀ d ∈ tables_1, d.before a0 Z = true) : (Jvm.Cond.declares ({ cls := "com/example/rondel/rondel/RingBuffer", name := "poll", desc := "()Ljava/lang/Object;" } : Jvm.MethodName)).before a0 Z = true := hw _ (List.mem_of_getElem? (i := 115) rfl)
theorem w117 {Z : State} {a0 : Array Value} (hw : ∀ d ∈ tables_1, d.before a0 Z = true) : (Jvm.Cond.selects "com/example/rondel/rondel/RingBuffer" ({ cls := "com/example/rondel/rondel/RingBuffer", name := "poll", desc := "()Ljava/lang/Object;" } : Jvm.MethodName) ({ cls := "com/example/rondel/rondel/RingBuffer", name := "poll", desc := "()Ljava/lang/Object;" } : Jvm.MethodName)).before a0 Z = true := hw _ (List.mem_of_getElem? (i := 117) rfl)
theorem w116 {Z : State} {a0 : Array Value} (hw : ∀ d ∈ tables_1, d.before a0 Z = true) : (Jvm.Cond.instanceMethod ({ cls := "com/example/rondel/rondel/RingBuffer", name := "poll", desc := "()Ljava/lang/Object;" } : Jvm.MethodName)).before a0 Z = true := hw _ (List.mem_of_getElem? (i := 116) rfl)
theorem d7_64 : decode method_3_code 64 = .ok (.pop, 1) := by decide +kernel
theorem d7_65 : decode method_3_code 65 = .ok (.aload_n 1, 1) := by decide +kernel
theorem d7_66 : decode method_3_code 66 = .ok (.iconst 0, 1) := by decide +kernel
theorem d7_67 : decode method_3_code 67 = .ok (.iaload, 1) := by decide +kernel
theorem d7_68 : decode method_3_code 68 = .ok (.ifCond .le 37, 3) := by decide +kernel
theorem d7_71 : decode method_3_code 71 = .ok (.aload_n 1, 1) := by decide +kernel
theorem d7_72 : decode method_3_code 72 = .ok (.iconst 0, 1) := by decide +kernel
theorem d7_73 : decode method_3_code 73 = .ok (.aload_n 1, 1) := by decide +kernel
theorem d7_74 : decode method_3_code 74 = .ok (.iconst 0, 1) := by decide +kernel
theorem d7_75 : decode method_3_code 75 = .ok (.iaload, 1) := by decide +kernel
theorem d7_76 : decode method_3_code 76 = .ok (.iconst 1, 1) := by decide +kernel
theorem d7_77 : decode method_3_code 77 = .ok (.isub, 1) := by decide +kernel
theorem d7_78 : decode method_3_code 78 = .ok (.iastore, 1) := by decide +kernel
theorem d7_79 : decode method_3_code 79 = .ok (.goto 26, 3) := by decide +kernel
theorem d7_105 : decode method_3_code 105 = .ok (.return_, 1) := by decide +kernel
theorem d7_82 : decode method_3_code 82 = .ok (.iconst 1, 1) := by decide +kernel
theorem d7_83 : decode method_3_code 83 = .ok (.iload_n 3, 1) := by decide +kernel
theorem d7_84 : decode method_3_code 84 = .ok (.iconst 2, 1) := by decide +kernel
theorem d7_85 : decode method_3_code 85 = .ok (.iload 4, 2) := by decide +kernel
theorem d7_87 : decode method_3_code 87 = .ok (.imul, 1) := by decide +kernel
theorem d7_88 : decode method_3_code 88 = .ok (.iushr, 1) := by decide +kernel
theorem d7_89 : decode method_3_code 89 = .ok (.iconst 3, 1) := by decide +kernel
theorem d7_90 : decode method_3_code 90 = .ok (.iand, 1) := by decide +kernel
theorem d7_91 : decode method_3_code 91 = .ok (.iadd, 1) := by decide +kernel
theorem d7_92 : decode method_3_code 92 = .ok (.istore 7, 2) := by decide +kernel
theorem d7_94 : decode method_3_code 94 = .ok (.aload_n 0, 1) := by decide +kernel
theorem d7_95 : decode method_3_code 95 = .ok (.iload 7, 2) := by decide +kernel
theorem d7_97 : decode method_3_code 97 = .ok (.invokevirtual 45, 3) := by decide +kernel
theorem w91 {Z : State} {a0 : Array Value} (hw : ∀ d ∈ tables_1, d.before a0 Z = true) : (Jvm.Cond.methodLink "com/example/rondel/rondel/RingBufferSizePinLaw" (45 : Nat) ({ cls := "com/example/rondel/rondel/RingBuffer", name := "setCapacity", desc := "(I)V" } : Jvm.MethodName)).before a0 Z = true := hw _ (List.mem_of_getElem? (i := 91) rfl)
theorem w95 {Z : State} {a0 : Array Value} (hw : ∀ d ∈ tables_1, d.before a0 Z = true) : (Jvm.Cond.code ({ cls := "com/example/rondel/rondel/RingBuffer", name := "setCapacity", desc := "(I)V" } : Jvm.MethodName) prog_2_method_4_code (5 : Nat) (Option.none : Option Jvm.ClassFile.FieldType)).before a0 Z = true := hw _ (List.mem_of_getElem? (i := 95) rfl)
theorem w92 {Z : State} {a0 : Array Value} (hw : ∀ d ∈ tables_1, d.before a0 Z = true) : (Jvm.Cond.declares ({ cls := "com/example/rondel/rondel/RingBuffer", name := "setCapacity", desc := "(I)V" } : Jvm.MethodName)).before a0 Z = true := hw _ (List.mem_of_getElem? (i := 92) rfl)
theorem w94 {Z : State} {a0 : Array Value} (hw : ∀ d ∈ tables_1, d.before a0 Z = true) : (Jvm.Cond.selects "com/example/rondel/rondel/RingBuffer" ({ cls := "com/example/rondel/rondel/RingBuffer", name := "setCapacity", desc := "(I)V" } : Jvm.MethodName) ({ cls := "com/example/rondel/rondel/RingBuffer", name := "setCapacity", desc := "(I)V" } : Jvm.MethodName)).before a0 Z = true := hw _ (List.mem_of_getElem? (i := 94) rfl)
theorem w93 {Z : State} {a0 : Array Value} (hw : ∀ d ∈ tables_1, d.before a0 Z = true) : (Jvm.Cond.instanceMethod ({ cls := "com/example/rondel/rondel/RingBuffer", name := "setCapacity", desc := "(I)V" } : Jvm.MethodName)).before a0 Z = true := hw _ (List.mem_of_getElem? (i := 93) rfl)
theorem d7_100 : decode method_3_code 100 = .ok (.aload_n 1, 1) := by decide +kernel
theorem d7_101 : decode method_3_code 101 = .ok (.iconst 1, 1) := by decide +kernel
theorem d7_102 : decode method_3_code 102 = .ok (.iload 7, 2) := by decide +kernel
theorem d7_104 : decode method_3_code 104 = .ok (.iastore, 1) := by decide +kernel
theorem d7_24 : decode method_3_code 24 = .ok (.aload_n 0, 1) := by decide +kernel
theorem d7_25 : decode method_3_code 25 = .ok (.iload 4, 2) := by decide +kernel
theorem d7_27 : decode method_3_code 27 = .ok (.invokestatic 31, 3) := by decide +kernel
theorem w63 {Z : State} {a0 : Array Value} (hw : ∀ d ∈ tables_1, d.before a0 Z = true) : (Jvm.Cond.methodLink "com/example/rondel/rondel/RingBufferSizePinLaw" (31 : Nat) ({ cls := "java/lang/Integer", name := "valueOf", desc := "(I)Ljava/lang/Integer;" } : Jvm.MethodName)).before a0 Z = true := hw _ (List.mem_of_getElem? (i := 63) rfl)
theorem w66 {Z : State} {a0 : Array Value} (hw : ∀ d ∈ tables_1, d.before a0 Z = true) : (Jvm.Cond.code ({ cls := "java/lang/Integer", name := "valueOf", desc := "(I)Ljava/lang/Integer;" } : Jvm.MethodName) jdk_33_method_22_code (1 : Nat) (Option.some (Jvm.ClassFile.FieldType.object "java/lang/Integer"))).before a0 Z = true := hw _ (List.mem_of_getElem? (i := 66) rfl)
theorem w65 {Z : State} {a0 : Array Value} (hw : ∀ d ∈ tables_1, d.before a0 Z = true) : (Jvm.Cond.initialized "java/lang/Integer").before a0 Z = true := hw _ (List.mem_of_getElem? (i := 65) rfl)
theorem pd_395 : parseMethodDescriptor "(I)Ljava/lang/Integer;" = some ⟨[.int], some (.object "java/lang/Integer")⟩ := by decide +kernel
theorem w64 {Z : State} {a0 : Array Value} (hw : ∀ d ∈ tables_1, d.before a0 Z = true) : (Jvm.Cond.static ({ cls := "java/lang/Integer", name := "valueOf", desc := "(I)Ljava/lang/Integer;" } : Jvm.MethodName)).before a0 Z = true := hw _ (List.mem_of_getElem? (i := 64) rfl)
theorem d7_30 : decode method_3_code 30 = .ok (.invokevirtual 37, 3) := by decide +kernel
theorem w70 {Z : State} {a0 : Array Value} (hw : ∀ d ∈ tables_1, d.before a0 Z = true) : (Jvm.Cond.methodLink "com/example/rondel/rondel/RingBufferSizePinLaw" (37 : Nat) ({ cls := "com/example/rondel/rondel/RingBuffer", name := "offer", desc := "(Ljava/lang/Object;)Z" } : Jvm.MethodName)).before a0 Z = true := hw _ (List.mem_of_getElem? (i := 70) rfl)
theorem w74 {Z : State} {a0 : Array Value} (hw : ∀ d ∈ tables_1, d.before a0 Z = true) : (Jvm.Cond.code ({ cls := "com/example/rondel/rondel/RingBuffer", name := "offer", desc := "(Ljava/lang/Object;)Z" } : Jvm.MethodName) prog_2_method_10_code (2 : Nat) (Option.some Jvm.ClassFile.FieldType.boolean)).before a0 Z = true := hw _ (List.mem_of_getElem? (i := 74) rfl)
theorem pd_397 : parseMethodDescriptor "(Ljava/lang/Object;)Z" = some ⟨[(.object "java/lang/Object")], some .boolean⟩ := by decide +kernel
theorem w71 {Z : State} {a0 : Array Value} (hw : ∀ d ∈ tables_1, d.before a0 Z = true) : (Jvm.Cond.declares ({ cls := "com/example/rondel/rondel/RingBuffer", name := "offer", desc := "(Ljava/lang/Object;)Z" } : Jvm.MethodName)).before a0 Z = true := hw _ (List.mem_of_getElem? (i := 71) rfl)
theorem w73 {Z : State} {a0 : Array Value} (hw : ∀ d ∈ tables_1, d.before a0 Z = true) : (Jvm.Cond.selects "com/example/rondel/rondel/RingBuffer" ({ cls := "com/example/rondel/rondel/RingBuffer", name := "offer", desc := "(Ljava/lang/Object;)Z" } : Jvm.MethodName) ({ cls := "com/example/rondel/rondel/RingBuffer", name := "offer", desc := "(Ljava/lang/Object;)Z" } : Jvm.MethodName)).before a0 Z = true := hw _ (List.mem_of_getElem? (i := 73) rfl)
theorem w72 {Z : State} {a0 : Array Value} (hw : ∀ d ∈ tables_1, d.before a0 Z = true) : (Jvm.Cond.instanceMethod ({ cls := "com/example/rondel/rondel/RingBuffer", name := "offer", desc := "(Ljava/lang/Object;)Z" } : Jvm.MethodName)).before a0 Z = true := hw _ (List.mem_of_getElem? (i := 72) rfl)
theorem d7_33 : decode method_3_code 33 = .ok (.pop, 1) := by decide +kernel
theorem d7_34 : decode method_3_code 34 = .ok (.aload_n 1, 1) := by decide +kernel
theorem d7_35 : decode method_3_code 35 = .ok (.iconst 0, 1) := by decide +kernel
theorem d7_36 : decode method_3_code 36 = .ok (.iaload, 1) := by decide +kernel
theorem d7_37 : decode method_3_code 37 = .ok (.aload_n 1, 1) := by decide +kernel
theorem d7_38 : decode method_3_code 38 = .ok (.iconst 1, 1) := by decide +kernel
theorem d7_39 : decode method_3_code 39 = .ok (.iaload, 1) := by decide +kernel
theorem d7_40 : decode method_3_code 40 = .ok (.if_icmp .ge 65, 3) := by decide +kernel
theorem d7_43 : decode method_3_code 43 = .ok (.aload_n 1, 1) := by decide +kernel
theorem d7_44 : decode method_3_code 44 = .ok (.iconst 0, 1) := by decide +kernel
theorem d7_45 : decode method_3_code 45 = .ok (.aload_n 1, 1) := by decide +kernel
theorem d7_46 : decode method_3_code 46 = .ok (.iconst 0, 1) := by decide +kernel
theorem d7_47 : decode method_3_code 47 = .ok (.iaload, 1) := by decide +kernel
theorem d7_48 : decode method_3_code 48 = .ok (.iconst 1, 1) := by decide +kernel
theorem d7_49 : decode method_3_code 49 = .ok (.iadd, 1) := by decide +kernel
theorem d7_50 : decode method_3_code 50 = .ok (.iastore, 1) := by decide +kernel
theorem d7_51 : decode method_3_code 51 = .ok (.goto 54, 3) := by decide +kernel
theorem d7_7 : decode method_3_code 7 = .ok (.return_, 1) := by decide +kernel
theorem pn_416 : plainName "com/example/rondel/rondel/RingBufferSizePinLaw" = true := by first | (simp [plainName, overriddenIn]; done) | decide +kernel
theorem w0 {Z : State} {a0 : Array Value} (hw : ∀ d ∈ tables_1, d.before a0 Z = true) : (Jvm.Cond.fieldLink "com/example/rondel/rondel/RingBufferSizePinLaw" (13 : Nat) "com/example/rondel/rondel/OverflowPolicy" "EVICT_OLDEST" "Lcom/example/rondel/rondel/OverflowPolicy;").before a0 Z = true := hw _ (List.mem_of_getElem? (i := 0) rfl)
theorem w3 {Z : State} {a0 : Array Value} (hw : ∀ d ∈ tables_1, d.before a0 Z = true) : (Jvm.Cond.classLink "com/example/rondel/rondel/RingBufferSizePinLaw" (16 : Nat) "com/example/rondel/rondel/RingBuffer").before a0 Z = true := hw _ (List.mem_of_getElem? (i := 3) rfl)
theorem w6 {Z : State} {a0 : Array Value} (hw : ∀ d ∈ tables_1, d.before a0 Z = true) : (Jvm.Cond.methodLink "com/example/rondel/rondel/RingBufferSizePinLaw" (18 : Nat) ({ cls := "com/example/rondel/rondel/RingBuffer", name := "<init>", desc := "(ILcom/example/rondel/rondel/OverflowPolicy;)V" } : Jvm.MethodName)).before a0 Z = true := hw _ (List.mem_of_getElem? (i := 6) rfl)
theorem w8 {Z : State} {a0 : Array Value} (hw : ∀ d ∈ tables_1, d.before a0 Z = true) : (Jvm.Cond.code ({ cls := "com/example/rondel/rondel/RingBuffer", name := "<init>", desc := "(ILcom/example/rondel/rondel/OverflowPolicy;)V" } : Jvm.MethodName) prog_2_method_2_code (3 : Nat) (Option.none : Option Jvm.ClassFile.FieldType)).before a0 Z = true := hw _ (List.mem_of_getElem? (i := 8) rfl)
theorem pd_417 : parseMethodDescriptor "(ILcom/example/rondel/rondel/OverflowPolicy;)V" = some ⟨[.int, (.object "com/example/rondel/rondel/OverflowPolicy")], none⟩ := by decide +kernel
theorem w7 {Z : State} {a0 : Array Value} (hw : ∀ d ∈ tables_1, d.before a0 Z = true) : (Jvm.Cond.instanceMethod ({ cls := "com/example/rondel/rondel/RingBuffer", name := "<init>", desc := "(ILcom/example/rondel/rondel/OverflowPolicy;)V" } : Jvm.MethodName)).before a0 Z = true := hw _ (List.mem_of_getElem? (i := 7) rfl)
theorem w48 {Z : State} {a0 : Array Value} (hw : ∀ d ∈ tables_1, d.before a0 Z = true) : (Jvm.Cond.arrayClass Jvm.ClassFile.FieldType.int).before a0 Z = true := hw _ (List.mem_of_getElem? (i := 48) rfl)
theorem w49 {Z : State} {a0 : Array Value} (hw : ∀ d ∈ tables_1, d.before a0 Z = true) : (Jvm.Cond.methodLink "com/example/rondel/rondel/RingBufferSizePinLaw" (21 : Nat) ({ cls := "com/example/rondel/rondel/RingBufferSizePinLaw", name := "step", desc := "(Lcom/example/rondel/rondel/RingBuffer;[IIIII)V" } : Jvm.MethodName)).before a0 Z = true := hw _ (List.mem_of_getElem? (i := 49) rfl)
theorem w52 {Z : State} {a0 : Array Value} (hw : ∀ d ∈ tables_1, d.before a0 Z = true) : (Jvm.Cond.code ({ cls := "com/example/rondel/rondel/RingBufferSizePinLaw", name := "step", desc := "(Lcom/example/rondel/rondel/RingBuffer;[IIIII)V" } : Jvm.MethodName) method_3_code (8 : Nat) (Option.none : Option Jvm.ClassFile.FieldType)).before a0 Z = true := hw _ (List.mem_of_getElem? (i := 52) rfl)
theorem w51 {Z : State} {a0 : Array Value} (hw : ∀ d ∈ tables_1, d.before a0 Z = true) : (Jvm.Cond.initialized "com/example/rondel/rondel/RingBufferSizePinLaw").before a0 Z = true := hw _ (List.mem_of_getElem? (i := 51) rfl)
theorem pd_418 : parseMethodDescriptor "(Lcom/example/rondel/rondel/RingBuffer;[IIIII)V" = some ⟨[(.object "com/example/rondel/rondel/RingBuffer"), (.array .int), .int, .int, .int, .int], none⟩ := by decide +kernel
theorem w50 {Z : State} {a0 : Array Value} (hw : ∀ d ∈ tables_1, d.before a0 Z = true) : (Jvm.Cond.static ({ cls := "com/example/rondel/rondel/RingBufferSizePinLaw", name := "step", desc := "(Lcom/example/rondel/rondel/RingBuffer;[IIIII)V" } : Jvm.MethodName)).before a0 Z = true := hw _ (List.mem_of_getElem? (i := 50) rfl)
theorem w53 {Z : State} {a0 : Array Value} (hw : ∀ d ∈ tables_1, d.before a0 Z = true) : (Jvm.Cond.methodLink "com/example/rondel/rondel/RingBufferSizePinLaw" (27 : Nat) ({ cls := "com/example/rondel/rondel/RingBuffer", name := "size", desc := "()I" } : Jvm.MethodName)).before a0 Z = true := hw _ (List.mem_of_getElem? (i := 53) rfl)
theorem w62 {Z : State} {a0 : Array Value} (hw : ∀ d ∈ tables_1, d.before a0 Z = true) : (Jvm.Cond.fieldLink "com/example/rondel/rondel/RingBufferSizePinLaw" (7 : Nat) "com/example/rondel/rondel/OverflowPolicy" "REJECT" "Lcom/example/rondel/rondel/OverflowPolicy;").before a0 Z = true := hw _ (List.mem_of_getElem? (i := 62) rfl)
theorem own_EL {Z : State} {a0 : Array Value} (hw : ∀ d ∈ tables_1, d.before a0 Z = true) : EW Z a0 consts_1 := EW.nil
theorem own_SA {Z : State} {a0 : Array Value} (hw : ∀ d ∈ tables_1, d.before a0 Z = true) : ∀ d ∈ Bundle.stringAtoms, d.before a0 Z = true := fun d hd => hw d ((by decide +kernel : ∀ d ∈ Bundle.stringAtoms, d ∈ tables_1) d hd)
set_option maxRecDepth 65536 in
set_option maxHeartbeats 40000000 in
theorem rm_cc {l : Launch} {Z : State} {a0 : Array Value} (hw : ∀ d ∈ tables_1, d.before a0 Z = true) {x1 : Int32} {a_EVICT_OLDEST : Addr} {a_REJECT : Addr} {a_REFUSED : Addr} {ca : Addr} {cc : Cell} {h0 : Heap} {n0 : Nat} (O : Old Z n0 h0) (W : Wd Z a_EVICT_OLDEST a_REJECT a_REFUSED ca cc) (hx : ¬ x1 < 1) :
    Met0 l Z (⟨"com/example/rondel/rondel/RingBuffer", "checkCapacity", "(I)V"⟩ : MethodName) prog_2_method_26_code 1 none ({ frames := 0, cells := 0, slots := 0, locals := 0 } : Room) #[(.int x1)] h0 n0 (fun h => h0 = h) := by
  refine met_of (L := #[.val (.int x1)]) (plainFor_of_name pn_4) (fun m => by first | (simp [entryFrame, mkF, argsToLocals, Value.category]; done) | rfl) ?_
  intro p e s m below meth c T C X
  change Cx p s m meth c Z "com/example/rondel/rondel/RingBuffer" prog_2_method_26_code 1 none "checkCapacity" at C
  refine g_iloadN C X d5_0 (q := 1) rfl rfl ?_
  refine g_iconst C X d5_1 (q := 2) rfl (z := (1 : Int32)) rfl ?_
  refine g_icY C X d5_2 (by decide) (q := 19) (by decide) (flt hx).2.1 ?_
  exact g_retV C X d5_19 (by decide) (by decide) ⟨rfl, rfl⟩
set_option maxRecDepth 65536 in
set_option maxHeartbeats 40000000 in
theorem rm_max {l : Launch} {Z : State} {a0 : Array Value} (hw : ∀ d ∈ tables_1, d.before a0 Z = true) {x1 x2 x3 : Int32} {a_EVICT_OLDEST : Addr} {a_REJECT : Addr} {a_REFUSED : Addr} {ca : Addr} {cc : Cell} {h0 : Heap} {n0 : Nat} (O : Old Z n0 h0) (W : Wd Z a_EVICT_OLDEST a_REJECT a_REFUSED ca cc) (er : imax x1 x2 = x3) :
    Met1 l Z (⟨"java/lang/Math", "max", "(II)I"⟩ : MethodName) jdk_29_method_65_code 2 (some .int) ({ frames := 0, cells := 0, slots := 0, locals := 0 } : Room) #[(.int x1), (.int x2)] h0 n0 (fun v h => v = .int x3 ∧ h0 = h) := by
  refine met_of (L := #[.val (.int x1), .val (.int x2)]) (Jvm.Free.JP.mathPlain rfl (by decide +kernel)) (fun m => by first | (simp [entryFrame, mkF, argsToLocals, Value.category]; done) | rfl) ?_
  intro p e s m below meth c T C X
  change Cx p s m meth c Z "java/lang/Math" jdk_29_method_65_code 2 (some .int) "max" at C
  refine g_iloadN C X d15_0 (q := 1) rfl rfl ?_
  refine g_iloadN C X d15_1 (q := 2) rfl rfl ?_
  by_cases hc1 : x1 < x2
  · refine g_icY C X d15_2 (by decide) (q := 9) (by decide) (tlt hc1).1 ?_
    refine g_iloadN C X d15_9 (q := 10) rfl rfl ?_
    exact g_retI C X d15_10 (by decide) (by decide) ⟨_, rfl, by rw [← er, imax, if_pos hc1], rfl⟩
  · refine g_icN C X d15_2 (q := 5) rfl (flt hc1).1 ?_
    refine g_iloadN C X d15_5 (q := 6) rfl rfl ?_
    refine g_goto C X d15_6 (by decide) (q := 10) (by decide) ?_
    exact g_retI C X d15_10 (by decide) (by decide) ⟨_, rfl, by rw [← er, imax, if_neg hc1], rfl⟩
set_option maxRecDepth 65536 in
set_option maxHeartbeats 40000000 in
theorem rm_min {l : Launch} {Z : State} {a0 : Array Value} (hw : ∀ d ∈ tables_1, d.before a0 Z = true) {x1 x2 x3 : Int32} {a_EVICT_OLDEST : Addr} {a_REJECT : Addr} {a_REFUSED : Addr} {ca : Addr} {cc : Cell} {h0 : Heap} {n0 : Nat} (O : Old Z n0 h0) (W : Wd Z a_EVICT_OLDEST a_REJECT a_REFUSED ca cc) (er : imin x1 x2 = x3) :
    Met1 l Z (⟨"java/lang/Math", "min", "(II)I"⟩ : MethodName) jdk_29_method_69_code 2 (some .int) ({ frames := 0, cells := 0, slots := 0, locals := 0 } : Room) #[(.int x1), (.int x2)] h0 n0 (fun v h => v = .int x3 ∧ h0 = h) := by
  refine met_of (L := #[.val (.int x1), .val (.int x2)]) (Jvm.Free.JP.mathPlain rfl (by decide +kernel)) (fun m => by first | (simp [entryFrame, mkF, argsToLocals, Value.category]; done) | rfl) ?_
  intro p e s m below meth c T C X
  change Cx p s m meth c Z "java/lang/Math" jdk_29_method_69_code 2 (some .int) "min" at C
  refine g_iloadN C X d17_0 (q := 1) rfl rfl ?_
  refine g_iloadN C X d17_1 (q := 2) rfl rfl ?_
  by_cases hc1 : x2 < x1
  · refine g_icY C X d17_2 (by decide) (q := 9) (by decide) (tlt hc1).2.2.1 ?_
    refine g_iloadN C X d17_9 (q := 10) rfl rfl ?_
    exact g_retI C X d17_10 (by decide) (by decide) ⟨_, rfl, by rw [← er, imin, if_pos hc1], rfl⟩
  · refine g_icN C X d17_2 (q := 5) rfl (flt hc1).2.2.1 ?_
    refine g_iloadN C X d17_5 (q := 6) rfl rfl ?_
    refine g_goto C X d17_6 (by decide) (q := 10) (by decide) ?_
    exact g_retI C X d17_10 (by decide) (by decide) ⟨_, rfl, by rw [← er, imin, if_neg hc1], rfl⟩
set_option maxRecDepth 65536 in
set_option maxHeartbeats 40000000 in
theorem rm_rn {l : Launch} {Z : State} {a0 : Array Value} (hw : ∀ d ∈ tables_1, d.before a0 Z = true) {ob os : Addr} {a_EVICT_OLDEST : Addr} {a_REJECT : Addr} {a_REFUSED : Addr} {ca : Addr} {cc : Cell} {h0 : Heap} {n0 : Nat} (O : Old Z n0 h0) (W : Wd Z a_EVICT_OLDEST a_REJECT a_REFUSED ca cc)  :
    Met1 l Z (⟨"java/util/Objects", "requireNonNull", "(Ljava/lang/Object;Ljava/lang/String;)Ljava/lang/Object;"⟩ : MethodName) jdk_31_method_11_code 2 (some (.object "java/lang/Object")) ({ frames := 0, cells := 0, slots := 0, locals := 0 } : Room) #[(.ref ob), (.ref os)] h0 n0 (fun v h => v = .ref ob ∧ h0 = h) := by
  refine met_of (L := #[.val (.ref ob), .val (.ref os)]) (plainFor_of_name pn_23) (fun m => by first | (simp [entryFrame, mkF, argsToLocals, Value.category]; done) | rfl) ?_
  intro p e s m below meth c T C X
  change Cx p s m meth c Z "java/util/Objects" jdk_31_method_11_code 2 (some (.object "java/lang/Object")) "requireNonNull" at C
  refine g_aloadN C X d6_0 (q := 1) rfl rfl rfl ?_
  refine g_nonY C X d6_1 (by decide) (q := 13) (by decide) ?_
  refine g_aloadN C X d6_13 (q := 14) rfl rfl rfl ?_
  exact g_retA C X rfl rfl d6_14 (by decide) (by decide) ⟨_, rfl, rfl, rfl⟩
set_option maxRecDepth 65536 in
set_option maxHeartbeats 40000000 in
theorem rm_AbstractCollection {l : Launch} {Z : State} {a0 : Array Value} (hw : ∀ d ∈ tables_1, d.before a0 Z = true) {oo : Addr} {a_EVICT_OLDEST : Addr} {a_REJECT : Addr} {a_REFUSED : Addr} {ca : Addr} {cc : Cell} {h0 : Heap} {n0 : Nat} (O : Old Z n0 h0) (W : Wd Z a_EVICT_OLDEST a_REJECT a_REFUSED ca cc)  :
    Met0 l Z (⟨"java/util/AbstractCollection", "<init>", "()V"⟩ : MethodName) jdk_22_method_1_code 1 none ({ frames := 1, cells := 0, slots := 0, locals := 12 } : Room) #[(.ref oo)] h0 n0 (fun h => h0 = h) := by
  refine met_of (L := #[.val (.ref oo)]) (plainFor_of_name pn_27) (fun m => by first | (simp [entryFrame, mkF, argsToLocals, Value.category]; done) | rfl) ?_
  intro p e s m below meth c T C X
  change Cx p s m meth c Z "java/util/AbstractCollection" jdk_22_method_1_code 1 none "<init>" at C
  refine g_aloadN C X d3_0 (q := 1) rfl rfl rfl ?_
  refine g_initO C X (w20 hw) (w21 hw) (w22 hw) rfl d3_1 (q := 4) rfl (by decide) (by decide) ?_
  intro T1 X2
  exact g_retV C X2 d3_4 (by decide) (by decide) ⟨rfl, rfl⟩
set_option maxRecDepth 65536 in
set_option maxHeartbeats 40000000 in
theorem rm_AbstractQueue {l : Launch} {Z : State} {a0 : Array Value} (hw : ∀ d ∈ tables_1, d.before a0 Z = true) {oo : Addr} {a_EVICT_OLDEST : Addr} {a_REJECT : Addr} {a_REFUSED : Addr} {ca : Addr} {cc : Cell} {h0 : Heap} {n0 : Nat} (O : Old Z n0 h0) (W : Wd Z a_EVICT_OLDEST a_REJECT a_REFUSED ca cc)  :
    Met0 l Z (⟨"java/util/AbstractQueue", "<init>", "()V"⟩ : MethodName) jdk_2435_method_1_code 1 none ({ frames := 2, cells := 0, slots := 0, locals := 24 } : Room) #[(.ref oo)] h0 n0 (fun h => h0 = h) := by
  refine met_of (L := #[.val (.ref oo)]) (plainFor_of_name pn_32) (fun m => by first | (simp [entryFrame, mkF, argsToLocals, Value.category]; done) | rfl) ?_
  intro p e s m below meth c T C X
  change Cx p s m meth c Z "java/util/AbstractQueue" jdk_2435_method_1_code 1 none "<init>" at C
  refine g_aloadN C X d2_0 (q := 1) rfl rfl rfl ?_
  refine g_callI0 C X (y := (⟨"java/util/AbstractCollection", "<init>", "()V"⟩ : MethodName)) (a := oo) (by decide) rfl (w14 hw) (w15 hw) (w19 hw) (w18 hw) (rm_AbstractCollection hw (oo := oo) O W) (W := 0) (by decide) (by decide) (k' := 0) rfl (n' := 0) rfl (by decide) (by decide) rfl pd_30 (argsL := []) rfl (rest := []) rfl rfl rfl d2_1 (q := 4) rfl ?_
  rintro T1 _ X2 rfl
  exact g_retV C X2 d2_4 (by decide) (by decide) ⟨rfl, rfl⟩
set_option maxRecDepth 65536 in
set_option maxHeartbeats 40000000 in
theorem rm_adv {l : Launch} {Z : State} {a0 : Array Value} (hw : ∀ d ∈ tables_1, d.before a0 Z = true) {o0 A : Addr} {hI tI cI rI mI x1 x2 : Int32} {a_EVICT_OLDEST : Addr} {a_REJECT : Addr} {a_REFUSED : Addr} {ca : Addr} {cc : Cell} {h0 : Heap} {n0 : Nat} (O : Old Z n0 h0) (W : Wd Z a_EVICT_OLDEST a_REJECT a_REFUSED ca cc) (R0 : RBf Z h0 o0 A hI tI cI rI mI) (g0 : n0 ≤ o0) :
    Met1 l Z (⟨"com/example/rondel/rondel/RingBuffer", "advance", "(II)I"⟩ : MethodName) prog_2_method_32_code 4 (some .int) ({ frames := 0, cells := 0, slots := 0, locals := 0 } : Room) #[(.ref o0), (.int x1), (.int x2)] h0 n0 (fun v h => v = .int (adv x1 x2) ∧ Keep h0 h [o0] ∧ ∃ m', RBf Z h o0 A hI tI cI rI m') := by
  refine met_of (L := #[.val (.ref o0), .val (.int x1), .val (.int x2), .unset]) (plainFor_of_name pn_4) (fun m => by first | (simp [entryFrame, mkF, argsToLocals, Value.category]; done) | rfl) ?_
  intro p e s m below meth c T C X
  change Cx p s m meth c Z "com/example/rondel/rondel/RingBuffer" prog_2_method_32_code 4 (some .int) "advance" at C
  refine g_iloadN C X d13_0 (q := 1) rfl rfl ?_
  refine g_iconst C X d13_1 (q := 2) rfl (z := (1 : Int32)) rfl ?_
  refine g_iadd C X d13_2 (q := 3) rfl (z := (x1 + (1 : Int32))) rfl ?_
  refine g_istoreN C X d13_3 (q := 4) rfl (L' := #[.val (.ref o0), .val (.int x1), .val (.int x2), .val (.int (x1 + (1 : Int32)))]) rfl ?_
  refine g_iloadN C X d13_4 (q := 5) rfl rfl ?_
  refine g_iloadN C X d13_5 (q := 6) rfl rfl ?_
  by_cases hc1 : (x1 + (1 : Int32)) < x2
  · refine g_icY C X d13_6 (by decide) (q := 21) (by decide) (tlt hc1).1 ?_
    refine g_iloadN C X d13_21 (q := 22) rfl rfl ?_
    exact g_retI C X d13_22 (by decide) (by decide) ⟨_, rfl, by rw [adv, if_pos hc1], (Keep.refl h0 [o0]), _, ⟨R0.1, R0.2.1, R0.2.2.1, R0.2.2.2.1, R0.2.2.2.2.1, R0.2.2.2.2.2.1, R0.2.2.2.2.2.2⟩⟩
  · refine g_icN C X d13_6 (q := 9) rfl (flt hc1).1 ?_
    refine g_iconst C X d13_9 (q := 10) rfl (z := (0 : Int32)) rfl ?_
    refine g_istoreN C X d13_10 (q := 11) rfl (L' := #[.val (.ref o0), .val (.int x1), .val (.int x2), .val (.int (0 : Int32))]) rfl ?_
    refine g_aloadN C X d13_11 (q := 12) rfl rfl rfl ?_
    refine g_dup C X d13_12 (q := 13) rfl rfl ?_
    refine g_getF C X (host := "") (Or.inl (w112 hw)) Via.refl R0.2.2.2.2.2.2 d13_13 (q := 16) rfl ?_
    intro T2 X3
    refine g_iconst C X3 d13_16 (q := 17) rfl (z := (1 : Int32)) rfl ?_
    refine g_iadd C X3 d13_17 (q := 18) rfl (z := (mI + (1 : Int32))) rfl ?_
    refine g_putF C X3 (host := "") (Or.inl (w112 hw)) Via.refl R0.2.2.2.2.2.2 R0.1 (Or.inl (w113 hw)) (w4 hw) (ty := .int) (by decide) rfl rfl d13_18 (q := 21) rfl g0 ?_
    intro T4 h6 X5 W7
    have FW7 := Fld.same W7 R0.2.2.2.2.2.2
    have O8 := O.wr W7 g0
    refine g_iloadN C X5 d13_21 (q := 22) rfl rfl ?_
    exact g_retI C X5 d13_22 (by decide) (by decide) ⟨_, rfl, by rw [adv, if_neg hc1], ((Keep.refl h0 [o0]).wr W7 (Or.inl (List.mem_of_getElem? (i := 0) rfl))), _, ⟨(R0.1.wr W7), (R0.2.1.other W7 (Or.inr (slot_ne (Or.inl (w61 hw)) (Or.inl (w113 hw)) (by decide) (t := .int) (t' := .int) (by decide) (by decide)))), (R0.2.2.1.other W7 (Or.inr (slot_ne (Or.inl (w59 hw)) (Or.inl (w113 hw)) (by decide) (t := .int) (t' := .int) (by decide) (by decide)))), (R0.2.2.2.1.other W7 (Or.inr (slot_ne (Or.inl (w47 hw)) (Or.inl (w113 hw)) (by decide) (t := (.array (.object "java/lang/Object"))) (t' := .int) (by decide) (by decide)))), (R0.2.2.2.2.1.other W7 (Or.inr (slot_ne (Or.inl (w43 hw)) (Or.inl (w113 hw)) (by decide) (t := .int) (t' := .int) (by decide) (by decide)))), (R0.2.2.2.2.2.1.other W7 (Or.inr (slot_ne (Or.inr (w41 hw)) (Or.inl (w113 hw)) (by decide) (t := .boolean) (t' := .int) (by decide) (by decide)))), FW7⟩⟩
set_option maxRecDepth 65536 in
set_option maxHeartbeats 40000000 in
theorem rm_size {l : Launch} {Z : State} {a0 : Array Value} (hw : ∀ d ∈ tables_1, d.before a0 Z = true) {o0 A : Addr} {kC : ClassId} {nN hN zN cN : Nat} {rI mI : Int32} {vs : List Value} {a_EVICT_OLDEST : Addr} {a_REJECT : Addr} {a_REFUSED : Addr} {ca : Addr} {cc : Cell} {h0 : Heap} {n0 : Nat} (O : Old Z n0 h0) (W : Wd Z a_EVICT_OLDEST a_REJECT a_REFUSED ca cc) (R0 : RBf Z h0 o0 A (o32 hN) (o32 ((hN + zN) % nN)) (o32 cN) rI mI) (V0 : Arv Z h0 A kC (.object "java/lang/Object") (o32 nN) vs .null) (P0 : vs.map nb = pat nN hN zN) (I0 : ∀ v ∈ vs, IntB Z v) (B0 : Bd nN hN zN cN) (Q0 : Ovr Z kC "java/lang/Object") (na : A ≠ o0) (g0 : n0 ≤ o0) (gA : n0 ≤ A) :
    Met1 l Z (⟨"com/example/rondel/rondel/RingBuffer", "size", "()I"⟩ : MethodName) prog_2_method_7_code 2 (some .int) ({ frames := 0, cells := 0, slots := 0, locals := 0 } : Room) #[(.ref o0)] h0 n0 (fun v h => v = .int (o32 zN) ∧ h0 = h) := by
  refine met_of (L := #[.val (.ref o0), .unset]) (plainFor_of_name pn_4) (fun m => by first | (simp [entryFrame, mkF, argsToLocals, Value.category]; done) | rfl) ?_
  intro p e s m below meth c T C X
  change Cx p s m meth c Z "com/example/rondel/rondel/RingBuffer" prog_2_method_7_code 2 (some .int) "size" at C
  refine g_aloadN C X d8_0 (q := 1) rfl rfl rfl ?_
  refine g_getF C X (host := "") (Or.inl (w58 hw)) Via.refl R0.2.2.1 d8_1 (q := 4) rfl ?_
  intro T1 X2
  refine g_aloadN C X2 d8_4 (q := 5) rfl rfl rfl ?_
  refine g_getF C X2 (host := "") (Or.inl (w60 hw)) Via.refl R0.2.1 d8_5 (q := 8) rfl ?_
  intro T3 X4
  refine g_isub C X4 d8_8 (q := 9) rfl (z := ((o32 ((hN + zN) % nN)) - (o32 hN))) rfl ?_
  refine g_istoreN C X4 d8_9 (q := 10) rfl (L' := #[.val (.ref o0), .val (.int ((o32 ((hN + zN) % nN)) - (o32 hN)))]) rfl ?_
  refine g_iloadN C X4 d8_10 (q := 11) rfl rfl ?_
  by_cases hc5 : ((o32 ((hN + zN) % nN)) - (o32 hN)) < (0 : Int32)
  · refine g_ifN C X4 d8_11 (q := 14) rfl (tlt hc5).2.1 ?_
    refine g_iloadN C X4 d8_14 (q := 15) rfl rfl ?_
    refine g_aloadN C X4 d8_15 (q := 16) rfl rfl rfl ?_
    refine g_getF C X4 (host := "") (Or.inl (w46 hw)) Via.refl R0.2.2.2.1 d8_16 (q := 19) rfl ?_
    intro T6 X7
    refine g_alen C X7 V0 d8_19 (q := 20) rfl ?_
    refine g_iadd C X7 d8_20 (q := 21) rfl (z := (((o32 ((hN + zN) % nN)) - (o32 hN)) + (o32 nN))) rfl ?_
    refine g_istoreN C X7 d8_21 (q := 22) rfl (L' := #[.val (.ref o0), .val (.int (((o32 ((hN + zN) % nN)) - (o32 hN)) + (o32 nN)))]) rfl ?_
    refine g_goto C X7 d8_22 (by decide) (q := 47) (by decide) ?_
    refine g_iloadN C X7 d8_47 (q := 48) rfl rfl ?_
    exact g_retI C X7 d8_48 (by decide) (by decide) ⟨_, rfl, congrArg Value.int (r_sz1 nN B0.1 hN B0.2.1 zN B0.2.2.1 hc5), rfl⟩
  · refine g_ifY C X4 d8_11 (by decide) (q := 25) (by decide) (flt hc5).2.1 ?_
    refine g_iloadN C X4 d8_25 (q := 26) rfl rfl ?_
    by_cases hc8 : ((o32 ((hN + zN) % nN)) - (o32 hN)) = (0 : Int32)
    · refine g_ifN C X4 d8_26 (q := 29) rfl (teq hc8).2 ?_
      refine g_aloadN C X4 d8_29 (q := 30) rfl rfl rfl ?_
      refine g_getF C X4 (host := "") (Or.inl (w46 hw)) Via.refl R0.2.2.2.1 d8_30 (q := 33) rfl ?_
      intro T9 X10
      refine g_aloadN C X10 d8_33 (q := 34) rfl rfl rfl ?_
      refine g_getF C X10 (host := "") (Or.inl (w60 hw)) Via.refl R0.2.1 d8_34 (q := 37) rfl ?_
      intro T11 X12
      rcases ref_cases (IntB.ref (IntB.getD I0 (o32 hN).toNatClampNeg)) with hw13 | ⟨b14, hw13⟩
      · refine g_aaload C X12 rfl V0 (r_bd nN B0.1 hN B0.2.1).1 (w := .null) hw13 d8_37 (q := 38) rfl ?_
        refine g_nulY C X12 d8_38 (by decide) (q := 47) (by decide) ?_
        refine g_iloadN C X12 d8_47 (q := 48) rfl rfl ?_
        exact g_retI C X12 d8_48 (by decide) (by decide) ⟨_, rfl, congrArg Value.int (r_sz3 nN B0.1 hN B0.2.1 zN B0.2.2.1 hc8 (own_at B0.1 B0.2.1 P0 hw13)), rfl⟩
      · refine g_aaload C X12 rfl V0 (r_bd nN B0.1 hN B0.2.1).1 (w := (.ref b14)) hw13 d8_37 (q := 38) rfl ?_
        refine g_nulN C X12 d8_38 (q := 41) rfl ?_
        refine g_aloadN C X12 d8_41 (q := 42) rfl rfl rfl ?_
        refine g_getF C X12 (host := "") (Or.inl (w46 hw)) Via.refl R0.2.2.2.1 d8_42 (q := 45) rfl ?_
        intro T15 X16
        refine g_alen C X16 V0 d8_45 (q := 46) rfl ?_
        refine g_istoreN C X16 d8_46 (q := 47) rfl (L' := #[.val (.ref o0), .val (.int (o32 nN))]) rfl ?_
        refine g_iloadN C X16 d8_47 (q := 48) rfl rfl ?_
        exact g_retI C X16 d8_48 (by decide) (by decide) ⟨_, rfl, congrArg Value.int (r_sz4 nN B0.1 hN B0.2.1 zN B0.2.2.1 hc8 (own_at B0.1 B0.2.1 P0 hw13)), rfl⟩
    · refine g_ifY C X4 d8_26 (by decide) (q := 47) (by decide) (feq hc8).2 ?_
      refine g_iloadN C X4 d8_47 (q := 48) rfl rfl ?_
      exact g_retI C X4 d8_48 (by decide) (by decide) ⟨_, rfl, congrArg Value.int (r_sz2 nN B0.1 hN B0.2.1 zN B0.2.2.1 hc5 hc8), rfl⟩
set_option maxRecDepth 65536 in
set_option maxHeartbeats 40000000 in
theorem rm_drop {l : Launch} {Z : State} {a0 : Array Value} (hw : ∀ d ∈ tables_1, d.before a0 Z = true) {o0 A : Addr} {kC : ClassId} {nN hN zN cN : Nat} {rI mI : Int32} {vs : List Value} {a_EVICT_OLDEST : Addr} {a_REJECT : Addr} {a_REFUSED : Addr} {ca : Addr} {cc : Cell} {h0 : Heap} {n0 : Nat} (O : Old Z n0 h0) (W : Wd Z a_EVICT_OLDEST a_REJECT a_REFUSED ca cc) (R0 : RBf Z h0 o0 A (o32 hN) (o32 ((hN + zN) % nN)) (o32 cN) rI mI) (V0 : Arv Z h0 A kC (.object "java/lang/Object") (o32 nN) vs .null) (P0 : vs.map nb = pat nN hN zN) (I0 : ∀ v ∈ vs, IntB Z v) (B0 : Bd nN hN zN cN) (Q0 : Ovr Z kC "java/lang/Object") (na : A ≠ o0) (g0 : n0 ≤ o0) (gA : n0 ≤ A) (hz : 1 ≤ zN) :
    Met0 l Z (⟨"com/example/rondel/rondel/RingBuffer", "dropOldest", "()V"⟩ : MethodName) prog_2_method_30_code 3 none ({ frames := 1, cells := 0, slots := 0, locals := 16 } : Room) #[(.ref o0)] h0 n0 (fun h => Keep h0 h [o0, A] ∧ RN Z h o0 A kC nN ((hN + 1) % nN) (zN - 1) cN rI) := by
  refine met_of (L := #[.val (.ref o0), .unset, .unset]) (plainFor_of_name pn_4) (fun m => by first | (simp [entryFrame, mkF, argsToLocals, Value.category]; done) | rfl) ?_
  intro p e s m below meth c T C X
  change Cx p s m meth c Z "com/example/rondel/rondel/RingBuffer" prog_2_method_30_code 3 none "dropOldest" at C
  refine g_aloadN C X d21_0 (q := 1) rfl rfl rfl ?_
  refine g_getF C X (host := "") (Or.inl (w46 hw)) Via.refl R0.2.2.2.1 d21_1 (q := 4) rfl ?_
  intro T1 X2
  refine g_astoreN C X2 d21_4 (q := 5) rfl rfl (L' := #[.val (.ref o0), .val (.ref A), .unset]) rfl ?_
  refine g_aloadN C X2 d21_5 (q := 6) rfl rfl rfl ?_
  refine g_getF C X2 (host := "") (Or.inl (w60 hw)) Via.refl R0.2.1 d21_6 (q := 9) rfl ?_
  intro T3 X4
  refine g_istoreN C X4 d21_9 (q := 10) rfl (L' := #[.val (.ref o0), .val (.ref A), .val (.int (o32 hN))]) rfl ?_
  refine g_aloadN C X4 d21_10 (q := 11) rfl rfl rfl ?_
  refine g_iloadN C X4 d21_11 (q := 12) rfl rfl ?_
  refine g_aconstNull C X4 d21_12 (q := 13) rfl ?_
  refine g_aastore C X4 V0 rfl (Or.inl rfl) rfl (r_bd nN B0.1 hN B0.2.1).1 rfl (own_ix B0.1 B0.2.1 P0) (vs' := (vs.set (o32 hN).toNatClampNeg .null)) rfl gA d21_13 (q := 14) rfl ?_
  intro T5 h6 X7 W8 V9
  have O10 := O.wr W8 gA
  refine g_aloadN C X7 d21_14 (q := 15) rfl rfl rfl ?_
  refine g_aloadN C X7 d21_15 (q := 16) rfl rfl rfl ?_
  refine g_iloadN C X7 d21_16 (q := 17) rfl rfl ?_
  refine g_aloadN C X7 d21_17 (q := 18) rfl rfl rfl ?_
  refine g_alen C X7 V9 d21_18 (q := 19) rfl ?_
  have f11 := (R0.1.wr W8)
  have f12 := (R0.2.1.other W8 (Or.inl (Ne.symm na)))
  have f13 := (R0.2.2.1.other W8 (Or.inl (Ne.symm na)))
  have f14 := (R0.2.2.2.1.other W8 (Or.inl (Ne.symm na)))
  have f15 := (R0.2.2.2.2.1.other W8 (Or.inl (Ne.symm na)))
  have f16 := (R0.2.2.2.2.2.1.other W8 (Or.inl (Ne.symm na)))
  have f17 := (R0.2.2.2.2.2.2.other W8 (Or.inl (Ne.symm na)))
  refine g_callP1 C X7 (y := (⟨"com/example/rondel/rondel/RingBuffer", "advance", "(II)I"⟩ : MethodName)) (a := o0) (by decide) (w85 hw) (sel_priv (w4 hw) (w86 hw) (w87 hw) (by decide)) (w86 hw) (w87 hw) f11 (w88 hw) (w5 hw) (rm_adv hw (A := A) (hI := (o32 hN)) (tI := (o32 ((hN + zN) % nN))) (cI := (o32 cN)) (rI := rI) (mI := mI) (x1 := (o32 hN)) (x2 := (o32 nN)) O10 W ⟨f11, f12, f13, f14, f15, f16, f17⟩ g0) (W := 1) (by decide) (by decide) (k' := 0) rfl (n' := 0) rfl (by decide) (by decide) rfl pd_95 (argsL := [(.int (o32 hN)), (.int (o32 nN))]) rfl (rest := [(.ref o0)]) rfl rfl rfl d21_19 (q := 22) rfl ?_
  rintro _ T18 h19 X20 ⟨rfl, K21, mi22, R23⟩
  have O24 := O10.keep K21 (allS g0 all0)
  refine g_putF C X20 (host := "") (Or.inl (w60 hw)) Via.refl R23.2.1 R23.1 (Or.inl (w61 hw)) (w4 hw) (ty := .int) (by decide) rfl rfl d21_22 (q := 25) rfl g0 ?_
  intro T25 h27 X26 W28
  have FW28 := Fld.same W28 R23.2.1
  have O29 := O24.wr W28 g0
  exact g_retV C X26 d21_25 (by decide) (by decide) ⟨rfl, ((((Keep.refl h0 [o0, A]).wr W8 (Or.inl (List.mem_of_getElem? (i := 1) rfl))).trans K21 (allS (Or.inl (List.mem_of_getElem? (i := 0) rfl)) all0)).wr W28 (Or.inl (List.mem_of_getElem? (i := 0) rfl))), _, _, ⟨(R23.1.wr W28), (own_cI (r_dr nN B0.1 hN B0.2.1 zN B0.2.2.1 hz).1 FW28), (own_cI (congrArg o32 (r_dr nN B0.1 hN B0.2.1 zN B0.2.2.1 hz).2.2.2) (R23.2.2.1.other W28 (Or.inr (slot_ne (Or.inl (w59 hw)) (Or.inl (w61 hw)) (by decide) (t := .int) (t' := .int) (by decide) (by decide))))), (R23.2.2.2.1.other W28 (Or.inr (slot_ne (Or.inl (w47 hw)) (Or.inl (w61 hw)) (by decide) (t := (.array (.object "java/lang/Object"))) (t' := .int) (by decide) (by decide)))), (R23.2.2.2.2.1.other W28 (Or.inr (slot_ne (Or.inl (w43 hw)) (Or.inl (w61 hw)) (by decide) (t := .int) (t' := .int) (by decide) (by decide)))), (R23.2.2.2.2.2.1.other W28 (Or.inr (slot_ne (Or.inr (w41 hw)) (Or.inl (w61 hw)) (by decide) (t := .boolean) (t' := .int) (by decide) (by decide)))), (R23.2.2.2.2.2.2.other W28 (Or.inr (slot_ne (Or.inl (w113 hw)) (Or.inl (w61 hw)) (by decide) (t := .int) (t' := .int) (by decide) (by decide))))⟩, ((V9.keep K21 (ninS na nin0)).other W28 na), own_setP B0.1 B0.2.1 P0 (r_dr nN B0.1 hN B0.2.1 zN B0.2.2.1 hz).2.1, IntB.set I0 (Or.inl rfl)⟩
set_option maxRecDepth 65536 in
set_option maxHeartbeats 40000000 in
theorem rm_append {l : Launch} {Z : State} {a0 : Array Value} (hw : ∀ d ∈ tables_1, d.before a0 Z = true) {o0 A : Addr} {kC : ClassId} {nN hN zN cN : Nat} {rI mI : Int32} {vs : List Value} {ob : Addr} {a_EVICT_OLDEST : Addr} {a_REJECT : Addr} {a_REFUSED : Addr} {ca : Addr} {cc : Cell} {h0 : Heap} {n0 : Nat} (O : Old Z n0 h0) (W : Wd Z a_EVICT_OLDEST a_REJECT a_REFUSED ca cc) (R0 : RBf Z h0 o0 A (o32 hN) (o32 ((hN + zN) % nN)) (o32 cN) rI mI) (V0 : Arv Z h0 A kC (.object "java/lang/Object") (o32 nN) vs .null) (P0 : vs.map nb = pat nN hN zN) (I0 : ∀ v ∈ vs, IntB Z v) (B0 : Bd nN hN zN cN) (Q0 : Ovr Z kC "java/lang/Object") (na : A ≠ o0) (g0 : n0 ≤ o0) (gA : n0 ≤ A) (hz : zN < nN) (EB : Exa Z Z.heap ob "java/lang/Integer") :
    Met0 l Z (⟨"com/example/rondel/rondel/RingBuffer", "append", "(Ljava/lang/Object;)V"⟩ : MethodName) prog_2_method_28_code 4 none ({ frames := 1, cells := 0, slots := 0, locals := 16 } : Room) #[(.ref o0), (.ref ob)] h0 n0 (fun h => Keep h0 h [o0, A] ∧ RN Z h o0 A kC nN hN (zN + 1) cN rI) := by
  refine met_of (L := #[.val (.ref o0), .val (.ref ob), .unset, .unset]) (plainFor_of_name pn_4) (fun m => by first | (simp [entryFrame, mkF, argsToLocals, Value.category]; done) | rfl) ?_
  intro p e s m below meth c T C X
  change Cx p s m meth c Z "com/example/rondel/rondel/RingBuffer" prog_2_method_28_code 4 none "append" at C
  refine g_aloadN C X d12_0 (q := 1) rfl rfl rfl ?_
  refine g_getF C X (host := "") (Or.inl (w46 hw)) Via.refl R0.2.2.2.1 d12_1 (q := 4) rfl ?_
  intro T1 X2
  refine g_astoreN C X2 d12_4 (q := 5) rfl rfl (L' := #[.val (.ref o0), .val (.ref ob), .val (.ref A), .unset]) rfl ?_
  refine g_aloadN C X2 d12_5 (q := 6) rfl rfl rfl ?_
  refine g_getF C X2 (host := "") (Or.inl (w58 hw)) Via.refl R0.2.2.1 d12_6 (q := 9) rfl ?_
  intro T3 X4
  refine g_istoreN C X4 d12_9 (q := 10) rfl (L' := #[.val (.ref o0), .val (.ref ob), .val (.ref A), .val (.int (o32 ((hN + zN) % nN)))]) rfl ?_
  refine g_aloadN C X4 d12_10 (q := 11) rfl rfl rfl ?_
  refine g_iloadN C X4 d12_11 (q := 12) rfl rfl ?_
  refine g_aloadN C X4 d12_12 (q := 13) rfl rfl rfl ?_
  refine g_aastore C X4 V0 rfl (own_stoV V0 Q0 (Ins.of_exa (EB.ext O.2) (w84 hw))) rfl (r_bd nN B0.1 _ (own_tl B0)).1 rfl (own_ix B0.1 (own_tl B0) P0) (vs' := (vs.set (o32 ((hN + zN) % nN)).toNatClampNeg (.ref ob))) rfl gA d12_13 (q := 14) rfl ?_
  intro T5 h6 X7 W8 V9
  have O10 := O.wr W8 gA
  refine g_aloadN C X7 d12_14 (q := 15) rfl rfl rfl ?_
  refine g_aloadN C X7 d12_15 (q := 16) rfl rfl rfl ?_
  refine g_iloadN C X7 d12_16 (q := 17) rfl rfl ?_
  refine g_aloadN C X7 d12_17 (q := 18) rfl rfl rfl ?_
  refine g_alen C X7 V9 d12_18 (q := 19) rfl ?_
  have f11 := (R0.1.wr W8)
  have f12 := (R0.2.1.other W8 (Or.inl (Ne.symm na)))
  have f13 := (R0.2.2.1.other W8 (Or.inl (Ne.symm na)))
  have f14 := (R0.2.2.2.1.other W8 (Or.inl (Ne.symm na)))
  have f15 := (R0.2.2.2.2.1.other W8 (Or.inl (Ne.symm na)))
  have f16 := (R0.2.2.2.2.2.1.other W8 (Or.inl (Ne.symm na)))
  have f17 := (R0.2.2.2.2.2.2.other W8 (Or.inl (Ne.symm na)))
  refine g_callP1 C X7 (y := (⟨"com/example/rondel/rondel/RingBuffer", "advance", "(II)I"⟩ : MethodName)) (a := o0) (by decide) (w85 hw) (sel_priv (w4 hw) (w86 hw) (w87 hw) (by decide)) (w86 hw) (w87 hw) f11 (w88 hw) (w5 hw) (rm_adv hw (A := A) (hI := (o32 hN)) (tI := (o32 ((hN + zN) % nN))) (cI := (o32 cN)) (rI := rI) (mI := mI) (x1 := (o32 ((hN + zN) % nN))) (x2 := (o32 nN)) O10 W ⟨f11, f12, f13, f14, f15, f16, f17⟩ g0) (W := 1) (by decide) (by decide) (k' := 0) rfl (n' := 0) rfl (by decide) (by decide) rfl pd_95 (argsL := [(.int (o32 ((hN + zN) % nN))), (.int (o32 nN))]) rfl (rest := [(.ref o0)]) rfl rfl rfl d12_19 (q := 22) rfl ?_
  rintro _ T18 h19 X20 ⟨rfl, K21, mi22, R23⟩
  have O24 := O10.keep K21 (allS g0 all0)
  refine g_putF C X20 (host := "") (Or.inl (w58 hw)) Via.refl R23.2.2.1 R23.1 (Or.inl (w59 hw)) (w4 hw) (ty := .int) (by decide) rfl rfl d12_22 (q := 25) rfl g0 ?_
  intro T25 h27 X26 W28
  have FW28 := Fld.same W28 R23.2.2.1
  have O29 := O24.wr W28 g0
  exact g_retV C X26 d12_25 (by decide) (by decide) ⟨rfl, ((((Keep.refl h0 [o0, A]).wr W8 (Or.inl (List.mem_of_getElem? (i := 1) rfl))).trans K21 (allS (Or.inl (List.mem_of_getElem? (i := 0) rfl)) all0)).wr W28 (Or.inl (List.mem_of_getElem? (i := 0) rfl))), _, _, ⟨(R23.1.wr W28), (R23.2.1.other W28 (Or.inr (slot_ne (Or.inl (w61 hw)) (Or.inl (w59 hw)) (by decide) (t := .int) (t' := .int) (by decide) (by decide)))), (own_cI (r_ap nN B0.1 hN B0.2.1 zN hz).1 FW28), (R23.2.2.2.1.other W28 (Or.inr (slot_ne (Or.inl (w47 hw)) (Or.inl (w59 hw)) (by decide) (t := (.array (.object "java/lang/Object"))) (t' := .int) (by decide) (by decide)))), (R23.2.2.2.2.1.other W28 (Or.inr (slot_ne (Or.inl (w43 hw)) (Or.inl (w59 hw)) (by decide) (t := .int) (t' := .int) (by decide) (by decide)))), (R23.2.2.2.2.2.1.other W28 (Or.inr (slot_ne (Or.inr (w41 hw)) (Or.inl (w59 hw)) (by decide) (t := .boolean) (t' := .int) (by decide) (by decide)))), (R23.2.2.2.2.2.2.other W28 (Or.inr (slot_ne (Or.inl (w113 hw)) (Or.inl (w59 hw)) (by decide) (t := .int) (t' := .int) (by decide) (by decide))))⟩, ((V9.keep K21 (ninS na nin0)).other W28 na), own_setP B0.1 (own_tl B0) P0 (r_ap nN B0.1 hN B0.2.1 zN hz).2, IntB.set I0 (Or.inr ⟨_, rfl, EB⟩)⟩
set_option maxRecDepth 65536 in
set_option maxHeartbeats 40000000 in
theorem rm_elem {l : Launch} {Z : State} {a0 : Array Value} (hw : ∀ d ∈ tables_1, d.before a0 Z = true) {o0 A : Addr} {kC : ClassId} {nN hN zN cN : Nat} {rI mI : Int32} {vs : List Value} {w0 : Value} {a_EVICT_OLDEST : Addr} {a_REJECT : Addr} {a_REFUSED : Addr} {ca : Addr} {cc : Cell} {h0 : Heap} {n0 : Nat} (O : Old Z n0 h0) (W : Wd Z a_EVICT_OLDEST a_REJECT a_REFUSED ca cc) (R0 : RBf Z h0 o0 A (o32 hN) (o32 ((hN + zN) % nN)) (o32 cN) rI mI) (V0 : Arv Z h0 A kC (.object "java/lang/Object") (o32 nN) vs .null) (P0 : vs.map nb = pat nN hN zN) (I0 : ∀ v ∈ vs, IntB Z v) (B0 : Bd nN hN zN cN) (Q0 : Ovr Z kC "java/lang/Object") (na : A ≠ o0) (g0 : n0 ≤ o0) (gA : n0 ≤ A) (hw0 : vs.getD (o32 hN).toNatClampNeg .null = w0) (hwr : w0.isRef = true) :
    Met1 l Z (⟨"com/example/rondel/rondel/RingBuffer", "elementAt", "(I)Ljava/lang/Object;"⟩ : MethodName) prog_2_method_33_code 2 (some (.object "java/lang/Object")) ({ frames := 0, cells := 0, slots := 0, locals := 0 } : Room) #[(.ref o0), (.int (o32 hN))] h0 n0 (fun v h => v = w0 ∧ h0 = h) := by
  refine met_of (L := #[.val (.ref o0), .val (.int (o32 hN))]) (plainFor_of_name pn_4) (fun m => by first | (simp [entryFrame, mkF, argsToLocals, Value.category]; done) | rfl) ?_
  intro p e s m below meth c T C X
  change Cx p s m meth c Z "com/example/rondel/rondel/RingBuffer" prog_2_method_33_code 2 (some (.object "java/lang/Object")) "elementAt" at C
  refine g_aloadN C X d20_0 (q := 1) rfl rfl rfl ?_
  refine g_getF C X (host := "") (Or.inl (w46 hw)) Via.refl R0.2.2.2.1 d20_1 (q := 4) rfl ?_
  intro T1 X2
  refine g_iloadN C X2 d20_4 (q := 5) rfl rfl ?_
  refine g_aaload C X2 rfl V0 (r_bd nN B0.1 hN B0.2.1).1 (w := w0) hw0 d20_5 (q := 6) rfl ?_
  exact g_retA C X2 rfl hwr d20_6 (by decide) (by decide) ⟨_, rfl, rfl, rfl⟩
set_option maxRecDepth 65536 in
set_option maxHeartbeats 40000000 in
theorem rm_peek {l : Launch} {Z : State} {a0 : Array Value} (hw : ∀ d ∈ tables_1, d.before a0 Z = true) {o0 A : Addr} {kC : ClassId} {nN hN zN cN : Nat} {rI mI : Int32} {vs : List Value} {w0 : Value} {a_EVICT_OLDEST : Addr} {a_REJECT : Addr} {a_REFUSED : Addr} {ca : Addr} {cc : Cell} {h0 : Heap} {n0 : Nat} (O : Old Z n0 h0) (W : Wd Z a_EVICT_OLDEST a_REJECT a_REFUSED ca cc) (R0 : RBf Z h0 o0 A (o32 hN) (o32 ((hN + zN) % nN)) (o32 cN) rI mI) (V0 : Arv Z h0 A kC (.object "java/lang/Object") (o32 nN) vs .null) (P0 : vs.map nb = pat nN hN zN) (I0 : ∀ v ∈ vs, IntB Z v) (B0 : Bd nN hN zN cN) (Q0 : Ovr Z kC "java/lang/Object") (na : A ≠ o0) (g0 : n0 ≤ o0) (gA : n0 ≤ A) (hw0 : vs.getD (o32 hN).toNatClampNeg .null = w0) (hwr : w0.isRef = true) :
    Met1 l Z (⟨"com/example/rondel/rondel/RingBuffer", "peek", "()Ljava/lang/Object;"⟩ : MethodName) prog_2_method_12_code 1 (some (.object "java/lang/Object")) ({ frames := 1, cells := 0, slots := 0, locals := 13 } : Room) #[(.ref o0)] h0 n0 (fun v h => v = w0 ∧ h0 = h) := by
  refine met_of (L := #[.val (.ref o0)]) (plainFor_of_name pn_4) (fun m => by first | (simp [entryFrame, mkF, argsToLocals, Value.category]; done) | rfl) ?_
  intro p e s m below meth c T C X
  change Cx p s m meth c Z "com/example/rondel/rondel/RingBuffer" prog_2_method_12_code 1 (some (.object "java/lang/Object")) "peek" at C
  refine g_aloadN C X d19_0 (q := 1) rfl rfl rfl ?_
  refine g_aloadN C X d19_1 (q := 2) rfl rfl rfl ?_
  refine g_getF C X (host := "") (Or.inl (w60 hw)) Via.refl R0.2.1 d19_2 (q := 5) rfl ?_
  intro T1 X2
  refine g_callP1 C X2 (y := (⟨"com/example/rondel/rondel/RingBuffer", "elementAt", "(I)Ljava/lang/Object;"⟩ : MethodName)) (a := o0) (by decide) (w124 hw) (sel_priv (w4 hw) (w125 hw) (w126 hw) (by decide)) (w125 hw) (w126 hw) R0.1 (w127 hw) (w5 hw) (rm_elem hw (o0 := o0) (A := A) (kC := kC) (nN := nN) (hN := hN) (zN := zN) (cN := cN) (rI := rI) (mI := mI) (vs := vs)  (w0 := w0) O W ⟨R0.1, R0.2.1, R0.2.2.1, R0.2.2.2.1, R0.2.2.2.2.1, R0.2.2.2.2.2.1, R0.2.2.2.2.2.2⟩ V0 P0 I0 B0 Q0 na g0 gA hw0 hwr) (W := 0) (by decide) (by decide) (k' := 0) rfl (n' := 0) rfl (by decide) (by decide) rfl pd_125 (argsL := [(.int (o32 hN))]) rfl (rest := []) rfl rfl rfl d19_5 (q := 8) rfl ?_
  rintro _ T3 _ X4 ⟨rfl, rfl⟩
  exact g_retA C X4 rfl hwr d19_8 (by decide) (by decide) ⟨_, rfl, rfl, rfl⟩
set_option maxRecDepth 65536 in
set_option maxHeartbeats 40000000 in
theorem rm_poll {l : Launch} {Z : State} {a0 : Array Value} (hw : ∀ d ∈ tables_1, d.before a0 Z = true) {o0 A : Addr} {kC : ClassId} {nN hN zN cN : Nat} {rI mI : Int32} {vs : List Value} {zz : Nat} {a_EVICT_OLDEST : Addr} {a_REJECT : Addr} {a_REFUSED : Addr} {ca : Addr} {cc : Cell} {h0 : Heap} {n0 : Nat} (O : Old Z n0 h0) (W : Wd Z a_EVICT_OLDEST a_REJECT a_REFUSED ca cc) (R0 : RBf Z h0 o0 A (o32 hN) (o32 ((hN + zN) % nN)) (o32 cN) rI mI) (V0 : Arv Z h0 A kC (.object "java/lang/Object") (o32 nN) vs .null) (P0 : vs.map nb = pat nN hN zN) (I0 : ∀ v ∈ vs, IntB Z v) (B0 : Bd nN hN zN cN) (Q0 : Ovr Z kC "java/lang/Object") (na : A ≠ o0) (g0 : n0 ≤ o0) (gA : n0 ≤ A) (ez : zN - 1 = zz) :
    Met1 l Z (⟨"com/example/rondel/rondel/RingBuffer", "poll", "()Ljava/lang/Object;"⟩ : MethodName) prog_2_method_11_code 2 (some (.object "java/lang/Object")) ({ frames := 2, cells := 0, slots := 0, locals := 30 } : Room) #[(.ref o0)] h0 n0 (fun v h => v.isRef = true ∧ Keep h0 h [o0, A] ∧ ∃ hd', Bd nN hd' zz cN ∧ RN Z h o0 A kC nN hd' zz cN rI) := by
  refine met_of (L := #[.val (.ref o0), .unset]) (plainFor_of_name pn_4) (fun m => by first | (simp [entryFrame, mkF, argsToLocals, Value.category]; done) | rfl) ?_
  intro p e s m below meth c T C X
  change Cx p s m meth c Z "com/example/rondel/rondel/RingBuffer" prog_2_method_11_code 2 (some (.object "java/lang/Object")) "poll" at C
  refine g_aloadN C X d18_0 (q := 1) rfl rfl rfl ?_
  rcases ref_cases (IntB.ref (IntB.getD I0 (o32 hN).toNatClampNeg)) with hw1 | ⟨b2, hw1⟩
  · refine g_callV1 C X (y := (⟨"com/example/rondel/rondel/RingBuffer", "peek", "()Ljava/lang/Object;"⟩ : MethodName)) (z := (⟨"com/example/rondel/rondel/RingBuffer", "peek", "()Ljava/lang/Object;"⟩ : MethodName)) (a := o0) (by decide) (w119 hw) (w120 hw) (w122 hw) (w121 hw) (nf_sel (w122 hw)) R0.1 (w123 hw) (w5 hw) (rm_peek hw (o0 := o0) (A := A) (kC := kC) (nN := nN) (hN := hN) (zN := zN) (cN := cN) (rI := rI) (mI := mI) (vs := vs)  (w0 := .null) O W ⟨R0.1, R0.2.1, R0.2.2.1, R0.2.2.2.1, R0.2.2.2.2.1, R0.2.2.2.2.2.1, R0.2.2.2.2.2.2⟩ V0 P0 I0 B0 Q0 na g0 gA hw1 rfl) (W := 0) (by decide) (by decide) (k' := 0) rfl (n' := 0) rfl (by decide) (by decide) rfl pd_129 (argsL := []) rfl (rest := []) rfl rfl rfl d18_1 (q := 4) rfl ?_
    rintro _ T3 _ X4 ⟨rfl, rfl⟩
    obtain rfl : zz = zN := by have := of_decide_eq_false ((r_po nN B0.1 hN B0.2.1 zN B0.2.2.1).symm.trans (own_at B0.1 B0.2.1 P0 hw1)); omega
    refine g_astoreN C X4 d18_4 (q := 5) rfl rfl (L' := #[.val (.ref o0), .val .null]) rfl ?_
    refine g_aloadN C X4 d18_5 (q := 6) rfl rfl rfl ?_
    refine g_nulY C X4 d18_6 (by decide) (q := 13) (by decide) ?_
    refine g_aloadN C X4 d18_13 (q := 14) rfl rfl rfl ?_
    exact g_retA C X4 rfl rfl d18_14 (by decide) (by decide) ⟨_, rfl, rfl, (Keep.refl h0 [o0, A]), hN, B0, _, _, ⟨R0.1, R0.2.1, R0.2.2.1, R0.2.2.2.1, R0.2.2.2.2.1, R0.2.2.2.2.2.1, R0.2.2.2.2.2.2⟩, V0, P0, I0⟩
  · refine g_callV1 C X (y := (⟨"com/example/rondel/rondel/RingBuffer", "peek", "()Ljava/lang/Object;"⟩ : MethodName)) (z := (⟨"com/example/rondel/rondel/RingBuffer", "peek", "()Ljava/lang/Object;"⟩ : MethodName)) (a := o0) (by decide) (w119 hw) (w120 hw) (w122 hw) (w121 hw) (nf_sel (w122 hw)) R0.1 (w123 hw) (w5 hw) (rm_peek hw (o0 := o0) (A := A) (kC := kC) (nN := nN) (hN := hN) (zN := zN) (cN := cN) (rI := rI) (mI := mI) (vs := vs)  (w0 := (.ref b2)) O W ⟨R0.1, R0.2.1, R0.2.2.1, R0.2.2.2.1, R0.2.2.2.2.1, R0.2.2.2.2.2.1, R0.2.2.2.2.2.2⟩ V0 P0 I0 B0 Q0 na g0 gA hw1 rfl) (W := 0) (by decide) (by decide) (k' := 0) rfl (n' := 0) rfl (by decide) (by decide) rfl pd_129 (argsL := []) rfl (rest := []) rfl rfl rfl d18_1 (q := 4) rfl ?_
    rintro _ T6 _ X7 ⟨rfl, rfl⟩
    have hz8 : 1 ≤ zN := of_decide_eq_true ((r_po nN B0.1 hN B0.2.1 zN B0.2.2.1).symm.trans (own_at B0.1 B0.2.1 P0 hw1))
    refine g_astoreN C X7 d18_4 (q := 5) rfl rfl (L' := #[.val (.ref o0), .val (.ref b2)]) rfl ?_
    refine g_aloadN C X7 d18_5 (q := 6) rfl rfl rfl ?_
    refine g_nulN C X7 d18_6 (q := 9) rfl ?_
    refine g_aloadN C X7 d18_9 (q := 10) rfl rfl rfl ?_
    refine g_callP0 C X7 (y := (⟨"com/example/rondel/rondel/RingBuffer", "dropOldest", "()V"⟩ : MethodName)) (a := o0) (by decide) (w128 hw) (sel_priv (w4 hw) (w129 hw) (w130 hw) (by decide)) (w129 hw) (w130 hw) R0.1 (w131 hw) (w5 hw) (rm_drop hw (o0 := o0) (A := A) (kC := kC) (nN := nN) (hN := hN) (zN := zN) (cN := cN) (rI := rI) (mI := mI) (vs := vs)  O W ⟨R0.1, R0.2.1, R0.2.2.1, R0.2.2.2.1, R0.2.2.2.2.1, R0.2.2.2.2.2.1, R0.2.2.2.2.2.2⟩ V0 P0 I0 B0 Q0 na g0 gA hz8) (W := 0) (by decide) (by decide) (k' := 0) rfl (n' := 0) rfl (by decide) (by decide) rfl pd_30 (argsL := []) rfl (rest := []) rfl rfl rfl d18_10 (q := 13) rfl ?_
    rintro T9 h10 X11 ⟨K12, N13⟩
    have B14 := own_B2 B0
    obtain ⟨mi15, vs16, R17, V18, P19, I20⟩ := N13
    have O21 := O.keep K12 (allS g0 (allS gA all0))
    refine g_aloadN C X11 d18_13 (q := 14) rfl rfl rfl ?_
    subst ez
    exact g_retA C X11 rfl rfl d18_14 (by decide) (by decide) ⟨_, rfl, rfl, ((Keep.refl h0 [o0, A]).trans K12 (allS (Or.inl (List.mem_of_getElem? (i := 0) rfl)) (allS (Or.inl (List.mem_of_getElem? (i := 1) rfl)) all0))), ((hN + 1) % nN), B14, _, _, ⟨R17.1, R17.2.1, R17.2.2.1, R17.2.2.2.1, R17.2.2.2.2.1, R17.2.2.2.2.2.1, R17.2.2.2.2.2.2⟩, V18, P19, I20⟩
set_option maxRecDepth 65536 in
set_option maxHeartbeats 40000000 in
theorem rm_push {l : Launch} {Z : State} {a0 : Array Value} (hw : ∀ d ∈ tables_1, d.before a0 Z = true) {o0 A : Addr} {kC : ClassId} {nN hN zN cN : Nat} {rI mI : Int32} {vs : List Value} {ob : Addr} {zz : Nat} {a_EVICT_OLDEST : Addr} {a_REJECT : Addr} {a_REFUSED : Addr} {ca : Addr} {cc : Cell} {h0 : Heap} {n0 : Nat} (O : Old Z n0 h0) (W : Wd Z a_EVICT_OLDEST a_REJECT a_REFUSED ca cc) (R0 : RBf Z h0 o0 A (o32 hN) (o32 ((hN + zN) % nN)) (o32 cN) rI mI) (V0 : Arv Z h0 A kC (.object "java/lang/Object") (o32 nN) vs .null) (P0 : vs.map nb = pat nN hN zN) (I0 : ∀ v ∈ vs, IntB Z v) (B0 : Bd nN hN zN cN) (Q0 : Ovr Z kC "java/lang/Object") (na : A ≠ o0) (g0 : n0 ≤ o0) (gA : n0 ≤ A) (ez : (if zN < cN then zN + 1 else zN) = zz) (EB : Exa Z Z.heap ob "java/lang/Integer") :
    MetW1 l Z consts_1 (⟨"com/example/rondel/rondel/RingBuffer", "push", "(Ljava/lang/Object;Z)Ljava/lang/Object;"⟩ : MethodName) prog_2_method_27_code 7 (some (.object "java/lang/Object")) ({ frames := 2, cells := 2, slots := 32, locals := 31 } : Room) #[(.ref o0), (.ref ob), (.int (0 : Int32))] h0 n0 (fun v h => v.isRef = true ∧ Keep h0 h [o0, A] ∧ ∃ hd', Bd nN hd' zz cN ∧ RN Z h o0 A kC nN hd' zz cN rI) := by
  refine metW_of (L := #[.val (.ref o0), .val (.ref ob), .val (.int (0 : Int32)), .unset, .unset, .unset, .unset]) (plainFor_of_name pn_4) (fun m => by first | (simp [entryFrame, mkF, argsToLocals, Value.category]; done) | rfl) ?_
  intro p e s m below meth c T vm C X Y
  change Cx p (s.setVm vm) m meth c Z "com/example/rondel/rondel/RingBuffer" prog_2_method_27_code 7 (some (.object "java/lang/Object")) "push" at C
  have Y1 := Yar.of V0
  refine g_aloadN C X d11_0 (q := 1) rfl rfl rfl ?_
  refine gW_ldcO C X Y (own_EL hw) (w79 hw) (own_SA hw) d11_1 (q := 3) rfl (nn := 28) (by decide) (by decide) (k' := 2) rfl (n' := 32) rfl (by decide) (by decide) ?_
  intro b2 T3 h4 vm5 C X6 Y7 E8 R9
  have O10 := O.ext E8
  refine g_callS1 C X6 (y := (⟨"java/util/Objects", "requireNonNull", "(Ljava/lang/Object;Ljava/lang/String;)Ljava/lang/Object;"⟩ : MethodName)) (by decide) (w34 hw) (w35 hw) (w37 hw) (w36 hw) (rm_rn hw (ob := ob) (os := b2) O10 W) (W := 0) (by decide) (by decide) (k' := 2) rfl (n' := 32) rfl (by decide) (by decide) rfl pd_140 (argsL := [(.ref ob), (.ref b2)]) rfl (rest := []) rfl rfl rfl d11_3 (q := 6) rfl ?_
  rintro _ T11 _ X12 ⟨rfl, rfl⟩
  refine g_pop C X12 d11_6 (q := 7) rfl rfl ?_
  refine g_aloadN C X12 d11_7 (q := 8) rfl rfl rfl ?_
  have f13 := (R0.2.2.2.1.ext E8)
  refine g_getF C X12 (host := "") (Or.inl (w46 hw)) Via.refl f13 d11_8 (q := 11) rfl ?_
  intro T14 X15
  refine g_astoreN C X15 d11_11 (q := 12) rfl rfl (L' := #[.val (.ref o0), .val (.ref ob), .val (.int (0 : Int32)), .val (.ref A), .unset, .unset, .unset]) rfl ?_
  refine g_aloadN C X15 d11_12 (q := 13) rfl rfl rfl ?_
  have f16 := (R0.2.2.1.ext E8)
  refine g_getF C X15 (host := "") (Or.inl (w58 hw)) Via.refl f16 d11_13 (q := 16) rfl ?_
  intro T17 X18
  refine g_istore C X18 d11_16 (q := 18) rfl (L' := #[.val (.ref o0), .val (.ref ob), .val (.int (0 : Int32)), .val (.ref A), .val (.int (o32 ((hN + zN) % nN))), .unset, .unset]) rfl ?_
  refine g_iload C X18 d11_18 (q := 20) rfl rfl ?_
  refine g_aloadN C X18 d11_20 (q := 21) rfl rfl rfl ?_
  have f19 := (R0.2.1.ext E8)
  refine g_getF C X18 (host := "") (Or.inl (w60 hw)) Via.refl f19 d11_21 (q := 24) rfl ?_
  intro T20 X21
  by_cases hc22 : (o32 ((hN + zN) % nN)) = (o32 hN)
  · refine g_icN C X21 d11_24 (q := 27) rfl (teq hc22).2 ?_
    refine g_aloadN C X21 d11_27 (q := 28) rfl rfl rfl ?_
    refine g_iload C X21 d11_28 (q := 30) rfl rfl ?_
    have f23 := (V0.ext E8)
    rcases ref_cases (IntB.ref (IntB.getD I0 (o32 ((hN + zN) % nN)).toNatClampNeg)) with hw24 | ⟨b25, hw24⟩
    · refine g_aaload C X21 rfl f23 (r_bd nN B0.1 _ (own_tl B0)).1 (w := .null) hw24 d11_30 (q := 31) rfl ?_
      refine g_goto C X21 d11_31 (by decide) (q := 35) (by decide) ?_
      refine g_astore C X21 d11_35 (q := 37) rfl rfl (L' := #[.val (.ref o0), .val (.ref ob), .val (.int (0 : Int32)), .val (.ref A), .val (.int (o32 ((hN + zN) % nN))), .val .null, .unset]) rfl ?_
      refine g_aconstNull C X21 d11_37 (q := 38) rfl ?_
      refine g_astore C X21 d11_38 (q := 40) rfl rfl (L' := #[.val (.ref o0), .val (.ref ob), .val (.int (0 : Int32)), .val (.ref A), .val (.int (o32 ((hN + zN) % nN))), .val .null, .val .null]) rfl ?_
      refine g_aload C X21 d11_40 (q := 42) rfl rfl rfl ?_
      refine g_nonN C X21 d11_42 (q := 45) rfl ?_
      refine g_aloadN C X21 d11_45 (q := 46) rfl rfl rfl ?_
      have f26 := (R0.2.2.2.2.1.ext E8)
      refine g_getF C X21 (host := "") (Or.inl (w42 hw)) Via.refl f26 d11_46 (q := 49) rfl ?_
      intro T27 X28
      refine g_aloadN C X28 d11_49 (q := 50) rfl rfl rfl ?_
      refine g_alen C X28 f23 d11_50 (q := 51) rfl ?_
      by_cases hc29 : (o32 cN) = (o32 nN)
      · refine g_icY C X28 d11_51 (by decide) (q := 65) (by decide) (teq hc29).1 ?_
        have hz30 := (r_lt2 nN B0.1 hN B0.2.1 zN B0.2.2.1 hc22 (own_at B0.1 (own_tl B0) P0 hw24))
        refine g_aloadN C X28 d11_65 (q := 66) rfl rfl rfl ?_
        refine g_aloadN C X28 d11_66 (q := 67) rfl rfl rfl ?_
        have f31 := (R0.1.ext E8)
        have f32 := (R0.2.2.2.2.2.1.ext E8)
        have f33 := (R0.2.2.2.2.2.2.ext E8)
        refine g_callP0 C X28 (y := (⟨"com/example/rondel/rondel/RingBuffer", "append", "(Ljava/lang/Object;)V"⟩ : MethodName)) (a := o0) (by decide) (w80 hw) (sel_priv (w4 hw) (w81 hw) (w82 hw) (by decide)) (w81 hw) (w82 hw) f31 (w83 hw) (w5 hw) (rm_append hw (o0 := o0) (A := A) (kC := kC) (nN := nN) (hN := hN) (zN := zN) (cN := cN) (rI := rI) (mI := mI) (vs := vs)  (ob := ob) O10 W ⟨f31, f19, f16, f13, f26, f32, f33⟩ f23 P0 I0 B0 Q0 na g0 gA hz30 EB) (W := 0) (by decide) (by decide) (k' := 2) rfl (n' := 32) rfl (by decide) (by decide) rfl pd_169 (argsL := [(.ref ob)]) rfl (rest := []) rfl rfl rfl d11_67 (q := 70) rfl ?_
        rintro T34 h35 X36 ⟨K37, N38⟩
        have B39 := own_B1 B0 hz30
        obtain ⟨mi40, vs41, R42, V43, P44, I45⟩ := N38
        have f46 := (Y1.ext E8)
        have Y47 := Wx.keep Y7 K37 (sfS (Safe.exa (Cx.alike C) f31 (by decide) (by decide)) (sfS (own_safeY (Cx.alike C) f46 (by decide)) sf0))
        have O48 := O10.keep K37 (allS g0 (allS gA all0))
        have Y49 := Yar.of V43
        refine g_goto C X36 d11_70 (by decide) (q := 166) (by decide) ?_
        refine g_aload C X36 d11_166 (q := 168) rfl rfl rfl ?_
        obtain rfl : zz = zN + 1 := ez.symm.trans (if_pos (own_zc1 B0 hz30 hc29))
        exact gW_retA C X36 Y47 (own_EL hw) rfl rfl d11_168 (by decide) (by decide) ⟨_, rfl, rfl, (((Keep.refl h0 [o0, A]).ext E8).trans K37 (allS (Or.inl (List.mem_of_getElem? (i := 0) rfl)) (allS (Or.inl (List.mem_of_getElem? (i := 1) rfl)) all0))), hN, B39, _, _, ⟨R42.1, R42.2.1, R42.2.2.1, R42.2.2.2.1, R42.2.2.2.2.1, R42.2.2.2.2.2.1, R42.2.2.2.2.2.2⟩, V43, P44, I45⟩
      · refine g_icN C X28 d11_51 (q := 54) rfl (feq hc29).1 ?_
        refine g_aloadN C X28 d11_54 (q := 55) rfl rfl rfl ?_
        have f50 := (R0.1.ext E8)
        have f51 := (R0.2.2.2.2.2.1.ext E8)
        have f52 := (R0.2.2.2.2.2.2.ext E8)
        refine g_callV1 C X28 (y := (⟨"com/example/rondel/rondel/RingBuffer", "size", "()I"⟩ : MethodName)) (z := (⟨"com/example/rondel/rondel/RingBuffer", "size", "()I"⟩ : MethodName)) (a := o0) (by decide) (w96 hw) (w54 hw) (w56 hw) (w55 hw) (nf_sel (w56 hw)) f50 (w57 hw) (w5 hw) (rm_size hw (o0 := o0) (A := A) (kC := kC) (nN := nN) (hN := hN) (zN := zN) (cN := cN) (rI := rI) (mI := mI) (vs := vs)  O10 W ⟨f50, f19, f16, f13, f26, f51, f52⟩ f23 P0 I0 B0 Q0 na g0 gA) (W := 0) (by decide) (by decide) (k' := 2) rfl (n' := 32) rfl (by decide) (by decide) rfl pd_175 (argsL := []) rfl (rest := []) rfl rfl rfl d11_55 (q := 58) rfl ?_
        rintro _ T53 _ X54 ⟨rfl, rfl⟩
        refine g_aloadN C X54 d11_58 (q := 59) rfl rfl rfl ?_
        refine g_getF C X54 (host := "") (Or.inl (w42 hw)) Via.refl f26 d11_59 (q := 62) rfl ?_
        intro T55 X56
        by_cases hc57 : (o32 zN) < (o32 cN)
        · refine g_icN C X56 d11_62 (q := 65) rfl (tlt hc57).2.1 ?_
          have hz58 := (r_lt2 nN B0.1 hN B0.2.1 zN B0.2.2.1 hc22 (own_at B0.1 (own_tl B0) P0 hw24))
          refine g_aloadN C X56 d11_65 (q := 66) rfl rfl rfl ?_
          refine g_aloadN C X56 d11_66 (q := 67) rfl rfl rfl ?_
          refine g_callP0 C X56 (y := (⟨"com/example/rondel/rondel/RingBuffer", "append", "(Ljava/lang/Object;)V"⟩ : MethodName)) (a := o0) (by decide) (w80 hw) (sel_priv (w4 hw) (w81 hw) (w82 hw) (by decide)) (w81 hw) (w82 hw) f50 (w83 hw) (w5 hw) (rm_append hw (o0 := o0) (A := A) (kC := kC) (nN := nN) (hN := hN) (zN := zN) (cN := cN) (rI := rI) (mI := mI) (vs := vs)  (ob := ob) O10 W ⟨f50, f19, f16, f13, f26, f51, f52⟩ f23 P0 I0 B0 Q0 na g0 gA hz58 EB) (W := 0) (by decide) (by decide) (k' := 2) rfl (n' := 32) rfl (by decide) (by decide) rfl pd_169 (argsL := [(.ref ob)]) rfl (rest := []) rfl rfl rfl d11_67 (q := 70) rfl ?_
          rintro T59 h60 X61 ⟨K62, N63⟩
          have B64 := own_B1 B0 hz58
          obtain ⟨mi65, vs66, R67, V68, P69, I70⟩ := N63
          have f71 := (Y1.ext E8)
          have Y72 := Wx.keep Y7 K62 (sfS (Safe.exa (Cx.alike C) f50 (by decide) (by decide)) (sfS (own_safeY (Cx.alike C) f71 (by decide)) sf0))
          have O73 := O10.keep K62 (allS g0 (allS gA all0))
          have Y74 := Yar.of V68
          refine g_goto C X61 d11_70 (by decide) (q := 166) (by decide) ?_
          refine g_aload C X61 d11_166 (q := 168) rfl rfl rfl ?_
          obtain rfl : zz = zN + 1 := ez.symm.trans (if_pos (own_zc2 B0 hc57))
          exact gW_retA C X61 Y72 (own_EL hw) rfl rfl d11_168 (by decide) (by decide) ⟨_, rfl, rfl, (((Keep.refl h0 [o0, A]).ext E8).trans K62 (allS (Or.inl (List.mem_of_getElem? (i := 0) rfl)) (allS (Or.inl (List.mem_of_getElem? (i := 1) rfl)) all0))), hN, B64, _, _, ⟨R67.1, R67.2.1, R67.2.2.1, R67.2.2.2.1, R67.2.2.2.2.1, R67.2.2.2.2.2.1, R67.2.2.2.2.2.2⟩, V68, P69, I70⟩
        · refine g_icY C X56 d11_62 (by decide) (q := 73) (by decide) (flt hc57).2.1 ?_
          obtain rfl : zN = zz := (ez.symm.trans (if_neg (own_zc3 B0 hc57))).symm
          refine g_aloadN C X56 d11_73 (q := 74) rfl rfl rfl ?_
          refine g_getF C X56 (host := "") (Or.inl (w40 hw)) Via.refl f51 d11_74 (q := 77) rfl ?_
          intro T76 X77
          by_cases hc78 : rI = (0 : Int32)
          · refine g_ifY C X77 d11_77 (by decide) (q := 109) (by decide) (teq hc78).1 ?_
            refine g_aload C X77 d11_109 (q := 111) rfl rfl rfl ?_
            refine g_nulY C X77 d11_111 (by decide) (q := 146) (by decide) ?_
            refine g_aloadN C X77 d11_146 (q := 147) rfl rfl rfl ?_
            refine g_getF C X77 (host := "") (Or.inl (w46 hw)) Via.refl f13 d11_147 (q := 150) rfl ?_
            intro T79 X80
            refine g_aloadN C X80 d11_150 (q := 151) rfl rfl rfl ?_
            refine g_getF C X80 (host := "") (Or.inl (w60 hw)) Via.refl f19 d11_151 (q := 154) rfl ?_
            intro T81 X82
            rcases ref_cases (IntB.ref (IntB.getD I0 (o32 hN).toNatClampNeg)) with hw83 | ⟨b84, hw83⟩
            · refine g_aaload C X82 rfl f23 (r_bd nN B0.1 hN B0.2.1).1 (w := .null) hw83 d11_154 (q := 155) rfl ?_
              refine g_astore C X82 d11_155 (q := 157) rfl rfl (L' := #[.val (.ref o0), .val (.ref ob), .val (.int (0 : Int32)), .val (.ref A), .val (.int (o32 ((hN + zN) % nN))), .val .null, .val .null]) rfl ?_
              have hz85 : 1 ≤ zN := own_1z B0 hc57
              have hz86 := own_pz B0
              refine g_aloadN C X82 d11_157 (q := 158) rfl rfl rfl ?_
              refine g_callP0 C X82 (y := (⟨"com/example/rondel/rondel/RingBuffer", "dropOldest", "()V"⟩ : MethodName)) (a := o0) (by decide) (w128 hw) (sel_priv (w4 hw) (w129 hw) (w130 hw) (by decide)) (w129 hw) (w130 hw) f50 (w131 hw) (w5 hw) (rm_drop hw (o0 := o0) (A := A) (kC := kC) (nN := nN) (hN := hN) (zN := zN) (cN := cN) (rI := rI) (mI := mI) (vs := vs)  O10 W ⟨f50, f19, f16, f13, f26, f51, f52⟩ f23 P0 I0 B0 Q0 na g0 gA hz85) (W := 0) (by decide) (by decide) (k' := 2) rfl (n' := 32) rfl (by decide) (by decide) rfl pd_30 (argsL := []) rfl (rest := []) rfl rfl rfl d11_158 (q := 161) rfl ?_
              rintro T87 h88 X89 ⟨K90, N91⟩
              have B92 := own_B2 B0
              obtain ⟨mi93, vs94, R95, V96, P97, I98⟩ := N91
              have f99 := (Y1.ext E8)
              have Y100 := Wx.keep Y7 K90 (sfS (Safe.exa (Cx.alike C) f50 (by decide) (by decide)) (sfS (own_safeY (Cx.alike C) f99 (by decide)) sf0))
              have O101 := O10.keep K90 (allS g0 (allS gA all0))
              have Y102 := Yar.of V96
              refine g_aloadN C X89 d11_161 (q := 162) rfl rfl rfl ?_
              refine g_aloadN C X89 d11_162 (q := 163) rfl rfl rfl ?_
              refine g_callP0 C X89 (y := (⟨"com/example/rondel/rondel/RingBuffer", "append", "(Ljava/lang/Object;)V"⟩ : MethodName)) (a := o0) (by decide) (w80 hw) (sel_priv (w4 hw) (w81 hw) (w82 hw) (by decide)) (w81 hw) (w82 hw) R95.1 (w83 hw) (w5 hw) (rm_append hw (o0 := o0) (A := A) (kC := kC) (nN := nN) (hN := ((hN + 1) % nN)) (zN := (zN - 1)) (cN := cN) (rI := rI) (mI := mi93) (vs := vs94)  (ob := ob) O101 W ⟨R95.1, R95.2.1, R95.2.2.1, R95.2.2.2.1, R95.2.2.2.2.1, R95.2.2.2.2.2.1, R95.2.2.2.2.2.2⟩ V96 P97 I98 B92 Q0 na g0 gA hz86 EB) (W := 0) (by decide) (by decide) (k' := 2) rfl (n' := 32) rfl (by decide) (by decide) rfl pd_169 (argsL := [(.ref ob)]) rfl (rest := []) rfl rfl rfl d11_163 (q := 166) rfl ?_
              rintro T103 h104 X105 ⟨K106, N107⟩
              have B108 := own_B1 B92 hz86
              obtain ⟨mi109, vs110, R111, V112, P113, I114⟩ := N107
              have Y115 := Wx.keep Y100 K106 (sfS (Safe.exa (Cx.alike C) R95.1 (by decide) (by decide)) (sfS (own_safeY (Cx.alike C) Y102 (by decide)) sf0))
              have O116 := O101.keep K106 (allS g0 (allS gA all0))
              have Y117 := Yar.of V112
              refine g_aload C X105 d11_166 (q := 168) rfl rfl rfl ?_
              have ee118 : zN - 1 + 1 = zN := Nat.sub_add_cancel hz85
              have bb120 := B108
              have rr119 : RN Z h104 o0 A kC nN ((hN + 1) % nN) ((zN - 1) + 1) cN rI := ⟨_, _, ⟨R111.1, R111.2.1, R111.2.2.1, R111.2.2.2.1, R111.2.2.2.2.1, R111.2.2.2.2.2.1, R111.2.2.2.2.2.2⟩, V112, P113, I114⟩
              rw [ee118] at bb120 rr119
              exact gW_retA C X105 Y115 (own_EL hw) rfl rfl d11_168 (by decide) (by decide) ⟨_, rfl, rfl, ((((Keep.refl h0 [o0, A]).ext E8).trans K90 (allS (Or.inl (List.mem_of_getElem? (i := 0) rfl)) (allS (Or.inl (List.mem_of_getElem? (i := 1) rfl)) all0))).trans K106 (allS (Or.inl (List.mem_of_getElem? (i := 0) rfl)) (allS (Or.inl (List.mem_of_getElem? (i := 1) rfl)) all0))), _, bb120, rr119⟩
            · refine g_aaload C X82 rfl f23 (r_bd nN B0.1 hN B0.2.1).1 (w := (.ref b84)) hw83 d11_154 (q := 155) rfl ?_
              refine g_astore C X82 d11_155 (q := 157) rfl rfl (L' := #[.val (.ref o0), .val (.ref ob), .val (.int (0 : Int32)), .val (.ref A), .val (.int (o32 ((hN + zN) % nN))), .val .null, .val (.ref b84)]) rfl ?_
              have hz121 : 1 ≤ zN := own_1z B0 hc57
              have hz122 := own_pz B0
              refine g_aloadN C X82 d11_157 (q := 158) rfl rfl rfl ?_
              refine g_callP0 C X82 (y := (⟨"com/example/rondel/rondel/RingBuffer", "dropOldest", "()V"⟩ : MethodName)) (a := o0) (by decide) (w128 hw) (sel_priv (w4 hw) (w129 hw) (w130 hw) (by decide)) (w129 hw) (w130 hw) f50 (w131 hw) (w5 hw) (rm_drop hw (o0 := o0) (A := A) (kC := kC) (nN := nN) (hN := hN) (zN := zN) (cN := cN) (rI := rI) (mI := mI) (vs := vs)  O10 W ⟨f50, f19, f16, f13, f26, f51, f52⟩ f23 P0 I0 B0 Q0 na g0 gA hz121) (W := 0) (by decide) (by decide) (k' := 2) rfl (n' := 32) rfl (by decide) (by decide) rfl pd_30 (argsL := []) rfl (rest := []) rfl rfl rfl d11_158 (q := 161) rfl ?_
              rintro T123 h124 X125 ⟨K126, N127⟩
              have B128 := own_B2 B0
              obtain ⟨mi129, vs130, R131, V132, P133, I134⟩ := N127
              have f135 := (Y1.ext E8)
              have Y136 := Wx.keep Y7 K126 (sfS (Safe.exa (Cx.alike C) f50 (by decide) (by decide)) (sfS (own_safeY (Cx.alike C) f135 (by decide)) sf0))
              have O137 := O10.keep K126 (allS g0 (allS gA all0))
              have Y138 := Yar.of V132
              refine g_aloadN C X125 d11_161 (q := 162) rfl rfl rfl ?_
              refine g_aloadN C X125 d11_162 (q := 163) rfl rfl rfl ?_
              refine g_callP0 C X125 (y := (⟨"com/example/rondel/rondel/RingBuffer", "append", "(Ljava/lang/Object;)V"⟩ : MethodName)) (a := o0) (by decide) (w80 hw) (sel_priv (w4 hw) (w81 hw) (w82 hw) (by decide)) (w81 hw) (w82 hw) R131.1 (w83 hw) (w5 hw) (rm_append hw (o0 := o0) (A := A) (kC := kC) (nN := nN) (hN := ((hN + 1) % nN)) (zN := (zN - 1)) (cN := cN) (rI := rI) (mI := mi129) (vs := vs130)  (ob := ob) O137 W ⟨R131.1, R131.2.1, R131.2.2.1, R131.2.2.2.1, R131.2.2.2.2.1, R131.2.2.2.2.2.1, R131.2.2.2.2.2.2⟩ V132 P133 I134 B128 Q0 na g0 gA hz122 EB) (W := 0) (by decide) (by decide) (k' := 2) rfl (n' := 32) rfl (by decide) (by decide) rfl pd_169 (argsL := [(.ref ob)]) rfl (rest := []) rfl rfl rfl d11_163 (q := 166) rfl ?_
              rintro T139 h140 X141 ⟨K142, N143⟩
              have B144 := own_B1 B128 hz122
              obtain ⟨mi145, vs146, R147, V148, P149, I150⟩ := N143
              have Y151 := Wx.keep Y136 K142 (sfS (Safe.exa (Cx.alike C) R131.1 (by decide) (by decide)) (sfS (own_safeY (Cx.alike C) Y138 (by decide)) sf0))
              have O152 := O137.keep K142 (allS g0 (allS gA all0))
              have Y153 := Yar.of V148
              refine g_aload C X141 d11_166 (q := 168) rfl rfl rfl ?_
              have ee154 : zN - 1 + 1 = zN := Nat.sub_add_cancel hz121
              have bb156 := B144
              have rr155 : RN Z h140 o0 A kC nN ((hN + 1) % nN) ((zN - 1) + 1) cN rI := ⟨_, _, ⟨R147.1, R147.2.1, R147.2.2.1, R147.2.2.2.1, R147.2.2.2.2.1, R147.2.2.2.2.2.1, R147.2.2.2.2.2.2⟩, V148, P149, I150⟩
              rw [ee154] at bb156 rr155
              exact gW_retA C X141 Y151 (own_EL hw) rfl rfl d11_168 (by decide) (by decide) ⟨_, rfl, rfl, ((((Keep.refl h0 [o0, A]).ext E8).trans K126 (allS (Or.inl (List.mem_of_getElem? (i := 0) rfl)) (allS (Or.inl (List.mem_of_getElem? (i := 1) rfl)) all0))).trans K142 (allS (Or.inl (List.mem_of_getElem? (i := 0) rfl)) (allS (Or.inl (List.mem_of_getElem? (i := 1) rfl)) all0))), _, bb156, rr155⟩
          · refine g_ifN C X77 d11_77 (q := 80) rfl (feq hc78).1 ?_
            refine g_iloadN C X77 d11_80 (q := 81) rfl rfl ?_
            refine g_ifY C X77 d11_81 (by decide) (q := 101) (by decide) (by decide) ?_
            refine g_getS C X77 (host := "") (Or.inl (w89 hw)) Via.refl (W.2.2.2.2.2.2.1.ext O10.2) d11_101 (q := 104) rfl ?_
            intro T157 X158
            refine g_astore C X158 d11_104 (q := 106) rfl rfl (L' := #[.val (.ref o0), .val (.ref ob), .val (.int (0 : Int32)), .val (.ref A), .val (.int (o32 ((hN + zN) % nN))), .val .null, .val (.ref a_REFUSED)]) rfl ?_
            refine g_goto C X158 d11_106 (by decide) (q := 166) (by decide) ?_
            refine g_aload C X158 d11_166 (q := 168) rfl rfl rfl ?_
            exact gW_retA C X158 Y7 (own_EL hw) rfl rfl d11_168 (by decide) (by decide) ⟨_, rfl, rfl, ((Keep.refl h0 [o0, A]).ext E8), hN, B0, _, _, ⟨f50, f19, f16, f13, f26, f51, f52⟩, f23, P0, I0⟩
    · refine g_aaload C X21 rfl f23 (r_bd nN B0.1 _ (own_tl B0)).1 (w := (.ref b25)) hw24 d11_30 (q := 31) rfl ?_
      refine g_goto C X21 d11_31 (by decide) (q := 35) (by decide) ?_
      refine g_astore C X21 d11_35 (q := 37) rfl rfl (L' := #[.val (.ref o0), .val (.ref ob), .val (.int (0 : Int32)), .val (.ref A), .val (.int (o32 ((hN + zN) % nN))), .val (.ref b25), .unset]) rfl ?_
      refine g_aconstNull C X21 d11_37 (q := 38) rfl ?_
      refine g_astore C X21 d11_38 (q := 40) rfl rfl (L' := #[.val (.ref o0), .val (.ref ob), .val (.int (0 : Int32)), .val (.ref A), .val (.int (o32 ((hN + zN) % nN))), .val (.ref b25), .val .null]) rfl ?_
      refine g_aload C X21 d11_40 (q := 42) rfl rfl rfl ?_
      refine g_nonY C X21 d11_42 (by decide) (q := 73) (by decide) ?_
      obtain rfl : zN = zz := (ez.symm.trans (if_neg (own_zc4 B0 (r_eq nN B0.1 hN B0.2.1 zN B0.2.2.1 hc22 (own_at B0.1 (own_tl B0) P0 hw24))))).symm
      refine g_aloadN C X21 d11_73 (q := 74) rfl rfl rfl ?_
      have f160 := (R0.2.2.2.2.2.1.ext E8)
      refine g_getF C X21 (host := "") (Or.inl (w40 hw)) Via.refl f160 d11_74 (q := 77) rfl ?_
      intro T161 X162
      by_cases hc163 : rI = (0 : Int32)
      · refine g_ifY C X162 d11_77 (by decide) (q := 109) (by decide) (teq hc163).1 ?_
        refine g_aload C X162 d11_109 (q := 111) rfl rfl rfl ?_
        refine g_nulN C X162 d11_111 (q := 114) rfl ?_
        refine g_aload C X162 d11_114 (q := 116) rfl rfl rfl ?_
        refine g_astore C X162 d11_116 (q := 118) rfl rfl (L' := #[.val (.ref o0), .val (.ref ob), .val (.int (0 : Int32)), .val (.ref A), .val (.int (o32 ((hN + zN) % nN))), .val (.ref b25), .val (.ref b25)]) rfl ?_
        refine g_aloadN C X162 d11_118 (q := 119) rfl rfl rfl ?_
        refine g_iload C X162 d11_119 (q := 121) rfl rfl ?_
        refine g_aloadN C X162 d11_121 (q := 122) rfl rfl rfl ?_
        refine g_aastore C X162 f23 rfl (own_stoV f23 Q0 (Ins.of_exa (EB.ext O10.2) (w84 hw))) rfl (r_bd nN B0.1 _ (own_tl B0)).1 rfl (own_ix B0.1 (own_tl B0) P0) (vs' := (vs.set (o32 ((hN + zN) % nN)).toNatClampNeg (.ref ob))) rfl gA d11_122 (q := 123) rfl ?_
        intro T164 h165 X166 W167 V168
        have f169 := (Y1.ext E8)
        have Y170 := Wx.wr Y7 W167 (own_safeY (Cx.alike C) f169 (by decide))
        have O171 := O10.wr W167 gA
        refine g_aloadN C X166 d11_123 (q := 124) rfl rfl rfl ?_
        refine g_aloadN C X166 d11_124 (q := 125) rfl rfl rfl ?_
        refine g_iload C X166 d11_125 (q := 127) rfl rfl ?_
        refine g_aloadN C X166 d11_127 (q := 128) rfl rfl rfl ?_
        refine g_alen C X166 V168 d11_128 (q := 129) rfl ?_
        have f172 := ((R0.1.ext E8).wr W167)
        have f173 := (f19.other W167 (Or.inl (Ne.symm na)))
        have f174 := (f16.other W167 (Or.inl (Ne.symm na)))
        have f175 := (f13.other W167 (Or.inl (Ne.symm na)))
        have f176 := ((R0.2.2.2.2.1.ext E8).other W167 (Or.inl (Ne.symm na)))
        have f177 := (f160.other W167 (Or.inl (Ne.symm na)))
        have f178 := ((R0.2.2.2.2.2.2.ext E8).other W167 (Or.inl (Ne.symm na)))
        refine g_callP1 C X166 (y := (⟨"com/example/rondel/rondel/RingBuffer", "advance", "(II)I"⟩ : MethodName)) (a := o0) (by decide) (w85 hw) (sel_priv (w4 hw) (w86 hw) (w87 hw) (by decide)) (w86 hw) (w87 hw) f172 (w88 hw) (w5 hw) (rm_adv hw (A := A) (hI := (o32 hN)) (tI := (o32 ((hN + zN) % nN))) (cI := (o32 cN)) (rI := rI) (mI := mI) (x1 := (o32 ((hN + zN) % nN))) (x2 := (o32 nN)) O171 W ⟨f172, f173, f174, f175, f176, f177, f178⟩ g0) (W := 1) (by decide) (by decide) (k' := 2) rfl (n' := 32) rfl (by decide) (by decide) rfl pd_95 (argsL := [(.int (o32 ((hN + zN) % nN))), (.int (o32 nN))]) rfl (rest := [(.ref o0)]) rfl rfl rfl d11_129 (q := 132) rfl ?_
        rintro _ T179 h180 X181 ⟨rfl, K182, mi183, R184⟩
        have Y185 := Wx.keep Y170 K182 (sfS (Safe.exa (Cx.alike C) f172 (by decide) (by decide)) sf0)
        have O186 := O171.keep K182 (allS g0 all0)
        refine g_putF C X181 (host := "") (Or.inl (w58 hw)) Via.refl R184.2.2.1 R184.1 (Or.inl (w59 hw)) (w4 hw) (ty := .int) (by decide) rfl rfl d11_132 (q := 135) rfl g0 ?_
        intro T187 h189 X188 W190
        have FW190 := Fld.same W190 R184.2.2.1
        have Y191 := Wx.wr Y185 W190 (Safe.exa (Cx.alike C) R184.1 (by decide) (by decide))
        have O192 := O186.wr W190 g0
        refine g_aloadN C X188 d11_135 (q := 136) rfl rfl rfl ?_
        refine g_aloadN C X188 d11_136 (q := 137) rfl rfl rfl ?_
        refine g_getF C X188 (host := "") (Or.inl (w58 hw)) Via.refl FW190 d11_137 (q := 140) rfl ?_
        intro T193 X194
        have f195 := (R184.2.1.other W190 (Or.inr (slot_ne (Or.inl (w61 hw)) (Or.inl (w59 hw)) (by decide) (t := .int) (t' := .int) (by decide) (by decide))))
        have f196 := (R184.1.wr W190)
        refine g_putF C X194 (host := "") (Or.inl (w60 hw)) Via.refl f195 f196 (Or.inl (w61 hw)) (w4 hw) (ty := .int) (by decide) rfl rfl d11_140 (q := 143) rfl g0 ?_
        intro T197 h199 X198 W200
        have FW200 := Fld.same W200 f195
        have Y201 := Wx.wr Y191 W200 (Safe.exa (Cx.alike C) f196 (by decide) (by decide))
        have O202 := O192.wr W200 g0
        refine g_goto C X198 d11_143 (by decide) (q := 166) (by decide) ?_
        refine g_aload C X198 d11_166 (q := 168) rfl rfl rfl ?_
        have fe203 := r_fe nN B0.1 hN B0.2.1 _ B0.2.2.1 (r_eq nN B0.1 hN B0.2.1 _ B0.2.2.1 hc22 (own_at B0.1 (own_tl B0) P0 hw24))
        exact gW_retA C X198 Y201 (own_EL hw) rfl rfl d11_168 (by decide) (by decide) ⟨_, rfl, rfl, ((((((Keep.refl h0 [o0, A]).ext E8).wr W167 (Or.inl (List.mem_of_getElem? (i := 1) rfl))).trans K182 (allS (Or.inl (List.mem_of_getElem? (i := 0) rfl)) all0)).wr W190 (Or.inl (List.mem_of_getElem? (i := 0) rfl))).wr W200 (Or.inl (List.mem_of_getElem? (i := 0) rfl))), _, own_B2' B0, _, _, ⟨(f196.wr W200), (own_cI fe203.1 FW200), (own_cI (fe203.1.trans (congrArg o32 fe203.2.2.2)) (FW190.other W200 (Or.inr (slot_ne (Or.inl (w59 hw)) (Or.inl (w61 hw)) (by decide) (t := .int) (t' := .int) (by decide) (by decide))))), ((R184.2.2.2.1.other W190 (Or.inr (slot_ne (Or.inl (w47 hw)) (Or.inl (w59 hw)) (by decide) (t := (.array (.object "java/lang/Object"))) (t' := .int) (by decide) (by decide)))).other W200 (Or.inr (slot_ne (Or.inl (w47 hw)) (Or.inl (w61 hw)) (by decide) (t := (.array (.object "java/lang/Object"))) (t' := .int) (by decide) (by decide)))), ((R184.2.2.2.2.1.other W190 (Or.inr (slot_ne (Or.inl (w43 hw)) (Or.inl (w59 hw)) (by decide) (t := .int) (t' := .int) (by decide) (by decide)))).other W200 (Or.inr (slot_ne (Or.inl (w43 hw)) (Or.inl (w61 hw)) (by decide) (t := .int) (t' := .int) (by decide) (by decide)))), ((R184.2.2.2.2.2.1.other W190 (Or.inr (slot_ne (Or.inr (w41 hw)) (Or.inl (w59 hw)) (by decide) (t := .boolean) (t' := .int) (by decide) (by decide)))).other W200 (Or.inr (slot_ne (Or.inr (w41 hw)) (Or.inl (w61 hw)) (by decide) (t := .boolean) (t' := .int) (by decide) (by decide)))), ((R184.2.2.2.2.2.2.other W190 (Or.inr (slot_ne (Or.inl (w113 hw)) (Or.inl (w59 hw)) (by decide) (t := .int) (t' := .int) (by decide) (by decide)))).other W200 (Or.inr (slot_ne (Or.inl (w113 hw)) (Or.inl (w61 hw)) (by decide) (t := .int) (t' := .int) (by decide) (by decide))))⟩, (((V168.keep K182 (ninS na nin0)).other W190 na).other W200 na), own_setP B0.1 (own_tl B0) P0 fe203.2.1, IntB.set I0 (Or.inr ⟨_, rfl, EB⟩)⟩
      · refine g_ifN C X162 d11_77 (q := 80) rfl (feq hc163).1 ?_
        refine g_iloadN C X162 d11_80 (q := 81) rfl rfl ?_
        refine g_ifY C X162 d11_81 (by decide) (q := 101) (by decide) (by decide) ?_
        refine g_getS C X162 (host := "") (Or.inl (w89 hw)) Via.refl (W.2.2.2.2.2.2.1.ext O10.2) d11_101 (q := 104) rfl ?_
        intro T204 X205
        refine g_astore C X205 d11_104 (q := 106) rfl rfl (L' := #[.val (.ref o0), .val (.ref ob), .val (.int (0 : Int32)), .val (.ref A), .val (.int (o32 ((hN + zN) % nN))), .val (.ref b25), .val (.ref a_REFUSED)]) rfl ?_
        refine g_goto C X205 d11_106 (by decide) (q := 166) (by decide) ?_
        refine g_aload C X205 d11_166 (q := 168) rfl rfl rfl ?_
        exact gW_retA C X205 Y7 (own_EL hw) rfl rfl d11_168 (by decide) (by decide) ⟨_, rfl, rfl, ((Keep.refl h0 [o0, A]).ext E8), hN, B0, _, _, ⟨(R0.1.ext E8), f19, f16, f13, (R0.2.2.2.2.1.ext E8), f160, (R0.2.2.2.2.2.2.ext E8)⟩, f23, P0, I0⟩
  · refine g_icY C X21 d11_24 (by decide) (q := 34) (by decide) (feq hc22).2 ?_
    refine g_aconstNull C X21 d11_34 (q := 35) rfl ?_
    refine g_astore C X21 d11_35 (q := 37) rfl rfl (L' := #[.val (.ref o0), .val (.ref ob), .val (.int (0 : Int32)), .val (.ref A), .val (.int (o32 ((hN + zN) % nN))), .val .null, .unset]) rfl ?_
    refine g_aconstNull C X21 d11_37 (q := 38) rfl ?_
    refine g_astore C X21 d11_38 (q := 40) rfl rfl (L' := #[.val (.ref o0), .val (.ref ob), .val (.int (0 : Int32)), .val (.ref A), .val (.int (o32 ((hN + zN) % nN))), .val .null, .val .null]) rfl ?_
    refine g_aload C X21 d11_40 (q := 42) rfl rfl rfl ?_
    refine g_nonN C X21 d11_42 (q := 45) rfl ?_
    refine g_aloadN C X21 d11_45 (q := 46) rfl rfl rfl ?_
    have f206 := (R0.2.2.2.2.1.ext E8)
    refine g_getF C X21 (host := "") (Or.inl (w42 hw)) Via.refl f206 d11_46 (q := 49) rfl ?_
    intro T207 X208
    refine g_aloadN C X208 d11_49 (q := 50) rfl rfl rfl ?_
    have f209 := (V0.ext E8)
    refine g_alen C X208 f209 d11_50 (q := 51) rfl ?_
    by_cases hc210 : (o32 cN) = (o32 nN)
    · refine g_icY C X208 d11_51 (by decide) (q := 65) (by decide) (teq hc210).1 ?_
      have hz211 := (r_lt1 nN B0.1 hN B0.2.1 zN B0.2.2.1 hc22)
      refine g_aloadN C X208 d11_65 (q := 66) rfl rfl rfl ?_
      refine g_aloadN C X208 d11_66 (q := 67) rfl rfl rfl ?_
      have f212 := (R0.1.ext E8)
      have f213 := (R0.2.2.2.2.2.1.ext E8)
      have f214 := (R0.2.2.2.2.2.2.ext E8)
      refine g_callP0 C X208 (y := (⟨"com/example/rondel/rondel/RingBuffer", "append", "(Ljava/lang/Object;)V"⟩ : MethodName)) (a := o0) (by decide) (w80 hw) (sel_priv (w4 hw) (w81 hw) (w82 hw) (by decide)) (w81 hw) (w82 hw) f212 (w83 hw) (w5 hw) (rm_append hw (o0 := o0) (A := A) (kC := kC) (nN := nN) (hN := hN) (zN := zN) (cN := cN) (rI := rI) (mI := mI) (vs := vs)  (ob := ob) O10 W ⟨f212, f19, f16, f13, f206, f213, f214⟩ f209 P0 I0 B0 Q0 na g0 gA hz211 EB) (W := 0) (by decide) (by decide) (k' := 2) rfl (n' := 32) rfl (by decide) (by decide) rfl pd_169 (argsL := [(.ref ob)]) rfl (rest := []) rfl rfl rfl d11_67 (q := 70) rfl ?_
      rintro T215 h216 X217 ⟨K218, N219⟩
      have B220 := own_B1 B0 hz211
      obtain ⟨mi221, vs222, R223, V224, P225, I226⟩ := N219
      have f227 := (Y1.ext E8)
      have Y228 := Wx.keep Y7 K218 (sfS (Safe.exa (Cx.alike C) f212 (by decide) (by decide)) (sfS (own_safeY (Cx.alike C) f227 (by decide)) sf0))
      have O229 := O10.keep K218 (allS g0 (allS gA all0))
      have Y230 := Yar.of V224
      refine g_goto C X217 d11_70 (by decide) (q := 166) (by decide) ?_
      refine g_aload C X217 d11_166 (q := 168) rfl rfl rfl ?_
      obtain rfl : zz = zN + 1 := ez.symm.trans (if_pos (own_zc1 B0 hz211 hc210))
      exact gW_retA C X217 Y228 (own_EL hw) rfl rfl d11_168 (by decide) (by decide) ⟨_, rfl, rfl, (((Keep.refl h0 [o0, A]).ext E8).trans K218 (allS (Or.inl (List.mem_of_getElem? (i := 0) rfl)) (allS (Or.inl (List.mem_of_getElem? (i := 1) rfl)) all0))), hN, B220, _, _, ⟨R223.1, R223.2.1, R223.2.2.1, R223.2.2.2.1, R223.2.2.2.2.1, R223.2.2.2.2.2.1, R223.2.2.2.2.2.2⟩, V224, P225, I226⟩
    · refine g_icN C X208 d11_51 (q := 54) rfl (feq hc210).1 ?_
      refine g_aloadN C X208 d11_54 (q := 55) rfl rfl rfl ?_
      have f231 := (R0.1.ext E8)
      have f232 := (R0.2.2.2.2.2.1.ext E8)
      have f233 := (R0.2.2.2.2.2.2.ext E8)
      refine g_callV1 C X208 (y := (⟨"com/example/rondel/rondel/RingBuffer", "size", "()I"⟩ : MethodName)) (z := (⟨"com/example/rondel/rondel/RingBuffer", "size", "()I"⟩ : MethodName)) (a := o0) (by decide) (w96 hw) (w54 hw) (w56 hw) (w55 hw) (nf_sel (w56 hw)) f231 (w57 hw) (w5 hw) (rm_size hw (o0 := o0) (A := A) (kC := kC) (nN := nN) (hN := hN) (zN := zN) (cN := cN) (rI := rI) (mI := mI) (vs := vs)  O10 W ⟨f231, f19, f16, f13, f206, f232, f233⟩ f209 P0 I0 B0 Q0 na g0 gA) (W := 0) (by decide) (by decide) (k' := 2) rfl (n' := 32) rfl (by decide) (by decide) rfl pd_175 (argsL := []) rfl (rest := []) rfl rfl rfl d11_55 (q := 58) rfl ?_
      rintro _ T234 _ X235 ⟨rfl, rfl⟩
      refine g_aloadN C X235 d11_58 (q := 59) rfl rfl rfl ?_
      refine g_getF C X235 (host := "") (Or.inl (w42 hw)) Via.refl f206 d11_59 (q := 62) rfl ?_
      intro T236 X237
      by_cases hc238 : (o32 zN) < (o32 cN)
      · refine g_icN C X237 d11_62 (q := 65) rfl (tlt hc238).2.1 ?_
        have hz239 := (r_lt1 nN B0.1 hN B0.2.1 zN B0.2.2.1 hc22)
        refine g_aloadN C X237 d11_65 (q := 66) rfl rfl rfl ?_
        refine g_aloadN C X237 d11_66 (q := 67) rfl rfl rfl ?_
        refine g_callP0 C X237 (y := (⟨"com/example/rondel/rondel/RingBuffer", "append", "(Ljava/lang/Object;)V"⟩ : MethodName)) (a := o0) (by decide) (w80 hw) (sel_priv (w4 hw) (w81 hw) (w82 hw) (by decide)) (w81 hw) (w82 hw) f231 (w83 hw) (w5 hw) (rm_append hw (o0 := o0) (A := A) (kC := kC) (nN := nN) (hN := hN) (zN := zN) (cN := cN) (rI := rI) (mI := mI) (vs := vs)  (ob := ob) O10 W ⟨f231, f19, f16, f13, f206, f232, f233⟩ f209 P0 I0 B0 Q0 na g0 gA hz239 EB) (W := 0) (by decide) (by decide) (k' := 2) rfl (n' := 32) rfl (by decide) (by decide) rfl pd_169 (argsL := [(.ref ob)]) rfl (rest := []) rfl rfl rfl d11_67 (q := 70) rfl ?_
        rintro T240 h241 X242 ⟨K243, N244⟩
        have B245 := own_B1 B0 hz239
        obtain ⟨mi246, vs247, R248, V249, P250, I251⟩ := N244
        have f252 := (Y1.ext E8)
        have Y253 := Wx.keep Y7 K243 (sfS (Safe.exa (Cx.alike C) f231 (by decide) (by decide)) (sfS (own_safeY (Cx.alike C) f252 (by decide)) sf0))
        have O254 := O10.keep K243 (allS g0 (allS gA all0))
        have Y255 := Yar.of V249
        refine g_goto C X242 d11_70 (by decide) (q := 166) (by decide) ?_
        refine g_aload C X242 d11_166 (q := 168) rfl rfl rfl ?_
        obtain rfl : zz = zN + 1 := ez.symm.trans (if_pos (own_zc2 B0 hc238))
        exact gW_retA C X242 Y253 (own_EL hw) rfl rfl d11_168 (by decide) (by decide) ⟨_, rfl, rfl, (((Keep.refl h0 [o0, A]).ext E8).trans K243 (allS (Or.inl (List.mem_of_getElem? (i := 0) rfl)) (allS (Or.inl (List.mem_of_getElem? (i := 1) rfl)) all0))), hN, B245, _, _, ⟨R248.1, R248.2.1, R248.2.2.1, R248.2.2.2.1, R248.2.2.2.2.1, R248.2.2.2.2.2.1, R248.2.2.2.2.2.2⟩, V249, P250, I251⟩
      · refine g_icY C X237 d11_62 (by decide) (q := 73) (by decide) (flt hc238).2.1 ?_
        obtain rfl : zN = zz := (ez.symm.trans (if_neg (own_zc3 B0 hc238))).symm
        refine g_aloadN C X237 d11_73 (q := 74) rfl rfl rfl ?_
        refine g_getF C X237 (host := "") (Or.inl (w40 hw)) Via.refl f232 d11_74 (q := 77) rfl ?_
        intro T257 X258
        by_cases hc259 : rI = (0 : Int32)
        · refine g_ifY C X258 d11_77 (by decide) (q := 109) (by decide) (teq hc259).1 ?_
          refine g_aload C X258 d11_109 (q := 111) rfl rfl rfl ?_
          refine g_nulY C X258 d11_111 (by decide) (q := 146) (by decide) ?_
          refine g_aloadN C X258 d11_146 (q := 147) rfl rfl rfl ?_
          refine g_getF C X258 (host := "") (Or.inl (w46 hw)) Via.refl f13 d11_147 (q := 150) rfl ?_
          intro T260 X261
          refine g_aloadN C X261 d11_150 (q := 151) rfl rfl rfl ?_
          refine g_getF C X261 (host := "") (Or.inl (w60 hw)) Via.refl f19 d11_151 (q := 154) rfl ?_
          intro T262 X263
          rcases ref_cases (IntB.ref (IntB.getD I0 (o32 hN).toNatClampNeg)) with hw264 | ⟨b265, hw264⟩
          · refine g_aaload C X263 rfl f209 (r_bd nN B0.1 hN B0.2.1).1 (w := .null) hw264 d11_154 (q := 155) rfl ?_
            refine g_astore C X263 d11_155 (q := 157) rfl rfl (L' := #[.val (.ref o0), .val (.ref ob), .val (.int (0 : Int32)), .val (.ref A), .val (.int (o32 ((hN + zN) % nN))), .val .null, .val .null]) rfl ?_
            have hz266 : 1 ≤ zN := own_1z B0 hc238
            have hz267 := own_pz B0
            refine g_aloadN C X263 d11_157 (q := 158) rfl rfl rfl ?_
            refine g_callP0 C X263 (y := (⟨"com/example/rondel/rondel/RingBuffer", "dropOldest", "()V"⟩ : MethodName)) (a := o0) (by decide) (w128 hw) (sel_priv (w4 hw) (w129 hw) (w130 hw) (by decide)) (w129 hw) (w130 hw) f231 (w131 hw) (w5 hw) (rm_drop hw (o0 := o0) (A := A) (kC := kC) (nN := nN) (hN := hN) (zN := zN) (cN := cN) (rI := rI) (mI := mI) (vs := vs)  O10 W ⟨f231, f19, f16, f13, f206, f232, f233⟩ f209 P0 I0 B0 Q0 na g0 gA hz266) (W := 0) (by decide) (by decide) (k' := 2) rfl (n' := 32) rfl (by decide) (by decide) rfl pd_30 (argsL := []) rfl (rest := []) rfl rfl rfl d11_158 (q := 161) rfl ?_
            rintro T268 h269 X270 ⟨K271, N272⟩
            have B273 := own_B2 B0
            obtain ⟨mi274, vs275, R276, V277, P278, I279⟩ := N272
            have f280 := (Y1.ext E8)
            have Y281 := Wx.keep Y7 K271 (sfS (Safe.exa (Cx.alike C) f231 (by decide) (by decide)) (sfS (own_safeY (Cx.alike C) f280 (by decide)) sf0))
            have O282 := O10.keep K271 (allS g0 (allS gA all0))
            have Y283 := Yar.of V277
            refine g_aloadN C X270 d11_161 (q := 162) rfl rfl rfl ?_
            refine g_aloadN C X270 d11_162 (q := 163) rfl rfl rfl ?_
            refine g_callP0 C X270 (y := (⟨"com/example/rondel/rondel/RingBuffer", "append", "(Ljava/lang/Object;)V"⟩ : MethodName)) (a := o0) (by decide) (w80 hw) (sel_priv (w4 hw) (w81 hw) (w82 hw) (by decide)) (w81 hw) (w82 hw) R276.1 (w83 hw) (w5 hw) (rm_append hw (o0 := o0) (A := A) (kC := kC) (nN := nN) (hN := ((hN + 1) % nN)) (zN := (zN - 1)) (cN := cN) (rI := rI) (mI := mi274) (vs := vs275)  (ob := ob) O282 W ⟨R276.1, R276.2.1, R276.2.2.1, R276.2.2.2.1, R276.2.2.2.2.1, R276.2.2.2.2.2.1, R276.2.2.2.2.2.2⟩ V277 P278 I279 B273 Q0 na g0 gA hz267 EB) (W := 0) (by decide) (by decide) (k' := 2) rfl (n' := 32) rfl (by decide) (by decide) rfl pd_169 (argsL := [(.ref ob)]) rfl (rest := []) rfl rfl rfl d11_163 (q := 166) rfl ?_
            rintro T284 h285 X286 ⟨K287, N288⟩
            have B289 := own_B1 B273 hz267
            obtain ⟨mi290, vs291, R292, V293, P294, I295⟩ := N288
            have Y296 := Wx.keep Y281 K287 (sfS (Safe.exa (Cx.alike C) R276.1 (by decide) (by decide)) (sfS (own_safeY (Cx.alike C) Y283 (by decide)) sf0))
            have O297 := O282.keep K287 (allS g0 (allS gA all0))
            have Y298 := Yar.of V293
            refine g_aload C X286 d11_166 (q := 168) rfl rfl rfl ?_
            have ee299 : zN - 1 + 1 = zN := Nat.sub_add_cancel hz266
            have bb301 := B289
            have rr300 : RN Z h285 o0 A kC nN ((hN + 1) % nN) ((zN - 1) + 1) cN rI := ⟨_, _, ⟨R292.1, R292.2.1, R292.2.2.1, R292.2.2.2.1, R292.2.2.2.2.1, R292.2.2.2.2.2.1, R292.2.2.2.2.2.2⟩, V293, P294, I295⟩
            rw [ee299] at bb301 rr300
            exact gW_retA C X286 Y296 (own_EL hw) rfl rfl d11_168 (by decide) (by decide) ⟨_, rfl, rfl, ((((Keep.refl h0 [o0, A]).ext E8).trans K271 (allS (Or.inl (List.mem_of_getElem? (i := 0) rfl)) (allS (Or.inl (List.mem_of_getElem? (i := 1) rfl)) all0))).trans K287 (allS (Or.inl (List.mem_of_getElem? (i := 0) rfl)) (allS (Or.inl (List.mem_of_getElem? (i := 1) rfl)) all0))), _, bb301, rr300⟩
          · refine g_aaload C X263 rfl f209 (r_bd nN B0.1 hN B0.2.1).1 (w := (.ref b265)) hw264 d11_154 (q := 155) rfl ?_
            refine g_astore C X263 d11_155 (q := 157) rfl rfl (L' := #[.val (.ref o0), .val (.ref ob), .val (.int (0 : Int32)), .val (.ref A), .val (.int (o32 ((hN + zN) % nN))), .val .null, .val (.ref b265)]) rfl ?_
            have hz302 : 1 ≤ zN := own_1z B0 hc238
            have hz303 := own_pz B0
            refine g_aloadN C X263 d11_157 (q := 158) rfl rfl rfl ?_
            refine g_callP0 C X263 (y := (⟨"com/example/rondel/rondel/RingBuffer", "dropOldest", "()V"⟩ : MethodName)) (a := o0) (by decide) (w128 hw) (sel_priv (w4 hw) (w129 hw) (w130 hw) (by decide)) (w129 hw) (w130 hw) f231 (w131 hw) (w5 hw) (rm_drop hw (o0 := o0) (A := A) (kC := kC) (nN := nN) (hN := hN) (zN := zN) (cN := cN) (rI := rI) (mI := mI) (vs := vs)  O10 W ⟨f231, f19, f16, f13, f206, f232, f233⟩ f209 P0 I0 B0 Q0 na g0 gA hz302) (W := 0) (by decide) (by decide) (k' := 2) rfl (n' := 32) rfl (by decide) (by decide) rfl pd_30 (argsL := []) rfl (rest := []) rfl rfl rfl d11_158 (q := 161) rfl ?_
            rintro T304 h305 X306 ⟨K307, N308⟩
            have B309 := own_B2 B0
            obtain ⟨mi310, vs311, R312, V313, P314, I315⟩ := N308
            have f316 := (Y1.ext E8)
            have Y317 := Wx.keep Y7 K307 (sfS (Safe.exa (Cx.alike C) f231 (by decide) (by decide)) (sfS (own_safeY (Cx.alike C) f316 (by decide)) sf0))
            have O318 := O10.keep K307 (allS g0 (allS gA all0))
            have Y319 := Yar.of V313
            refine g_aloadN C X306 d11_161 (q := 162) rfl rfl rfl ?_
            refine g_aloadN C X306 d11_162 (q := 163) rfl rfl rfl ?_
            refine g_callP0 C X306 (y := (⟨"com/example/rondel/rondel/RingBuffer", "append", "(Ljava/lang/Object;)V"⟩ : MethodName)) (a := o0) (by decide) (w80 hw) (sel_priv (w4 hw) (w81 hw) (w82 hw) (by decide)) (w81 hw) (w82 hw) R312.1 (w83 hw) (w5 hw) (rm_append hw (o0 := o0) (A := A) (kC := kC) (nN := nN) (hN := ((hN + 1) % nN)) (zN := (zN - 1)) (cN := cN) (rI := rI) (mI := mi310) (vs := vs311)  (ob := ob) O318 W ⟨R312.1, R312.2.1, R312.2.2.1, R312.2.2.2.1, R312.2.2.2.2.1, R312.2.2.2.2.2.1, R312.2.2.2.2.2.2⟩ V313 P314 I315 B309 Q0 na g0 gA hz303 EB) (W := 0) (by decide) (by decide) (k' := 2) rfl (n' := 32) rfl (by decide) (by decide) rfl pd_169 (argsL := [(.ref ob)]) rfl (rest := []) rfl rfl rfl d11_163 (q := 166) rfl ?_
            rintro T320 h321 X322 ⟨K323, N324⟩
            have B325 := own_B1 B309 hz303
            obtain ⟨mi326, vs327, R328, V329, P330, I331⟩ := N324
            have Y332 := Wx.keep Y317 K323 (sfS (Safe.exa (Cx.alike C) R312.1 (by decide) (by decide)) (sfS (own_safeY (Cx.alike C) Y319 (by decide)) sf0))
            have O333 := O318.keep K323 (allS g0 (allS gA all0))
            have Y334 := Yar.of V329
            refine g_aload C X322 d11_166 (q := 168) rfl rfl rfl ?_
            have ee335 : zN - 1 + 1 = zN := Nat.sub_add_cancel hz302
            have bb337 := B325
            have rr336 : RN Z h321 o0 A kC nN ((hN + 1) % nN) ((zN - 1) + 1) cN rI := ⟨_, _, ⟨R328.1, R328.2.1, R328.2.2.1, R328.2.2.2.1, R328.2.2.2.2.1, R328.2.2.2.2.2.1, R328.2.2.2.2.2.2⟩, V329, P330, I331⟩
            rw [ee335] at bb337 rr336
            exact gW_retA C X322 Y332 (own_EL hw) rfl rfl d11_168 (by decide) (by decide) ⟨_, rfl, rfl, ((((Keep.refl h0 [o0, A]).ext E8).trans K307 (allS (Or.inl (List.mem_of_getElem? (i := 0) rfl)) (allS (Or.inl (List.mem_of_getElem? (i := 1) rfl)) all0))).trans K323 (allS (Or.inl (List.mem_of_getElem? (i := 0) rfl)) (allS (Or.inl (List.mem_of_getElem? (i := 1) rfl)) all0))), _, bb337, rr336⟩
        · refine g_ifN C X258 d11_77 (q := 80) rfl (feq hc259).1 ?_
          refine g_iloadN C X258 d11_80 (q := 81) rfl rfl ?_
          refine g_ifY C X258 d11_81 (by decide) (q := 101) (by decide) (by decide) ?_
          refine g_getS C X258 (host := "") (Or.inl (w89 hw)) Via.refl (W.2.2.2.2.2.2.1.ext O10.2) d11_101 (q := 104) rfl ?_
          intro T338 X339
          refine g_astore C X339 d11_104 (q := 106) rfl rfl (L' := #[.val (.ref o0), .val (.ref ob), .val (.int (0 : Int32)), .val (.ref A), .val (.int (o32 ((hN + zN) % nN))), .val .null, .val (.ref a_REFUSED)]) rfl ?_
          refine g_goto C X339 d11_106 (by decide) (q := 166) (by decide) ?_
          refine g_aload C X339 d11_166 (q := 168) rfl rfl rfl ?_
          exact gW_retA C X339 Y7 (own_EL hw) rfl rfl d11_168 (by decide) (by decide) ⟨_, rfl, rfl, ((Keep.refl h0 [o0, A]).ext E8), hN, B0, _, _, ⟨f231, f19, f16, f13, f206, f232, f233⟩, f209, P0, I0⟩
set_option maxRecDepth 65536 in
set_option maxHeartbeats 40000000 in
theorem rm_offer {l : Launch} {Z : State} {a0 : Array Value} (hw : ∀ d ∈ tables_1, d.before a0 Z = true) {o0 A : Addr} {kC : ClassId} {nN hN zN cN : Nat} {rI mI : Int32} {vs : List Value} {ob : Addr} {zz : Nat} {a_EVICT_OLDEST : Addr} {a_REJECT : Addr} {a_REFUSED : Addr} {ca : Addr} {cc : Cell} {h0 : Heap} {n0 : Nat} (O : Old Z n0 h0) (W : Wd Z a_EVICT_OLDEST a_REJECT a_REFUSED ca cc) (R0 : RBf Z h0 o0 A (o32 hN) (o32 ((hN + zN) % nN)) (o32 cN) rI mI) (V0 : Arv Z h0 A kC (.object "java/lang/Object") (o32 nN) vs .null) (P0 : vs.map nb = pat nN hN zN) (I0 : ∀ v ∈ vs, IntB Z v) (B0 : Bd nN hN zN cN) (Q0 : Ovr Z kC "java/lang/Object") (na : A ≠ o0) (g0 : n0 ≤ o0) (gA : n0 ≤ A) (ez : (if zN < cN then zN + 1 else zN) = zz) (EB : Exa Z Z.heap ob "java/lang/Integer") :
    MetW1 l Z consts_1 (⟨"com/example/rondel/rondel/RingBuffer", "offer", "(Ljava/lang/Object;)Z"⟩ : MethodName) prog_2_method_10_code 2 (some .boolean) ({ frames := 3, cells := 2, slots := 32, locals := 49 } : Room) #[(.ref o0), (.ref ob)] h0 n0 (fun v h => (∃ i, v = .int i) ∧ Keep h0 h [o0, A] ∧ ∃ hd', Bd nN hd' zz cN ∧ RN Z h o0 A kC nN hd' zz cN rI) := by
  refine metW_of (L := #[.val (.ref o0), .val (.ref ob)]) (plainFor_of_name pn_4) (fun m => by first | (simp [entryFrame, mkF, argsToLocals, Value.category]; done) | rfl) ?_
  intro p e s m below meth c T vm C X Y
  change Cx p (s.setVm vm) m meth c Z "com/example/rondel/rondel/RingBuffer" prog_2_method_10_code 2 (some .boolean) "offer" at C
  have Y1 := Yar.of V0
  refine g_aloadN C X d10_0 (q := 1) rfl rfl rfl ?_
  refine g_aloadN C X d10_1 (q := 2) rfl rfl rfl ?_
  refine g_iconst C X d10_2 (q := 3) rfl (z := (0 : Int32)) rfl ?_
  refine gW_callP1 C X Y (own_EL hw) (y := (⟨"com/example/rondel/rondel/RingBuffer", "push", "(Ljava/lang/Object;Z)Ljava/lang/Object;"⟩ : MethodName)) (a := o0) (by decide) (w75 hw) (sel_priv (w4 hw) (w76 hw) (w77 hw) (by decide)) (w76 hw) (w77 hw) R0.1 (w78 hw) (w5 hw) (rm_push hw (o0 := o0) (A := A) (kC := kC) (nN := nN) (hN := hN) (zN := zN) (cN := cN) (rI := rI) (mI := mI) (vs := vs)  (ob := ob) (zz := zz) O W ⟨R0.1, R0.2.1, R0.2.2.1, R0.2.2.2.1, R0.2.2.2.2.1, R0.2.2.2.2.2.1, R0.2.2.2.2.2.2⟩ V0 P0 I0 B0 Q0 na g0 gA ez EB) (W := 0) (by decide) (by decide) (k' := 2) rfl (n' := 32) rfl (by decide) (by decide) rfl pd_223 (argsL := [(.ref ob), (.int (0 : Int32))]) rfl (rest := []) rfl rfl rfl d10_3 (q := 6) rfl ?_
  rintro w9 T2 h3 vm4 C X5 Y6 R7 ⟨hr10, K8, hd11, B12, N13⟩
  obtain ⟨mi14, vs15, R16, V17, P18, I19⟩ := N13
  have O20 := O.keep K8 (allS g0 (allS gA all0))
  have Y21 := Yar.of V17
  rcases ref_cases hr10 with rfl | ⟨b22, rfl⟩
  · refine g_getS C X5 (host := "") (Or.inl (w89 hw)) Via.refl (W.2.2.2.2.2.2.1.ext O20.2) d10_6 (q := 9) rfl ?_
    intro T23 X24
    refine g_acmp C X24 d10_9 rfl rfl (same := false) (decide_eq_false nofun) (by decide) (q := 12) (by decide) ?_
    refine g_iconst C X24 d10_12 (q := 13) rfl (z := (1 : Int32)) rfl ?_
    refine g_goto C X24 d10_13 (by decide) (q := 17) (by decide) ?_
    exact gW_retN C X24 Y6 (own_EL hw) (Or.inl rfl) (z' := 1) (by decide) d10_17 (by decide) (by decide) ⟨_, rfl, ⟨_, rfl⟩, ((Keep.refl h0 [o0, A]).trans K8 (allS (Or.inl (List.mem_of_getElem? (i := 0) rfl)) (allS (Or.inl (List.mem_of_getElem? (i := 1) rfl)) all0))), _, B12, _, _, ⟨R16.1, R16.2.1, R16.2.2.1, R16.2.2.2.1, R16.2.2.2.2.1, R16.2.2.2.2.2.1, R16.2.2.2.2.2.2⟩, V17, P18, I19⟩
  · refine g_getS C X5 (host := "") (Or.inl (w89 hw)) Via.refl (W.2.2.2.2.2.2.1.ext O20.2) d10_6 (q := 9) rfl ?_
    intro T25 X26
    by_cases ha27 : b22 = a_REFUSED
    · refine g_acmp C X26 d10_9 rfl rfl (same := true) (decide_eq_true (congrArg Value.ref ha27)) (by decide) (q := 16) (by decide) ?_
      refine g_iconst C X26 d10_16 (q := 17) rfl (z := (0 : Int32)) rfl ?_
      exact gW_retN C X26 Y6 (own_EL hw) (Or.inl rfl) (z' := 0) (by decide) d10_17 (by decide) (by decide) ⟨_, rfl, ⟨_, rfl⟩, ((Keep.refl h0 [o0, A]).trans K8 (allS (Or.inl (List.mem_of_getElem? (i := 0) rfl)) (allS (Or.inl (List.mem_of_getElem? (i := 1) rfl)) all0))), _, B12, _, _, ⟨R16.1, R16.2.1, R16.2.2.1, R16.2.2.2.1, R16.2.2.2.2.1, R16.2.2.2.2.2.1, R16.2.2.2.2.2.2⟩, V17, P18, I19⟩
    · refine g_acmp C X26 d10_9 rfl rfl (same := false) (decide_eq_false fun z => ha27 (Value.ref.inj z)) (by decide) (q := 12) (by decide) ?_
      refine g_iconst C X26 d10_12 (q := 13) rfl (z := (1 : Int32)) rfl ?_
      refine g_goto C X26 d10_13 (by decide) (q := 17) (by decide) ?_
      exact gW_retN C X26 Y6 (own_EL hw) (Or.inl rfl) (z' := 1) (by decide) d10_17 (by decide) (by decide) ⟨_, rfl, ⟨_, rfl⟩, ((Keep.refl h0 [o0, A]).trans K8 (allS (Or.inl (List.mem_of_getElem? (i := 0) rfl)) (allS (Or.inl (List.mem_of_getElem? (i := 1) rfl)) all0))), _, B12, _, _, ⟨R16.1, R16.2.1, R16.2.2.1, R16.2.2.2.1, R16.2.2.2.2.1, R16.2.2.2.2.2.1, R16.2.2.2.2.2.2⟩, V17, P18, I19⟩
set_option maxRecDepth 65536 in
set_option maxHeartbeats 40000000 in
theorem rm_copy {l : Launch} {Z : State} {a0 : Array Value} (hw : ∀ d ∈ tables_1, d.before a0 Z = true) {o0 A : Addr} {kC : ClassId} {nN hN zN cN : Nat} {rI mI : Int32} {vs : List Value} {bB : Addr} {kB : ClassId} {mN : Nat} {a_EVICT_OLDEST : Addr} {a_REJECT : Addr} {a_REFUSED : Addr} {ca : Addr} {cc : Cell} {h0 : Heap} {n0 : Nat} (O : Old Z n0 h0) (W : Wd Z a_EVICT_OLDEST a_REJECT a_REFUSED ca cc) (R0 : RBf Z h0 o0 A (o32 hN) (o32 ((hN + zN) % nN)) (o32 cN) rI mI) (V0 : Arv Z h0 A kC (.object "java/lang/Object") (o32 nN) vs .null) (P0 : vs.map nb = pat nN hN zN) (I0 : ∀ v ∈ vs, IntB Z v) (B0 : Bd nN hN zN cN) (Q0 : Ovr Z kC "java/lang/Object") (na : A ≠ o0) (g0 : n0 ≤ o0) (gA : n0 ≤ A) (VB : Arv Z h0 bB kB (.object "java/lang/Object") (o32 mN) (List.replicate mN .null) .null) (QB : Ovr Z kB "java/lang/Object") (gB : n0 ≤ bB) (nB : bB ≠ A) (nBo : bB ≠ o0) (m5 : mN < 5) (zm : zN < mN + 1) :
    Met0 l Z (⟨"com/example/rondel/rondel/RingBuffer", "copyInto", "([Ljava/lang/Object;)V"⟩ : MethodName) prog_2_method_25_code 4 none ({ frames := 1, cells := 0, slots := 0, locals := 18 } : Room) #[(.ref o0), (.ref bB)] h0 n0 (fun h => Keep h0 h [bB] ∧ Arv Z h bB kB (.object "java/lang/Object") (o32 mN) (cpy nN hN zN mN vs) .null) := by
  refine met_of (L := #[.val (.ref o0), .val (.ref bB), .unset, .unset]) (plainFor_of_name pn_4) (fun m => by first | (simp [entryFrame, mkF, argsToLocals, Value.category]; done) | rfl) ?_
  intro p e s m below meth c T C X
  change Cx p s m meth c Z "com/example/rondel/rondel/RingBuffer" prog_2_method_25_code 4 none "copyInto" at C
  refine g_aloadN C X d16_0 (q := 1) rfl rfl rfl ?_
  refine g_callV1 C X (y := (⟨"com/example/rondel/rondel/RingBuffer", "size", "()I"⟩ : MethodName)) (z := (⟨"com/example/rondel/rondel/RingBuffer", "size", "()I"⟩ : MethodName)) (a := o0) (by decide) (w96 hw) (w54 hw) (w56 hw) (w55 hw) (nf_sel (w56 hw)) R0.1 (w57 hw) (w5 hw) (rm_size hw (o0 := o0) (A := A) (kC := kC) (nN := nN) (hN := hN) (zN := zN) (cN := cN) (rI := rI) (mI := mI) (vs := vs)  O W ⟨R0.1, R0.2.1, R0.2.2.1, R0.2.2.2.1, R0.2.2.2.2.1, R0.2.2.2.2.2.1, R0.2.2.2.2.2.2⟩ V0 P0 I0 B0 Q0 na g0 gA) (W := 0) (by decide) (by decide) (k' := 0) rfl (n' := 0) rfl (by decide) (by decide) rfl pd_175 (argsL := []) rfl (rest := []) rfl rfl rfl d16_1 (q := 4) rfl ?_
  rintro _ T1 _ X2 ⟨rfl, rfl⟩
  refine g_istoreN C X2 d16_4 (q := 5) rfl (L' := #[.val (.ref o0), .val (.ref bB), .val (.int (o32 zN)), .unset]) rfl ?_
  refine g_iloadN C X2 d16_5 (q := 6) rfl rfl ?_
  refine g_aloadN C X2 d16_6 (q := 7) rfl rfl rfl ?_
  refine g_getF C X2 (host := "") (Or.inl (w46 hw)) Via.refl R0.2.2.2.1 d16_7 (q := 10) rfl ?_
  intro T3 X4
  refine g_alen C X4 V0 d16_10 (q := 11) rfl ?_
  refine g_aloadN C X4 d16_11 (q := 12) rfl rfl rfl ?_
  refine g_getF C X4 (host := "") (Or.inl (w60 hw)) Via.refl R0.2.1 d16_12 (q := 15) rfl ?_
  intro T5 X6
  refine g_isub C X6 d16_15 (q := 16) rfl (z := ((o32 nN) - (o32 hN))) rfl ?_
  refine g_callS1 C X6 (y := (⟨"java/lang/Math", "min", "(II)I"⟩ : MethodName)) (by decide) (w105 hw) (w106 hw) (w107 hw) (w99 hw) (rm_min hw (x1 := (o32 zN)) (x2 := ((o32 nN) - (o32 hN))) (x3 := (o32 (min zN (nN - hN)))) O W (r_min nN B0.1 hN B0.2.1 zN B0.2.2.1).1) (W := 0) (by decide) (by decide) (k' := 0) rfl (n' := 0) rfl (by decide) (by decide) rfl pd_95 (argsL := [(.int (o32 zN)), (.int ((o32 nN) - (o32 hN)))]) rfl (rest := []) rfl rfl rfl d16_16 (q := 19) rfl ?_
  rintro _ T7 _ X8 ⟨rfl, rfl⟩
  refine g_istoreN C X8 d16_19 (q := 20) rfl (L' := #[.val (.ref o0), .val (.ref bB), .val (.int (o32 zN)), .val (.int (o32 (min zN (nN - hN))))]) rfl ?_
  refine g_aloadN C X8 d16_20 (q := 21) rfl rfl rfl ?_
  refine g_getF C X8 (host := "") (Or.inl (w46 hw)) Via.refl R0.2.2.2.1 d16_21 (q := 24) rfl ?_
  intro T9 X10
  refine g_aloadN C X10 d16_24 (q := 25) rfl rfl rfl ?_
  refine g_getF C X10 (host := "") (Or.inl (w60 hw)) Via.refl R0.2.1 d16_25 (q := 28) rfl ?_
  intro T11 X12
  refine g_aloadN C X12 d16_28 (q := 29) rfl rfl rfl ?_
  refine g_iconst C X12 d16_29 (q := 30) rfl (z := (0 : Int32)) rfl ?_
  refine g_iloadN C X12 d16_30 (q := 31) rfl rfl ?_
  refine g_cpA C X12 (w108 hw) (w111 hw) (w109 hw) (w110 hw) V0 VB (own_stoI O.2 VB QB (w84 hw) (own_intM I0 _ _)) (r_bd nN B0.1 hN B0.2.1).1.1 (by decide) (r_min nN B0.1 hN B0.2.1 zN B0.2.2.1).2.2.1 (by rw [(r_bd nN B0.1 hN B0.2.1).2, (r_min nN B0.1 hN B0.2.1 zN B0.2.2.1).2.2.2.2.1, (r_nn nN B0.1).2]; exact (r_min nN B0.1 hN B0.2.1 zN B0.2.2.1).2.2.2.2.2.2.1) (by rw [(r_min nN B0.1 hN B0.2.1 zN B0.2.2.1).2.2.2.2.1, (r_nn mN m5).2]; show 0 + _ ≤ _; omega) (by rw [(r_min nN B0.1 hN B0.2.1 zN B0.2.2.1).2.2.2.2.1, List.length_replicate]; show 0 + _ ≤ _; omega) (vd' := ((List.replicate mN Value.null).take 0 ++ ((List.range (min zN (nN - hN))).map fun i => vs.getD (hN + i) .null) ++ (List.replicate mN Value.null).drop (0 + min zN (nN - hN)))) (own_c1 ⟨B0.1, B0.2.1, B0.2.2.1⟩ m5 zm) gB rfl d16_31 (q := 34) rfl (by decide) (W := 0) rfl (by decide) ?_
  intro T13 h14 X15 K16 V17
  have O18 := O.keep K16 (allS gB all0)
  refine g_aloadN C X15 d16_34 (q := 35) rfl rfl rfl ?_
  have f19 := (R0.2.2.2.1.keep K16 (ninS (Ne.symm nBo) nin0))
  refine g_getF C X15 (host := "") (Or.inl (w46 hw)) Via.refl f19 d16_35 (q := 38) rfl ?_
  intro T20 X21
  refine g_iconst C X21 d16_38 (q := 39) rfl (z := (0 : Int32)) rfl ?_
  refine g_aloadN C X21 d16_39 (q := 40) rfl rfl rfl ?_
  refine g_iloadN C X21 d16_40 (q := 41) rfl rfl ?_
  refine g_iloadN C X21 d16_41 (q := 42) rfl rfl ?_
  refine g_iloadN C X21 d16_42 (q := 43) rfl rfl ?_
  refine g_isub C X21 d16_43 (q := 44) rfl (z := (o32 (zN - min zN (nN - hN)))) (r_min nN B0.1 hN B0.2.1 zN B0.2.2.1).2.1 ?_
  have f22 := (V0.keep K16 (ninS (Ne.symm nB) nin0))
  refine g_cpA C X21 (w108 hw) (w111 hw) (w109 hw) (w110 hw) f22 V17 (own_stoI O18.2 V17 QB (w84 hw) (own_intM I0 _ _)) (by decide) (r_min nN B0.1 hN B0.2.1 zN B0.2.2.1).2.2.1 (r_min nN B0.1 hN B0.2.1 zN B0.2.2.1).2.2.2.1 (by rw [(r_min nN B0.1 hN B0.2.1 zN B0.2.2.1).2.2.2.2.2.1, (r_nn nN B0.1).2]; have := (r_min nN B0.1 hN B0.2.1 zN B0.2.2.1).2.2.2.2.2.2.2; show 0 + _ ≤ _; omega) (by rw [(r_min nN B0.1 hN B0.2.1 zN B0.2.2.1).2.2.2.2.1, (r_min nN B0.1 hN B0.2.1 zN B0.2.2.1).2.2.2.2.2.1, (r_nn mN m5).2]; omega) (by rw [(r_min nN B0.1 hN B0.2.1 zN B0.2.2.1).2.2.2.2.1, (r_min nN B0.1 hN B0.2.1 zN B0.2.2.1).2.2.2.2.2.1, own_c3 zm]; omega) (vd' := (cpy nN hN zN mN vs)) (own_c2 ⟨B0.1, B0.2.1, B0.2.2.1⟩ rfl) gB rfl d16_44 (q := 47) rfl (by decide) (W := 0) rfl (by decide) ?_
  intro T23 h24 X25 K26 V27
  have O28 := O18.keep K26 (allS gB all0)
  exact g_retV C X25 d16_47 (by decide) (by decide) ⟨rfl, (((Keep.refl h0 [bB]).trans K16 (allS (Or.inl (List.mem_of_getElem? (i := 0) rfl)) all0)).trans K26 (allS (Or.inl (List.mem_of_getElem? (i := 0) rfl)) all0)), V27⟩
set_option maxRecDepth 65536 in
set_option maxHeartbeats 40000000 in
theorem rm_setc {l : Launch} {Z : State} {a0 : Array Value} (hw : ∀ d ∈ tables_1, d.before a0 Z = true) {o0 A : Addr} {kC : ClassId} {nN hN zN cN : Nat} {rI mI : Int32} {vs : List Value} {dN : Nat} {a_EVICT_OLDEST : Addr} {a_REJECT : Addr} {a_REFUSED : Addr} {ca : Addr} {cc : Cell} {h0 : Heap} {n0 : Nat} (O : Old Z n0 h0) (W : Wd Z a_EVICT_OLDEST a_REJECT a_REFUSED ca cc) (R0 : RBf Z h0 o0 A (o32 hN) (o32 ((hN + zN) % nN)) (o32 cN) rI mI) (V0 : Arv Z h0 A kC (.object "java/lang/Object") (o32 nN) vs .null) (P0 : vs.map nb = pat nN hN zN) (I0 : ∀ v ∈ vs, IntB Z v) (B0 : Bd nN hN zN cN) (Q0 : Ovr Z kC "java/lang/Object") (na : A ≠ o0) (g0 : n0 ≤ o0) (gA : n0 ≤ A) (d5 : dN < 5) (d1 : 1 ≤ dN) :
    Met0 l Z (⟨"com/example/rondel/rondel/RingBuffer", "setCapacity", "(I)V"⟩ : MethodName) prog_2_method_4_code 5 none ({ frames := 2, cells := 1, slots := 4, locals := 33 } : Room) #[(.ref o0), (.int (o32 dN))] h0 n0 (fun h => Keep h0 h [o0] ∧ ∃ A' k' n' h', (A' = A ∨ h0.size ≤ A') ∧ A' ≠ o0 ∧ Ovr Z k' "java/lang/Object" ∧ Bd n' h' zN dN ∧ RN Z h o0 A' k' n' h' zN dN rI) := by
  refine met_of (L := #[.val (.ref o0), .val (.int (o32 dN)), .unset, .unset, .unset]) (plainFor_of_name pn_4) (fun m => by first | (simp [entryFrame, mkF, argsToLocals, Value.category]; done) | rfl) ?_
  intro p e s m below meth c T C X
  change Cx p s m meth c Z "com/example/rondel/rondel/RingBuffer" prog_2_method_4_code 5 none "setCapacity" at C
  refine g_iloadN C X d14_0 (q := 1) rfl rfl ?_
  refine g_callS0 C X (y := (⟨"com/example/rondel/rondel/RingBuffer", "checkCapacity", "(I)V"⟩ : MethodName)) (by decide) (w23 hw) (w24 hw) (w25 hw) (w5 hw) (rm_cc hw (x1 := (o32 dN)) O W (r_max dN d5 zN (own_z5 B0) d1).2) (W := 0) (by decide) (by decide) (k' := 0) rfl (n' := 0) rfl (by decide) (by decide) rfl pd_262 (argsL := [(.int (o32 dN))]) rfl (rest := []) rfl rfl rfl d14_1 (q := 4) rfl ?_
  rintro T1 _ X2 rfl
  refine g_aloadN C X2 d14_4 (q := 5) rfl rfl rfl ?_
  refine g_callV1 C X2 (y := (⟨"com/example/rondel/rondel/RingBuffer", "size", "()I"⟩ : MethodName)) (z := (⟨"com/example/rondel/rondel/RingBuffer", "size", "()I"⟩ : MethodName)) (a := o0) (by decide) (w96 hw) (w54 hw) (w56 hw) (w55 hw) (nf_sel (w56 hw)) R0.1 (w57 hw) (w5 hw) (rm_size hw (o0 := o0) (A := A) (kC := kC) (nN := nN) (hN := hN) (zN := zN) (cN := cN) (rI := rI) (mI := mI) (vs := vs)  O W ⟨R0.1, R0.2.1, R0.2.2.1, R0.2.2.2.1, R0.2.2.2.2.1, R0.2.2.2.2.2.1, R0.2.2.2.2.2.2⟩ V0 P0 I0 B0 Q0 na g0 gA) (W := 0) (by decide) (by decide) (k' := 0) rfl (n' := 0) rfl (by decide) (by decide) rfl pd_175 (argsL := []) rfl (rest := []) rfl rfl rfl d14_5 (q := 8) rfl ?_
  rintro _ T3 _ X4 ⟨rfl, rfl⟩
  refine g_istoreN C X4 d14_8 (q := 9) rfl (L' := #[.val (.ref o0), .val (.int (o32 dN)), .val (.int (o32 zN)), .unset, .unset]) rfl ?_
  refine g_iloadN C X4 d14_9 (q := 10) rfl rfl ?_
  refine g_iloadN C X4 d14_10 (q := 11) rfl rfl ?_
  refine g_callS1 C X4 (y := (⟨"java/lang/Math", "max", "(II)I"⟩ : MethodName)) (by decide) (w97 hw) (w98 hw) (w100 hw) (w99 hw) (rm_max hw (x1 := (o32 dN)) (x2 := (o32 zN)) (x3 := (o32 (max dN zN))) O W (r_max dN d5 zN (own_z5 B0) d1).1) (W := 0) (by decide) (by decide) (k' := 0) rfl (n' := 0) rfl (by decide) (by decide) rfl pd_95 (argsL := [(.int (o32 dN)), (.int (o32 zN))]) rfl (rest := []) rfl rfl rfl d14_11 (q := 14) rfl ?_
  rintro _ T5 _ X6 ⟨rfl, rfl⟩
  refine g_istoreN C X6 d14_14 (q := 15) rfl (L' := #[.val (.ref o0), .val (.int (o32 dN)), .val (.int (o32 zN)), .val (.int (o32 (max dN zN))), .unset]) rfl ?_
  refine g_iloadN C X6 d14_15 (q := 16) rfl rfl ?_
  refine g_aloadN C X6 d14_16 (q := 17) rfl rfl rfl ?_
  refine g_getF C X6 (host := "") (Or.inl (w46 hw)) Via.refl R0.2.2.2.1 d14_17 (q := 20) rfl ?_
  intro T7 X8
  refine g_alen C X8 V0 d14_20 (q := 21) rfl ?_
  by_cases hc9 : (o32 (max dN zN)) = (o32 nN)
  · refine g_icY C X8 d14_21 (by decide) (q := 61) (by decide) (teq hc9).1 ?_
    refine g_aloadN C X8 d14_61 (q := 62) rfl rfl rfl ?_
    refine g_iloadN C X8 d14_62 (q := 63) rfl rfl ?_
    refine g_putF C X8 (host := "") (Or.inl (w42 hw)) Via.refl R0.2.2.2.2.1 R0.1 (Or.inl (w43 hw)) (w4 hw) (ty := .int) (by decide) rfl rfl d14_63 (q := 66) rfl g0 ?_
    intro T10 h12 X11 W13
    have FW13 := Fld.same W13 R0.2.2.2.2.1
    have O14 := O.wr W13 g0
    refine g_aloadN C X11 d14_66 (q := 67) rfl rfl rfl ?_
    refine g_dup C X11 d14_67 (q := 68) rfl rfl ?_
    have f15 := (R0.2.2.2.2.2.2.other W13 (Or.inr (slot_ne (Or.inl (w113 hw)) (Or.inl (w43 hw)) (by decide) (t := .int) (t' := .int) (by decide) (by decide))))
    refine g_getF C X11 (host := "") (Or.inl (w112 hw)) Via.refl f15 d14_68 (q := 71) rfl ?_
    intro T16 X17
    refine g_iconst C X17 d14_71 (q := 72) rfl (z := (1 : Int32)) rfl ?_
    refine g_iadd C X17 d14_72 (q := 73) rfl (z := (mI + (1 : Int32))) rfl ?_
    have f18 := (R0.1.wr W13)
    refine g_putF C X17 (host := "") (Or.inl (w112 hw)) Via.refl f15 f18 (Or.inl (w113 hw)) (w4 hw) (ty := .int) (by decide) rfl rfl d14_73 (q := 76) rfl g0 ?_
    intro T19 h21 X20 W22
    have FW22 := Fld.same W22 f15
    have O23 := O14.wr W22 g0
    exact g_retV C X20 d14_76 (by decide) (by decide) ⟨rfl, (((Keep.refl h0 [o0]).wr W13 (Or.inl (List.mem_of_getElem? (i := 0) rfl))).wr W22 (Or.inl (List.mem_of_getElem? (i := 0) rfl))), A, kC, nN, hN, Or.inl rfl, na, Q0, own_B3 B0 d5 d1 hc9, _, _, ⟨(f18.wr W22), ((R0.2.1.other W13 (Or.inr (slot_ne (Or.inl (w61 hw)) (Or.inl (w43 hw)) (by decide) (t := .int) (t' := .int) (by decide) (by decide)))).other W22 (Or.inr (slot_ne (Or.inl (w61 hw)) (Or.inl (w113 hw)) (by decide) (t := .int) (t' := .int) (by decide) (by decide)))), ((R0.2.2.1.other W13 (Or.inr (slot_ne (Or.inl (w59 hw)) (Or.inl (w43 hw)) (by decide) (t := .int) (t' := .int) (by decide) (by decide)))).other W22 (Or.inr (slot_ne (Or.inl (w59 hw)) (Or.inl (w113 hw)) (by decide) (t := .int) (t' := .int) (by decide) (by decide)))), ((R0.2.2.2.1.other W13 (Or.inr (slot_ne (Or.inl (w47 hw)) (Or.inl (w43 hw)) (by decide) (t := (.array (.object "java/lang/Object"))) (t' := .int) (by decide) (by decide)))).other W22 (Or.inr (slot_ne (Or.inl (w47 hw)) (Or.inl (w113 hw)) (by decide) (t := (.array (.object "java/lang/Object"))) (t' := .int) (by decide) (by decide)))), (FW13.other W22 (Or.inr (slot_ne (Or.inl (w43 hw)) (Or.inl (w113 hw)) (by decide) (t := .int) (t' := .int) (by decide) (by decide)))), ((R0.2.2.2.2.2.1.other W13 (Or.inr (slot_ne (Or.inr (w41 hw)) (Or.inl (w43 hw)) (by decide) (t := .boolean) (t' := .int) (by decide) (by decide)))).other W22 (Or.inr (slot_ne (Or.inr (w41 hw)) (Or.inl (w113 hw)) (by decide) (t := .boolean) (t' := .int) (by decide) (by decide)))), FW22⟩, ((V0.other W13 na).other W22 na), P0, I0⟩
  · refine g_icN C X8 d14_21 (q := 24) rfl (feq hc9).1 ?_
    refine g_iloadN C X8 d14_24 (q := 25) rfl rfl ?_
    refine g_newR C X8 (w44 hw) (w45 hw) d14_25 (q := 28) rfl (r_nn (max dN zN) (own_mx (n' := 0) B0 d5)).1 (cap := 4) (by rw [(r_nn (max dN zN) (own_mx (n' := 0) B0 d5)).2]; exact Nat.le_of_lt_succ (own_mx (n' := 0) B0 d5)) (by decide) (k' := 1) rfl (n' := 4) rfl (by decide) (by decide) ?_
    intro T25 h26 kA27 b24 g29 X28 E30 V31 Q32
    have ge34 : n0 ≤ b24 := own_ge O g29
    have O35 := O.ext E30
    have V33 : Arv Z h26 b24 kA27 (.object "java/lang/Object") (o32 (max dN zN)) (List.replicate (max dN zN) .null) .null := Arv.pad V31 (own_rep (max dN zN))
    refine g_astore C X28 d14_28 (q := 30) rfl rfl (L' := #[.val (.ref o0), .val (.int (o32 dN)), .val (.int (o32 zN)), .val (.int (o32 (max dN zN))), .val (.ref b24)]) rfl ?_
    refine g_aloadN C X28 d14_30 (q := 31) rfl rfl rfl ?_
    refine g_aload C X28 d14_31 (q := 33) rfl rfl rfl ?_
    have f36 := (R0.1.ext E30)
    have f37 := (R0.2.1.ext E30)
    have f38 := (R0.2.2.1.ext E30)
    have f39 := (R0.2.2.2.1.ext E30)
    have f40 := (R0.2.2.2.2.1.ext E30)
    have f41 := (R0.2.2.2.2.2.1.ext E30)
    have f42 := (R0.2.2.2.2.2.2.ext E30)
    have f43 := (V0.ext E30)
    refine g_callP0 C X28 (y := (⟨"com/example/rondel/rondel/RingBuffer", "copyInto", "([Ljava/lang/Object;)V"⟩ : MethodName)) (a := o0) (by decide) (w101 hw) (sel_priv (w4 hw) (w102 hw) (w103 hw) (by decide)) (w102 hw) (w103 hw) f36 (w104 hw) (w5 hw) (rm_copy hw (o0 := o0) (A := A) (kC := kC) (nN := nN) (hN := hN) (zN := zN) (cN := cN) (rI := rI) (mI := mI) (vs := vs)  (bB := b24) (kB := kA27) (mN := (max dN zN)) O35 W ⟨f36, f37, f38, f39, f40, f41, f42⟩ f43 P0 I0 B0 Q0 na g0 gA V33 Q32 ge34 (Ne.symm (own_ne V0.lt g29)) (Ne.symm (own_ne R0.1.lt g29)) (own_mx (n' := 0) B0 d5) (by omega)) (W := 0) (by decide) (by decide) (k' := 1) rfl (n' := 4) rfl (by decide) (by decide) rfl pd_291 (argsL := [(.ref b24)]) rfl (rest := []) rfl rfl rfl d14_33 (q := 36) rfl ?_
    rintro T44 h45 X46 ⟨K47, V48⟩
    have O49 := O35.keep K47 (allS ge34 all0)
    refine g_aloadN C X46 d14_36 (q := 37) rfl rfl rfl ?_
    refine g_aload C X46 d14_37 (q := 39) rfl rfl rfl ?_
    have f50 := (f39.keep K47 (ninS (own_ne R0.1.lt g29) nin0))
    have f51 := (f36.keep K47)
    refine g_putF C X46 (host := "") (Or.inl (w46 hw)) Via.refl f50 f51 (Or.inl (w47 hw)) (w4 hw) (ty := (.array (.object "java/lang/Object"))) (by decide) rfl rfl d14_39 (q := 42) rfl g0 ?_
    intro T52 h54 X53 W55
    have FW55 := Fld.same W55 f50
    have O56 := O49.wr W55 g0
    refine g_aloadN C X53 d14_42 (q := 43) rfl rfl rfl ?_
    refine g_iconst C X53 d14_43 (q := 44) rfl (z := (0 : Int32)) rfl ?_
    have f57 := ((f37.keep K47 (ninS (own_ne R0.1.lt g29) nin0)).other W55 (Or.inr (slot_ne (Or.inl (w61 hw)) (Or.inl (w47 hw)) (by decide) (t := .int) (t' := (.array (.object "java/lang/Object"))) (by decide) (by decide))))
    have f58 := (f51.wr W55)
    refine g_putF C X53 (host := "") (Or.inl (w60 hw)) Via.refl f57 f58 (Or.inl (w61 hw)) (w4 hw) (ty := .int) (by decide) rfl rfl d14_44 (q := 47) rfl g0 ?_
    intro T59 h61 X60 W62
    have FW62 := Fld.same W62 f57
    have O63 := O56.wr W62 g0
    refine g_aloadN C X60 d14_47 (q := 48) rfl rfl rfl ?_
    refine g_iloadN C X60 d14_48 (q := 49) rfl rfl ?_
    refine g_iloadN C X60 d14_49 (q := 50) rfl rfl ?_
    by_cases hc64 : (o32 zN) = (o32 (max dN zN))
    · refine g_icN C X60 d14_50 (q := 53) rfl (teq hc64).2 ?_
      refine g_iconst C X60 d14_53 (q := 54) rfl (z := (0 : Int32)) rfl ?_
      refine g_goto C X60 d14_54 (by decide) (q := 58) (by decide) ?_
      have f65 := (((f38.keep K47 (ninS (own_ne R0.1.lt g29) nin0)).other W55 (Or.inr (slot_ne (Or.inl (w59 hw)) (Or.inl (w47 hw)) (by decide) (t := .int) (t' := (.array (.object "java/lang/Object"))) (by decide) (by decide)))).other W62 (Or.inr (slot_ne (Or.inl (w59 hw)) (Or.inl (w61 hw)) (by decide) (t := .int) (t' := .int) (by decide) (by decide))))
      have f66 := (f58.wr W62)
      refine g_putF C X60 (host := "") (Or.inl (w58 hw)) Via.refl f65 f66 (Or.inl (w59 hw)) (w4 hw) (ty := .int) (by decide) rfl rfl d14_58 (q := 61) rfl g0 ?_
      intro T67 h69 X68 W70
      have FW70 := Fld.same W70 f65
      have O71 := O63.wr W70 g0
      refine g_aloadN C X68 d14_61 (q := 62) rfl rfl rfl ?_
      refine g_iloadN C X68 d14_62 (q := 63) rfl rfl ?_
      have f72 := ((((f40.keep K47 (ninS (own_ne R0.1.lt g29) nin0)).other W55 (Or.inr (slot_ne (Or.inl (w43 hw)) (Or.inl (w47 hw)) (by decide) (t := .int) (t' := (.array (.object "java/lang/Object"))) (by decide) (by decide)))).other W62 (Or.inr (slot_ne (Or.inl (w43 hw)) (Or.inl (w61 hw)) (by decide) (t := .int) (t' := .int) (by decide) (by decide)))).other W70 (Or.inr (slot_ne (Or.inl (w43 hw)) (Or.inl (w59 hw)) (by decide) (t := .int) (t' := .int) (by decide) (by decide))))
      have f73 := (f66.wr W70)
      refine g_putF C X68 (host := "") (Or.inl (w42 hw)) Via.refl f72 f73 (Or.inl (w43 hw)) (w4 hw) (ty := .int) (by decide) rfl rfl d14_63 (q := 66) rfl g0 ?_
      intro T74 h76 X75 W77
      have FW77 := Fld.same W77 f72
      have O78 := O71.wr W77 g0
      refine g_aloadN C X75 d14_66 (q := 67) rfl rfl rfl ?_
      refine g_dup C X75 d14_67 (q := 68) rfl rfl ?_
      have f79 := (((((f42.keep K47 (ninS (own_ne R0.1.lt g29) nin0)).other W55 (Or.inr (slot_ne (Or.inl (w113 hw)) (Or.inl (w47 hw)) (by decide) (t := .int) (t' := (.array (.object "java/lang/Object"))) (by decide) (by decide)))).other W62 (Or.inr (slot_ne (Or.inl (w113 hw)) (Or.inl (w61 hw)) (by decide) (t := .int) (t' := .int) (by decide) (by decide)))).other W70 (Or.inr (slot_ne (Or.inl (w113 hw)) (Or.inl (w59 hw)) (by decide) (t := .int) (t' := .int) (by decide) (by decide)))).other W77 (Or.inr (slot_ne (Or.inl (w113 hw)) (Or.inl (w43 hw)) (by decide) (t := .int) (t' := .int) (by decide) (by decide))))
      refine g_getF C X75 (host := "") (Or.inl (w112 hw)) Via.refl f79 d14_68 (q := 71) rfl ?_
      intro T80 X81
      refine g_iconst C X81 d14_71 (q := 72) rfl (z := (1 : Int32)) rfl ?_
      refine g_iadd C X81 d14_72 (q := 73) rfl (z := (mI + (1 : Int32))) rfl ?_
      have f82 := (f73.wr W77)
      refine g_putF C X81 (host := "") (Or.inl (w112 hw)) Via.refl f79 f82 (Or.inl (w113 hw)) (w4 hw) (ty := .int) (by decide) rfl rfl d14_73 (q := 76) rfl g0 ?_
      intro T83 h85 X84 W86
      have FW86 := Fld.same W86 f79
      have O87 := O78.wr W86 g0
      exact g_retV C X84 d14_76 (by decide) (by decide) ⟨rfl, ((((((((Keep.refl h0 [o0]).ext E30).trans K47 (allS (Or.inr (own_sz (Keep.refl h0 [o0]).1 g29)) all0)).wr W55 (Or.inl (List.mem_of_getElem? (i := 0) rfl))).wr W62 (Or.inl (List.mem_of_getElem? (i := 0) rfl))).wr W70 (Or.inl (List.mem_of_getElem? (i := 0) rfl))).wr W77 (Or.inl (List.mem_of_getElem? (i := 0) rfl))).wr W86 (Or.inl (List.mem_of_getElem? (i := 0) rfl))), b24, kA27, max dN zN, 0, Or.inr (own_sz (Keep.refl h0 [o0]).1 g29), Ne.symm (own_ne R0.1.lt g29), Q32, own_B4 B0 d5 d1, _, _, ⟨(f82.wr W86), (own_cI rfl (((FW62.other W70 (Or.inr (slot_ne (Or.inl (w61 hw)) (Or.inl (w59 hw)) (by decide) (t := .int) (t' := .int) (by decide) (by decide)))).other W77 (Or.inr (slot_ne (Or.inl (w61 hw)) (Or.inl (w43 hw)) (by decide) (t := .int) (t' := .int) (by decide) (by decide)))).other W86 (Or.inr (slot_ne (Or.inl (w61 hw)) (Or.inl (w113 hw)) (by decide) (t := .int) (t' := .int) (by decide) (by decide))))), (own_cI ((r_tl0 (max dN zN) (own_mx (n' := 0) B0 d5) zN (by omega) (by omega)).1 hc64) ((FW70.other W77 (Or.inr (slot_ne (Or.inl (w59 hw)) (Or.inl (w43 hw)) (by decide) (t := .int) (t' := .int) (by decide) (by decide)))).other W86 (Or.inr (slot_ne (Or.inl (w59 hw)) (Or.inl (w113 hw)) (by decide) (t := .int) (t' := .int) (by decide) (by decide))))), ((((FW55.other W62 (Or.inr (slot_ne (Or.inl (w47 hw)) (Or.inl (w61 hw)) (by decide) (t := (.array (.object "java/lang/Object"))) (t' := .int) (by decide) (by decide)))).other W70 (Or.inr (slot_ne (Or.inl (w47 hw)) (Or.inl (w59 hw)) (by decide) (t := (.array (.object "java/lang/Object"))) (t' := .int) (by decide) (by decide)))).other W77 (Or.inr (slot_ne (Or.inl (w47 hw)) (Or.inl (w43 hw)) (by decide) (t := (.array (.object "java/lang/Object"))) (t' := .int) (by decide) (by decide)))).other W86 (Or.inr (slot_ne (Or.inl (w47 hw)) (Or.inl (w113 hw)) (by decide) (t := (.array (.object "java/lang/Object"))) (t' := .int) (by decide) (by decide)))), (FW77.other W86 (Or.inr (slot_ne (Or.inl (w43 hw)) (Or.inl (w113 hw)) (by decide) (t := .int) (t' := .int) (by decide) (by decide)))), ((((((f41.keep K47 (ninS (own_ne R0.1.lt g29) nin0)).other W55 (Or.inr (slot_ne (Or.inr (w41 hw)) (Or.inl (w47 hw)) (by decide) (t := .boolean) (t' := (.array (.object "java/lang/Object"))) (by decide) (by decide)))).other W62 (Or.inr (slot_ne (Or.inr (w41 hw)) (Or.inl (w61 hw)) (by decide) (t := .boolean) (t' := .int) (by decide) (by decide)))).other W70 (Or.inr (slot_ne (Or.inr (w41 hw)) (Or.inl (w59 hw)) (by decide) (t := .boolean) (t' := .int) (by decide) (by decide)))).other W77 (Or.inr (slot_ne (Or.inr (w41 hw)) (Or.inl (w43 hw)) (by decide) (t := .boolean) (t' := .int) (by decide) (by decide)))).other W86 (Or.inr (slot_ne (Or.inr (w41 hw)) (Or.inl (w113 hw)) (by decide) (t := .boolean) (t' := .int) (by decide) (by decide)))), FW86⟩, (((((V48.other W55 (Ne.symm (own_ne R0.1.lt g29))).other W62 (Ne.symm (own_ne R0.1.lt g29))).other W70 (Ne.symm (own_ne R0.1.lt g29))).other W77 (Ne.symm (own_ne R0.1.lt g29))).other W86 (Ne.symm (own_ne R0.1.lt g29))), ((cpy_nb _ _ _ _ _).trans (by rw [P0]; exact r_cp nN B0.1 hN B0.2.1 zN B0.2.2.1 (max dN zN) (own_mx (n' := 0) B0 d5) (by omega) (by omega))), cpy_int I0 _ _ _ _⟩
    · refine g_icY C X60 d14_50 (by decide) (q := 57) (by decide) (feq hc64).2 ?_
      refine g_iloadN C X60 d14_57 (q := 58) rfl rfl ?_
      have f88 := (((f38.keep K47 (ninS (own_ne R0.1.lt g29) nin0)).other W55 (Or.inr (slot_ne (Or.inl (w59 hw)) (Or.inl (w47 hw)) (by decide) (t := .int) (t' := (.array (.object "java/lang/Object"))) (by decide) (by decide)))).other W62 (Or.inr (slot_ne (Or.inl (w59 hw)) (Or.inl (w61 hw)) (by decide) (t := .int) (t' := .int) (by decide) (by decide))))
      have f89 := (f58.wr W62)
      refine g_putF C X60 (host := "") (Or.inl (w58 hw)) Via.refl f88 f89 (Or.inl (w59 hw)) (w4 hw) (ty := .int) (by decide) rfl rfl d14_58 (q := 61) rfl g0 ?_
      intro T90 h92 X91 W93
      have FW93 := Fld.same W93 f88
      have O94 := O63.wr W93 g0
      refine g_aloadN C X91 d14_61 (q := 62) rfl rfl rfl ?_
      refine g_iloadN C X91 d14_62 (q := 63) rfl rfl ?_
      have f95 := ((((f40.keep K47 (ninS (own_ne R0.1.lt g29) nin0)).other W55 (Or.inr (slot_ne (Or.inl (w43 hw)) (Or.inl (w47 hw)) (by decide) (t := .int) (t' := (.array (.object "java/lang/Object"))) (by decide) (by decide)))).other W62 (Or.inr (slot_ne (Or.inl (w43 hw)) (Or.inl (w61 hw)) (by decide) (t := .int) (t' := .int) (by decide) (by decide)))).other W93 (Or.inr (slot_ne (Or.inl (w43 hw)) (Or.inl (w59 hw)) (by decide) (t := .int) (t' := .int) (by decide) (by decide))))
      have f96 := (f89.wr W93)
      refine g_putF C X91 (host := "") (Or.inl (w42 hw)) Via.refl f95 f96 (Or.inl (w43 hw)) (w4 hw) (ty := .int) (by decide) rfl rfl d14_63 (q := 66) rfl g0 ?_
      intro T97 h99 X98 W100
      have FW100 := Fld.same W100 f95
      have O101 := O94.wr W100 g0
      refine g_aloadN C X98 d14_66 (q := 67) rfl rfl rfl ?_
      refine g_dup C X98 d14_67 (q := 68) rfl rfl ?_
      have f102 := (((((f42.keep K47 (ninS (own_ne R0.1.lt g29) nin0)).other W55 (Or.inr (slot_ne (Or.inl (w113 hw)) (Or.inl (w47 hw)) (by decide) (t := .int) (t' := (.array (.object "java/lang/Object"))) (by decide) (by decide)))).other W62 (Or.inr (slot_ne (Or.inl (w113 hw)) (Or.inl (w61 hw)) (by decide) (t := .int) (t' := .int) (by decide) (by decide)))).other W93 (Or.inr (slot_ne (Or.inl (w113 hw)) (Or.inl (w59 hw)) (by decide) (t := .int) (t' := .int) (by decide) (by decide)))).other W100 (Or.inr (slot_ne (Or.inl (w113 hw)) (Or.inl (w43 hw)) (by decide) (t := .int) (t' := .int) (by decide) (by decide))))
      refine g_getF C X98 (host := "") (Or.inl (w112 hw)) Via.refl f102 d14_68 (q := 71) rfl ?_
      intro T103 X104
      refine g_iconst C X104 d14_71 (q := 72) rfl (z := (1 : Int32)) rfl ?_
      refine g_iadd C X104 d14_72 (q := 73) rfl (z := (mI + (1 : Int32))) rfl ?_
      have f105 := (f96.wr W100)
      refine g_putF C X104 (host := "") (Or.inl (w112 hw)) Via.refl f102 f105 (Or.inl (w113 hw)) (w4 hw) (ty := .int) (by decide) rfl rfl d14_73 (q := 76) rfl g0 ?_
      intro T106 h108 X107 W109
      have FW109 := Fld.same W109 f102
      have O110 := O101.wr W109 g0
      exact g_retV C X107 d14_76 (by decide) (by decide) ⟨rfl, ((((((((Keep.refl h0 [o0]).ext E30).trans K47 (allS (Or.inr (own_sz (Keep.refl h0 [o0]).1 g29)) all0)).wr W55 (Or.inl (List.mem_of_getElem? (i := 0) rfl))).wr W62 (Or.inl (List.mem_of_getElem? (i := 0) rfl))).wr W93 (Or.inl (List.mem_of_getElem? (i := 0) rfl))).wr W100 (Or.inl (List.mem_of_getElem? (i := 0) rfl))).wr W109 (Or.inl (List.mem_of_getElem? (i := 0) rfl))), b24, kA27, max dN zN, 0, Or.inr (own_sz (Keep.refl h0 [o0]).1 g29), Ne.symm (own_ne R0.1.lt g29), Q32, own_B4 B0 d5 d1, _, _, ⟨(f105.wr W109), (own_cI rfl (((FW62.other W93 (Or.inr (slot_ne (Or.inl (w61 hw)) (Or.inl (w59 hw)) (by decide) (t := .int) (t' := .int) (by decide) (by decide)))).other W100 (Or.inr (slot_ne (Or.inl (w61 hw)) (Or.inl (w43 hw)) (by decide) (t := .int) (t' := .int) (by decide) (by decide)))).other W109 (Or.inr (slot_ne (Or.inl (w61 hw)) (Or.inl (w113 hw)) (by decide) (t := .int) (t' := .int) (by decide) (by decide))))), (own_cI ((r_tl0 (max dN zN) (own_mx (n' := 0) B0 d5) zN (by omega) (by omega)).2 hc64) ((FW93.other W100 (Or.inr (slot_ne (Or.inl (w59 hw)) (Or.inl (w43 hw)) (by decide) (t := .int) (t' := .int) (by decide) (by decide)))).other W109 (Or.inr (slot_ne (Or.inl (w59 hw)) (Or.inl (w113 hw)) (by decide) (t := .int) (t' := .int) (by decide) (by decide))))), ((((FW55.other W62 (Or.inr (slot_ne (Or.inl (w47 hw)) (Or.inl (w61 hw)) (by decide) (t := (.array (.object "java/lang/Object"))) (t' := .int) (by decide) (by decide)))).other W93 (Or.inr (slot_ne (Or.inl (w47 hw)) (Or.inl (w59 hw)) (by decide) (t := (.array (.object "java/lang/Object"))) (t' := .int) (by decide) (by decide)))).other W100 (Or.inr (slot_ne (Or.inl (w47 hw)) (Or.inl (w43 hw)) (by decide) (t := (.array (.object "java/lang/Object"))) (t' := .int) (by decide) (by decide)))).other W109 (Or.inr (slot_ne (Or.inl (w47 hw)) (Or.inl (w113 hw)) (by decide) (t := (.array (.object "java/lang/Object"))) (t' := .int) (by decide) (by decide)))), (FW100.other W109 (Or.inr (slot_ne (Or.inl (w43 hw)) (Or.inl (w113 hw)) (by decide) (t := .int) (t' := .int) (by decide) (by decide)))), ((((((f41.keep K47 (ninS (own_ne R0.1.lt g29) nin0)).other W55 (Or.inr (slot_ne (Or.inr (w41 hw)) (Or.inl (w47 hw)) (by decide) (t := .boolean) (t' := (.array (.object "java/lang/Object"))) (by decide) (by decide)))).other W62 (Or.inr (slot_ne (Or.inr (w41 hw)) (Or.inl (w61 hw)) (by decide) (t := .boolean) (t' := .int) (by decide) (by decide)))).other W93 (Or.inr (slot_ne (Or.inr (w41 hw)) (Or.inl (w59 hw)) (by decide) (t := .boolean) (t' := .int) (by decide) (by decide)))).other W100 (Or.inr (slot_ne (Or.inr (w41 hw)) (Or.inl (w43 hw)) (by decide) (t := .boolean) (t' := .int) (by decide) (by decide)))).other W109 (Or.inr (slot_ne (Or.inr (w41 hw)) (Or.inl (w113 hw)) (by decide) (t := .boolean) (t' := .int) (by decide) (by decide)))), FW109⟩, (((((V48.other W55 (Ne.symm (own_ne R0.1.lt g29))).other W62 (Ne.symm (own_ne R0.1.lt g29))).other W93 (Ne.symm (own_ne R0.1.lt g29))).other W100 (Ne.symm (own_ne R0.1.lt g29))).other W109 (Ne.symm (own_ne R0.1.lt g29))), ((cpy_nb _ _ _ _ _).trans (by rw [P0]; exact r_cp nN B0.1 hN B0.2.1 zN B0.2.2.1 (max dN zN) (own_mx (n' := 0) B0 d5) (by omega) (by omega))), cpy_int I0 _ _ _ _⟩
set_option maxRecDepth 65536 in
set_option maxHeartbeats 40000000 in
theorem rm_init0 {l : Launch} {Z : State} {a0 : Array Value} (hw : ∀ d ∈ tables_1, d.before a0 Z = true) {o0 : Addr} {cN : Nat} {a_EVICT_OLDEST : Addr} {a_REJECT : Addr} {a_REFUSED : Addr} {ca : Addr} {cc : Cell} {h0 : Heap} {n0 : Nat} (O : Old Z n0 h0) (W : Wd Z a_EVICT_OLDEST a_REJECT a_REFUSED ca cc) (E0 : Exa Z h0 o0 "com/example/rondel/rondel/RingBuffer") (Fhead : Fld Z h0 o0 "com/example/rondel/rondel/RingBuffer" "head" "I" (.int 0)) (Ftail : Fld Z h0 o0 "com/example/rondel/rondel/RingBuffer" "tail" "I" (.int 0)) (Felements : Fld Z h0 o0 "com/example/rondel/rondel/RingBuffer" "elements" "[Ljava/lang/Object;" .null) (Fcapacity : Fld Z h0 o0 "com/example/rondel/rondel/RingBuffer" "capacity" "I" (.int 0)) (Frejects : Fld Z h0 o0 "com/example/rondel/rondel/RingBuffer" "rejects" "Z" (.int 0)) (FmodCount : Fld Z h0 o0 "com/example/rondel/rondel/RingBuffer" "modCount" "I" (.int 0)) (g0 : n0 ≤ o0) (c5 : cN < 5) (c1 : 1 ≤ cN) :
    MetW0 l Z consts_1 (⟨"com/example/rondel/rondel/RingBuffer", "<init>", "(ILcom/example/rondel/rondel/OverflowPolicy;)V"⟩ : MethodName) prog_2_method_2_code 3 none ({ frames := 3, cells := 3, slots := 32, locals := 36 } : Room) #[(.ref o0), (.int (o32 cN)), (.ref a_EVICT_OLDEST)] h0 n0 (fun h => Keep h0 h [o0] ∧ ∃ A k, h0.size ≤ A ∧ A ≠ o0 ∧ Ovr Z k "java/lang/Object" ∧ RN Z h o0 A k cN 0 0 cN 0) := by
  refine metW_of (L := #[.val (.ref o0), .val (.int (o32 cN)), .val (.ref a_EVICT_OLDEST)]) (plainFor_of_name pn_4) (fun m => by first | (simp [entryFrame, mkF, argsToLocals, Value.category]; done) | rfl) ?_
  intro p e s m below meth c T vm C X Y
  change Cx p (s.setVm vm) m meth c Z "com/example/rondel/rondel/RingBuffer" prog_2_method_2_code 3 none "<init>" at C
  refine g_aloadN C X d1_0 (q := 1) rfl rfl rfl ?_
  refine g_callI0 C X (y := (⟨"java/util/AbstractQueue", "<init>", "()V"⟩ : MethodName)) (a := o0) (by decide) rfl (w9 hw) (w10 hw) (w13 hw) (w12 hw) (rm_AbstractQueue hw (oo := o0) O W) (W := 0) (by decide) (by decide) (k' := 0) rfl (n' := 0) rfl (by decide) (by decide) rfl pd_30 (argsL := []) rfl (rest := []) rfl rfl rfl d1_1 (q := 4) rfl ?_
  rintro T1 _ X2 rfl
  refine g_iloadN C X2 d1_4 (q := 5) rfl rfl ?_
  refine g_callS0 C X2 (y := (⟨"com/example/rondel/rondel/RingBuffer", "checkCapacity", "(I)V"⟩ : MethodName)) (by decide) (w23 hw) (w24 hw) (w25 hw) (w5 hw) (rm_cc hw (x1 := (o32 cN)) O W (r_max cN c5 0 (by decide) c1).2) (W := 0) (by decide) (by decide) (k' := 0) rfl (n' := 0) rfl (by decide) (by decide) rfl pd_262 (argsL := [(.int (o32 cN))]) rfl (rest := []) rfl rfl rfl d1_5 (q := 8) rfl ?_
  rintro T3 _ X4 rfl
  refine g_aloadN C X4 d1_8 (q := 9) rfl rfl rfl ?_
  refine g_aloadN C X4 d1_9 (q := 10) rfl rfl rfl ?_
  refine gW_ldcO C X4 Y (own_EL hw) (w26 hw) (own_SA hw) d1_10 (q := 12) rfl (nn := 24) (by decide) (by decide) (k' := 2) rfl (n' := 28) rfl (by decide) (by decide) ?_
  intro b5 T6 h7 vm8 C X9 Y10 E11 R12
  have O13 := O.ext E11
  refine g_callS1 C X9 (y := (⟨"java/util/Objects", "requireNonNull", "(Ljava/lang/Object;Ljava/lang/String;)Ljava/lang/Object;"⟩ : MethodName)) (by decide) (w34 hw) (w35 hw) (w37 hw) (w36 hw) (rm_rn hw (ob := a_EVICT_OLDEST) (os := b5) O13 W) (W := 1) (by decide) (by decide) (k' := 2) rfl (n' := 28) rfl (by decide) (by decide) rfl pd_140 (argsL := [(.ref a_EVICT_OLDEST), (.ref b5)]) rfl (rest := [(.ref o0)]) rfl rfl rfl d1_12 (q := 15) rfl ?_
  rintro _ T14 _ X15 ⟨rfl, rfl⟩
  refine g_getS C X15 (host := "") (Or.inl (w38 hw)) Via.refl (W.2.2.1.ext O13.2) d1_15 (q := 18) rfl ?_
  intro T16 X17
  refine g_acmp C X17 d1_18 rfl rfl (same := false) (decide_eq_false fun z => (Fld.ne W.2.2.2.2.1 W.2.2.2.2.2.1 (by decide)) (Value.ref.inj z)) (by decide) (q := 25) (by decide) ?_
  refine g_iconst C X17 d1_25 (q := 26) rfl (z := (0 : Int32)) rfl ?_
  have f18 := (Frejects.ext E11)
  have f19 := (E0.ext E11)
  refine g_putF C X17 (host := "") (Or.inl (w40 hw)) Via.refl f18 f19 (Or.inr ⟨(w41 hw), rfl, rfl⟩) (w4 hw) (ty := .boolean) (by decide) rfl rfl d1_26 (q := 29) rfl g0 ?_
  intro T20 h22 X21 W23
  have FW23 := Fld.same W23 f18
  have Y24 := Wx.wr Y10 W23 (Safe.exa (Cx.alike C) f19 (by decide) (by decide))
  have O25 := O13.wr W23 g0
  refine g_aloadN C X21 d1_29 (q := 30) rfl rfl rfl ?_
  refine g_iloadN C X21 d1_30 (q := 31) rfl rfl ?_
  have f26 := ((Fcapacity.ext E11).other W23 (Or.inr (slot_ne (Or.inl (w43 hw)) (Or.inr (w41 hw)) (by decide) (t := .int) (t' := .boolean) (by decide) (by decide))))
  have f27 := (f19.wr W23)
  refine g_putF C X21 (host := "") (Or.inl (w42 hw)) Via.refl f26 f27 (Or.inl (w43 hw)) (w4 hw) (ty := .int) (by decide) rfl rfl d1_31 (q := 34) rfl g0 ?_
  intro T28 h30 X29 W31
  have FW31 := Fld.same W31 f26
  have Y32 := Wx.wr Y24 W31 (Safe.exa (Cx.alike C) f27 (by decide) (by decide))
  have O33 := O25.wr W31 g0
  refine g_aloadN C X29 d1_34 (q := 35) rfl rfl rfl ?_
  refine g_iloadN C X29 d1_35 (q := 36) rfl rfl ?_
  refine g_newR C X29 (w44 hw) (w45 hw) d1_36 (q := 39) rfl (r_nn cN c5).1 (cap := 4) (by rw [(r_nn cN c5).2]; exact Nat.le_of_lt_succ c5) (by decide) (k' := 3) rfl (n' := 32) rfl (by decide) (by decide) ?_
  intro T35 h36 kA37 b34 g39 X38 E40 V41 Q42
  have ge44 : n0 ≤ b34 := own_ge O33 g39
  have Y45 := Wx.ext Y32 E40
  have O46 := O33.ext E40
  have V43 : Arv Z h36 b34 kA37 (.object "java/lang/Object") (o32 cN) (List.replicate cN .null) .null := Arv.pad V41 (own_rep cN)
  have Y47 := Yar.of V43
  have f48 := ((((Felements.ext E11).other W23 (Or.inr (slot_ne (Or.inl (w47 hw)) (Or.inr (w41 hw)) (by decide) (t := (.array (.object "java/lang/Object"))) (t' := .boolean) (by decide) (by decide)))).other W31 (Or.inr (slot_ne (Or.inl (w47 hw)) (Or.inl (w43 hw)) (by decide) (t := (.array (.object "java/lang/Object"))) (t' := .int) (by decide) (by decide)))).ext E40)
  have f49 := ((f27.wr W31).ext E40)
  refine g_putF C X38 (host := "") (Or.inl (w46 hw)) Via.refl f48 f49 (Or.inl (w47 hw)) (w4 hw) (ty := (.array (.object "java/lang/Object"))) (by decide) rfl rfl d1_39 (q := 42) rfl g0 ?_
  intro T50 h52 X51 W53
  have FW53 := Fld.same W53 f48
  have Y54 := Wx.wr Y45 W53 (Safe.exa (Cx.alike C) f49 (by decide) (by decide))
  have O55 := O46.wr W53 g0
  have ri56 := r_ini cN c5 c1
  exact gW_retV C X51 Y54 (own_EL hw) d1_42 (by decide) (by decide) ⟨rfl, ((((((Keep.refl h0 [o0]).ext E11).wr W23 (Or.inl (List.mem_of_getElem? (i := 0) rfl))).wr W31 (Or.inl (List.mem_of_getElem? (i := 0) rfl))).ext E40).wr W53 (Or.inl (List.mem_of_getElem? (i := 0) rfl))), b34, kA37, (own_sz ((((Keep.refl h0 [o0]).ext E11).wr W23 (Or.inl (List.mem_of_getElem? (i := 0) rfl))).wr W31 (Or.inl (List.mem_of_getElem? (i := 0) rfl))).1 g39), Ne.symm (own_ne (Nat.lt_of_lt_of_le E0.lt (Nat.le_trans (Nat.le_trans E11.1 (Nat.le_of_eq (Wr.size W23).symm)) (Nat.le_of_eq (Wr.size W31).symm))) g39), Q42, _, _, ⟨(f49.wr W53), (own_cI ri56.2.1 (((((Fhead.ext E11).other W23 (Or.inr (slot_ne (Or.inl (w61 hw)) (Or.inr (w41 hw)) (by decide) (t := .int) (t' := .boolean) (by decide) (by decide)))).other W31 (Or.inr (slot_ne (Or.inl (w61 hw)) (Or.inl (w43 hw)) (by decide) (t := .int) (t' := .int) (by decide) (by decide)))).ext E40).other W53 (Or.inr (slot_ne (Or.inl (w61 hw)) (Or.inl (w47 hw)) (by decide) (t := .int) (t' := (.array (.object "java/lang/Object"))) (by decide) (by decide))))), (own_cI ri56.2.2.1 (((((Ftail.ext E11).other W23 (Or.inr (slot_ne (Or.inl (w59 hw)) (Or.inr (w41 hw)) (by decide) (t := .int) (t' := .boolean) (by decide) (by decide)))).other W31 (Or.inr (slot_ne (Or.inl (w59 hw)) (Or.inl (w43 hw)) (by decide) (t := .int) (t' := .int) (by decide) (by decide)))).ext E40).other W53 (Or.inr (slot_ne (Or.inl (w59 hw)) (Or.inl (w47 hw)) (by decide) (t := .int) (t' := (.array (.object "java/lang/Object"))) (by decide) (by decide))))), FW53, ((FW31.ext E40).other W53 (Or.inr (slot_ne (Or.inl (w43 hw)) (Or.inl (w47 hw)) (by decide) (t := .int) (t' := (.array (.object "java/lang/Object"))) (by decide) (by decide)))), (((FW23.other W31 (Or.inr (slot_ne (Or.inr (w41 hw)) (Or.inl (w43 hw)) (by decide) (t := .boolean) (t' := .int) (by decide) (by decide)))).ext E40).other W53 (Or.inr (slot_ne (Or.inr (w41 hw)) (Or.inl (w47 hw)) (by decide) (t := .boolean) (t' := (.array (.object "java/lang/Object"))) (by decide) (by decide)))), (((((FmodCount.ext E11).other W23 (Or.inr (slot_ne (Or.inl (w113 hw)) (Or.inr (w41 hw)) (by decide) (t := .int) (t' := .boolean) (by decide) (by decide)))).other W31 (Or.inr (slot_ne (Or.inl (w113 hw)) (Or.inl (w43 hw)) (by decide) (t := .int) (t' := .int) (by decide) (by decide)))).ext E40).other W53 (Or.inr (slot_ne (Or.inl (w113 hw)) (Or.inl (w47 hw)) (by decide) (t := .int) (t' := (.array (.object "java/lang/Object"))) (by decide) (by decide))))⟩, (V43.other W53 (Ne.symm (own_ne (Nat.lt_of_lt_of_le E0.lt (Nat.le_trans (Nat.le_trans E11.1 (Nat.le_of_eq (Wr.size W23).symm)) (Nat.le_of_eq (Wr.size W31).symm))) g39))), ((List.map_replicate ..).trans ri56.1), fun v hv => Or.inl (List.eq_of_mem_replicate hv)⟩
set_option maxRecDepth 65536 in
set_option maxHeartbeats 40000000 in
theorem rm_init1 {l : Launch} {Z : State} {a0 : Array Value} (hw : ∀ d ∈ tables_1, d.before a0 Z = true) {o0 : Addr} {cN : Nat} {a_EVICT_OLDEST : Addr} {a_REJECT : Addr} {a_REFUSED : Addr} {ca : Addr} {cc : Cell} {h0 : Heap} {n0 : Nat} (O : Old Z n0 h0) (W : Wd Z a_EVICT_OLDEST a_REJECT a_REFUSED ca cc) (E0 : Exa Z h0 o0 "com/example/rondel/rondel/RingBuffer") (Fhead : Fld Z h0 o0 "com/example/rondel/rondel/RingBuffer" "head" "I" (.int 0)) (Ftail : Fld Z h0 o0 "com/example/rondel/rondel/RingBuffer" "tail" "I" (.int 0)) (Felements : Fld Z h0 o0 "com/example/rondel/rondel/RingBuffer" "elements" "[Ljava/lang/Object;" .null) (Fcapacity : Fld Z h0 o0 "com/example/rondel/rondel/RingBuffer" "capacity" "I" (.int 0)) (Frejects : Fld Z h0 o0 "com/example/rondel/rondel/RingBuffer" "rejects" "Z" (.int 0)) (FmodCount : Fld Z h0 o0 "com/example/rondel/rondel/RingBuffer" "modCount" "I" (.int 0)) (g0 : n0 ≤ o0) (c5 : cN < 5) (c1 : 1 ≤ cN) :
    MetW0 l Z consts_1 (⟨"com/example/rondel/rondel/RingBuffer", "<init>", "(ILcom/example/rondel/rondel/OverflowPolicy;)V"⟩ : MethodName) prog_2_method_2_code 3 none ({ frames := 3, cells := 3, slots := 32, locals := 36 } : Room) #[(.ref o0), (.int (o32 cN)), (.ref a_REJECT)] h0 n0 (fun h => Keep h0 h [o0] ∧ ∃ A k, h0.size ≤ A ∧ A ≠ o0 ∧ Ovr Z k "java/lang/Object" ∧ RN Z h o0 A k cN 0 0 cN 1) := by
  refine metW_of (L := #[.val (.ref o0), .val (.int (o32 cN)), .val (.ref a_REJECT)]) (plainFor_of_name pn_4) (fun m => by first | (simp [entryFrame, mkF, argsToLocals, Value.category]; done) | rfl) ?_
  intro p e s m below meth c T vm C X Y
  change Cx p (s.setVm vm) m meth c Z "com/example/rondel/rondel/RingBuffer" prog_2_method_2_code 3 none "<init>" at C
  refine g_aloadN C X d1_0 (q := 1) rfl rfl rfl ?_
  refine g_callI0 C X (y := (⟨"java/util/AbstractQueue", "<init>", "()V"⟩ : MethodName)) (a := o0) (by decide) rfl (w9 hw) (w10 hw) (w13 hw) (w12 hw) (rm_AbstractQueue hw (oo := o0) O W) (W := 0) (by decide) (by decide) (k' := 0) rfl (n' := 0) rfl (by decide) (by decide) rfl pd_30 (argsL := []) rfl (rest := []) rfl rfl rfl d1_1 (q := 4) rfl ?_
  rintro T1 _ X2 rfl
  refine g_iloadN C X2 d1_4 (q := 5) rfl rfl ?_
  refine g_callS0 C X2 (y := (⟨"com/example/rondel/rondel/RingBuffer", "checkCapacity", "(I)V"⟩ : MethodName)) (by decide) (w23 hw) (w24 hw) (w25 hw) (w5 hw) (rm_cc hw (x1 := (o32 cN)) O W (r_max cN c5 0 (by decide) c1).2) (W := 0) (by decide) (by decide) (k' := 0) rfl (n' := 0) rfl (by decide) (by decide) rfl pd_262 (argsL := [(.int (o32 cN))]) rfl (rest := []) rfl rfl rfl d1_5 (q := 8) rfl ?_
  rintro T3 _ X4 rfl
  refine g_aloadN C X4 d1_8 (q := 9) rfl rfl rfl ?_
  refine g_aloadN C X4 d1_9 (q := 10) rfl rfl rfl ?_
  refine gW_ldcO C X4 Y (own_EL hw) (w26 hw) (own_SA hw) d1_10 (q := 12) rfl (nn := 24) (by decide) (by decide) (k' := 2) rfl (n' := 28) rfl (by decide) (by decide) ?_
  intro b5 T6 h7 vm8 C X9 Y10 E11 R12
  have O13 := O.ext E11
  refine g_callS1 C X9 (y := (⟨"java/util/Objects", "requireNonNull", "(Ljava/lang/Object;Ljava/lang/String;)Ljava/lang/Object;"⟩ : MethodName)) (by decide) (w34 hw) (w35 hw) (w37 hw) (w36 hw) (rm_rn hw (ob := a_REJECT) (os := b5) O13 W) (W := 1) (by decide) (by decide) (k' := 2) rfl (n' := 28) rfl (by decide) (by decide) rfl pd_140 (argsL := [(.ref a_REJECT), (.ref b5)]) rfl (rest := [(.ref o0)]) rfl rfl rfl d1_12 (q := 15) rfl ?_
  rintro _ T14 _ X15 ⟨rfl, rfl⟩
  refine g_getS C X15 (host := "") (Or.inl (w38 hw)) Via.refl (W.2.2.1.ext O13.2) d1_15 (q := 18) rfl ?_
  intro T16 X17
  refine g_acmp C X17 d1_18 rfl rfl (same := true) (decide_eq_true rfl) (by decide) (q := 21) (by decide) ?_
  refine g_iconst C X17 d1_21 (q := 22) rfl (z := (1 : Int32)) rfl ?_
  refine g_goto C X17 d1_22 (by decide) (q := 26) (by decide) ?_
  have f18 := (Frejects.ext E11)
  have f19 := (E0.ext E11)
  refine g_putF C X17 (host := "") (Or.inl (w40 hw)) Via.refl f18 f19 (Or.inr ⟨(w41 hw), rfl, rfl⟩) (w4 hw) (ty := .boolean) (by decide) rfl rfl d1_26 (q := 29) rfl g0 ?_
  intro T20 h22 X21 W23
  have FW23 := Fld.same W23 f18
  have Y24 := Wx.wr Y10 W23 (Safe.exa (Cx.alike C) f19 (by decide) (by decide))
  have O25 := O13.wr W23 g0
  refine g_aloadN C X21 d1_29 (q := 30) rfl rfl rfl ?_
  refine g_iloadN C X21 d1_30 (q := 31) rfl rfl ?_
  have f26 := ((Fcapacity.ext E11).other W23 (Or.inr (slot_ne (Or.inl (w43 hw)) (Or.inr (w41 hw)) (by decide) (t := .int) (t' := .boolean) (by decide) (by decide))))
  have f27 := (f19.wr W23)
  refine g_putF C X21 (host := "") (Or.inl (w42 hw)) Via.refl f26 f27 (Or.inl (w43 hw)) (w4 hw) (ty := .int) (by decide) rfl rfl d1_31 (q := 34) rfl g0 ?_
  intro T28 h30 X29 W31
  have FW31 := Fld.same W31 f26
  have Y32 := Wx.wr Y24 W31 (Safe.exa (Cx.alike C) f27 (by decide) (by decide))
  have O33 := O25.wr W31 g0
  refine g_aloadN C X29 d1_34 (q := 35) rfl rfl rfl ?_
  refine g_iloadN C X29 d1_35 (q := 36) rfl rfl ?_
  refine g_newR C X29 (w44 hw) (w45 hw) d1_36 (q := 39) rfl (r_nn cN c5).1 (cap := 4) (by rw [(r_nn cN c5).2]; exact Nat.le_of_lt_succ c5) (by decide) (k' := 3) rfl (n' := 32) rfl (by decide) (by decide) ?_
  intro T35 h36 kA37 b34 g39 X38 E40 V41 Q42
  have ge44 : n0 ≤ b34 := own_ge O33 g39
  have Y45 := Wx.ext Y32 E40
  have O46 := O33.ext E40
  have V43 : Arv Z h36 b34 kA37 (.object "java/lang/Object") (o32 cN) (List.replicate cN .null) .null := Arv.pad V41 (own_rep cN)
  have Y47 := Yar.of V43
  have f48 := ((((Felements.ext E11).other W23 (Or.inr (slot_ne (Or.inl (w47 hw)) (Or.inr (w41 hw)) (by decide) (t := (.array (.object "java/lang/Object"))) (t' := .boolean) (by decide) (by decide)))).other W31 (Or.inr (slot_ne (Or.inl (w47 hw)) (Or.inl (w43 hw)) (by decide) (t := (.array (.object "java/lang/Object"))) (t' := .int) (by decide) (by decide)))).ext E40)
  have f49 := ((f27.wr W31).ext E40)
  refine g_putF C X38 (host := "") (Or.inl (w46 hw)) Via.refl f48 f49 (Or.inl (w47 hw)) (w4 hw) (ty := (.array (.object "java/lang/Object"))) (by decide) rfl rfl d1_39 (q := 42) rfl g0 ?_
  intro T50 h52 X51 W53
  have FW53 := Fld.same W53 f48
  have Y54 := Wx.wr Y45 W53 (Safe.exa (Cx.alike C) f49 (by decide) (by decide))
  have O55 := O46.wr W53 g0
  have ri56 := r_ini cN c5 c1
  exact gW_retV C X51 Y54 (own_EL hw) d1_42 (by decide) (by decide) ⟨rfl, ((((((Keep.refl h0 [o0]).ext E11).wr W23 (Or.inl (List.mem_of_getElem? (i := 0) rfl))).wr W31 (Or.inl (List.mem_of_getElem? (i := 0) rfl))).ext E40).wr W53 (Or.inl (List.mem_of_getElem? (i := 0) rfl))), b34, kA37, (own_sz ((((Keep.refl h0 [o0]).ext E11).wr W23 (Or.inl (List.mem_of_getElem? (i := 0) rfl))).wr W31 (Or.inl (List.mem_of_getElem? (i := 0) rfl))).1 g39), Ne.symm (own_ne (Nat.lt_of_lt_of_le E0.lt (Nat.le_trans (Nat.le_trans E11.1 (Nat.le_of_eq (Wr.size W23).symm)) (Nat.le_of_eq (Wr.size W31).symm))) g39), Q42, _, _, ⟨(f49.wr W53), (own_cI ri56.2.1 (((((Fhead.ext E11).other W23 (Or.inr (slot_ne (Or.inl (w61 hw)) (Or.inr (w41 hw)) (by decide) (t := .int) (t' := .boolean) (by decide) (by decide)))).other W31 (Or.inr (slot_ne (Or.inl (w61 hw)) (Or.inl (w43 hw)) (by decide) (t := .int) (t' := .int) (by decide) (by decide)))).ext E40).other W53 (Or.inr (slot_ne (Or.inl (w61 hw)) (Or.inl (w47 hw)) (by decide) (t := .int) (t' := (.array (.object "java/lang/Object"))) (by decide) (by decide))))), (own_cI ri56.2.2.1 (((((Ftail.ext E11).other W23 (Or.inr (slot_ne (Or.inl (w59 hw)) (Or.inr (w41 hw)) (by decide) (t := .int) (t' := .boolean) (by decide) (by decide)))).other W31 (Or.inr (slot_ne (Or.inl (w59 hw)) (Or.inl (w43 hw)) (by decide) (t := .int) (t' := .int) (by decide) (by decide)))).ext E40).other W53 (Or.inr (slot_ne (Or.inl (w59 hw)) (Or.inl (w47 hw)) (by decide) (t := .int) (t' := (.array (.object "java/lang/Object"))) (by decide) (by decide))))), FW53, ((FW31.ext E40).other W53 (Or.inr (slot_ne (Or.inl (w43 hw)) (Or.inl (w47 hw)) (by decide) (t := .int) (t' := (.array (.object "java/lang/Object"))) (by decide) (by decide)))), (((FW23.other W31 (Or.inr (slot_ne (Or.inr (w41 hw)) (Or.inl (w43 hw)) (by decide) (t := .boolean) (t' := .int) (by decide) (by decide)))).ext E40).other W53 (Or.inr (slot_ne (Or.inr (w41 hw)) (Or.inl (w47 hw)) (by decide) (t := .boolean) (t' := (.array (.object "java/lang/Object"))) (by decide) (by decide)))), (((((FmodCount.ext E11).other W23 (Or.inr (slot_ne (Or.inl (w113 hw)) (Or.inr (w41 hw)) (by decide) (t := .int) (t' := .boolean) (by decide) (by decide)))).other W31 (Or.inr (slot_ne (Or.inl (w113 hw)) (Or.inl (w43 hw)) (by decide) (t := .int) (t' := .int) (by decide) (by decide)))).ext E40).other W53 (Or.inr (slot_ne (Or.inl (w113 hw)) (Or.inl (w47 hw)) (by decide) (t := .int) (t' := (.array (.object "java/lang/Object"))) (by decide) (by decide))))⟩, (V43.other W53 (Ne.symm (own_ne (Nat.lt_of_lt_of_le E0.lt (Nat.le_trans (Nat.le_trans E11.1 (Nat.le_of_eq (Wr.size W23).symm)) (Nat.le_of_eq (Wr.size W31).symm))) g39))), ((List.map_replicate ..).trans ri56.1), fun v hv => Or.inl (List.eq_of_mem_replicate hv)⟩
set_option maxRecDepth 65536 in
set_option maxHeartbeats 40000000 in
theorem rm_val {l : Launch} {Z : State} {a0 : Array Value} (hw : ∀ d ∈ tables_1, d.before a0 Z = true) {ii : Int32} {a_EVICT_OLDEST : Addr} {a_REJECT : Addr} {a_REFUSED : Addr} {ca : Addr} {cc : Cell} {h0 : Heap} {n0 : Nat} (O : Old Z n0 h0) (W : Wd Z a_EVICT_OLDEST a_REJECT a_REFUSED ca cc) (hi0 : 0 ≤ ii.toInt) (hi7 : ii.toInt ≤ 7) :
    Met1 l Z (⟨"java/lang/Integer", "valueOf", "(I)Ljava/lang/Integer;"⟩ : MethodName) jdk_33_method_22_code 1 (some (.object "java/lang/Integer")) ({ frames := 0, cells := 0, slots := 0, locals := 0 } : Room) #[(.int ii)] h0 n0 (fun v h => (∃ b, v = .ref b ∧ Exa Z Z.heap b "java/lang/Integer") ∧ h0 = h) := by
  refine met_of (L := #[.val (.int ii)]) (plainFor_of_name pn_340) (fun m => by first | (simp [entryFrame, mkF, argsToLocals, Value.category]; done) | rfl) ?_
  intro p e s m below meth c T C X
  change Cx p s m meth c Z "java/lang/Integer" jdk_33_method_22_code 1 (some (.object "java/lang/Integer")) "valueOf" at C
  refine g_iloadN C X d9_0 (q := 1) rfl rfl ?_
  refine g_bipush C X d9_1 (q := 3) rfl (z := (-128 : Int32)) rfl ?_
  refine g_icN C X d9_3 (q := 6) rfl (flt (own_r2 hi0 (by decide) : ¬ ii < (-128 : Int32))).1 ?_
  refine g_iloadN C X d9_6 (q := 7) rfl rfl ?_
  refine g_getS C X (host := "") (Or.inl (w67 hw)) Via.refl (W.2.2.2.2.2.2.2.2.1.ext O.2) d9_7 (q := 10) rfl ?_
  intro T1 X2
  refine g_icN C X2 d9_10 (q := 13) rfl (flt (own_r4 hi7 (by decide) : ¬ (127 : Int32) < ii)).2.2.1 ?_
  refine g_getS C X2 (host := "") (Or.inl (w69 hw)) Via.refl (W.2.2.2.2.2.2.2.2.2.1.ext O.2) d9_13 (q := 16) rfl ?_
  intro T3 X4
  refine g_iloadN C X4 d9_16 (q := 17) rfl rfl ?_
  refine g_sipush C X4 d9_17 (q := 20) rfl (z := (128 : Int32)) rfl ?_
  refine g_iadd C X4 d9_20 (q := 21) rfl (z := (ii + (128 : Int32))) rfl ?_
  obtain ⟨b5, e6, e7, -⟩ := W.2.2.2.2.2.2.2.2.2.2.2.2.2 (ii + (128 : Int32)) (own_vj hi0 hi7 W.2.2.2.2.2.2.2.2.2.2.2.1)
  refine g_aaloadA C X4 rfl (W.2.2.2.2.2.2.2.2.2.2.1.ext O.2) (own_vj hi0 hi7 W.2.2.2.2.2.2.2.2.2.2.2.1) (w := (.ref b5)) e6 d9_21 (q := 22) rfl ?_
  exact g_retA C X4 rfl rfl d9_22 (by decide) (by decide) ⟨_, rfl, ⟨_, rfl, e7⟩, rfl⟩
set_option maxRecDepth 65536 in
set_option maxHeartbeats 40000000 in
theorem rm_step {l : Launch} {Z : State} {a0 : Array Value} (hw : ∀ d ∈ tables_1, d.before a0 Z = true) {o0 A : Addr} {kC : ClassId} {nN hN zN cN : Nat} {rI mI : Int32} {vs : List Value} {mA : Addr} {kM : ClassId} {ops caps ii nn : Int32} {a_EVICT_OLDEST : Addr} {a_REJECT : Addr} {a_REFUSED : Addr} {ca : Addr} {cc : Cell} {h0 : Heap} {n0 : Nat} (O : Old Z n0 h0) (W : Wd Z a_EVICT_OLDEST a_REJECT a_REFUSED ca cc) (R0 : RBf Z h0 o0 A (o32 hN) (o32 ((hN + zN) % nN)) (o32 cN) rI mI) (V0 : Arv Z h0 A kC (.object "java/lang/Object") (o32 nN) vs .null) (P0 : vs.map nb = pat nN hN zN) (I0 : ∀ v ∈ vs, IntB Z v) (B0 : Bd nN hN zN cN) (Q0 : Ovr Z kC "java/lang/Object") (na : A ≠ o0) (g0 : n0 ≤ o0) (gA : n0 ≤ A) (VM : Arv Z h0 mA kM .int 2 [.int (o32 zN), .int (o32 cN)] (.int 0)) (nm1 : mA ≠ o0) (nm2 : mA ≠ A) (gm : n0 ≤ mA) (hi0 : 0 ≤ ii.toInt) (hi7 : ii.toInt ≤ 7) :
    MetW0 l Z consts_1 (⟨"com/example/rondel/rondel/RingBufferSizePinLaw", "step", "(Lcom/example/rondel/rondel/RingBuffer;[IIIII)V"⟩ : MethodName) method_3_code 8 none ({ frames := 4, cells := 2, slots := 32, locals := 62 } : Room) #[(.ref o0), (.ref mA), (.int ops), (.int caps), (.int ii), (.int nn)] h0 n0 (fun h => Keep h0 h [o0, A, mA] ∧ ∃ A' k' n' h' z' c', (A' = A ∨ h0.size ≤ A') ∧ A' ≠ o0 ∧ Ovr Z k' "java/lang/Object" ∧ Bd n' h' z' c' ∧ RN Z h o0 A' k' n' h' z' c' rI ∧ Arv Z h mA kM .int 2 [.int (o32 z'), .int (o32 c')] (.int 0)) := by
  refine metW_of (L := #[.val (.ref o0), .val (.ref mA), .val (.int ops), .val (.int caps), .val (.int ii), .val (.int nn), .unset, .unset]) (plainFor_of_name pn_416) (fun m => by first | (simp [entryFrame, mkF, argsToLocals, Value.category]; done) | rfl) ?_
  intro p e s m below meth c T vm C X Y
  change Cx p (s.setVm vm) m meth c Z "com/example/rondel/rondel/RingBufferSizePinLaw" method_3_code 8 none "step" at C
  have Y1 := Yar.of V0
  have Y2 := Yar.of VM
  refine g_iload C X d7_0 (q := 2) rfl rfl ?_
  refine g_iload C X d7_2 (q := 4) rfl rfl ?_
  by_cases hc3 : ii < nn
  · refine g_icY C X d7_4 (by decide) (q := 8) (by decide) (tlt hc3).1 ?_
    refine g_iloadN C X d7_8 (q := 9) rfl rfl ?_
    refine g_iconst C X d7_9 (q := 10) rfl (z := (2 : Int32)) rfl ?_
    refine g_iload C X d7_10 (q := 12) rfl rfl ?_
    refine g_imul C X d7_12 (q := 13) rfl (z := ((2 : Int32) * ii)) rfl ?_
    refine g_iushr C X d7_13 (q := 14) rfl (z := ((ops.toUInt32 >>> (((2 : Int32) * ii) &&& 31).toUInt32).toInt32)) rfl ?_
    refine g_iconst C X d7_14 (q := 15) rfl (z := (3 : Int32)) rfl ?_
    obtain ⟨v4, ev4⟩ : ∃ z, (((ops.toUInt32 >>> (((2 : Int32) * ii) &&& 31).toUInt32).toInt32) &&& (3 : Int32)) = z := ⟨_, rfl⟩
    have hl5 : 0 ≤ v4.toInt := by rw [← ev4]; exact (c_and ((ops.toUInt32 >>> (((2 : Int32) * ii) &&& 31).toUInt32).toInt32) (3 : Int32) (by decide)).1
    have hh6 : v4.toInt ≤ 3 := by rw [← ev4]; exact (c_and ((ops.toUInt32 >>> (((2 : Int32) * ii) &&& 31).toUInt32).toInt32) (3 : Int32) (by decide)).2
    refine g_iand C X d7_15 (q := 16) rfl (z := v4) ev4 ?_
    refine g_istore C X d7_16 (q := 18) rfl (L' := #[.val (.ref o0), .val (.ref mA), .val (.int ops), .val (.int caps), .val (.int ii), .val (.int nn), .val (.int v4), .unset]) rfl ?_
    refine g_iload C X d7_18 (q := 20) rfl rfl ?_
    refine g_iconst C X d7_20 (q := 21) rfl (z := (1 : Int32)) rfl ?_
    by_cases hc7 : (1 : Int32) < v4
    · refine g_icY C X d7_21 (by decide) (q := 54) (by decide) (tlt hc7).2.2.1 ?_
      have hr8 : 2 ≤ v4.toInt := own_f3 hc7 (by decide)
      refine g_iload C X d7_54 (q := 56) rfl rfl ?_
      refine g_iconst C X d7_56 (q := 57) rfl (z := (2 : Int32)) rfl ?_
      by_cases hc9 : v4 = (2 : Int32)
      · refine g_icN C X d7_57 (q := 60) rfl (teq hc9).2 ?_
        obtain rfl : v4 = (2 : Int32) := hc9
        refine g_aloadN C X d7_60 (q := 61) rfl rfl rfl ?_
        by_cases hc11 : (0 : Int32) < (o32 zN)
        · refine g_callV1 C X (y := (⟨"com/example/rondel/rondel/RingBuffer", "poll", "()Ljava/lang/Object;"⟩ : MethodName)) (z := (⟨"com/example/rondel/rondel/RingBuffer", "poll", "()Ljava/lang/Object;"⟩ : MethodName)) (a := o0) (by decide) (w114 hw) (w115 hw) (w117 hw) (w116 hw) (nf_sel (w117 hw)) R0.1 (w118 hw) (w5 hw) (rm_poll hw (o0 := o0) (A := A) (kC := kC) (nN := nN) (hN := hN) (zN := zN) (cN := cN) (rI := rI) (mI := mI) (vs := vs)  (zz := (zN - 1)) O W ⟨R0.1, R0.2.1, R0.2.2.1, R0.2.2.2.1, R0.2.2.2.2.1, R0.2.2.2.2.2.1, R0.2.2.2.2.2.2⟩ V0 P0 I0 B0 Q0 na g0 gA rfl) (W := 0) (by decide) (by decide) (k' := 0) rfl (n' := 0) rfl (by decide) (by decide) rfl pd_129 (argsL := []) rfl (rest := []) rfl rfl rfl d7_61 (q := 64) rfl ?_
          rintro w16 T12 h13 X14 ⟨hr17, K15, hd18, B19, N20⟩
          obtain ⟨mi21, vs22, R23, V24, P25, I26⟩ := N20
          have Y27 := Wx.keep Y K15 (sfS (Safe.exa (Cx.alike C) R0.1 (by decide) (by decide)) (sfS (own_safeY (Cx.alike C) Y1 (by decide)) sf0))
          have O28 := O.keep K15 (allS g0 (allS gA all0))
          have Y29 := Yar.of V24
          refine g_pop C X14 d7_64 (q := 65) rfl (own_catR hr17) ?_
          refine g_aloadN C X14 d7_65 (q := 66) rfl rfl rfl ?_
          refine g_iconst C X14 d7_66 (q := 67) rfl (z := (0 : Int32)) rfl ?_
          have f30 := (VM.keep K15 (ninS nm1 (ninS nm2 nin0)))
          refine g_iaload C X14 f30 (by decide) (w := (.int (o32 zN))) rfl d7_67 (q := 68) rfl ?_
          refine g_ifN C X14 d7_68 (q := 71) rfl (tlt hc11).2.2.2 ?_
          refine g_aloadN C X14 d7_71 (q := 72) rfl rfl rfl ?_
          refine g_iconst C X14 d7_72 (q := 73) rfl (z := (0 : Int32)) rfl ?_
          refine g_aloadN C X14 d7_73 (q := 74) rfl rfl rfl ?_
          refine g_iconst C X14 d7_74 (q := 75) rfl (z := (0 : Int32)) rfl ?_
          refine g_iaload C X14 f30 (by decide) (w := (.int (o32 zN))) rfl d7_75 (q := 76) rfl ?_
          refine g_iconst C X14 d7_76 (q := 77) rfl (z := (1 : Int32)) rfl ?_
          refine g_isub C X14 d7_77 (q := 78) rfl (z := (o32 (zN - 1))) ((r_inc zN (own_z5 B0)).2.1 hc11) ?_
          refine g_iastore C X14 f30 (by decide) (i := 0) (by decide) (Nat.le_of_ble_eq_true rfl) (vs' := [(.int (o32 (zN - 1))), (.int (o32 cN))]) rfl gm d7_78 (q := 79) rfl ?_
          intro T31 h32 X33 W34 V35
          have f36 := (Y2.keep K15)
          have Y37 := Wx.wr Y27 W34 (own_safeY (Cx.alike C) f36 (by decide))
          have O38 := O28.wr W34 gm
          refine g_goto C X33 d7_79 (by decide) (q := 105) (by decide) ?_
          exact gW_retV C X33 Y37 (own_EL hw) d7_105 (by decide) (by decide) ⟨rfl, (((Keep.refl h0 [o0, A, mA]).trans K15 (allS (Or.inl (List.mem_of_getElem? (i := 0) rfl)) (allS (Or.inl (List.mem_of_getElem? (i := 1) rfl)) all0))).wr W34 (Or.inl (List.mem_of_getElem? (i := 2) rfl))), A, kC, nN, hd18, (zN - 1), cN, (Or.inl rfl), na, Q0, B19, ⟨_, _, ⟨(R23.1.wr W34), (R23.2.1.other W34 (Or.inl (Ne.symm nm1))), (R23.2.2.1.other W34 (Or.inl (Ne.symm nm1))), (R23.2.2.2.1.other W34 (Or.inl (Ne.symm nm1))), (R23.2.2.2.2.1.other W34 (Or.inl (Ne.symm nm1))), (R23.2.2.2.2.2.1.other W34 (Or.inl (Ne.symm nm1))), (R23.2.2.2.2.2.2.other W34 (Or.inl (Ne.symm nm1)))⟩, (V24.other W34 (Ne.symm nm2)), P25, I26⟩, V35⟩
        · refine g_callV1 C X (y := (⟨"com/example/rondel/rondel/RingBuffer", "poll", "()Ljava/lang/Object;"⟩ : MethodName)) (z := (⟨"com/example/rondel/rondel/RingBuffer", "poll", "()Ljava/lang/Object;"⟩ : MethodName)) (a := o0) (by decide) (w114 hw) (w115 hw) (w117 hw) (w116 hw) (nf_sel (w117 hw)) R0.1 (w118 hw) (w5 hw) (rm_poll hw (o0 := o0) (A := A) (kC := kC) (nN := nN) (hN := hN) (zN := zN) (cN := cN) (rI := rI) (mI := mI) (vs := vs)  (zz := zN) O W ⟨R0.1, R0.2.1, R0.2.2.1, R0.2.2.2.1, R0.2.2.2.2.1, R0.2.2.2.2.2.1, R0.2.2.2.2.2.2⟩ V0 P0 I0 B0 Q0 na g0 gA ((r_inc zN (own_z5 B0)).2.2 hc11)) (W := 0) (by decide) (by decide) (k' := 0) rfl (n' := 0) rfl (by decide) (by decide) rfl pd_129 (argsL := []) rfl (rest := []) rfl rfl rfl d7_61 (q := 64) rfl ?_
          rintro w43 T39 h40 X41 ⟨hr44, K42, hd45, B46, N47⟩
          obtain ⟨mi48, vs49, R50, V51, P52, I53⟩ := N47
          have Y54 := Wx.keep Y K42 (sfS (Safe.exa (Cx.alike C) R0.1 (by decide) (by decide)) (sfS (own_safeY (Cx.alike C) Y1 (by decide)) sf0))
          have O55 := O.keep K42 (allS g0 (allS gA all0))
          have Y56 := Yar.of V51
          refine g_pop C X41 d7_64 (q := 65) rfl (own_catR hr44) ?_
          refine g_aloadN C X41 d7_65 (q := 66) rfl rfl rfl ?_
          refine g_iconst C X41 d7_66 (q := 67) rfl (z := (0 : Int32)) rfl ?_
          have f57 := (VM.keep K42 (ninS nm1 (ninS nm2 nin0)))
          refine g_iaload C X41 f57 (by decide) (w := (.int (o32 zN))) rfl d7_67 (q := 68) rfl ?_
          refine g_ifY C X41 d7_68 (by decide) (q := 105) (by decide) (flt hc11).2.2.2 ?_
          exact gW_retV C X41 Y54 (own_EL hw) d7_105 (by decide) (by decide) ⟨rfl, ((Keep.refl h0 [o0, A, mA]).trans K42 (allS (Or.inl (List.mem_of_getElem? (i := 0) rfl)) (allS (Or.inl (List.mem_of_getElem? (i := 1) rfl)) all0))), A, kC, nN, hd45, zN, cN, (Or.inl rfl), na, Q0, B46, ⟨_, _, ⟨R50.1, R50.2.1, R50.2.2.1, R50.2.2.2.1, R50.2.2.2.2.1, R50.2.2.2.2.2.1, R50.2.2.2.2.2.2⟩, V51, P52, I53⟩, f57⟩
      · refine g_icY C X d7_57 (by decide) (q := 82) (by decide) (feq hc9).2 ?_
        have hr58 : 3 ≤ v4.toInt := own_f5 hc9 hr8 (by decide)
        obtain rfl : v4 = (3 : Int32) := own_f0 hr58 hh6 (by decide)
        refine g_iconst C X d7_82 (q := 83) rfl (z := (1 : Int32)) rfl ?_
        refine g_iloadN C X d7_83 (q := 84) rfl rfl ?_
        refine g_iconst C X d7_84 (q := 85) rfl (z := (2 : Int32)) rfl ?_
        refine g_iload C X d7_85 (q := 87) rfl rfl ?_
        refine g_imul C X d7_87 (q := 88) rfl (z := ((2 : Int32) * ii)) rfl ?_
        refine g_iushr C X d7_88 (q := 89) rfl (z := ((caps.toUInt32 >>> (((2 : Int32) * ii) &&& 31).toUInt32).toInt32)) rfl ?_
        refine g_iconst C X d7_89 (q := 90) rfl (z := (3 : Int32)) rfl ?_
        obtain ⟨v59, ev59⟩ : ∃ z, (((caps.toUInt32 >>> (((2 : Int32) * ii) &&& 31).toUInt32).toInt32) &&& (3 : Int32)) = z := ⟨_, rfl⟩
        have hl60 : 0 ≤ v59.toInt := by rw [← ev59]; exact (c_and ((caps.toUInt32 >>> (((2 : Int32) * ii) &&& 31).toUInt32).toInt32) (3 : Int32) (by decide)).1
        have hh61 : v59.toInt ≤ 3 := by rw [← ev59]; exact (c_and ((caps.toUInt32 >>> (((2 : Int32) * ii) &&& 31).toUInt32).toInt32) (3 : Int32) (by decide)).2
        refine g_iand C X d7_90 (q := 91) rfl (z := v59) ev59 ?_
        obtain ⟨dN, d5, d1, ed⟩ := r_cap hl60 hh61
        refine g_iadd C X d7_91 (q := 92) rfl (z := (o32 dN)) ed ?_
        refine g_istore C X d7_92 (q := 94) rfl (L' := #[.val (.ref o0), .val (.ref mA), .val (.int ops), .val (.int caps), .val (.int ii), .val (.int nn), .val (.int (3 : Int32)), .val (.int (o32 dN))]) rfl ?_
        refine g_aloadN C X d7_94 (q := 95) rfl rfl rfl ?_
        refine g_iload C X d7_95 (q := 97) rfl rfl ?_
        refine g_callV0 C X (y := (⟨"com/example/rondel/rondel/RingBuffer", "setCapacity", "(I)V"⟩ : MethodName)) (z := (⟨"com/example/rondel/rondel/RingBuffer", "setCapacity", "(I)V"⟩ : MethodName)) (a := o0) (by decide) (w91 hw) (w92 hw) (w94 hw) (w93 hw) (nf_sel (w94 hw)) R0.1 (w95 hw) (w5 hw) (rm_setc hw (o0 := o0) (A := A) (kC := kC) (nN := nN) (hN := hN) (zN := zN) (cN := cN) (rI := rI) (mI := mI) (vs := vs)  (dN := dN) O W ⟨R0.1, R0.2.1, R0.2.2.1, R0.2.2.2.1, R0.2.2.2.2.1, R0.2.2.2.2.2.1, R0.2.2.2.2.2.2⟩ V0 P0 I0 B0 Q0 na g0 gA d5 d1) (W := 0) (by decide) (by decide) (k' := 1) rfl (n' := 4) rfl (by decide) (by decide) rfl pd_262 (argsL := [(.int (o32 dN))]) rfl (rest := []) rfl rfl rfl d7_97 (q := 100) rfl ?_
        rintro T62 h63 X64 ⟨K65, A66, k67, n68, hd69, q70, nA71, Q72, B73, N74⟩
        have gA75 := own_geA O gA q70
        have nm76 := own_neA nm2 VM.lt q70
        obtain ⟨mi77, vs78, R79, V80, P81, I82⟩ := N74
        have Y83 := Wx.keep Y K65 (sfS (Safe.exa (Cx.alike C) R0.1 (by decide) (by decide)) sf0)
        have O84 := O.keep K65 (allS g0 all0)
        have Y85 := Yar.of V80
        refine g_aloadN C X64 d7_100 (q := 101) rfl rfl rfl ?_
        refine g_iconst C X64 d7_101 (q := 102) rfl (z := (1 : Int32)) rfl ?_
        refine g_iload C X64 d7_102 (q := 104) rfl rfl ?_
        have f86 := (VM.keep K65 (ninS nm1 nin0))
        refine g_iastore C X64 f86 (by decide) (i := 1) (by decide) (Nat.le_of_ble_eq_true rfl) (vs' := [(.int (o32 zN)), (.int (o32 dN))]) rfl gm d7_104 (q := 105) rfl ?_
        intro T87 h88 X89 W90 V91
        have f92 := (Y2.keep K65)
        have Y93 := Wx.wr Y83 W90 (own_safeY (Cx.alike C) f92 (by decide))
        have O94 := O84.wr W90 gm
        exact gW_retV C X89 Y93 (own_EL hw) d7_105 (by decide) (by decide) ⟨rfl, (((Keep.refl h0 [o0, A, mA]).trans K65 (allS (Or.inl (List.mem_of_getElem? (i := 0) rfl)) all0)).wr W90 (Or.inl (List.mem_of_getElem? (i := 2) rfl))), A66, k67, n68, hd69, zN, dN, q70, nA71, Q72, B73, ⟨_, _, ⟨(R79.1.wr W90), (R79.2.1.other W90 (Or.inl (Ne.symm nm1))), (R79.2.2.1.other W90 (Or.inl (Ne.symm nm1))), (R79.2.2.2.1.other W90 (Or.inl (Ne.symm nm1))), (R79.2.2.2.2.1.other W90 (Or.inl (Ne.symm nm1))), (R79.2.2.2.2.2.1.other W90 (Or.inl (Ne.symm nm1))), (R79.2.2.2.2.2.2.other W90 (Or.inl (Ne.symm nm1)))⟩, (V80.other W90 (Ne.symm nm76)), P81, I82⟩, V91⟩
    · refine g_icN C X d7_21 (q := 24) rfl (flt hc7).2.2.1 ?_
      have hr95 : v4.toInt ≤ 1 := own_f4 hc7 (by decide)
      refine g_aloadN C X d7_24 (q := 25) rfl rfl rfl ?_
      refine g_iload C X d7_25 (q := 27) rfl rfl ?_
      refine g_callS1 C X (y := (⟨"java/lang/Integer", "valueOf", "(I)Ljava/lang/Integer;"⟩ : MethodName)) (by decide) (w63 hw) (w64 hw) (w66 hw) (w65 hw) (rm_val hw (ii := ii) O W hi0 hi7) (W := 1) (by decide) (by decide) (k' := 0) rfl (n' := 0) rfl (by decide) (by decide) rfl pd_395 (argsL := [(.int ii)]) rfl (rest := [(.ref o0)]) rfl rfl rfl d7_27 (q := 30) rfl ?_
      rintro _ T96 _ X97 ⟨⟨b98, rfl, EB99⟩, rfl⟩
      by_cases hc100 : (o32 zN) < (o32 cN)
      · refine gW_callV1 C X97 Y (own_EL hw) (y := (⟨"com/example/rondel/rondel/RingBuffer", "offer", "(Ljava/lang/Object;)Z"⟩ : MethodName)) (z := (⟨"com/example/rondel/rondel/RingBuffer", "offer", "(Ljava/lang/Object;)Z"⟩ : MethodName)) (a := o0) (by decide) (w70 hw) (w71 hw) (w73 hw) (w72 hw) (nf_sel (w73 hw)) R0.1 (w74 hw) (w5 hw) (rm_offer hw (o0 := o0) (A := A) (kC := kC) (nN := nN) (hN := hN) (zN := zN) (cN := cN) (rI := rI) (mI := mI) (vs := vs)  (ob := b98) (zz := (zN + 1)) O W ⟨R0.1, R0.2.1, R0.2.2.1, R0.2.2.2.1, R0.2.2.2.2.1, R0.2.2.2.2.2.1, R0.2.2.2.2.2.2⟩ V0 P0 I0 B0 Q0 na g0 gA (if_pos (own_zc2 B0 hc100)) EB99) (W := 0) (by decide) (by decide) (k' := 2) rfl (n' := 32) rfl (by decide) (by decide) rfl pd_397 (argsL := [(.ref b98)]) rfl (rest := []) rfl rfl rfl d7_30 (q := 33) rfl ?_
        rintro _ T101 h102 vm103 C X104 Y105 R106 ⟨⟨iv108, rfl⟩, K107, hd109, B110, N111⟩
        obtain ⟨mi112, vs113, R114, V115, P116, I117⟩ := N111
        have O118 := O.keep K107 (allS g0 (allS gA all0))
        have Y119 := Yar.of V115
        refine g_pop C X104 d7_33 (q := 34) rfl rfl ?_
        refine g_aloadN C X104 d7_34 (q := 35) rfl rfl rfl ?_
        refine g_iconst C X104 d7_35 (q := 36) rfl (z := (0 : Int32)) rfl ?_
        have f120 := (VM.keep K107 (ninS nm1 (ninS nm2 nin0)))
        refine g_iaload C X104 f120 (by decide) (w := (.int (o32 zN))) rfl d7_36 (q := 37) rfl ?_
        refine g_aloadN C X104 d7_37 (q := 38) rfl rfl rfl ?_
        refine g_iconst C X104 d7_38 (q := 39) rfl (z := (1 : Int32)) rfl ?_
        refine g_iaload C X104 f120 (by decide) (w := (.int (o32 cN))) rfl d7_39 (q := 40) rfl ?_
        refine g_icN C X104 d7_40 (q := 43) rfl (tlt hc100).2.1 ?_
        refine g_aloadN C X104 d7_43 (q := 44) rfl rfl rfl ?_
        refine g_iconst C X104 d7_44 (q := 45) rfl (z := (0 : Int32)) rfl ?_
        refine g_aloadN C X104 d7_45 (q := 46) rfl rfl rfl ?_
        refine g_iconst C X104 d7_46 (q := 47) rfl (z := (0 : Int32)) rfl ?_
        refine g_iaload C X104 f120 (by decide) (w := (.int (o32 zN))) rfl d7_47 (q := 48) rfl ?_
        refine g_iconst C X104 d7_48 (q := 49) rfl (z := (1 : Int32)) rfl ?_
        refine g_iadd C X104 d7_49 (q := 50) rfl (z := (o32 (zN + 1))) (r_inc zN (own_z5 B0)).1 ?_
        refine g_iastore C X104 f120 (by decide) (i := 0) (by decide) (Nat.le_of_ble_eq_true rfl) (vs' := [(.int (o32 (zN + 1))), (.int (o32 cN))]) rfl gm d7_50 (q := 51) rfl ?_
        intro T121 h122 X123 W124 V125
        have f126 := (Y2.keep K107)
        have Y127 := Wx.wr Y105 W124 (own_safeY (Cx.alike C) f126 (by decide))
        have O128 := O118.wr W124 gm
        refine g_goto C X123 d7_51 (by decide) (q := 105) (by decide) ?_
        exact gW_retV C X123 Y127 (own_EL hw) d7_105 (by decide) (by decide) ⟨rfl, (((Keep.refl h0 [o0, A, mA]).trans K107 (allS (Or.inl (List.mem_of_getElem? (i := 0) rfl)) (allS (Or.inl (List.mem_of_getElem? (i := 1) rfl)) all0))).wr W124 (Or.inl (List.mem_of_getElem? (i := 2) rfl))), A, kC, nN, hd109, (zN + 1), cN, (Or.inl rfl), na, Q0, B110, ⟨_, _, ⟨(R114.1.wr W124), (R114.2.1.other W124 (Or.inl (Ne.symm nm1))), (R114.2.2.1.other W124 (Or.inl (Ne.symm nm1))), (R114.2.2.2.1.other W124 (Or.inl (Ne.symm nm1))), (R114.2.2.2.2.1.other W124 (Or.inl (Ne.symm nm1))), (R114.2.2.2.2.2.1.other W124 (Or.inl (Ne.symm nm1))), (R114.2.2.2.2.2.2.other W124 (Or.inl (Ne.symm nm1)))⟩, (V115.other W124 (Ne.symm nm2)), P116, I117⟩, V125⟩
      · refine gW_callV1 C X97 Y (own_EL hw) (y := (⟨"com/example/rondel/rondel/RingBuffer", "offer", "(Ljava/lang/Object;)Z"⟩ : MethodName)) (z := (⟨"com/example/rondel/rondel/RingBuffer", "offer", "(Ljava/lang/Object;)Z"⟩ : MethodName)) (a := o0) (by decide) (w70 hw) (w71 hw) (w73 hw) (w72 hw) (nf_sel (w73 hw)) R0.1 (w74 hw) (w5 hw) (rm_offer hw (o0 := o0) (A := A) (kC := kC) (nN := nN) (hN := hN) (zN := zN) (cN := cN) (rI := rI) (mI := mI) (vs := vs)  (ob := b98) (zz := zN) O W ⟨R0.1, R0.2.1, R0.2.2.1, R0.2.2.2.1, R0.2.2.2.2.1, R0.2.2.2.2.2.1, R0.2.2.2.2.2.2⟩ V0 P0 I0 B0 Q0 na g0 gA (if_neg (own_zc3 B0 hc100)) EB99) (W := 0) (by decide) (by decide) (k' := 2) rfl (n' := 32) rfl (by decide) (by decide) rfl pd_397 (argsL := [(.ref b98)]) rfl (rest := []) rfl rfl rfl d7_30 (q := 33) rfl ?_
        rintro _ T129 h130 vm131 C X132 Y133 R134 ⟨⟨iv136, rfl⟩, K135, hd137, B138, N139⟩
        obtain ⟨mi140, vs141, R142, V143, P144, I145⟩ := N139
        have O146 := O.keep K135 (allS g0 (allS gA all0))
        have Y147 := Yar.of V143
        refine g_pop C X132 d7_33 (q := 34) rfl rfl ?_
        refine g_aloadN C X132 d7_34 (q := 35) rfl rfl rfl ?_
        refine g_iconst C X132 d7_35 (q := 36) rfl (z := (0 : Int32)) rfl ?_
        have f148 := (VM.keep K135 (ninS nm1 (ninS nm2 nin0)))
        refine g_iaload C X132 f148 (by decide) (w := (.int (o32 zN))) rfl d7_36 (q := 37) rfl ?_
        refine g_aloadN C X132 d7_37 (q := 38) rfl rfl rfl ?_
        refine g_iconst C X132 d7_38 (q := 39) rfl (z := (1 : Int32)) rfl ?_
        refine g_iaload C X132 f148 (by decide) (w := (.int (o32 cN))) rfl d7_39 (q := 40) rfl ?_
        refine g_icY C X132 d7_40 (by decide) (q := 105) (by decide) (flt hc100).2.1 ?_
        exact gW_retV C X132 Y133 (own_EL hw) d7_105 (by decide) (by decide) ⟨rfl, ((Keep.refl h0 [o0, A, mA]).trans K135 (allS (Or.inl (List.mem_of_getElem? (i := 0) rfl)) (allS (Or.inl (List.mem_of_getElem? (i := 1) rfl)) all0))), A, kC, nN, hd137, zN, cN, (Or.inl rfl), na, Q0, B138, ⟨_, _, ⟨R142.1, R142.2.1, R142.2.2.1, R142.2.2.2.1, R142.2.2.2.2.1, R142.2.2.2.2.2.1, R142.2.2.2.2.2.2⟩, V143, P144, I145⟩, f148⟩
  · refine g_icN C X d7_4 (q := 7) rfl (flt hc3).1 ?_
    exact gW_retV C X Y (own_EL hw) d7_7 (by decide) (by decide) ⟨rfl, (Keep.refl h0 [o0, A, mA]), A, kC, nN, hN, zN, cN, (Or.inl rfl), na, Q0, B0, ⟨_, _, ⟨R0.1, R0.2.1, R0.2.2.1, R0.2.2.2.1, R0.2.2.2.2.1, R0.2.2.2.2.2.1, R0.2.2.2.2.2.2⟩, V0, P0, I0⟩, VM⟩
set_option maxRecDepth 65536 in
set_option maxHeartbeats 40000000 in
theorem rmLaw {l : Launch} {Z : State} {a0 : Array Value} (hw : ∀ d ∈ tables_1, d.before a0 Z = true) {p0 p1 p2 : Int32} {a_EVICT_OLDEST : Addr} {a_REJECT : Addr} {a_REFUSED : Addr} {ca : Addr} {cc : Cell} {h0 : Heap} {n0 : Nat} (O : Old Z n0 h0) (W : Wd Z a_EVICT_OLDEST a_REJECT a_REFUSED ca cc) :
    MetW1 l Z consts_1 x code maxLocals ret room_1 #[(.int p0), (.int p1), (.int p2)] h0 n0 (fun v h => v = .int 1 ∧ True) := by
  refine metW_of (L := #[.val (.int p0), .val (.int p1), .val (.int p2), .unset, .unset, .unset, .unset, .unset]) (plainFor_of_name pn_416) (fun m => by first | (simp [entryFrame, mkF, argsToLocals, Value.category, maxLocals]; done) | rfl) ?_
  intro p e s m below meth c T vm C X Y
  change Cx p (s.setVm vm) m meth c Z "com/example/rondel/rondel/RingBufferSizePinLaw" code 8 (some .boolean) "law" at C
  change Goes p e below (FinW Z consts_1 _ s n0 32 2176) _
  refine g_iconst C X at_0 (q := 1) rfl (z := (1 : Int32)) rfl ?_
  refine g_iloadN C X at_1 (q := 2) rfl rfl ?_
  refine g_iconst C X at_2 (q := 3) rfl (z := (1 : Int32)) rfl ?_
  refine g_iushr C X at_3 (q := 4) rfl (z := ((p0.toUInt32 >>> ((1 : Int32) &&& 31).toUInt32).toInt32)) rfl ?_
  refine g_iconst C X at_4 (q := 5) rfl (z := (3 : Int32)) rfl ?_
  obtain ⟨v1, ev1⟩ : ∃ z, (((p0.toUInt32 >>> ((1 : Int32) &&& 31).toUInt32).toInt32) &&& (3 : Int32)) = z := ⟨_, rfl⟩
  have hl2 : 0 ≤ v1.toInt := by rw [← ev1]; exact (c_and ((p0.toUInt32 >>> ((1 : Int32) &&& 31).toUInt32).toInt32) (3 : Int32) (by decide)).1
  have hh3 : v1.toInt ≤ 3 := by rw [← ev1]; exact (c_and ((p0.toUInt32 >>> ((1 : Int32) &&& 31).toUInt32).toInt32) (3 : Int32) (by decide)).2
  refine g_iand C X at_5 (q := 6) rfl (z := v1) ev1 ?_
  obtain ⟨cN, c5, c1, ec⟩ := r_cap hl2 hh3
  refine g_iadd C X at_6 (q := 7) rfl (z := (o32 cN)) ec ?_
  refine g_istoreN C X at_7 (q := 8) rfl (L' := #[.val (.int p0), .val (.int p1), .val (.int p2), .val (.int (o32 cN)), .unset, .unset, .unset, .unset]) rfl ?_
  refine g_iloadN C X at_8 (q := 9) rfl rfl ?_
  refine g_iconst C X at_9 (q := 10) rfl (z := (1 : Int32)) rfl ?_
  obtain ⟨v4, ev4⟩ : ∃ z, (p0 &&& (1 : Int32)) = z := ⟨_, rfl⟩
  have hl5 : 0 ≤ v4.toInt := by rw [← ev4]; exact (c_and p0 (1 : Int32) (by decide)).1
  have hh6 : v4.toInt ≤ 1 := by rw [← ev4]; exact (c_and p0 (1 : Int32) (by decide)).2
  refine g_iand C X at_10 (q := 11) rfl (z := v4) ev4 ?_
  by_cases hc7 : v4 = (0 : Int32)
  · refine g_ifY C X at_11 (by decide) (q := 20) (by decide) (teq hc7).1 ?_
    obtain rfl : v4 = (0 : Int32) := hc7
    refine g_getS C X (host := "") (Or.inl (w0 hw)) Via.refl (W.1.ext O.2) at_20 (q := 23) rfl ?_
    intro T9 X10
    refine g_astore C X10 at_23 (q := 25) rfl rfl (L' := #[.val (.int p0), .val (.int p1), .val (.int p2), .val (.int (o32 cN)), .val (.ref a_EVICT_OLDEST), .unset, .unset, .unset]) rfl ?_
    refine g_new C X10 (w3 hw) (w4 hw) (w5 hw) at_25 (q := 28) rfl (k' := 1) rfl (n' := 6) rfl (by decide) (by decide) ?_
    intro T12 h13 b11 g15 X14 E16 A17 D18
    have ge19 : n0 ≤ b11 := own_ge O g15
    have Y20 := Wx.ext Y E16
    have O21 := O.ext E16
    have f22 : Fld Z h13 b11 "com/example/rondel/rondel/RingBuffer" "rejects" "Z" (.int (0 : Int32)) := D18 (Or.inr (w41 hw)) (ty := .boolean) (by decide)
    have f23 : Fld Z h13 b11 "com/example/rondel/rondel/RingBuffer" "capacity" "I" (.int (0 : Int32)) := D18 (Or.inl (w43 hw)) (ty := .int) (by decide)
    have f24 : Fld Z h13 b11 "com/example/rondel/rondel/RingBuffer" "elements" "[Ljava/lang/Object;" .null := D18 (Or.inl (w47 hw)) (ty := (.array (.object "java/lang/Object"))) (by decide)
    have f25 : Fld Z h13 b11 "com/example/rondel/rondel/RingBuffer" "tail" "I" (.int (0 : Int32)) := D18 (Or.inl (w59 hw)) (ty := .int) (by decide)
    have f26 : Fld Z h13 b11 "com/example/rondel/rondel/RingBuffer" "head" "I" (.int (0 : Int32)) := D18 (Or.inl (w61 hw)) (ty := .int) (by decide)
    have f27 : Fld Z h13 b11 "com/example/rondel/rondel/RingBuffer" "modCount" "I" (.int (0 : Int32)) := D18 (Or.inl (w113 hw)) (ty := .int) (by decide)
    refine g_dup C X14 at_28 (q := 29) rfl rfl ?_
    refine g_iloadN C X14 at_29 (q := 30) rfl rfl ?_
    refine g_aload C X14 at_30 (q := 32) rfl rfl rfl ?_
    refine gW_callI0 C X14 Y20 (own_EL hw) (y := (⟨"com/example/rondel/rondel/RingBuffer", "<init>", "(ILcom/example/rondel/rondel/OverflowPolicy;)V"⟩ : MethodName)) (a := b11) (by decide) rfl rfl (w6 hw) (w7 hw) (w8 hw) (w5 hw) (rm_init0 hw (o0 := b11) (cN := cN) O21 W A17 f26 f25 f24 f23 f22 f27 ge19 c5 c1) (W := 1) (by decide) (by decide) (k' := 4) rfl (n' := 38) rfl (by decide) (by decide) rfl pd_417 (argsL := [(.int (o32 cN)), (.ref a_EVICT_OLDEST)]) rfl (rest := [(.ref b11)]) rfl rfl rfl at_32 (q := 35) rfl ?_
    rintro T28 h29 vm30 C X31 Y32 R33 ⟨K34, A35, k36, sz37, nA38, Q39, N40⟩
    obtain ⟨mi41, vs42, R43, V44, P45, I46⟩ := N40
    have gA47 := Nat.le_trans (own_szO O21) sz37
    have B48 := (r_ini cN c5 c1).2.2.2
    have O49 := O21.keep K34 (allS ge19 all0)
    have Y50 := Yar.of V44
    refine g_astore C X31 at_35 (q := 37) rfl rfl (L' := #[.val (.int p0), .val (.int p1), .val (.int p2), .val (.int (o32 cN)), .val (.ref a_EVICT_OLDEST), .val (.ref b11), .unset, .unset]) rfl ?_
    refine g_iloadN C X31 at_37 (q := 38) rfl rfl ?_
    refine g_bipush C X31 at_38 (q := 40) rfl (z := (16 : Int32)) rfl ?_
    refine g_iushr C X31 at_40 (q := 41) rfl (z := ((p1.toUInt32 >>> ((16 : Int32) &&& 31).toUInt32).toInt32)) rfl ?_
    refine g_bipush C X31 at_41 (q := 43) rfl (z := (15 : Int32)) rfl ?_
    obtain ⟨v51, ev51⟩ : ∃ z, (((p1.toUInt32 >>> ((16 : Int32) &&& 31).toUInt32).toInt32) &&& (15 : Int32)) = z := ⟨_, rfl⟩
    have hl52 : 0 ≤ v51.toInt := by rw [← ev51]; exact (c_and ((p1.toUInt32 >>> ((16 : Int32) &&& 31).toUInt32).toInt32) (15 : Int32) (by decide)).1
    have hh53 : v51.toInt ≤ 15 := by rw [← ev51]; exact (c_and ((p1.toUInt32 >>> ((16 : Int32) &&& 31).toUInt32).toInt32) (15 : Int32) (by decide)).2
    refine g_iand C X31 at_43 (q := 44) rfl (z := v51) ev51 ?_
    refine g_istore C X31 at_44 (q := 46) rfl (L' := #[.val (.int p0), .val (.int p1), .val (.int p2), .val (.int (o32 cN)), .val (.ref a_EVICT_OLDEST), .val (.ref b11), .val (.int v51), .unset]) rfl ?_
    refine g_iconst C X31 at_46 (q := 47) rfl (z := (2 : Int32)) rfl ?_
    refine g_newP C X31 (w48 hw) rfl at_47 (q := 49) rfl (by decide) (cap := 2) (by decide) (by decide) (k' := 5) rfl (n' := 40) rfl (by decide) (by decide) ?_
    intro T55 h56 kA57 b54 g59 X58 E60 V61
    have ge62 : n0 ≤ b54 := own_ge O49 g59
    have Y63 := Wx.ext Y32 E60
    have O64 := O49.ext E60
    have V65 : Arv Z h56 b54 kA57 .int (2 : Int32) [(.int (0 : Int32)), (.int (0 : Int32))] (.int (0 : Int32)) := Arv.pad V61 (pad_rep [] _ 2)
    have Y66 := Yar.of V65
    refine g_astore C X58 at_49 (q := 51) rfl rfl (L' := #[.val (.int p0), .val (.int p1), .val (.int p2), .val (.int (o32 cN)), .val (.ref a_EVICT_OLDEST), .val (.ref b11), .val (.int v51), .val (.ref b54)]) rfl ?_
    refine g_aload C X58 at_51 (q := 53) rfl rfl rfl ?_
    refine g_iconst C X58 at_53 (q := 54) rfl (z := (0 : Int32)) rfl ?_
    refine g_iconst C X58 at_54 (q := 55) rfl (z := (0 : Int32)) rfl ?_
    refine g_iastore C X58 V65 (by decide) (i := 0) (by decide) (Nat.le_of_ble_eq_true rfl) (vs' := [(.int (0 : Int32)), (.int (0 : Int32))]) rfl ge62 at_55 (q := 56) rfl ?_
    intro T67 h68 X69 W70 V71
    have Y72 := Wx.wr Y63 W70 (own_safeY (Cx.alike C) Y66 (by decide))
    have O73 := O64.wr W70 ge62
    refine g_aload C X69 at_56 (q := 58) rfl rfl rfl ?_
    refine g_iconst C X69 at_58 (q := 59) rfl (z := (1 : Int32)) rfl ?_
    refine g_iloadN C X69 at_59 (q := 60) rfl rfl ?_
    refine g_iastore C X69 V71 (by decide) (i := 1) (by decide) (Nat.le_of_ble_eq_true rfl) (vs' := [(.int (0 : Int32)), (.int (o32 cN))]) rfl ge62 at_60 (q := 61) rfl ?_
    intro T74 h75 X76 W77 V78
    have f79 := (Y66.wr W70)
    have Y80 := Wx.wr Y72 W77 (own_safeY (Cx.alike C) f79 (by decide))
    have O81 := O73.wr W77 ge62
    refine g_aload C X76 at_61 (q := 63) rfl rfl rfl ?_
    refine g_aload C X76 at_63 (q := 65) rfl rfl rfl ?_
    refine g_iloadN C X76 at_65 (q := 66) rfl rfl ?_
    refine g_iloadN C X76 at_66 (q := 67) rfl rfl ?_
    refine g_iconst C X76 at_67 (q := 68) rfl (z := (0 : Int32)) rfl ?_
    refine g_iload C X76 at_68 (q := 70) rfl rfl ?_
    have f82 := (((R43.1.ext E60).wr W70).wr W77)
    have f83 := (((R43.2.1.ext E60).other W70 (Or.inl (own_ne (Nat.lt_of_lt_of_le A17.lt K34.1) g59))).other W77 (Or.inl (own_ne (Nat.lt_of_lt_of_le A17.lt K34.1) g59)))
    have f84 := (((R43.2.2.1.ext E60).other W70 (Or.inl (own_ne (Nat.lt_of_lt_of_le A17.lt K34.1) g59))).other W77 (Or.inl (own_ne (Nat.lt_of_lt_of_le A17.lt K34.1) g59)))
    have f85 := (((R43.2.2.2.1.ext E60).other W70 (Or.inl (own_ne (Nat.lt_of_lt_of_le A17.lt K34.1) g59))).other W77 (Or.inl (own_ne (Nat.lt_of_lt_of_le A17.lt K34.1) g59)))
    have f86 := (((R43.2.2.2.2.1.ext E60).other W70 (Or.inl (own_ne (Nat.lt_of_lt_of_le A17.lt K34.1) g59))).other W77 (Or.inl (own_ne (Nat.lt_of_lt_of_le A17.lt K34.1) g59)))
    have f87 := (((R43.2.2.2.2.2.1.ext E60).other W70 (Or.inl (own_ne (Nat.lt_of_lt_of_le A17.lt K34.1) g59))).other W77 (Or.inl (own_ne (Nat.lt_of_lt_of_le A17.lt K34.1) g59)))
    have f88 := (((R43.2.2.2.2.2.2.ext E60).other W70 (Or.inl (own_ne (Nat.lt_of_lt_of_le A17.lt K34.1) g59))).other W77 (Or.inl (own_ne (Nat.lt_of_lt_of_le A17.lt K34.1) g59)))
    have f89 := (((V44.ext E60).other W70 (own_ne V44.lt g59)).other W77 (own_ne V44.lt g59))
    have VM90 : Arv Z h75 b54 kA57 .int 2 [.int (o32 0), .int (o32 cN)] (.int 0) := V78
    refine gW_callS0 C X76 Y80 (own_EL hw) (y := (⟨"com/example/rondel/rondel/RingBufferSizePinLaw", "step", "(Lcom/example/rondel/rondel/RingBuffer;[IIIII)V"⟩ : MethodName)) (by decide) (w49 hw) (w50 hw) (w52 hw) (w51 hw) (rm_step hw (o0 := b11) (A := A35) (kC := k36) (nN := cN) (hN := 0) (zN := 0) (cN := cN) (rI := (0 : Int32)) (mI := mi41) (vs := vs42)  (mA := b54) (kM := kA57) (ops := p1) (caps := p2) (ii := (0 : Int32)) (nn := v51) O81 W ⟨f82, f83, f84, f85, f86, f87, f88⟩ f89 P45 I46 B48 Q39 nA38 ge19 gA47 VM90 (Ne.symm (own_ne (Nat.lt_of_lt_of_le A17.lt K34.1) g59)) (Ne.symm (own_ne V44.lt g59)) ge62 (by decide) (by decide)) (W := 0) (by decide) (by decide) (k' := 7) rfl (n' := 72) rfl (by decide) (by decide) rfl pd_418 (argsL := [(.ref b11), (.ref b54), (.int p1), (.int p2), (.int (0 : Int32)), (.int v51)]) rfl (rest := []) rfl rfl rfl at_70 (q := 73) rfl ?_
    rintro T91 h92 vm93 C X94 Y95 R96 ⟨K97, A98, k99, n100, hd101, z102, c103, q104, nA105, Q106, B107, N108, V109⟩
    have gA110 := own_geA O81 gA47 q104
    have nm111 := own_neA (Ne.symm (own_ne V44.lt g59)) VM90.lt q104
    obtain ⟨mi112, vs113, R114, V115, P116, I117⟩ := N108
    have O118 := O81.keep K97 (allS ge19 (allS gA47 (allS ge62 all0)))
    have Y119 := Yar.of V115
    refine g_aload C X94 at_73 (q := 75) rfl rfl rfl ?_
    refine g_aload C X94 at_75 (q := 77) rfl rfl rfl ?_
    refine g_iloadN C X94 at_77 (q := 78) rfl rfl ?_
    refine g_iloadN C X94 at_78 (q := 79) rfl rfl ?_
    refine g_iconst C X94 at_79 (q := 80) rfl (z := (1 : Int32)) rfl ?_
    refine g_iload C X94 at_80 (q := 82) rfl rfl ?_
    have VM120 : Arv Z h92 b54 kA57 .int 2 [.int (o32 z102), .int (o32 c103)] (.int 0) := V109
    refine gW_callS0 C X94 Y95 (own_EL hw) (y := (⟨"com/example/rondel/rondel/RingBufferSizePinLaw", "step", "(Lcom/example/rondel/rondel/RingBuffer;[IIIII)V"⟩ : MethodName)) (by decide) (w49 hw) (w50 hw) (w52 hw) (w51 hw) (rm_step hw (o0 := b11) (A := A98) (kC := k99) (nN := n100) (hN := hd101) (zN := z102) (cN := c103) (rI := (0 : Int32)) (mI := mi112) (vs := vs113)  (mA := b54) (kM := kA57) (ops := p1) (caps := p2) (ii := (1 : Int32)) (nn := v51) O118 W ⟨R114.1, R114.2.1, R114.2.2.1, R114.2.2.2.1, R114.2.2.2.2.1, R114.2.2.2.2.2.1, R114.2.2.2.2.2.2⟩ V115 P116 I117 B107 Q106 nA105 ge19 gA110 VM120 (Ne.symm (own_ne (Nat.lt_of_lt_of_le A17.lt K34.1) g59)) nm111 ge62 (by decide) (by decide)) (W := 0) (by decide) (by decide) (k' := 9) rfl (n' := 104) rfl (by decide) (by decide) rfl pd_418 (argsL := [(.ref b11), (.ref b54), (.int p1), (.int p2), (.int (1 : Int32)), (.int v51)]) rfl (rest := []) rfl rfl rfl at_82 (q := 85) rfl ?_
    rintro T121 h122 vm123 C X124 Y125 R126 ⟨K127, A128, k129, n130, hd131, z132, c133, q134, nA135, Q136, B137, N138, V139⟩
    have gA140 := own_geA O118 gA110 q134
    have nm141 := own_neA nm111 VM120.lt q134
    obtain ⟨mi142, vs143, R144, V145, P146, I147⟩ := N138
    have O148 := O118.keep K127 (allS ge19 (allS gA110 (allS ge62 all0)))
    have Y149 := Yar.of V145
    refine g_aload C X124 at_85 (q := 87) rfl rfl rfl ?_
    refine g_aload C X124 at_87 (q := 89) rfl rfl rfl ?_
    refine g_iloadN C X124 at_89 (q := 90) rfl rfl ?_
    refine g_iloadN C X124 at_90 (q := 91) rfl rfl ?_
    refine g_iconst C X124 at_91 (q := 92) rfl (z := (2 : Int32)) rfl ?_
    refine g_iload C X124 at_92 (q := 94) rfl rfl ?_
    have VM150 : Arv Z h122 b54 kA57 .int 2 [.int (o32 z132), .int (o32 c133)] (.int 0) := V139
    refine gW_callS0 C X124 Y125 (own_EL hw) (y := (⟨"com/example/rondel/rondel/RingBufferSizePinLaw", "step", "(Lcom/example/rondel/rondel/RingBuffer;[IIIII)V"⟩ : MethodName)) (by decide) (w49 hw) (w50 hw) (w52 hw) (w51 hw) (rm_step hw (o0 := b11) (A := A128) (kC := k129) (nN := n130) (hN := hd131) (zN := z132) (cN := c133) (rI := (0 : Int32)) (mI := mi142) (vs := vs143)  (mA := b54) (kM := kA57) (ops := p1) (caps := p2) (ii := (2 : Int32)) (nn := v51) O148 W ⟨R144.1, R144.2.1, R144.2.2.1, R144.2.2.2.1, R144.2.2.2.2.1, R144.2.2.2.2.2.1, R144.2.2.2.2.2.2⟩ V145 P146 I147 B137 Q136 nA135 ge19 gA140 VM150 (Ne.symm (own_ne (Nat.lt_of_lt_of_le A17.lt K34.1) g59)) nm141 ge62 (by decide) (by decide)) (W := 0) (by decide) (by decide) (k' := 11) rfl (n' := 136) rfl (by decide) (by decide) rfl pd_418 (argsL := [(.ref b11), (.ref b54), (.int p1), (.int p2), (.int (2 : Int32)), (.int v51)]) rfl (rest := []) rfl rfl rfl at_94 (q := 97) rfl ?_
    rintro T151 h152 vm153 C X154 Y155 R156 ⟨K157, A158, k159, n160, hd161, z162, c163, q164, nA165, Q166, B167, N168, V169⟩
    have gA170 := own_geA O148 gA140 q164
    have nm171 := own_neA nm141 VM150.lt q164
    obtain ⟨mi172, vs173, R174, V175, P176, I177⟩ := N168
    have O178 := O148.keep K157 (allS ge19 (allS gA140 (allS ge62 all0)))
    have Y179 := Yar.of V175
    refine g_aload C X154 at_97 (q := 99) rfl rfl rfl ?_
    refine g_aload C X154 at_99 (q := 101) rfl rfl rfl ?_
    refine g_iloadN C X154 at_101 (q := 102) rfl rfl ?_
    refine g_iloadN C X154 at_102 (q := 103) rfl rfl ?_
    refine g_iconst C X154 at_103 (q := 104) rfl (z := (3 : Int32)) rfl ?_
    refine g_iload C X154 at_104 (q := 106) rfl rfl ?_
    have VM180 : Arv Z h152 b54 kA57 .int 2 [.int (o32 z162), .int (o32 c163)] (.int 0) := V169
    refine gW_callS0 C X154 Y155 (own_EL hw) (y := (⟨"com/example/rondel/rondel/RingBufferSizePinLaw", "step", "(Lcom/example/rondel/rondel/RingBuffer;[IIIII)V"⟩ : MethodName)) (by decide) (w49 hw) (w50 hw) (w52 hw) (w51 hw) (rm_step hw (o0 := b11) (A := A158) (kC := k159) (nN := n160) (hN := hd161) (zN := z162) (cN := c163) (rI := (0 : Int32)) (mI := mi172) (vs := vs173)  (mA := b54) (kM := kA57) (ops := p1) (caps := p2) (ii := (3 : Int32)) (nn := v51) O178 W ⟨R174.1, R174.2.1, R174.2.2.1, R174.2.2.2.1, R174.2.2.2.2.1, R174.2.2.2.2.2.1, R174.2.2.2.2.2.2⟩ V175 P176 I177 B167 Q166 nA165 ge19 gA170 VM180 (Ne.symm (own_ne (Nat.lt_of_lt_of_le A17.lt K34.1) g59)) nm171 ge62 (by decide) (by decide)) (W := 0) (by decide) (by decide) (k' := 13) rfl (n' := 168) rfl (by decide) (by decide) rfl pd_418 (argsL := [(.ref b11), (.ref b54), (.int p1), (.int p2), (.int (3 : Int32)), (.int v51)]) rfl (rest := []) rfl rfl rfl at_106 (q := 109) rfl ?_
    rintro T181 h182 vm183 C X184 Y185 R186 ⟨K187, A188, k189, n190, hd191, z192, c193, q194, nA195, Q196, B197, N198, V199⟩
    have gA200 := own_geA O178 gA170 q194
    have nm201 := own_neA nm171 VM180.lt q194
    obtain ⟨mi202, vs203, R204, V205, P206, I207⟩ := N198
    have O208 := O178.keep K187 (allS ge19 (allS gA170 (allS ge62 all0)))
    have Y209 := Yar.of V205
    refine g_aload C X184 at_109 (q := 111) rfl rfl rfl ?_
    refine g_aload C X184 at_111 (q := 113) rfl rfl rfl ?_
    refine g_iloadN C X184 at_113 (q := 114) rfl rfl ?_
    refine g_iloadN C X184 at_114 (q := 115) rfl rfl ?_
    refine g_iconst C X184 at_115 (q := 116) rfl (z := (4 : Int32)) rfl ?_
    refine g_iload C X184 at_116 (q := 118) rfl rfl ?_
    have VM210 : Arv Z h182 b54 kA57 .int 2 [.int (o32 z192), .int (o32 c193)] (.int 0) := V199
    refine gW_callS0 C X184 Y185 (own_EL hw) (y := (⟨"com/example/rondel/rondel/RingBufferSizePinLaw", "step", "(Lcom/example/rondel/rondel/RingBuffer;[IIIII)V"⟩ : MethodName)) (by decide) (w49 hw) (w50 hw) (w52 hw) (w51 hw) (rm_step hw (o0 := b11) (A := A188) (kC := k189) (nN := n190) (hN := hd191) (zN := z192) (cN := c193) (rI := (0 : Int32)) (mI := mi202) (vs := vs203)  (mA := b54) (kM := kA57) (ops := p1) (caps := p2) (ii := (4 : Int32)) (nn := v51) O208 W ⟨R204.1, R204.2.1, R204.2.2.1, R204.2.2.2.1, R204.2.2.2.2.1, R204.2.2.2.2.2.1, R204.2.2.2.2.2.2⟩ V205 P206 I207 B197 Q196 nA195 ge19 gA200 VM210 (Ne.symm (own_ne (Nat.lt_of_lt_of_le A17.lt K34.1) g59)) nm201 ge62 (by decide) (by decide)) (W := 0) (by decide) (by decide) (k' := 15) rfl (n' := 200) rfl (by decide) (by decide) rfl pd_418 (argsL := [(.ref b11), (.ref b54), (.int p1), (.int p2), (.int (4 : Int32)), (.int v51)]) rfl (rest := []) rfl rfl rfl at_118 (q := 121) rfl ?_
    rintro T211 h212 vm213 C X214 Y215 R216 ⟨K217, A218, k219, n220, hd221, z222, c223, q224, nA225, Q226, B227, N228, V229⟩
    have gA230 := own_geA O208 gA200 q224
    have nm231 := own_neA nm201 VM210.lt q224
    obtain ⟨mi232, vs233, R234, V235, P236, I237⟩ := N228
    have O238 := O208.keep K217 (allS ge19 (allS gA200 (allS ge62 all0)))
    have Y239 := Yar.of V235
    refine g_aload C X214 at_121 (q := 123) rfl rfl rfl ?_
    refine g_aload C X214 at_123 (q := 125) rfl rfl rfl ?_
    refine g_iloadN C X214 at_125 (q := 126) rfl rfl ?_
    refine g_iloadN C X214 at_126 (q := 127) rfl rfl ?_
    refine g_iconst C X214 at_127 (q := 128) rfl (z := (5 : Int32)) rfl ?_
    refine g_iload C X214 at_128 (q := 130) rfl rfl ?_
    have VM240 : Arv Z h212 b54 kA57 .int 2 [.int (o32 z222), .int (o32 c223)] (.int 0) := V229
    refine gW_callS0 C X214 Y215 (own_EL hw) (y := (⟨"com/example/rondel/rondel/RingBufferSizePinLaw", "step", "(Lcom/example/rondel/rondel/RingBuffer;[IIIII)V"⟩ : MethodName)) (by decide) (w49 hw) (w50 hw) (w52 hw) (w51 hw) (rm_step hw (o0 := b11) (A := A218) (kC := k219) (nN := n220) (hN := hd221) (zN := z222) (cN := c223) (rI := (0 : Int32)) (mI := mi232) (vs := vs233)  (mA := b54) (kM := kA57) (ops := p1) (caps := p2) (ii := (5 : Int32)) (nn := v51) O238 W ⟨R234.1, R234.2.1, R234.2.2.1, R234.2.2.2.1, R234.2.2.2.2.1, R234.2.2.2.2.2.1, R234.2.2.2.2.2.2⟩ V235 P236 I237 B227 Q226 nA225 ge19 gA230 VM240 (Ne.symm (own_ne (Nat.lt_of_lt_of_le A17.lt K34.1) g59)) nm231 ge62 (by decide) (by decide)) (W := 0) (by decide) (by decide) (k' := 17) rfl (n' := 232) rfl (by decide) (by decide) rfl pd_418 (argsL := [(.ref b11), (.ref b54), (.int p1), (.int p2), (.int (5 : Int32)), (.int v51)]) rfl (rest := []) rfl rfl rfl at_130 (q := 133) rfl ?_
    rintro T241 h242 vm243 C X244 Y245 R246 ⟨K247, A248, k249, n250, hd251, z252, c253, q254, nA255, Q256, B257, N258, V259⟩
    have gA260 := own_geA O238 gA230 q254
    have nm261 := own_neA nm231 VM240.lt q254
    obtain ⟨mi262, vs263, R264, V265, P266, I267⟩ := N258
    have O268 := O238.keep K247 (allS ge19 (allS gA230 (allS ge62 all0)))
    have Y269 := Yar.of V265
    refine g_aload C X244 at_133 (q := 135) rfl rfl rfl ?_
    refine g_aload C X244 at_135 (q := 137) rfl rfl rfl ?_
    refine g_iloadN C X244 at_137 (q := 138) rfl rfl ?_
    refine g_iloadN C X244 at_138 (q := 139) rfl rfl ?_
    refine g_bipush C X244 at_139 (q := 141) rfl (z := (6 : Int32)) rfl ?_
    refine g_iload C X244 at_141 (q := 143) rfl rfl ?_
    have VM270 : Arv Z h242 b54 kA57 .int 2 [.int (o32 z252), .int (o32 c253)] (.int 0) := V259
    refine gW_callS0 C X244 Y245 (own_EL hw) (y := (⟨"com/example/rondel/rondel/RingBufferSizePinLaw", "step", "(Lcom/example/rondel/rondel/RingBuffer;[IIIII)V"⟩ : MethodName)) (by decide) (w49 hw) (w50 hw) (w52 hw) (w51 hw) (rm_step hw (o0 := b11) (A := A248) (kC := k249) (nN := n250) (hN := hd251) (zN := z252) (cN := c253) (rI := (0 : Int32)) (mI := mi262) (vs := vs263)  (mA := b54) (kM := kA57) (ops := p1) (caps := p2) (ii := (6 : Int32)) (nn := v51) O268 W ⟨R264.1, R264.2.1, R264.2.2.1, R264.2.2.2.1, R264.2.2.2.2.1, R264.2.2.2.2.2.1, R264.2.2.2.2.2.2⟩ V265 P266 I267 B257 Q256 nA255 ge19 gA260 VM270 (Ne.symm (own_ne (Nat.lt_of_lt_of_le A17.lt K34.1) g59)) nm261 ge62 (by decide) (by decide)) (W := 0) (by decide) (by decide) (k' := 19) rfl (n' := 264) rfl (by decide) (by decide) rfl pd_418 (argsL := [(.ref b11), (.ref b54), (.int p1), (.int p2), (.int (6 : Int32)), (.int v51)]) rfl (rest := []) rfl rfl rfl at_143 (q := 146) rfl ?_
    rintro T271 h272 vm273 C X274 Y275 R276 ⟨K277, A278, k279, n280, hd281, z282, c283, q284, nA285, Q286, B287, N288, V289⟩
    have gA290 := own_geA O268 gA260 q284
    have nm291 := own_neA nm261 VM270.lt q284
    obtain ⟨mi292, vs293, R294, V295, P296, I297⟩ := N288
    have O298 := O268.keep K277 (allS ge19 (allS gA260 (allS ge62 all0)))
    have Y299 := Yar.of V295
    refine g_aload C X274 at_146 (q := 148) rfl rfl rfl ?_
    refine g_aload C X274 at_148 (q := 150) rfl rfl rfl ?_
    refine g_iloadN C X274 at_150 (q := 151) rfl rfl ?_
    refine g_iloadN C X274 at_151 (q := 152) rfl rfl ?_
    refine g_bipush C X274 at_152 (q := 154) rfl (z := (7 : Int32)) rfl ?_
    refine g_iload C X274 at_154 (q := 156) rfl rfl ?_
    have VM300 : Arv Z h272 b54 kA57 .int 2 [.int (o32 z282), .int (o32 c283)] (.int 0) := V289
    refine gW_callS0 C X274 Y275 (own_EL hw) (y := (⟨"com/example/rondel/rondel/RingBufferSizePinLaw", "step", "(Lcom/example/rondel/rondel/RingBuffer;[IIIII)V"⟩ : MethodName)) (by decide) (w49 hw) (w50 hw) (w52 hw) (w51 hw) (rm_step hw (o0 := b11) (A := A278) (kC := k279) (nN := n280) (hN := hd281) (zN := z282) (cN := c283) (rI := (0 : Int32)) (mI := mi292) (vs := vs293)  (mA := b54) (kM := kA57) (ops := p1) (caps := p2) (ii := (7 : Int32)) (nn := v51) O298 W ⟨R294.1, R294.2.1, R294.2.2.1, R294.2.2.2.1, R294.2.2.2.2.1, R294.2.2.2.2.2.1, R294.2.2.2.2.2.2⟩ V295 P296 I297 B287 Q286 nA285 ge19 gA290 VM300 (Ne.symm (own_ne (Nat.lt_of_lt_of_le A17.lt K34.1) g59)) nm291 ge62 (by decide) (by decide)) (W := 0) (by decide) (by decide) (k' := 21) rfl (n' := 296) rfl (by decide) (by decide) rfl pd_418 (argsL := [(.ref b11), (.ref b54), (.int p1), (.int p2), (.int (7 : Int32)), (.int v51)]) rfl (rest := []) rfl rfl rfl at_156 (q := 159) rfl ?_
    rintro T301 h302 vm303 C X304 Y305 R306 ⟨K307, A308, k309, n310, hd311, z312, c313, q314, nA315, Q316, B317, N318, V319⟩
    have gA320 := own_geA O298 gA290 q314
    have nm321 := own_neA nm291 VM300.lt q314
    obtain ⟨mi322, vs323, R324, V325, P326, I327⟩ := N318
    have O328 := O298.keep K307 (allS ge19 (allS gA290 (allS ge62 all0)))
    have Y329 := Yar.of V325
    refine g_aload C X304 at_159 (q := 161) rfl rfl rfl ?_
    refine g_callV1 C X304 (y := (⟨"com/example/rondel/rondel/RingBuffer", "size", "()I"⟩ : MethodName)) (z := (⟨"com/example/rondel/rondel/RingBuffer", "size", "()I"⟩ : MethodName)) (a := b11) (by decide) (w53 hw) (w54 hw) (w56 hw) (w55 hw) (nf_sel (w56 hw)) R324.1 (w57 hw) (w5 hw) (rm_size hw (o0 := b11) (A := A308) (kC := k309) (nN := n310) (hN := hd311) (zN := z312) (cN := c313) (rI := (0 : Int32)) (mI := mi322) (vs := vs323)  O328 W ⟨R324.1, R324.2.1, R324.2.2.1, R324.2.2.2.1, R324.2.2.2.2.1, R324.2.2.2.2.2.1, R324.2.2.2.2.2.2⟩ V325 P326 I327 B317 Q316 nA315 ge19 gA320) (W := 0) (by decide) (by decide) (k' := 21) rfl (n' := 296) rfl (by decide) (by decide) rfl pd_175 (argsL := []) rfl (rest := []) rfl rfl rfl at_161 (q := 164) rfl ?_
    rintro _ T330 _ X331 ⟨rfl, rfl⟩
    refine g_aload C X331 at_164 (q := 166) rfl rfl rfl ?_
    refine g_iconst C X331 at_166 (q := 167) rfl (z := (0 : Int32)) rfl ?_
    refine g_iaload C X331 V319 (by decide) (w := (.int (o32 z312))) rfl at_167 (q := 168) rfl ?_
    refine g_icN C X331 at_168 (q := 171) rfl (teq rfl).2 ?_
    refine g_iconst C X331 at_171 (q := 172) rfl (z := (1 : Int32)) rfl ?_
    refine g_goto C X331 at_172 (by decide) (q := 176) (by decide) ?_
    exact gW_retN C X331 Y305 (own_EL hw) (Or.inl rfl) (z' := 1) (by decide) at_176 (by decide) (by decide) ⟨_, rfl, rfl, trivial⟩
  · refine g_ifN C X at_11 (q := 14) rfl (feq hc7).1 ?_
    have hr332 : 1 ≤ v4.toInt := own_f5 hc7 hl5 (by decide)
    obtain rfl : v4 = (1 : Int32) := own_f0 hr332 hh6 (by decide)
    refine g_getS C X (host := "") (Or.inl (w62 hw)) Via.refl (W.2.2.1.ext O.2) at_14 (q := 17) rfl ?_
    intro T333 X334
    refine g_goto C X334 at_17 (by decide) (q := 23) (by decide) ?_
    refine g_astore C X334 at_23 (q := 25) rfl rfl (L' := #[.val (.int p0), .val (.int p1), .val (.int p2), .val (.int (o32 cN)), .val (.ref a_REJECT), .unset, .unset, .unset]) rfl ?_
    refine g_new C X334 (w3 hw) (w4 hw) (w5 hw) at_25 (q := 28) rfl (k' := 1) rfl (n' := 6) rfl (by decide) (by decide) ?_
    intro T336 h337 b335 g339 X338 E340 A341 D342
    have ge343 : n0 ≤ b335 := own_ge O g339
    have Y344 := Wx.ext Y E340
    have O345 := O.ext E340
    have f346 : Fld Z h337 b335 "com/example/rondel/rondel/RingBuffer" "rejects" "Z" (.int (0 : Int32)) := D342 (Or.inr (w41 hw)) (ty := .boolean) (by decide)
    have f347 : Fld Z h337 b335 "com/example/rondel/rondel/RingBuffer" "capacity" "I" (.int (0 : Int32)) := D342 (Or.inl (w43 hw)) (ty := .int) (by decide)
    have f348 : Fld Z h337 b335 "com/example/rondel/rondel/RingBuffer" "elements" "[Ljava/lang/Object;" .null := D342 (Or.inl (w47 hw)) (ty := (.array (.object "java/lang/Object"))) (by decide)
    have f349 : Fld Z h337 b335 "com/example/rondel/rondel/RingBuffer" "tail" "I" (.int (0 : Int32)) := D342 (Or.inl (w59 hw)) (ty := .int) (by decide)
    have f350 : Fld Z h337 b335 "com/example/rondel/rondel/RingBuffer" "head" "I" (.int (0 : Int32)) := D342 (Or.inl (w61 hw)) (ty := .int) (by decide)
    have f351 : Fld Z h337 b335 "com/example/rondel/rondel/RingBuffer" "modCount" "I" (.int (0 : Int32)) := D342 (Or.inl (w113 hw)) (ty := .int) (by decide)
    refine g_dup C X338 at_28 (q := 29) rfl rfl ?_
    refine g_iloadN C X338 at_29 (q := 30) rfl rfl ?_
    refine g_aload C X338 at_30 (q := 32) rfl rfl rfl ?_
    refine gW_callI0 C X338 Y344 (own_EL hw) (y := (⟨"com/example/rondel/rondel/RingBuffer", "<init>", "(ILcom/example/rondel/rondel/OverflowPolicy;)V"⟩ : MethodName)) (a := b335) (by decide) rfl rfl (w6 hw) (w7 hw) (w8 hw) (w5 hw) (rm_init1 hw (o0 := b335) (cN := cN) O345 W A341 f350 f349 f348 f347 f346 f351 ge343 c5 c1) (W := 1) (by decide) (by decide) (k' := 4) rfl (n' := 38) rfl (by decide) (by decide) rfl pd_417 (argsL := [(.int (o32 cN)), (.ref a_REJECT)]) rfl (rest := [(.ref b335)]) rfl rfl rfl at_32 (q := 35) rfl ?_
    rintro T352 h353 vm354 C X355 Y356 R357 ⟨K358, A359, k360, sz361, nA362, Q363, N364⟩
    obtain ⟨mi365, vs366, R367, V368, P369, I370⟩ := N364
    have gA371 := Nat.le_trans (own_szO O345) sz361
    have B372 := (r_ini cN c5 c1).2.2.2
    have O373 := O345.keep K358 (allS ge343 all0)
    have Y374 := Yar.of V368
    refine g_astore C X355 at_35 (q := 37) rfl rfl (L' := #[.val (.int p0), .val (.int p1), .val (.int p2), .val (.int (o32 cN)), .val (.ref a_REJECT), .val (.ref b335), .unset, .unset]) rfl ?_
    refine g_iloadN C X355 at_37 (q := 38) rfl rfl ?_
    refine g_bipush C X355 at_38 (q := 40) rfl (z := (16 : Int32)) rfl ?_
    refine g_iushr C X355 at_40 (q := 41) rfl (z := ((p1.toUInt32 >>> ((16 : Int32) &&& 31).toUInt32).toInt32)) rfl ?_
    refine g_bipush C X355 at_41 (q := 43) rfl (z := (15 : Int32)) rfl ?_
    obtain ⟨v375, ev375⟩ : ∃ z, (((p1.toUInt32 >>> ((16 : Int32) &&& 31).toUInt32).toInt32) &&& (15 : Int32)) = z := ⟨_, rfl⟩
    have hl376 : 0 ≤ v375.toInt := by rw [← ev375]; exact (c_and ((p1.toUInt32 >>> ((16 : Int32) &&& 31).toUInt32).toInt32) (15 : Int32) (by decide)).1
    have hh377 : v375.toInt ≤ 15 := by rw [← ev375]; exact (c_and ((p1.toUInt32 >>> ((16 : Int32) &&& 31).toUInt32).toInt32) (15 : Int32) (by decide)).2
    refine g_iand C X355 at_43 (q := 44) rfl (z := v375) ev375 ?_
    refine g_istore C X355 at_44 (q := 46) rfl (L' := #[.val (.int p0), .val (.int p1), .val (.int p2), .val (.int (o32 cN)), .val (.ref a_REJECT), .val (.ref b335), .val (.int v375), .unset]) rfl ?_
    refine g_iconst C X355 at_46 (q := 47) rfl (z := (2 : Int32)) rfl ?_
    refine g_newP C X355 (w48 hw) rfl at_47 (q := 49) rfl (by decide) (cap := 2) (by decide) (by decide) (k' := 5) rfl (n' := 40) rfl (by decide) (by decide) ?_
    intro T379 h380 kA381 b378 g383 X382 E384 V385
    have ge386 : n0 ≤ b378 := own_ge O373 g383
    have Y387 := Wx.ext Y356 E384
    have O388 := O373.ext E384
    have V389 : Arv Z h380 b378 kA381 .int (2 : Int32) [(.int (0 : Int32)), (.int (0 : Int32))] (.int (0 : Int32)) := Arv.pad V385 (pad_rep [] _ 2)
    have Y390 := Yar.of V389
    refine g_astore C X382 at_49 (q := 51) rfl rfl (L' := #[.val (.int p0), .val (.int p1), .val (.int p2), .val (.int (o32 cN)), .val (.ref a_REJECT), .val (.ref b335), .val (.int v375), .val (.ref b378)]) rfl ?_
    refine g_aload C X382 at_51 (q := 53) rfl rfl rfl ?_
    refine g_iconst C X382 at_53 (q := 54) rfl (z := (0 : Int32)) rfl ?_
    refine g_iconst C X382 at_54 (q := 55) rfl (z := (0 : Int32)) rfl ?_
    refine g_iastore C X382 V389 (by decide) (i := 0) (by decide) (Nat.le_of_ble_eq_true rfl) (vs' := [(.int (0 : Int32)), (.int (0 : Int32))]) rfl ge386 at_55 (q := 56) rfl ?_
    intro T391 h392 X393 W394 V395
    have Y396 := Wx.wr Y387 W394 (own_safeY (Cx.alike C) Y390 (by decide))
    have O397 := O388.wr W394 ge386
    refine g_aload C X393 at_56 (q := 58) rfl rfl rfl ?_
    refine g_iconst C X393 at_58 (q := 59) rfl (z := (1 : Int32)) rfl ?_
    refine g_iloadN C X393 at_59 (q := 60) rfl rfl ?_
    refine g_iastore C X393 V395 (by decide) (i := 1) (by decide) (Nat.le_of_ble_eq_true rfl) (vs' := [(.int (0 : Int32)), (.int (o32 cN))]) rfl ge386 at_60 (q := 61) rfl ?_
    intro T398 h399 X400 W401 V402
    have f403 := (Y390.wr W394)
    have Y404 := Wx.wr Y396 W401 (own_safeY (Cx.alike C) f403 (by decide))
    have O405 := O397.wr W401 ge386
    refine g_aload C X400 at_61 (q := 63) rfl rfl rfl ?_
    refine g_aload C X400 at_63 (q := 65) rfl rfl rfl ?_
    refine g_iloadN C X400 at_65 (q := 66) rfl rfl ?_
    refine g_iloadN C X400 at_66 (q := 67) rfl rfl ?_
    refine g_iconst C X400 at_67 (q := 68) rfl (z := (0 : Int32)) rfl ?_
    refine g_iload C X400 at_68 (q := 70) rfl rfl ?_
    have f406 := (((R367.1.ext E384).wr W394).wr W401)
    have f407 := (((R367.2.1.ext E384).other W394 (Or.inl (own_ne (Nat.lt_of_lt_of_le A341.lt K358.1) g383))).other W401 (Or.inl (own_ne (Nat.lt_of_lt_of_le A341.lt K358.1) g383)))
    have f408 := (((R367.2.2.1.ext E384).other W394 (Or.inl (own_ne (Nat.lt_of_lt_of_le A341.lt K358.1) g383))).other W401 (Or.inl (own_ne (Nat.lt_of_lt_of_le A341.lt K358.1) g383)))
    have f409 := (((R367.2.2.2.1.ext E384).other W394 (Or.inl (own_ne (Nat.lt_of_lt_of_le A341.lt K358.1) g383))).other W401 (Or.inl (own_ne (Nat.lt_of_lt_of_le A341.lt K358.1) g383)))
    have f410 := (((R367.2.2.2.2.1.ext E384).other W394 (Or.inl (own_ne (Nat.lt_of_lt_of_le A341.lt K358.1) g383))).other W401 (Or.inl (own_ne (Nat.lt_of_lt_of_le A341.lt K358.1) g383)))
    have f411 := (((R367.2.2.2.2.2.1.ext E384).other W394 (Or.inl (own_ne (Nat.lt_of_lt_of_le A341.lt K358.1) g383))).other W401 (Or.inl (own_ne (Nat.lt_of_lt_of_le A341.lt K358.1) g383)))
    have f412 := (((R367.2.2.2.2.2.2.ext E384).other W394 (Or.inl (own_ne (Nat.lt_of_lt_of_le A341.lt K358.1) g383))).other W401 (Or.inl (own_ne (Nat.lt_of_lt_of_le A341.lt K358.1) g383)))
    have f413 := (((V368.ext E384).other W394 (own_ne V368.lt g383)).other W401 (own_ne V368.lt g383))
    have VM414 : Arv Z h399 b378 kA381 .int 2 [.int (o32 0), .int (o32 cN)] (.int 0) := V402
    refine gW_callS0 C X400 Y404 (own_EL hw) (y := (⟨"com/example/rondel/rondel/RingBufferSizePinLaw", "step", "(Lcom/example/rondel/rondel/RingBuffer;[IIIII)V"⟩ : MethodName)) (by decide) (w49 hw) (w50 hw) (w52 hw) (w51 hw) (rm_step hw (o0 := b335) (A := A359) (kC := k360) (nN := cN) (hN := 0) (zN := 0) (cN := cN) (rI := (1 : Int32)) (mI := mi365) (vs := vs366)  (mA := b378) (kM := kA381) (ops := p1) (caps := p2) (ii := (0 : Int32)) (nn := v375) O405 W ⟨f406, f407, f408, f409, f410, f411, f412⟩ f413 P369 I370 B372 Q363 nA362 ge343 gA371 VM414 (Ne.symm (own_ne (Nat.lt_of_lt_of_le A341.lt K358.1) g383)) (Ne.symm (own_ne V368.lt g383)) ge386 (by decide) (by decide)) (W := 0) (by decide) (by decide) (k' := 7) rfl (n' := 72) rfl (by decide) (by decide) rfl pd_418 (argsL := [(.ref b335), (.ref b378), (.int p1), (.int p2), (.int (0 : Int32)), (.int v375)]) rfl (rest := []) rfl rfl rfl at_70 (q := 73) rfl ?_
    rintro T415 h416 vm417 C X418 Y419 R420 ⟨K421, A422, k423, n424, hd425, z426, c427, q428, nA429, Q430, B431, N432, V433⟩
    have gA434 := own_geA O405 gA371 q428
    have nm435 := own_neA (Ne.symm (own_ne V368.lt g383)) VM414.lt q428
    obtain ⟨mi436, vs437, R438, V439, P440, I441⟩ := N432
    have O442 := O405.keep K421 (allS ge343 (allS gA371 (allS ge386 all0)))
    have Y443 := Yar.of V439
    refine g_aload C X418 at_73 (q := 75) rfl rfl rfl ?_
    refine g_aload C X418 at_75 (q := 77) rfl rfl rfl ?_
    refine g_iloadN C X418 at_77 (q := 78) rfl rfl ?_
    refine g_iloadN C X418 at_78 (q := 79) rfl rfl ?_
    refine g_iconst C X418 at_79 (q := 80) rfl (z := (1 : Int32)) rfl ?_
    refine g_iload C X418 at_80 (q := 82) rfl rfl ?_
    have VM444 : Arv Z h416 b378 kA381 .int 2 [.int (o32 z426), .int (o32 c427)] (.int 0) := V433
    refine gW_callS0 C X418 Y419 (own_EL hw) (y := (⟨"com/example/rondel/rondel/RingBufferSizePinLaw", "step", "(Lcom/example/rondel/rondel/RingBuffer;[IIIII)V"⟩ : MethodName)) (by decide) (w49 hw) (w50 hw) (w52 hw) (w51 hw) (rm_step hw (o0 := b335) (A := A422) (kC := k423) (nN := n424) (hN := hd425) (zN := z426) (cN := c427) (rI := (1 : Int32)) (mI := mi436) (vs := vs437)  (mA := b378) (kM := kA381) (ops := p1) (caps := p2) (ii := (1 : Int32)) (nn := v375) O442 W ⟨R438.1, R438.2.1, R438.2.2.1, R438.2.2.2.1, R438.2.2.2.2.1, R438.2.2.2.2.2.1, R438.2.2.2.2.2.2⟩ V439 P440 I441 B431 Q430 nA429 ge343 gA434 VM444 (Ne.symm (own_ne (Nat.lt_of_lt_of_le A341.lt K358.1) g383)) nm435 ge386 (by decide) (by decide)) (W := 0) (by decide) (by decide) (k' := 9) rfl (n' := 104) rfl (by decide) (by decide) rfl pd_418 (argsL := [(.ref b335), (.ref b378), (.int p1), (.int p2), (.int (1 : Int32)), (.int v375)]) rfl (rest := []) rfl rfl rfl at_82 (q := 85) rfl ?_
    rintro T445 h446 vm447 C X448 Y449 R450 ⟨K451, A452, k453, n454, hd455, z456, c457, q458, nA459, Q460, B461, N462, V463⟩
    have gA464 := own_geA O442 gA434 q458
    have nm465 := own_neA nm435 VM444.lt q458
    obtain ⟨mi466, vs467, R468, V469, P470, I471⟩ := N462
    have O472 := O442.keep K451 (allS ge343 (allS gA434 (allS ge386 all0)))
    have Y473 := Yar.of V469
    refine g_aload C X448 at_85 (q := 87) rfl rfl rfl ?_
    refine g_aload C X448 at_87 (q := 89) rfl rfl rfl ?_
    refine g_iloadN C X448 at_89 (q := 90) rfl rfl ?_
    refine g_iloadN C X448 at_90 (q := 91) rfl rfl ?_
    refine g_iconst C X448 at_91 (q := 92) rfl (z := (2 : Int32)) rfl ?_
    refine g_iload C X448 at_92 (q := 94) rfl rfl ?_
    have VM474 : Arv Z h446 b378 kA381 .int 2 [.int (o32 z456), .int (o32 c457)] (.int 0) := V463
    refine gW_callS0 C X448 Y449 (own_EL hw) (y := (⟨"com/example/rondel/rondel/RingBufferSizePinLaw", "step", "(Lcom/example/rondel/rondel/RingBuffer;[IIIII)V"⟩ : MethodName)) (by decide) (w49 hw) (w50 hw) (w52 hw) (w51 hw) (rm_step hw (o0 := b335) (A := A452) (kC := k453) (nN := n454) (hN := hd455) (zN := z456) (cN := c457) (rI := (1 : Int32)) (mI := mi466) (vs := vs467)  (mA := b378) (kM := kA381) (ops := p1) (caps := p2) (ii := (2 : Int32)) (nn := v375) O472 W ⟨R468.1, R468.2.1, R468.2.2.1, R468.2.2.2.1, R468.2.2.2.2.1, R468.2.2.2.2.2.1, R468.2.2.2.2.2.2⟩ V469 P470 I471 B461 Q460 nA459 ge343 gA464 VM474 (Ne.symm (own_ne (Nat.lt_of_lt_of_le A341.lt K358.1) g383)) nm465 ge386 (by decide) (by decide)) (W := 0) (by decide) (by decide) (k' := 11) rfl (n' := 136) rfl (by decide) (by decide) rfl pd_418 (argsL := [(.ref b335), (.ref b378), (.int p1), (.int p2), (.int (2 : Int32)), (.int v375)]) rfl (rest := []) rfl rfl rfl at_94 (q := 97) rfl ?_
    rintro T475 h476 vm477 C X478 Y479 R480 ⟨K481, A482, k483, n484, hd485, z486, c487, q488, nA489, Q490, B491, N492, V493⟩
    have gA494 := own_geA O472 gA464 q488
    have nm495 := own_neA nm465 VM474.lt q488
    obtain ⟨mi496, vs497, R498, V499, P500, I501⟩ := N492
    have O502 := O472.keep K481 (allS ge343 (allS gA464 (allS ge386 all0)))
    have Y503 := Yar.of V499
    refine g_aload C X478 at_97 (q := 99) rfl rfl rfl ?_
    refine g_aload C X478 at_99 (q := 101) rfl rfl rfl ?_
    refine g_iloadN C X478 at_101 (q := 102) rfl rfl ?_
    refine g_iloadN C X478 at_102 (q := 103) rfl rfl ?_
    refine g_iconst C X478 at_103 (q := 104) rfl (z := (3 : Int32)) rfl ?_
    refine g_iload C X478 at_104 (q := 106) rfl rfl ?_
    have VM504 : Arv Z h476 b378 kA381 .int 2 [.int (o32 z486), .int (o32 c487)] (.int 0) := V493
    refine gW_callS0 C X478 Y479 (own_EL hw) (y := (⟨"com/example/rondel/rondel/RingBufferSizePinLaw", "step", "(Lcom/example/rondel/rondel/RingBuffer;[IIIII)V"⟩ : MethodName)) (by decide) (w49 hw) (w50 hw) (w52 hw) (w51 hw) (rm_step hw (o0 := b335) (A := A482) (kC := k483) (nN := n484) (hN := hd485) (zN := z486) (cN := c487) (rI := (1 : Int32)) (mI := mi496) (vs := vs497)  (mA := b378) (kM := kA381) (ops := p1) (caps := p2) (ii := (3 : Int32)) (nn := v375) O502 W ⟨R498.1, R498.2.1, R498.2.2.1, R498.2.2.2.1, R498.2.2.2.2.1, R498.2.2.2.2.2.1, R498.2.2.2.2.2.2⟩ V499 P500 I501 B491 Q490 nA489 ge343 gA494 VM504 (Ne.symm (own_ne (Nat.lt_of_lt_of_le A341.lt K358.1) g383)) nm495 ge386 (by decide) (by decide)) (W := 0) (by decide) (by decide) (k' := 13) rfl (n' := 168) rfl (by decide) (by decide) rfl pd_418 (argsL := [(.ref b335), (.ref b378), (.int p1), (.int p2), (.int (3 : Int32)), (.int v375)]) rfl (rest := []) rfl rfl rfl at_106 (q := 109) rfl ?_
    rintro T505 h506 vm507 C X508 Y509 R510 ⟨K511, A512, k513, n514, hd515, z516, c517, q518, nA519, Q520, B521, N522, V523⟩
    have gA524 := own_geA O502 gA494 q518
    have nm525 := own_neA nm495 VM504.lt q518
    obtain ⟨mi526, vs527, R528, V529, P530, I531⟩ := N522
    have O532 := O502.keep K511 (allS ge343 (allS gA494 (allS ge386 all0)))
    have Y533 := Yar.of V529
    refine g_aload C X508 at_109 (q := 111) rfl rfl rfl ?_
    refine g_aload C X508 at_111 (q := 113) rfl rfl rfl ?_
    refine g_iloadN C X508 at_113 (q := 114) rfl rfl ?_
    refine g_iloadN C X508 at_114 (q := 115) rfl rfl ?_
    refine g_iconst C X508 at_115 (q := 116) rfl (z := (4 : Int32)) rfl ?_
    refine g_iload C X508 at_116 (q := 118) rfl rfl ?_
    have VM534 : Arv Z h506 b378 kA381 .int 2 [.int (o32 z516), .int (o32 c517)] (.int 0) := V523
    refine gW_callS0 C X508 Y509 (own_EL hw) (y := (⟨"com/example/rondel/rondel/RingBufferSizePinLaw", "step", "(Lcom/example/rondel/rondel/RingBuffer;[IIIII)V"⟩ : MethodName)) (by decide) (w49 hw) (w50 hw) (w52 hw) (w51 hw) (rm_step hw (o0 := b335) (A := A512) (kC := k513) (nN := n514) (hN := hd515) (zN := z516) (cN := c517) (rI := (1 : Int32)) (mI := mi526) (vs := vs527)  (mA := b378) (kM := kA381) (ops := p1) (caps := p2) (ii := (4 : Int32)) (nn := v375) O532 W ⟨R528.1, R528.2.1, R528.2.2.1, R528.2.2.2.1, R528.2.2.2.2.1, R528.2.2.2.2.2.1, R528.2.2.2.2.2.2⟩ V529 P530 I531 B521 Q520 nA519 ge343 gA524 VM534 (Ne.symm (own_ne (Nat.lt_of_lt_of_le A341.lt K358.1) g383)) nm525 ge386 (by decide) (by decide)) (W := 0) (by decide) (by decide) (k' := 15) rfl (n' := 200) rfl (by decide) (by decide) rfl pd_418 (argsL := [(.ref b335), (.ref b378), (.int p1), (.int p2), (.int (4 : Int32)), (.int v375)]) rfl (rest := []) rfl rfl rfl at_118 (q := 121) rfl ?_
    rintro T535 h536 vm537 C X538 Y539 R540 ⟨K541, A542, k543, n544, hd545, z546, c547, q548, nA549, Q550, B551, N552, V553⟩
    have gA554 := own_geA O532 gA524 q548
    have nm555 := own_neA nm525 VM534.lt q548
    obtain ⟨mi556, vs557, R558, V559, P560, I561⟩ := N552
    have O562 := O532.keep K541 (allS ge343 (allS gA524 (allS ge386 all0)))
    have Y563 := Yar.of V559
    refine g_aload C X538 at_121 (q := 123) rfl rfl rfl ?_
    refine g_aload C X538 at_123 (q := 125) rfl rfl rfl ?_
    refine g_iloadN C X538 at_125 (q := 126) rfl rfl ?_
    refine g_iloadN C X538 at_126 (q := 127) rfl rfl ?_
    refine g_iconst C X538 at_127 (q := 128) rfl (z := (5 : Int32)) rfl ?_
    refine g_iload C X538 at_128 (q := 130) rfl rfl ?_
    have VM564 : Arv Z h536 b378 kA381 .int 2 [.int (o32 z546), .int (o32 c547)] (.int 0) := V553
    refine gW_callS0 C X538 Y539 (own_EL hw) (y := (⟨"com/example/rondel/rondel/RingBufferSizePinLaw", "step", "(Lcom/example/rondel/rondel/RingBuffer;[IIIII)V"⟩ : MethodName)) (by decide) (w49 hw) (w50 hw) (w52 hw) (w51 hw) (rm_step hw (o0 := b335) (A := A542) (kC := k543) (nN := n544) (hN := hd545) (zN := z546) (cN := c547) (rI := (1 : Int32)) (mI := mi556) (vs := vs557)  (mA := b378) (kM := kA381) (ops := p1) (caps := p2) (ii := (5 : Int32)) (nn := v375) O562 W ⟨R558.1, R558.2.1, R558.2.2.1, R558.2.2.2.1, R558.2.2.2.2.1, R558.2.2.2.2.2.1, R558.2.2.2.2.2.2⟩ V559 P560 I561 B551 Q550 nA549 ge343 gA554 VM564 (Ne.symm (own_ne (Nat.lt_of_lt_of_le A341.lt K358.1) g383)) nm555 ge386 (by decide) (by decide)) (W := 0) (by decide) (by decide) (k' := 17) rfl (n' := 232) rfl (by decide) (by decide) rfl pd_418 (argsL := [(.ref b335), (.ref b378), (.int p1), (.int p2), (.int (5 : Int32)), (.int v375)]) rfl (rest := []) rfl rfl rfl at_130 (q := 133) rfl ?_
    rintro T565 h566 vm567 C X568 Y569 R570 ⟨K571, A572, k573, n574, hd575, z576, c577, q578, nA579, Q580, B581, N582, V583⟩
    have gA584 := own_geA O562 gA554 q578
    have nm585 := own_neA nm555 VM564.lt q578
    obtain ⟨mi586, vs587, R588, V589, P590, I591⟩ := N582
    have O592 := O562.keep K571 (allS ge343 (allS gA554 (allS ge386 all0)))
    have Y593 := Yar.of V589
    refine g_aload C X568 at_133 (q := 135) rfl rfl rfl ?_
    refine g_aload C X568 at_135 (q := 137) rfl rfl rfl ?_
    refine g_iloadN C X568 at_137 (q := 138) rfl rfl ?_
    refine g_iloadN C X568 at_138 (q := 139) rfl rfl ?_
    refine g_bipush C X568 at_139 (q := 141) rfl (z := (6 : Int32)) rfl ?_
    refine g_iload C X568 at_141 (q := 143) rfl rfl ?_
    have VM594 : Arv Z h566 b378 kA381 .int 2 [.int (o32 z576), .int (o32 c577)] (.int 0) := V583
    refine gW_callS0 C X568 Y569 (own_EL hw) (y := (⟨"com/example/rondel/rondel/RingBufferSizePinLaw", "step", "(Lcom/example/rondel/rondel/RingBuffer;[IIIII)V"⟩ : MethodName)) (by decide) (w49 hw) (w50 hw) (w52 hw) (w51 hw) (rm_step hw (o0 := b335) (A := A572) (kC := k573) (nN := n574) (hN := hd575) (zN := z576) (cN := c577) (rI := (1 : Int32)) (mI := mi586) (vs := vs587)  (mA := b378) (kM := kA381) (ops := p1) (caps := p2) (ii := (6 : Int32)) (nn := v375) O592 W ⟨R588.1, R588.2.1, R588.2.2.1, R588.2.2.2.1, R588.2.2.2.2.1, R588.2.2.2.2.2.1, R588.2.2.2.2.2.2⟩ V589 P590 I591 B581 Q580 nA579 ge343 gA584 VM594 (Ne.symm (own_ne (Nat.lt_of_lt_of_le A341.lt K358.1) g383)) nm585 ge386 (by decide) (by decide)) (W := 0) (by decide) (by decide) (k' := 19) rfl (n' := 264) rfl (by decide) (by decide) rfl pd_418 (argsL := [(.ref b335), (.ref b378), (.int p1), (.int p2), (.int (6 : Int32)), (.int v375)]) rfl (rest := []) rfl rfl rfl at_143 (q := 146) rfl ?_
    rintro T595 h596 vm597 C X598 Y599 R600 ⟨K601, A602, k603, n604, hd605, z606, c607, q608, nA609, Q610, B611, N612, V613⟩
    have gA614 := own_geA O592 gA584 q608
    have nm615 := own_neA nm585 VM594.lt q608
    obtain ⟨mi616, vs617, R618, V619, P620, I621⟩ := N612
    have O622 := O592.keep K601 (allS ge343 (allS gA584 (allS ge386 all0)))
    have Y623 := Yar.of V619
    refine g_aload C X598 at_146 (q := 148) rfl rfl rfl ?_
    refine g_aload C X598 at_148 (q := 150) rfl rfl rfl ?_
    refine g_iloadN C X598 at_150 (q := 151) rfl rfl ?_
    refine g_iloadN C X598 at_151 (q := 152) rfl rfl ?_
    refine g_bipush C X598 at_152 (q := 154) rfl (z := (7 : Int32)) rfl ?_
    refine g_iload C X598 at_154 (q := 156) rfl rfl ?_
    have VM624 : Arv Z h596 b378 kA381 .int 2 [.int (o32 z606), .int (o32 c607)] (.int 0) := V613
    refine gW_callS0 C X598 Y599 (own_EL hw) (y := (⟨"com/example/rondel/rondel/RingBufferSizePinLaw", "step", "(Lcom/example/rondel/rondel/RingBuffer;[IIIII)V"⟩ : MethodName)) (by decide) (w49 hw) (w50 hw) (w52 hw) (w51 hw) (rm_step hw (o0 := b335) (A := A602) (kC := k603) (nN := n604) (hN := hd605) (zN := z606) (cN := c607) (rI := (1 : Int32)) (mI := mi616) (vs := vs617)  (mA := b378) (kM := kA381) (ops := p1) (caps := p2) (ii := (7 : Int32)) (nn := v375) O622 W ⟨R618.1, R618.2.1, R618.2.2.1, R618.2.2.2.1, R618.2.2.2.2.1, R618.2.2.2.2.2.1, R618.2.2.2.2.2.2⟩ V619 P620 I621 B611 Q610 nA609 ge343 gA614 VM624 (Ne.symm (own_ne (Nat.lt_of_lt_of_le A341.lt K358.1) g383)) nm615 ge386 (by decide) (by decide)) (W := 0) (by decide) (by decide) (k' := 21) rfl (n' := 296) rfl (by decide) (by decide) rfl pd_418 (argsL := [(.ref b335), (.ref b378), (.int p1), (.int p2), (.int (7 : Int32)), (.int v375)]) rfl (rest := []) rfl rfl rfl at_156 (q := 159) rfl ?_
    rintro T625 h626 vm627 C X628 Y629 R630 ⟨K631, A632, k633, n634, hd635, z636, c637, q638, nA639, Q640, B641, N642, V643⟩
    have gA644 := own_geA O622 gA614 q638
    have nm645 := own_neA nm615 VM624.lt q638
    obtain ⟨mi646, vs647, R648, V649, P650, I651⟩ := N642
    have O652 := O622.keep K631 (allS ge343 (allS gA614 (allS ge386 all0)))
    have Y653 := Yar.of V649
    refine g_aload C X628 at_159 (q := 161) rfl rfl rfl ?_
    refine g_callV1 C X628 (y := (⟨"com/example/rondel/rondel/RingBuffer", "size", "()I"⟩ : MethodName)) (z := (⟨"com/example/rondel/rondel/RingBuffer", "size", "()I"⟩ : MethodName)) (a := b335) (by decide) (w53 hw) (w54 hw) (w56 hw) (w55 hw) (nf_sel (w56 hw)) R648.1 (w57 hw) (w5 hw) (rm_size hw (o0 := b335) (A := A632) (kC := k633) (nN := n634) (hN := hd635) (zN := z636) (cN := c637) (rI := (1 : Int32)) (mI := mi646) (vs := vs647)  O652 W ⟨R648.1, R648.2.1, R648.2.2.1, R648.2.2.2.1, R648.2.2.2.2.1, R648.2.2.2.2.2.1, R648.2.2.2.2.2.2⟩ V649 P650 I651 B641 Q640 nA639 ge343 gA644) (W := 0) (by decide) (by decide) (k' := 21) rfl (n' := 296) rfl (by decide) (by decide) rfl pd_175 (argsL := []) rfl (rest := []) rfl rfl rfl at_161 (q := 164) rfl ?_
    rintro _ T654 _ X655 ⟨rfl, rfl⟩
    refine g_aload C X655 at_164 (q := 166) rfl rfl rfl ?_
    refine g_iconst C X655 at_166 (q := 167) rfl (z := (0 : Int32)) rfl ?_
    refine g_iaload C X655 V643 (by decide) (w := (.int (o32 z636))) rfl at_167 (q := 168) rfl ?_
    refine g_icN C X655 at_168 (q := 171) rfl (teq rfl).2 ?_
    refine g_iconst C X655 at_171 (q := 172) rfl (z := (1 : Int32)) rfl ?_
    refine g_goto C X655 at_172 (by decide) (q := 176) (by decide) ?_
    exact gW_retN C X655 Y629 (own_EL hw) (Or.inl rfl) (z' := 1) (by decide) at_176 (by decide) (by decide) ⟨_, rfl, rfl, trivial⟩
set_option maxRecDepth 65536 in
set_option maxHeartbeats 40000000 in
theorem comes_1 {Post : Tables → Env → Array Value → State → Outcome → State → Prop} (hpost : ∀ tb e args s v u, (limb_1_1.after args s (.returned v) u = true ∧ limb_1_2.after args s (.returned v) u = true ∧ True) → ReturnedEndW s (.returned v) u (Jvm.fieldLocs frame_1_writes args s ++ Jvm.arrayLocs frame_1_arrays args s ++ Jvm.staticLocs frame_1_statics s) 32 2176 → Post tb e args s (.returned v) u) :
    ArmFor flags0 classFile x code maxLocals ret World_1 tables_1 room_1 Calls_1 rest_1 Pre_1 Post := by
  intro l hfl _ _ p e ha hc hk s m args below hf hA hF happ hP
  obtain ⟨hcalls, hrest, hpre⟩ := hP
  obtain ⟨-, -, -, hnamed, -, -, -, hat⟩ := (Spec.applies_iff hf).mp happ
  obtain ⟨hg, hn⟩ := and_e (Cond.before_iff.mp (show (Jvm.Cond.and given_1 narrow_1).before args s = true from hpre))
  obtain ⟨y1, y2⟩ := and_e hg
  obtain ⟨y3, y4⟩ := and_e y2
  obtain ⟨y5, y6⟩ := and_e y4
  obtain ⟨u0, u1, u2, rfl⟩ : ∃ u0 u1 u2 : Value, args = #[u0, u1, u2] := by
    have hs : args.size = 3 := by simpa [Cond.value, given_1] using y1
    obtain ⟨L⟩ := args
    match L, hs with
    | [u0, u1, u2], _ => exact ⟨u0, u1, u2, rfl⟩
  have hw := fun d (hd : d ∈ tables_1) => atoms_spec (ws := Jvm.Cond.code x code maxLocals ret :: tables_1) hat d (List.mem_cons_of_mem _ hd)
  have hfit : Fit s := fun {y c} hc i hi => by
    obtain ⟨ha, rfl⟩ := Array.getElem?_eq_some_iff.mp hc
    have q := List.all_eq_true.mp ((Array.all_eq_true_iff_forall_mem.mp hF) _ (Array.getElem_mem ha)) i (List.mem_range.mpr hi)
    simpa [Array.getElem?_eq_getElem hi] using q
  obtain ⟨hsets, hown0⟩ := atoms_of _ (rest_1_c_eq ▸ (show rest_1_c.before _ s = true from hrest))
  have hr0 := Cond.before_iff.mp hown0
  obtain ⟨i0, ei0⟩ := is_v y3
  obtain rfl : u0 = (.int i0) := Option.some.inj ei0
  obtain ⟨i1, ei1⟩ := is_v y5
  obtain rfl : u1 = (.int i1) := Option.some.inj ei1
  obtain ⟨i2, ei2⟩ := is_v y6
  obtain rfl : u2 = (.int i2) := Option.some.inj ei2
  obtain ⟨y1, y2⟩ := and_e hn
  obtain ⟨o3, ev4, S5, E6⟩ := own_sta y1 (Or.inr ⟨(w1 hw), (w2 hw)⟩)
  obtain ⟨y7, y8⟩ := and_e y2
  obtain ⟨o9, ev10, S11, E12⟩ := own_sta y7 (Or.inr ⟨(w1 hw), (w39 hw)⟩)
  obtain ⟨y13, y14⟩ := and_e y8
  have F15 := own_fldI ev4 y13
  obtain ⟨y16, y17⟩ := and_e y14
  have F18 := own_fldI ev10 y16
  obtain ⟨o19, ev20, S21, E22⟩ := own_sta y17 (Or.inr ⟨(w5 hw), (w90 hw)⟩)
  have SHi := own_high hsets
  obtain ⟨ca, cc, SCa, BX⟩ := own_cache hw hsets
  have hM := rmLaw (l := l) hw (p0 := i0) (p1 := i1) (p2 := i2) (Old.start s) (show Wd s o3 o9 o19 ca cc from ⟨S5, E6, S11, E12, F15, F18, S21, E22, SHi, SCa, BX⟩)
  have hCH : CHv s consts_1 s.vm s.heap := fun p hp => nomatch hp
  obtain ⟨n, o, h1, h2, h3, _, L, rfl, ⟨N, _, rfl, rfl, -⟩, -, hq⟩ := hM tables_1 p e ha hc hk s m _ below hf ((Spec.applies_iff_loose hf).mp happ).1 ⟨rfl, State.Warmed39.refl s, rfl, hCH⟩ trivial
  refine ⟨n, _, h1, h2, h3, hpost _ _ _ _ _ _ ⟨Cond.after_iff.mpr rfl, Cond.after_iff.mpr (eq_i res_at (Term.int_eval (1)) rfl), trivial⟩ ⟨hq.1, hq.2.1, hq.2.2.1, (hq.2.2.2.sift fun y hy => Or.inr (N y hy)).mono (by decide) (by decide)⟩⟩
theorem main_1_1 : Claimed_1_1 := comes_1 fun _ _ _ _ _ _ h hF => ⟨h.1, hF⟩
theorem main_1_2 : Claimed_1_2 := comes_1 fun _ _ _ _ _ _ h hF => ⟨h.2.1, hF⟩
end Jvm.Pilot.@@N@@
namespace Jvm.Pilot.@@N@@
open Jvm Jvm.ClassFile Sem Op Lib Jvm.Free Jvm.Stand Jvm.Pilot.@@N@@.Jvm.D
/-! MADE BY PROGRAM (witnessworld.py) out of the Statement's table words and the real class files: 29 classes; the members and pool entries that the words name. The judged class is class 1, her method 1. -/
namespace start1
open Jvm.ClassFile
def u (s : String) : CpInfo := .utf8 (stringToUtf16 s)
/-- a pool by its gaps: so many unusable entries, then the entry; so many at the end -/
def gap : Nat → List CpInfo → List CpInfo
  | 0, r => r
  | n + 1, r => .unusable :: gap n r
def poolList (es : List (Nat × CpInfo)) (last : Nat) : List CpInfo := es.foldr (fun e r => gap e.1 (e.2 :: r)) (gap last [])
def pool (es : List (Nat × CpInfo)) (last : Nat) : Array CpInfo := ⟨poolList es last⟩
def fileOf (pool : Array CpInfo) (this : Nat) (attrs : Array Attribute := #[]) (ms : Array MethodInfo := #[]) (fl : Nat := 33) (sup : Nat := 0) (ifs : Array Nat := #[]) (fds : Array FieldInfo := #[]) : ClassFile where
  minorVersion := 0
  majorVersion := 65
  constantPool := pool
  accessFlags := fl
  thisClass := this
  superClass := sup
  interfaces := ifs
  fields := fds
  methods := ms
  attributes := attrs
def plain (name : String) (sup : Option ClassId) : Class where
  name := name
  kind := .ordinary
  loader := none
  accessFlags := 33
  super := sup
  interfaces := #[]
  cf := none
  fields := #[]
  methods := #[]
  instanceTypes := #[]
  staticTypes := #[]
  resolved := #[]
  callSites := []
  init := .initialized
  statics := none
  mirror := none

def pool0 : Array CpInfo := pool [(5, u "<init>"), (0, u "()V"), (1, .class_ 10), (1, u "java/lang/Object")] 113

def k0c0 : Code := { maxStack := 0, maxLocals := 1, code := object_method_1_code, exceptionTable := #[], attributes := #[] }
def k0m0 : Method := { name := "<init>", desc := "()V", sig := { parameters := [], returnType := none }, accessFlags := 1, code := some k0c0 }
/-- java/lang/Object -/
def k0 : Class := { plain "java/lang/Object" none with
  accessFlags := 33
  interfaces := #[]
  cf := some (fileOf pool0 8 #[] #[{ accessFlags := 1, nameIndex := 5, descriptorIndex := 6, attributes := #[] }] 33 0 #[] #[])
  fields := #[]
  methods := #[k0m0]
  instanceTypes := #[]
  staticTypes := #[]
  resolved := Array.replicate 124 none
  statics := none }

def pool1 : Array CpInfo := pool [(2, .class_ 4), (1, u "java/lang/Object"), (0, u "<init>"), (0, u "()V"), (0, .fieldref 8 9), (0, .class_ 10), (0, .nameAndType 11 12), (0, u "com/example/rondel/rondel/OverflowPolicy"), (0, u "REJECT"), (0, u "Lcom/example/rondel/rondel/OverflowPolicy;"), (0, .fieldref 8 14), (0, .nameAndType 15 12), (0, u "EVICT_OLDEST"), (0, .class_ 17), (0, u "com/example/rondel/rondel/RingBuffer"), (0, .methodref 16 19), (0, .nameAndType 5 20), (0, u "(ILcom/example/rondel/rondel/OverflowPolicy;)V"), (0, .methodref 22 23), (0, .class_ 24), (0, .nameAndType 25 26), (0, u "com/example/rondel/rondel/RingBufferSizePinLaw"), (0, u "step"), (0, u "(Lcom/example/rondel/rondel/RingBuffer;[IIIII)V"), (0, .methodref 16 28), (0, .nameAndType 29 30), (0, u "size"), (0, u "()I"), (0, .methodref 32 33), (0, .class_ 34), (0, .nameAndType 35 36), (0, u "java/lang/Integer"), (0, u "valueOf"), (0, u "(I)Ljava/lang/Integer;"), (0, .methodref 16 38), (0, .nameAndType 39 40), (0, u "offer"), (0, u "(Ljava/lang/Object;)Z"), (0, .methodref 16 42), (0, .nameAndType 43 44), (0, u "poll"), (0, u "()Ljava/lang/Object;"), (0, .methodref 16 46), (0, .nameAndType 47 48), (0, u "setCapacity"), (0, u "(I)V"), (2, u "law"), (0, u "(III)Z")] 7

def k1m0 : Method := { name := "<init>", desc := "()V", sig := { parameters := [], returnType := none }, accessFlags := 1, code := none }
def k1c1 : Code := { maxStack := 6, maxLocals := 8, code := code, exceptionTable := #[], attributes := #[] }
def k1m1 : Method := { name := "law", desc := "(III)Z", sig := { parameters := [.int, .int, .int], returnType := some .boolean }, accessFlags := 9, code := some k1c1 }
def k1c2 : Code := { maxStack := 4, maxLocals := 8, code := method_3_code, exceptionTable := #[], attributes := #[] }
def k1m2 : Method := { name := "step", desc := "(Lcom/example/rondel/rondel/RingBuffer;[IIIII)V", sig := { parameters := [(.object "com/example/rondel/rondel/RingBuffer"), (.array .int), .int, .int, .int, .int], returnType := none }, accessFlags := 10, code := some k1c2 }
/-- com/example/rondel/rondel/RingBufferSizePinLaw -/
def k1 : Class := { plain "com/example/rondel/rondel/RingBufferSizePinLaw" (some 0) with
  accessFlags := 49
  interfaces := #[]
  cf := some (fileOf pool1 22 #[] #[{ accessFlags := 1, nameIndex := 5, descriptorIndex := 6, attributes := #[] }, { accessFlags := 9, nameIndex := 51, descriptorIndex := 52, attributes := #[] }, { accessFlags := 10, nameIndex := 25, descriptorIndex := 26, attributes := #[] }] 49 2 #[] #[])
  fields := #[]
  methods := #[k1m0, k1m1, k1m2]
  instanceTypes := #[]
  staticTypes := #[]
  resolved := Array.replicate 60 none
  statics := none }

def pool2 : Array CpInfo := pool [(1, .class_ 2), (0, u "java/lang/constant/Constable"), (0, .class_ 4), (0, u "java/lang/Object")] 6

/-- java/lang/constant/Constable -/
def k2 : Class := { plain "java/lang/constant/Constable" (some 0) with
  accessFlags := 1537
  interfaces := #[]
  cf := some (fileOf pool2 1 #[] #[] 1537 3 #[] #[])
  fields := #[]
  methods := #[]
  instanceTypes := #[]
  staticTypes := #[]
  resolved := Array.replicate 11 none
  statics := none }

def pool3 : Array CpInfo := pool [(1, .class_ 2), (0, u "java/lang/Comparable"), (0, .class_ 4), (0, u "java/lang/Object")] 7

/-- java/lang/Comparable -/
def k3 : Class := { plain "java/lang/Comparable" (some 0) with
  accessFlags := 1537
  interfaces := #[]
  cf := some (fileOf pool3 1 #[] #[] 1537 3 #[] #[])
  fields := #[]
  methods := #[]
  instanceTypes := #[]
  staticTypes := #[]
  resolved := Array.replicate 12 none
  statics := none }

def pool4 : Array CpInfo := pool [(1, .class_ 2), (0, u "java/io/Serializable"), (0, .class_ 4), (0, u "java/lang/Object")] 2

/-- java/io/Serializable -/
def k4 : Class := { plain "java/io/Serializable" (some 0) with
  accessFlags := 1537
  interfaces := #[]
  cf := some (fileOf pool4 1 #[] #[] 1537 3 #[] #[])
  fields := #[]
  methods := #[]
  instanceTypes := #[]
  staticTypes := #[]
  resolved := Array.replicate 7 none
  statics := none }

def pool5 : Array CpInfo := pool [(2, .class_ 4), (1, u "java/lang/Enum"), (0, u "name"), (0, u "Ljava/lang/String;"), (2, u "ordinal"), (0, u "I"), (1, .class_ 14), (1, u "java/lang/Object"), (4, u "hash"), (86, .class_ 108), (1, u "java/lang/Enum$EnumDesc"), (2, .class_ 112), (0, u "java/lang/constant/Constable"), (0, .class_ 114), (0, u "java/lang/Comparable"), (0, .class_ 116), (0, u "java/io/Serializable")] 87

/-- java/lang/Enum -/
def k5 : Class := { plain "java/lang/Enum" (some 0) with
  accessFlags := 1057
  interfaces := #[2, 3, 4]
  cf := some (fileOf pool5 2 #[.nestMembers #[106]] #[] 1057 12 #[111, 113, 115] #[{ accessFlags := 18, nameIndex := 5, descriptorIndex := 6, attributes := #[] }, { accessFlags := 18, nameIndex := 9, descriptorIndex := 10, attributes := #[] }, { accessFlags := 2, nameIndex := 19, descriptorIndex := 10, attributes := #[] }])
  fields := #[{ name := "name", type := (.object "java/lang/String"), accessFlags := 18, slot := 0, constantValue := 0 }, { name := "ordinal", type := .int, accessFlags := 18, slot := 1, constantValue := 0 }, { name := "hash", type := .int, accessFlags := 2, slot := 2, constantValue := 0 }]
  methods := #[]
  instanceTypes := #[(.object "java/lang/String"), .int, .int]
  staticTypes := #[]
  resolved := Array.replicate 204 none
  statics := none }

def pool6 : Array CpInfo := pool [(1, .class_ 2), (0, u "com/example/rondel/rondel/OverflowPolicy"), (2, u "EVICT_OLDEST"), (0, u "Lcom/example/rondel/rondel/OverflowPolicy;"), (2, u "REJECT"), (2, u "$VALUES"), (0, u "[Lcom/example/rondel/rondel/OverflowPolicy;"), (6, .class_ 22), (1, u "java/lang/Enum")] 24

/-- com/example/rondel/rondel/OverflowPolicy -/
def k6 : Class := { plain "com/example/rondel/rondel/OverflowPolicy" (some 5) with
  accessFlags := 16433
  interfaces := #[]
  cf := some (fileOf pool6 1 #[] #[] 16433 20 #[] #[{ accessFlags := 16409, nameIndex := 5, descriptorIndex := 6, attributes := #[] }, { accessFlags := 16409, nameIndex := 9, descriptorIndex := 6, attributes := #[] }, { accessFlags := 4122, nameIndex := 12, descriptorIndex := 13, attributes := #[] }])
  fields := #[{ name := "EVICT_OLDEST", type := (.object "com/example/rondel/rondel/OverflowPolicy"), accessFlags := 16409, slot := 0, constantValue := 0 }, { name := "REJECT", type := (.object "com/example/rondel/rondel/OverflowPolicy"), accessFlags := 16409, slot := 1, constantValue := 0 }, { name := "$VALUES", type := (.array (.object "com/example/rondel/rondel/OverflowPolicy")), accessFlags := 4122, slot := 2, constantValue := 0 }]
  methods := #[]
  instanceTypes := #[(.object "java/lang/String"), .int, .int]
  staticTypes := #[(.object "com/example/rondel/rondel/OverflowPolicy"), (.object "com/example/rondel/rondel/OverflowPolicy"), (.array (.object "com/example/rondel/rondel/OverflowPolicy"))]
  resolved := Array.replicate 47 none
  statics := some 0 }

def pool7 : Array CpInfo := pool [(8, .class_ 10), (1, u "java/lang/Iterable"), (24, .class_ 36), (0, u "java/lang/Object")] 25

/-- java/lang/Iterable -/
def k7 : Class := { plain "java/lang/Iterable" (some 0) with
  accessFlags := 1537
  interfaces := #[]
  cf := some (fileOf pool7 8 #[] #[] 1537 35 #[] #[])
  fields := #[]
  methods := #[]
  instanceTypes := #[]
  staticTypes := #[]
  resolved := Array.replicate 62 none
  statics := none }

def pool8 : Array CpInfo := pool [(10, .class_ 12), (1, u "java/util/Collection"), (47, .class_ 61), (0, u "java/lang/Object"), (0, .class_ 63), (0, u "java/lang/Iterable")] 51

/-- java/util/Collection -/
def k8 : Class := { plain "java/util/Collection" (some 0) with
  accessFlags := 1537
  interfaces := #[7]
  cf := some (fileOf pool8 10 #[] #[] 1537 60 #[62] #[])
  fields := #[]
  methods := #[]
  instanceTypes := #[]
  staticTypes := #[]
  resolved := Array.replicate 115 none
  statics := none }

def pool9 : Array CpInfo := pool [(1, .methodref 2 3), (0, .class_ 4), (0, .nameAndType 5 6), (0, u "java/lang/Object"), (0, u "<init>"), (0, u "()V"), (1, .class_ 10), (1, u "java/util/AbstractCollection"), (66, .class_ 78), (0, u "java/util/Collection")] 81

def k9c0 : Code := { maxStack := 1, maxLocals := 1, code := jdk_22_method_1_code, exceptionTable := #[], attributes := #[] }
def k9m0 : Method := { name := "<init>", desc := "()V", sig := { parameters := [], returnType := none }, accessFlags := 4, code := some k9c0 }
/-- java/util/AbstractCollection -/
def k9 : Class := { plain "java/util/AbstractCollection" (some 0) with
  accessFlags := 1057
  interfaces := #[8]
  cf := some (fileOf pool9 8 #[] #[{ accessFlags := 4, nameIndex := 5, descriptorIndex := 6, attributes := #[] }] 1057 2 #[77] #[])
  fields := #[]
  methods := #[k9m0]
  instanceTypes := #[]
  staticTypes := #[]
  resolved := Array.replicate 160 none
  statics := none }

def pool10 : Array CpInfo := pool [(1, .class_ 2), (0, u "java/util/Queue"), (0, .class_ 4), (0, u "java/lang/Object"), (0, .class_ 6), (0, u "java/util/Collection")] 14

/-- java/util/Queue -/
def k10 : Class := { plain "java/util/Queue" (some 0) with
  accessFlags := 1537
  interfaces := #[8]
  cf := some (fileOf pool10 1 #[] #[] 1537 3 #[5] #[])
  fields := #[]
  methods := #[]
  instanceTypes := #[]
  staticTypes := #[]
  resolved := Array.replicate 21 none
  statics := none }

def pool11 : Array CpInfo := pool [(1, .methodref 2 3), (0, .class_ 4), (0, .nameAndType 5 6), (0, u "java/util/AbstractCollection"), (0, u "<init>"), (0, u "()V"), (1, .class_ 10), (1, u "java/util/AbstractQueue"), (43, .class_ 55), (0, u "java/util/Queue")] 31

def k11c0 : Code := { maxStack := 1, maxLocals := 1, code := jdk_2435_method_1_code, exceptionTable := #[], attributes := #[] }
def k11m0 : Method := { name := "<init>", desc := "()V", sig := { parameters := [], returnType := none }, accessFlags := 4, code := some k11c0 }
/-- java/util/AbstractQueue -/
def k11 : Class := { plain "java/util/AbstractQueue" (some 9) with
  accessFlags := 1057
  interfaces := #[10]
  cf := some (fileOf pool11 8 #[] #[{ accessFlags := 4, nameIndex := 5, descriptorIndex := 6, attributes := #[] }] 1057 2 #[54] #[])
  fields := #[]
  methods := #[k11m0]
  instanceTypes := #[]
  staticTypes := #[]
  resolved := Array.replicate 87 none
  statics := none }

def pool12 : Array CpInfo := pool [(2, .class_ 4), (1, u "com/example/rondel/rondel/OverflowPolicy"), (1, u "Lcom/example/rondel/rondel/OverflowPolicy;"), (1, .class_ 10), (1, u "com/example/rondel/rondel/RingBuffer"), (0, u "<init>"), (0, u "(ILcom/example/rondel/rondel/OverflowPolicy;)V"), (0, .methodref 14 15), (0, .class_ 16), (0, .nameAndType 11 17), (0, u "java/util/AbstractQueue"), (0, u "()V"), (0, .methodref 8 19), (0, .nameAndType 20 21), (0, u "checkCapacity"), (0, u "(I)V"), (0, .string 23), (0, u "policy"), (0, .methodref 25 26), (0, .class_ 27), (0, .nameAndType 28 29), (0, u "java/util/Objects"), (0, u "requireNonNull"), (0, u "(Ljava/lang/Object;Ljava/lang/String;)Ljava/lang/Object;"), (0, .fieldref 2 31), (0, .nameAndType 32 6), (0, u "REJECT"), (0, .fieldref 8 34), (0, .nameAndType 35 36), (0, u "rejects"), (0, u "Z"), (0, .fieldref 8 38), (0, .nameAndType 39 40), (0, u "capacity"), (0, u "I"), (0, .class_ 42), (0, u "java/lang/Object"), (0, .fieldref 8 44), (0, .nameAndType 45 46), (0, u "elements"), (0, u "[Ljava/lang/Object;"), (0, .methodref 8 48), (0, .nameAndType 49 50), (0, u "size"), (0, u "()I"), (0, .methodref 52 53), (0, .class_ 54), (0, .nameAndType 55 56), (0, u "java/lang/Math"), (0, u "max"), (0, u "(II)I"), (0, .methodref 8 58), (0, .nameAndType 59 60), (0, u "copyInto"), (0, u "([Ljava/lang/Object;)V"), (0, .fieldref 8 62), (0, .nameAndType 63 40), (0, u "head"), (0, .fieldref 8 65), (0, .nameAndType 66 40), (0, u "tail"), (0, .fieldref 8 68), (0, .nameAndType 69 40), (0, u "modCount"), (2, .methodref 8 73), (0, .nameAndType 74 75), (0, u "push"), (0, u "(Ljava/lang/Object;Z)Ljava/lang/Object;"), (4, .fieldref 8 81), (0, .nameAndType 82 83), (0, u "REFUSED"), (0, u "Ljava/lang/Object;"), (0, .methodref 8 85), (0, .nameAndType 86 87), (0, u "peek"), (0, u "()Ljava/lang/Object;"), (0, .methodref 8 89), (0, .nameAndType 90 17), (0, u "dropOldest"), (0, .methodref 8 92), (0, .nameAndType 93 94), (0, u "elementAt"), (0, u "(I)Ljava/lang/Object;"), (16, u "(Ljava/lang/Object;)Z"), (22, .class_ 135), (0, u "com/example/rondel/rondel/RingBuffer$Walk"), (9, .methodref 52 146), (0, .nameAndType 147 56), (0, u "min"), (0, .methodref 149 150), (0, .class_ 151), (0, .nameAndType 152 153), (0, u "java/lang/System"), (0, u "arraycopy"), (0, u "(Ljava/lang/Object;ILjava/lang/Object;II)V"), (9, .string 164), (0, u "element"), (0, .methodref 8 166), (0, .nameAndType 167 168), (0, u "append"), (0, u "(Ljava/lang/Object;)V"), (4, .methodref 8 174), (0, .nameAndType 175 56), (0, u "advance"), (0, .class_ 177), (0, u "com/example/rondel/rondel/RingBuffer$SerializedForm"), (21, .class_ 200), (0, u "java/io/Serializable"), (0, u "serialVersionUID"), (0, u "J"), (6, u "setCapacity"), (7, u "offer"), (0, u "poll")] 63

def k12c0 : Code := { maxStack := 3, maxLocals := 3, code := prog_2_method_2_code, exceptionTable := #[], attributes := #[] }
def k12m0 : Method := { name := "<init>", desc := "(ILcom/example/rondel/rondel/OverflowPolicy;)V", sig := { parameters := [.int, (.object "com/example/rondel/rondel/OverflowPolicy")], returnType := none }, accessFlags := 1, code := some k12c0 }
def k12c1 : Code := { maxStack := 3, maxLocals := 5, code := prog_2_method_4_code, exceptionTable := #[], attributes := #[] }
def k12m1 : Method := { name := "setCapacity", desc := "(I)V", sig := { parameters := [.int], returnType := none }, accessFlags := 1, code := some k12c1 }
def k12c2 : Code := { maxStack := 2, maxLocals := 2, code := prog_2_method_7_code, exceptionTable := #[], attributes := #[] }
def k12m2 : Method := { name := "size", desc := "()I", sig := { parameters := [], returnType := some .int }, accessFlags := 1, code := some k12c2 }
def k12c3 : Code := { maxStack := 3, maxLocals := 2, code := prog_2_method_10_code, exceptionTable := #[], attributes := #[] }
def k12m3 : Method := { name := "offer", desc := "(Ljava/lang/Object;)Z", sig := { parameters := [(.object "java/lang/Object")], returnType := some .boolean }, accessFlags := 1, code := some k12c3 }
def k12c4 : Code := { maxStack := 1, maxLocals := 2, code := prog_2_method_11_code, exceptionTable := #[], attributes := #[] }
def k12m4 : Method := { name := "poll", desc := "()Ljava/lang/Object;", sig := { parameters := [], returnType := some (.object "java/lang/Object") }, accessFlags := 1, code := some k12c4 }
def k12c5 : Code := { maxStack := 2, maxLocals := 1, code := prog_2_method_12_code, exceptionTable := #[], attributes := #[] }
def k12m5 : Method := { name := "peek", desc := "()Ljava/lang/Object;", sig := { parameters := [], returnType := some (.object "java/lang/Object") }, accessFlags := 1, code := some k12c5 }
def k12c6 : Code := { maxStack := 6, maxLocals := 4, code := prog_2_method_25_code, exceptionTable := #[], attributes := #[] }
def k12m6 : Method := { name := "copyInto", desc := "([Ljava/lang/Object;)V", sig := { parameters := [(.array (.object "java/lang/Object"))], returnType := none }, accessFlags := 2, code := some k12c6 }
def k12c7 : Code := { maxStack := 3, maxLocals := 1, code := prog_2_method_26_code, exceptionTable := #[], attributes := #[] }
def k12m7 : Method := { name := "checkCapacity", desc := "(I)V", sig := { parameters := [.int], returnType := none }, accessFlags := 10, code := some k12c7 }
def k12c8 : Code := { maxStack := 4, maxLocals := 7, code := prog_2_method_27_code, exceptionTable := #[], attributes := #[] }
def k12m8 : Method := { name := "push", desc := "(Ljava/lang/Object;Z)Ljava/lang/Object;", sig := { parameters := [(.object "java/lang/Object"), .boolean], returnType := some (.object "java/lang/Object") }, accessFlags := 2, code := some k12c8 }
def k12c9 : Code := { maxStack := 4, maxLocals := 4, code := prog_2_method_28_code, exceptionTable := #[], attributes := #[] }
def k12m9 : Method := { name := "append", desc := "(Ljava/lang/Object;)V", sig := { parameters := [(.object "java/lang/Object")], returnType := none }, accessFlags := 2, code := some k12c9 }
def k12c10 : Code := { maxStack := 4, maxLocals := 3, code := prog_2_method_30_code, exceptionTable := #[], attributes := #[] }
def k12m10 : Method := { name := "dropOldest", desc := "()V", sig := { parameters := [], returnType := none }, accessFlags := 2, code := some k12c10 }
def k12c11 : Code := { maxStack := 3, maxLocals := 4, code := prog_2_method_32_code, exceptionTable := #[], attributes := #[] }
def k12m11 : Method := { name := "advance", desc := "(II)I", sig := { parameters := [.int, .int], returnType := some .int }, accessFlags := 2, code := some k12c11 }
def k12c12 : Code := { maxStack := 2, maxLocals := 2, code := prog_2_method_33_code, exceptionTable := #[], attributes := #[] }
def k12m12 : Method := { name := "elementAt", desc := "(I)Ljava/lang/Object;", sig := { parameters := [.int], returnType := some (.object "java/lang/Object") }, accessFlags := 2, code := some k12c12 }
/-- com/example/rondel/rondel/RingBuffer -/
def k12 : Class := { plain "com/example/rondel/rondel/RingBuffer" (some 11) with
  accessFlags := 49
  interfaces := #[4]
  cf := some (fileOf pool12 8 #[.nestMembers #[176, 134]] #[{ accessFlags := 1, nameIndex := 11, descriptorIndex := 12, attributes := #[] }, { accessFlags := 1, nameIndex := 209, descriptorIndex := 21, attributes := #[] }, { accessFlags := 1, nameIndex := 49, descriptorIndex := 50, attributes := #[] }, { accessFlags := 1, nameIndex := 217, descriptorIndex := 111, attributes := #[] }, { accessFlags := 1, nameIndex := 218, descriptorIndex := 87, attributes := #[] }, { accessFlags := 1, nameIndex := 86, descriptorIndex := 87, attributes := #[] }, { accessFlags := 2, nameIndex := 59, descriptorIndex := 60, attributes := #[] }, { accessFlags := 10, nameIndex := 20, descriptorIndex := 21, attributes := #[] }, { accessFlags := 2, nameIndex := 74, descriptorIndex := 75, attributes := #[] }, { accessFlags := 2, nameIndex := 167, descriptorIndex := 168, attributes := #[] }, { accessFlags := 2, nameIndex := 90, descriptorIndex := 17, attributes := #[] }, { accessFlags := 2, nameIndex := 175, descriptorIndex := 56, attributes := #[] }, { accessFlags := 2, nameIndex := 93, descriptorIndex := 94, attributes := #[] }] 49 14 #[199] #[{ accessFlags := 26, nameIndex := 201, descriptorIndex := 202, attributes := #[] }, { accessFlags := 26, nameIndex := 82, descriptorIndex := 83, attributes := #[] }, { accessFlags := 130, nameIndex := 45, descriptorIndex := 46, attributes := #[] }, { accessFlags := 146, nameIndex := 35, descriptorIndex := 36, attributes := #[] }, { accessFlags := 130, nameIndex := 39, descriptorIndex := 40, attributes := #[] }, { accessFlags := 130, nameIndex := 63, descriptorIndex := 40, attributes := #[] }, { accessFlags := 130, nameIndex := 66, descriptorIndex := 40, attributes := #[] }, { accessFlags := 130, nameIndex := 69, descriptorIndex := 40, attributes := #[] }])
  fields := #[{ name := "serialVersionUID", type := .long, accessFlags := 26, slot := 0, constantValue := 0 }, { name := "REFUSED", type := (.object "java/lang/Object"), accessFlags := 26, slot := 1, constantValue := 0 }, { name := "elements", type := (.array (.object "java/lang/Object")), accessFlags := 130, slot := 0, constantValue := 0 }, { name := "rejects", type := .boolean, accessFlags := 146, slot := 1, constantValue := 0 }, { name := "capacity", type := .int, accessFlags := 130, slot := 2, constantValue := 0 }, { name := "head", type := .int, accessFlags := 130, slot := 3, constantValue := 0 }, { name := "tail", type := .int, accessFlags := 130, slot := 4, constantValue := 0 }, { name := "modCount", type := .int, accessFlags := 130, slot := 5, constantValue := 0 }]
  methods := #[k12m0, k12m1, k12m2, k12m3, k12m4, k12m5, k12m6, k12m7, k12m8, k12m9, k12m10, k12m11, k12m12]
  instanceTypes := #[(.array (.object "java/lang/Object")), .boolean, .int, .int, .int, .int]
  staticTypes := #[.long, (.object "java/lang/Object")]
  resolved := Array.replicate 282 none
  statics := some 1 }

def pool13 : Array CpInfo := pool [(2, .class_ 4), (1, u "java/lang/CharSequence"), (42, .class_ 48), (0, u "java/lang/CharSequence$1CodePointIterator"), (10, .class_ 60), (0, u "java/lang/CharSequence$1CharIterator"), (5, .class_ 67), (0, u "java/lang/Object")] 63

/-- java/lang/CharSequence -/
def k13 : Class := { plain "java/lang/CharSequence" (some 0) with
  accessFlags := 1537
  interfaces := #[]
  cf := some (fileOf pool13 2 #[.nestMembers #[47, 59]] #[] 1537 66 #[] #[])
  fields := #[]
  methods := #[]
  instanceTypes := #[]
  staticTypes := #[]
  resolved := Array.replicate 131 none
  statics := none }

def pool14 : Array CpInfo := pool [(1, .class_ 2), (0, u "java/lang/constant/ConstantDesc"), (0, .class_ 4), (0, u "java/lang/Object")] 32

/-- java/lang/constant/ConstantDesc -/
def k14 : Class := { plain "java/lang/constant/ConstantDesc" (some 0) with
  accessFlags := 1537
  interfaces := #[]
  cf := some (fileOf pool14 1 #[] #[] 1537 3 #[] #[])
  fields := #[]
  methods := #[]
  instanceTypes := #[]
  staticTypes := #[]
  resolved := Array.replicate 37 none
  statics := none }

def pool15 : Array CpInfo := pool [(2, .class_ 4), (1, u "java/lang/Object"), (0, u "<init>"), (0, u "()V"), (3, .class_ 12), (1, u "java/lang/String"), (0, u "value"), (0, u "[B"), (2, u "coder"), (0, u "B"), (2, u "hash"), (0, u "I"), (2, u "hashIsZero"), (0, u "Z"), (13, u "COMPACT_STRINGS"), (534, .class_ 576), (0, u "java/lang/CharSequence"), (22, u "CASE_INSENSITIVE_ORDER"), (0, u "Ljava/util/Comparator;"), (500, u "serialPersistentFields"), (0, u "[Ljava/io/ObjectStreamField;"), (0, .class_ 1104), (0, u "java/lang/String$CaseInsensitiveComparator"), (1, .class_ 1107), (0, u "java/io/Serializable"), (0, .class_ 1109), (0, u "java/lang/Comparable"), (0, .class_ 1111), (0, u "java/lang/constant/Constable"), (0, .class_ 1113), (0, u "java/lang/constant/ConstantDesc"), (2, u "serialVersionUID"), (0, u "J"), (3, u "REPL"), (0, u "C"), (2, u "LATIN1"), (1, u "UTF16")] 323

def k15m0 : Method := { name := "<init>", desc := "()V", sig := { parameters := [], returnType := none }, accessFlags := 1, code := none }
/-- java/lang/String -/
def k15 : Class := { plain "java/lang/String" (some 0) with
  accessFlags := 49
  interfaces := #[4, 3, 13, 2, 14]
  cf := some (fileOf pool15 10 #[.nestMembers #[1103]] #[{ accessFlags := 1, nameIndex := 5, descriptorIndex := 6, attributes := #[] }] 49 2 #[1106, 1108, 575, 1110, 1112] #[{ accessFlags := 18, nameIndex := 13, descriptorIndex := 14, attributes := #[] }, { accessFlags := 18, nameIndex := 17, descriptorIndex := 18, attributes := #[] }, { accessFlags := 2, nameIndex := 21, descriptorIndex := 22, attributes := #[] }, { accessFlags := 2, nameIndex := 25, descriptorIndex := 26, attributes := #[] }, { accessFlags := 26, nameIndex := 1116, descriptorIndex := 1117, attributes := #[] }, { accessFlags := 24, nameIndex := 40, descriptorIndex := 26, attributes := #[] }, { accessFlags := 26, nameIndex := 1101, descriptorIndex := 1102, attributes := #[] }, { accessFlags := 26, nameIndex := 1121, descriptorIndex := 1122, attributes := #[] }, { accessFlags := 25, nameIndex := 599, descriptorIndex := 600, attributes := #[] }, { accessFlags := 24, nameIndex := 1125, descriptorIndex := 18, attributes := #[] }, { accessFlags := 24, nameIndex := 1127, descriptorIndex := 18, attributes := #[] }])
  fields := #[{ name := "value", type := (.array .byte), accessFlags := 18, slot := 0, constantValue := 0 }, { name := "coder", type := .byte, accessFlags := 18, slot := 1, constantValue := 0 }, { name := "hash", type := .int, accessFlags := 2, slot := 2, constantValue := 0 }, { name := "hashIsZero", type := .boolean, accessFlags := 2, slot := 3, constantValue := 0 }, { name := "serialVersionUID", type := .long, accessFlags := 26, slot := 0, constantValue := 0 }, { name := "COMPACT_STRINGS", type := .boolean, accessFlags := 24, slot := 1, constantValue := 0 }, { name := "serialPersistentFields", type := (.array (.object "java/io/ObjectStreamField")), accessFlags := 26, slot := 2, constantValue := 0 }, { name := "REPL", type := .char, accessFlags := 26, slot := 3, constantValue := 0 }, { name := "CASE_INSENSITIVE_ORDER", type := (.object "java/util/Comparator"), accessFlags := 25, slot := 4, constantValue := 0 }, { name := "LATIN1", type := .byte, accessFlags := 24, slot := 5, constantValue := 0 }, { name := "UTF16", type := .byte, accessFlags := 24, slot := 6, constantValue := 0 }]
  methods := #[k15m0]
  instanceTypes := #[(.array .byte), .byte, .int, .boolean]
  staticTypes := #[.long, .boolean, (.array (.object "java/io/ObjectStreamField")), .char, (.object "java/util/Comparator"), .byte, .byte]
  resolved := Array.replicate 1451 none
  statics := none }

def pool16 : Array CpInfo := pool [(2, .class_ 4), (1, u "java/lang/Object"), (0, u "<init>"), (0, u "()V"), (35, .class_ 44), (1, u "java/util/Objects"), (0, u "requireNonNull"), (48, u "(Ljava/lang/Object;Ljava/lang/String;)Ljava/lang/Object;")] 89

def k16m0 : Method := { name := "<init>", desc := "()V", sig := { parameters := [], returnType := none }, accessFlags := 2, code := none }
def k16c1 : Code := { maxStack := 3, maxLocals := 2, code := jdk_31_method_11_code, exceptionTable := #[], attributes := #[] }
def k16m1 : Method := { name := "requireNonNull", desc := "(Ljava/lang/Object;Ljava/lang/String;)Ljava/lang/Object;", sig := { parameters := [(.object "java/lang/Object"), (.object "java/lang/String")], returnType := some (.object "java/lang/Object") }, accessFlags := 9, code := some k16c1 }
/-- java/util/Objects -/
def k16 : Class := { plain "java/util/Objects" (some 0) with
  accessFlags := 49
  interfaces := #[]
  cf := some (fileOf pool16 42 #[] #[{ accessFlags := 2, nameIndex := 5, descriptorIndex := 6, attributes := #[] }, { accessFlags := 9, nameIndex := 45, descriptorIndex := 94, attributes := #[] }] 49 2 #[] #[])
  fields := #[]
  methods := #[k16m0, k16m1]
  instanceTypes := #[]
  staticTypes := #[]
  resolved := Array.replicate 184 none
  statics := none }

def pool17 : Array CpInfo := pool [(2, .class_ 4), (1, u "java/lang/Object"), (0, u "<init>"), (0, u "()V"), (1, .class_ 10), (1, u "java/lang/Number"), (2, .class_ 14), (0, u "java/io/Serializable"), (0, u "serialVersionUID"), (0, u "J")] 20

def k17m0 : Method := { name := "<init>", desc := "()V", sig := { parameters := [], returnType := none }, accessFlags := 1, code := none }
/-- java/lang/Number -/
def k17 : Class := { plain "java/lang/Number" (some 0) with
  accessFlags := 1057
  interfaces := #[4]
  cf := some (fileOf pool17 8 #[] #[{ accessFlags := 1, nameIndex := 5, descriptorIndex := 6, attributes := #[] }] 1057 2 #[13] #[{ accessFlags := 26, nameIndex := 15, descriptorIndex := 16, attributes := #[] }])
  fields := #[{ name := "serialVersionUID", type := .long, accessFlags := 26, slot := 0, constantValue := 0 }]
  methods := #[k17m0]
  instanceTypes := #[]
  staticTypes := #[.long]
  resolved := Array.replicate 37 none
  statics := none }

def pool18 : Array CpInfo := pool [(1, .class_ 2), (0, u "java/lang/Integer"), (16, u "digits"), (0, u "[C"), (64, u "DigitOnes"), (0, u "[B"), (2, u "DigitTens"), (97, u "valueOf"), (0, u "(I)Ljava/lang/Integer;"), (0, .class_ 190), (0, u "java/lang/Integer$IntegerCache"), (0, .fieldref 189 192), (0, .nameAndType 193 194), (0, u "high"), (0, u "I"), (0, .fieldref 189 196), (0, .nameAndType 197 198), (0, u "cache"), (0, u "[Ljava/lang/Integer;"), (4, .class_ 204), (0, u "java/lang/Number"), (2, u "value"), (94, u "TYPE"), (0, u "Ljava/lang/Class;"), (0, .class_ 305), (0, u "java/lang/Comparable"), (0, .class_ 307), (0, u "java/lang/constant/Constable"), (0, .class_ 309), (0, u "java/lang/constant/ConstantDesc"), (0, u "MIN_VALUE"), (1, u "MAX_VALUE"), (3, u "SIZE"), (1, u "BYTES"), (1, u "serialVersionUID"), (0, u "J")] 131

def k18c0 : Code := { maxStack := 3, maxLocals := 1, code := jdk_33_method_22_code, exceptionTable := #[], attributes := #[] }
def k18m0 : Method := { name := "valueOf", desc := "(I)Ljava/lang/Integer;", sig := { parameters := [.int], returnType := some (.object "java/lang/Integer") }, accessFlags := 9, code := some k18c0 }
/-- java/lang/Integer -/
def k18 : Class := { plain "java/lang/Integer" (some 17) with
  accessFlags := 49
  interfaces := #[3, 2, 14]
  cf := some (fileOf pool18 1 #[.nestMembers #[189]] #[{ accessFlags := 9, nameIndex := 187, descriptorIndex := 188, attributes := #[] }] 49 203 #[304, 306, 308] #[{ accessFlags := 25, nameIndex := 310, descriptorIndex := 194, attributes := #[] }, { accessFlags := 25, nameIndex := 312, descriptorIndex := 194, attributes := #[] }, { accessFlags := 25, nameIndex := 302, descriptorIndex := 303, attributes := #[] }, { accessFlags := 24, nameIndex := 19, descriptorIndex := 20, attributes := #[] }, { accessFlags := 24, nameIndex := 89, descriptorIndex := 86, attributes := #[] }, { accessFlags := 24, nameIndex := 85, descriptorIndex := 86, attributes := #[] }, { accessFlags := 18, nameIndex := 207, descriptorIndex := 194, attributes := #[] }, { accessFlags := 25, nameIndex := 316, descriptorIndex := 194, attributes := #[] }, { accessFlags := 25, nameIndex := 318, descriptorIndex := 194, attributes := #[] }, { accessFlags := 26, nameIndex := 320, descriptorIndex := 321, attributes := #[] }])
  fields := #[{ name := "MIN_VALUE", type := .int, accessFlags := 25, slot := 0, constantValue := 0 }, { name := "MAX_VALUE", type := .int, accessFlags := 25, slot := 1, constantValue := 0 }, { name := "TYPE", type := (.object "java/lang/Class"), accessFlags := 25, slot := 2, constantValue := 0 }, { name := "digits", type := (.array .char), accessFlags := 24, slot := 3, constantValue := 0 }, { name := "DigitTens", type := (.array .byte), accessFlags := 24, slot := 4, constantValue := 0 }, { name := "DigitOnes", type := (.array .byte), accessFlags := 24, slot := 5, constantValue := 0 }, { name := "value", type := .int, accessFlags := 18, slot := 0, constantValue := 0 }, { name := "SIZE", type := .int, accessFlags := 25, slot := 6, constantValue := 0 }, { name := "BYTES", type := .int, accessFlags := 25, slot := 7, constantValue := 0 }, { name := "serialVersionUID", type := .long, accessFlags := 26, slot := 8, constantValue := 0 }]
  methods := #[k18m0]
  instanceTypes := #[.int]
  staticTypes := #[.int, .int, (.object "java/lang/Class"), (.array .char), (.array .byte), (.array .byte), .int, .int, .long]
  resolved := Array.replicate 453 none
  statics := none }

def pool19 : Array CpInfo := pool [(2, .class_ 4), (1, u "java/lang/Object"), (0, u "<init>"), (0, u "()V"), (0, .class_ 8), (0, u "java/lang/Integer"), (7, .class_ 18), (1, u "java/lang/Integer$IntegerCache"), (0, u "$assertionsDisabled"), (0, u "Z"), (26, u "high"), (0, u "I"), (8, u "archivedCache"), (0, u "[Ljava/lang/Integer;"), (12, u "cache"), (0, u "low")] 27

def k19m0 : Method := { name := "<init>", desc := "()V", sig := { parameters := [], returnType := none }, accessFlags := 2, code := none }
/-- java/lang/Integer$IntegerCache -/
def k19 : Class := { plain "java/lang/Integer$IntegerCache" (some 0) with
  accessFlags := 48
  interfaces := #[]
  cf := some (fileOf pool19 16 #[.nestHost 7] #[{ accessFlags := 2, nameIndex := 5, descriptorIndex := 6, attributes := #[] }] 48 2 #[] #[{ accessFlags := 24, nameIndex := 72, descriptorIndex := 48, attributes := #[] }, { accessFlags := 24, nameIndex := 47, descriptorIndex := 48, attributes := #[] }, { accessFlags := 24, nameIndex := 71, descriptorIndex := 58, attributes := #[] }, { accessFlags := 8, nameIndex := 57, descriptorIndex := 58, attributes := #[] }, { accessFlags := 4120, nameIndex := 19, descriptorIndex := 20, attributes := #[] }])
  fields := #[{ name := "low", type := .int, accessFlags := 24, slot := 0, constantValue := 0 }, { name := "high", type := .int, accessFlags := 24, slot := 1, constantValue := 0 }, { name := "cache", type := (.array (.object "java/lang/Integer")), accessFlags := 24, slot := 2, constantValue := 0 }, { name := "archivedCache", type := (.array (.object "java/lang/Integer")), accessFlags := 8, slot := 3, constantValue := 0 }, { name := "$assertionsDisabled", type := .boolean, accessFlags := 4120, slot := 4, constantValue := 0 }]
  methods := #[k19m0]
  instanceTypes := #[]
  staticTypes := #[.int, .int, (.array (.object "java/lang/Integer")), (.array (.object "java/lang/Integer")), .boolean]
  resolved := Array.replicate 100 none
  statics := some 2 }

def pool20 : Array CpInfo := pool [(1, .class_ 2), (0, u "java/lang/Math"), (1, .class_ 6), (1, u "java/lang/Object"), (0, u "<init>"), (0, u "()V"), (89, .class_ 100), (1, u "java/lang/Math$RandomNumberGeneratorHolder"), (71, u "negativeZeroFloatBits"), (0, u "J"), (2, u "negativeZeroDoubleBits"), (21, u "max"), (2, u "min"), (43, u "$assertionsDisabled"), (0, u "Z"), (88, u "(II)I"), (2, u "twoToTheDoubleScaleDown"), (0, u "D"), (4, u "twoToTheDoubleScaleUp"), (9, u "E"), (3, u "PI"), (2, u "TAU"), (2, u "DEGREES_TO_RADIANS"), (0, u "RADIANS_TO_DEGREES")] 94

def k20m0 : Method := { name := "<init>", desc := "()V", sig := { parameters := [], returnType := none }, accessFlags := 2, code := none }
def k20c1 : Code := { maxStack := 2, maxLocals := 2, code := jdk_29_method_65_code, exceptionTable := #[], attributes := #[] }
def k20m1 : Method := { name := "max", desc := "(II)I", sig := { parameters := [.int, .int], returnType := some .int }, accessFlags := 9, code := some k20c1 }
def k20c2 : Code := { maxStack := 2, maxLocals := 2, code := jdk_29_method_69_code, exceptionTable := #[], attributes := #[] }
def k20m2 : Method := { name := "min", desc := "(II)I", sig := { parameters := [.int, .int], returnType := some .int }, accessFlags := 9, code := some k20c2 }
/-- java/lang/Math -/
def k20 : Class := { plain "java/lang/Math" (some 0) with
  accessFlags := 49
  interfaces := #[]
  cf := some (fileOf pool20 1 #[.nestMembers #[98]] #[{ accessFlags := 2, nameIndex := 7, descriptorIndex := 8, attributes := #[] }, { accessFlags := 9, nameIndex := 198, descriptorIndex := 335, attributes := #[] }, { accessFlags := 9, nameIndex := 201, descriptorIndex := 335, attributes := #[] }] 49 4 #[] #[{ accessFlags := 25, nameIndex := 354, descriptorIndex := 339, attributes := #[] }, { accessFlags := 25, nameIndex := 358, descriptorIndex := 339, attributes := #[] }, { accessFlags := 25, nameIndex := 361, descriptorIndex := 339, attributes := #[] }, { accessFlags := 26, nameIndex := 364, descriptorIndex := 339, attributes := #[] }, { accessFlags := 26, nameIndex := 365, descriptorIndex := 339, attributes := #[] }, { accessFlags := 26, nameIndex := 172, descriptorIndex := 173, attributes := #[] }, { accessFlags := 26, nameIndex := 176, descriptorIndex := 173, attributes := #[] }, { accessFlags := 8, nameIndex := 344, descriptorIndex := 339, attributes := #[] }, { accessFlags := 8, nameIndex := 338, descriptorIndex := 339, attributes := #[] }, { accessFlags := 4120, nameIndex := 245, descriptorIndex := 246, attributes := #[] }])
  fields := #[{ name := "E", type := .double, accessFlags := 25, slot := 0, constantValue := 0 }, { name := "PI", type := .double, accessFlags := 25, slot := 1, constantValue := 0 }, { name := "TAU", type := .double, accessFlags := 25, slot := 2, constantValue := 0 }, { name := "DEGREES_TO_RADIANS", type := .double, accessFlags := 26, slot := 3, constantValue := 0 }, { name := "RADIANS_TO_DEGREES", type := .double, accessFlags := 26, slot := 4, constantValue := 0 }, { name := "negativeZeroFloatBits", type := .long, accessFlags := 26, slot := 5, constantValue := 0 }, { name := "negativeZeroDoubleBits", type := .long, accessFlags := 26, slot := 6, constantValue := 0 }, { name := "twoToTheDoubleScaleUp", type := .double, accessFlags := 8, slot := 7, constantValue := 0 }, { name := "twoToTheDoubleScaleDown", type := .double, accessFlags := 8, slot := 8, constantValue := 0 }, { name := "$assertionsDisabled", type := .boolean, accessFlags := 4120, slot := 9, constantValue := 0 }]
  methods := #[k20m0, k20m1, k20m2]
  instanceTypes := #[]
  staticTypes := #[.double, .double, .double, .double, .double, .long, .long, .double, .double, .boolean]
  resolved := Array.replicate 460 none
  statics := none }

def pool21 : Array CpInfo := pool [(2, .class_ 4), (1, u "java/lang/Object"), (0, u "<init>"), (0, u "()V"), (1, .class_ 10), (1, u "java/lang/System"), (0, u "allowSecurityManager"), (0, u "I"), (16, u "cons"), (0, u "Ljava/io/Console;"), (77, .class_ 110), (1, u "java/lang/System$CallersHolder"), (43, u "initialErrStream"), (0, u "Ljava/io/PrintStream;"), (19, u "security"), (0, u "Ljava/lang/SecurityManager;"), (31, .class_ 209), (0, u "java/lang/System$1"), (7, u "props"), (0, u "Ljava/util/Properties;"), (2, u "lineSeparator"), (0, u "Ljava/lang/String;"), (96, .class_ 321), (1, u "java/lang/System$LoggerFinder"), (5, .class_ 328), (0, u "java/lang/System$Logger"), (67, u "err"), (2, u "out"), (91, u "notSupportedJnuEncoding"), (15, u "in"), (17, u "initialIn"), (0, u "Ljava/io/InputStream;"), (35, u "bootLayer"), (0, u "Ljava/lang/ModuleLayer;"), (99, .class_ 664), (0, u "java/lang/System$2"), (9, u "NEVER"), (2, u "MAYBE"), (49, u "arraycopy"), (0, u "(Ljava/lang/Object;ILjava/lang/Object;II)V"), (72, .class_ 802), (0, u "java/lang/System$Logger$Level")] 31

def k21m0 : Method := { name := "<init>", desc := "()V", sig := { parameters := [], returnType := none }, accessFlags := 2, code := none }
def k21m1 : Method := { name := "arraycopy", desc := "(Ljava/lang/Object;ILjava/lang/Object;II)V", sig := { parameters := [(.object "java/lang/Object"), .int, (.object "java/lang/Object"), .int, .int], returnType := none }, accessFlags := 265, code := none }
/-- java/lang/System -/
def k21 : Class := { plain "java/lang/System" (some 0) with
  accessFlags := 49
  interfaces := #[]
  cf := some (fileOf pool21 8 #[.nestMembers #[319, 327, 801, 108, 663, 208]] #[{ accessFlags := 2, nameIndex := 5, descriptorIndex := 6, attributes := #[] }, { accessFlags := 265, nameIndex := 727, descriptorIndex := 728, attributes := #[] }] 49 2 #[] #[{ accessFlags := 25, nameIndex := 507, descriptorIndex := 526, attributes := #[] }, { accessFlags := 25, nameIndex := 399, descriptorIndex := 155, attributes := #[] }, { accessFlags := 25, nameIndex := 396, descriptorIndex := 155, attributes := #[] }, { accessFlags := 10, nameIndex := 525, descriptorIndex := 526, attributes := #[] }, { accessFlags := 26, nameIndex := 674, descriptorIndex := 12, attributes := #[] }, { accessFlags := 26, nameIndex := 677, descriptorIndex := 12, attributes := #[] }, { accessFlags := 10, nameIndex := 11, descriptorIndex := 12, attributes := #[] }, { accessFlags := 74, nameIndex := 175, descriptorIndex := 176, attributes := #[] }, { accessFlags := 10, nameIndex := 491, descriptorIndex := 222, attributes := #[] }, { accessFlags := 74, nameIndex := 29, descriptorIndex := 30, attributes := #[] }, { accessFlags := 74, nameIndex := 154, descriptorIndex := 155, attributes := #[] }, { accessFlags := 10, nameIndex := 217, descriptorIndex := 218, attributes := #[] }, { accessFlags := 10, nameIndex := 221, descriptorIndex := 222, attributes := #[] }, { accessFlags := 8, nameIndex := 562, descriptorIndex := 563, attributes := #[] }])
  fields := #[{ name := "in", type := (.object "java/io/InputStream"), accessFlags := 25, slot := 0, constantValue := 0 }, { name := "out", type := (.object "java/io/PrintStream"), accessFlags := 25, slot := 1, constantValue := 0 }, { name := "err", type := (.object "java/io/PrintStream"), accessFlags := 25, slot := 2, constantValue := 0 }, { name := "initialIn", type := (.object "java/io/InputStream"), accessFlags := 10, slot := 3, constantValue := 0 }, { name := "NEVER", type := .int, accessFlags := 26, slot := 4, constantValue := 0 }, { name := "MAYBE", type := .int, accessFlags := 26, slot := 5, constantValue := 0 }, { name := "allowSecurityManager", type := .int, accessFlags := 10, slot := 6, constantValue := 0 }, { name := "security", type := (.object "java/lang/SecurityManager"), accessFlags := 74, slot := 7, constantValue := 0 }, { name := "notSupportedJnuEncoding", type := (.object "java/lang/String"), accessFlags := 10, slot := 8, constantValue := 0 }, { name := "cons", type := (.object "java/io/Console"), accessFlags := 74, slot := 9, constantValue := 0 }, { name := "initialErrStream", type := (.object "java/io/PrintStream"), accessFlags := 74, slot := 10, constantValue := 0 }, { name := "props", type := (.object "java/util/Properties"), accessFlags := 10, slot := 11, constantValue := 0 }, { name := "lineSeparator", type := (.object "java/lang/String"), accessFlags := 10, slot := 12, constantValue := 0 }, { name := "bootLayer", type := (.object "java/lang/ModuleLayer"), accessFlags := 8, slot := 13, constantValue := 0 }]
  methods := #[k21m0, k21m1]
  instanceTypes := #[]
  staticTypes := #[(.object "java/io/InputStream"), (.object "java/io/PrintStream"), (.object "java/io/PrintStream"), (.object "java/io/InputStream"), .int, .int, .int, (.object "java/lang/SecurityManager"), (.object "java/lang/String"), (.object "java/io/Console"), (.object "java/io/PrintStream"), (.object "java/util/Properties"), (.object "java/lang/String"), (.object "java/lang/ModuleLayer")]
  resolved := Array.replicate 834 none
  statics := none }

def pool22 : Array CpInfo := pool [(1, u "java/lang/Cloneable"), (0, .class_ 1), (0, u "java/lang/Object"), (0, .class_ 3)] 3

/-- java/lang/Cloneable -/
def k22 : Class := { plain "java/lang/Cloneable" (some 0) with
  accessFlags := 1537
  interfaces := #[]
  cf := some (fileOf pool22 2 #[] #[] 1537 4 #[] #[])
  fields := #[]
  methods := #[]
  instanceTypes := #[]
  staticTypes := #[]
  resolved := Array.replicate 8 none
  statics := none }

/-- the primitive byte -/
def k23 : Class := { plain "byte" none with kind := .primitive 'B', accessFlags := 0x411 }
/-- [B -/
def k24 : Class := { plain "[B" (some 0) with kind := .array 23 .byte, interfaces := #[22, 4], accessFlags := 1041 }

/-- the primitive int -/
def k25 : Class := { plain "int" none with kind := .primitive 'I', accessFlags := 0x411 }
/-- [I -/
def k26 : Class := { plain "[I" (some 0) with kind := .array 25 .int, interfaces := #[22, 4], accessFlags := 1041 }

/-- [Ljava/lang/Integer; -/
def k27 : Class := { plain "[Ljava/lang/Integer;" (some 0) with kind := .array 18 (.object "java/lang/Integer"), interfaces := #[22, 4], accessFlags := 1041 }

/-- [Ljava/lang/Object; -/
def k28 : Class := { plain "[Ljava/lang/Object;" (some 0) with kind := .array 0 (.object "java/lang/Object"), interfaces := #[22, 4], accessFlags := 1041 }

def heap : Heap := #[{ cls := 6, slots := #[.ref 3, .ref 4, .null], vm := .statics 6 },
  { cls := 12, slots := #[.long 0, .ref 5], vm := .statics 12 },
  { cls := 19, slots := #[.int 0, .int 127, .ref 262, .null, .int 0], vm := .statics 19 },
  { cls := 6, slots := #[.null, .int 0, .int 0], vm := .none },
  { cls := 6, slots := #[.null, .int 1, .int 0], vm := .none },
  { cls := 0, slots := #[], vm := .none },
  { cls := 18, slots := #[.int (-128)], vm := .none },
  { cls := 18, slots := #[.int (-127)], vm := .none },
  { cls := 18, slots := #[.int (-126)], vm := .none },
  { cls := 18, slots := #[.int (-125)], vm := .none },
  { cls := 18, slots := #[.int (-124)], vm := .none },
  { cls := 18, slots := #[.int (-123)], vm := .none },
  { cls := 18, slots := #[.int (-122)], vm := .none },
  { cls := 18, slots := #[.int (-121)], vm := .none },
  { cls := 18, slots := #[.int (-120)], vm := .none },
  { cls := 18, slots := #[.int (-119)], vm := .none },
  { cls := 18, slots := #[.int (-118)], vm := .none },
  { cls := 18, slots := #[.int (-117)], vm := .none },
  { cls := 18, slots := #[.int (-116)], vm := .none },
  { cls := 18, slots := #[.int (-115)], vm := .none },
  { cls := 18, slots := #[.int (-114)], vm := .none },
  { cls := 18, slots := #[.int (-113)], vm := .none },
  { cls := 18, slots := #[.int (-112)], vm := .none },
  { cls := 18, slots := #[.int (-111)], vm := .none },
  { cls := 18, slots := #[.int (-110)], vm := .none },
  { cls := 18, slots := #[.int (-109)], vm := .none },
  { cls := 18, slots := #[.int (-108)], vm := .none },
  { cls := 18, slots := #[.int (-107)], vm := .none },
  { cls := 18, slots := #[.int (-106)], vm := .none },
  { cls := 18, slots := #[.int (-105)], vm := .none },
  { cls := 18, slots := #[.int (-104)], vm := .none },
  { cls := 18, slots := #[.int (-103)], vm := .none },
  { cls := 18, slots := #[.int (-102)], vm := .none },
  { cls := 18, slots := #[.int (-101)], vm := .none },
  { cls := 18, slots := #[.int (-100)], vm := .none },
  { cls := 18, slots := #[.int (-99)], vm := .none },
  { cls := 18, slots := #[.int (-98)], vm := .none },
  { cls := 18, slots := #[.int (-97)], vm := .none },
  { cls := 18, slots := #[.int (-96)], vm := .none },
  { cls := 18, slots := #[.int (-95)], vm := .none },
  { cls := 18, slots := #[.int (-94)], vm := .none },
  { cls := 18, slots := #[.int (-93)], vm := .none },
  { cls := 18, slots := #[.int (-92)], vm := .none },
  { cls := 18, slots := #[.int (-91)], vm := .none },
  { cls := 18, slots := #[.int (-90)], vm := .none },
  { cls := 18, slots := #[.int (-89)], vm := .none },
  { cls := 18, slots := #[.int (-88)], vm := .none },
  { cls := 18, slots := #[.int (-87)], vm := .none },
  { cls := 18, slots := #[.int (-86)], vm := .none },
  { cls := 18, slots := #[.int (-85)], vm := .none },
  { cls := 18, slots := #[.int (-84)], vm := .none },
  { cls := 18, slots := #[.int (-83)], vm := .none },
  { cls := 18, slots := #[.int (-82)], vm := .none },
  { cls := 18, slots := #[.int (-81)], vm := .none },
  { cls := 18, slots := #[.int (-80)], vm := .none },
  { cls := 18, slots := #[.int (-79)], vm := .none },
  { cls := 18, slots := #[.int (-78)], vm := .none },
  { cls := 18, slots := #[.int (-77)], vm := .none },
  { cls := 18, slots := #[.int (-76)], vm := .none },
  { cls := 18, slots := #[.int (-75)], vm := .none },
  { cls := 18, slots := #[.int (-74)], vm := .none },
  { cls := 18, slots := #[.int (-73)], vm := .none },
  { cls := 18, slots := #[.int (-72)], vm := .none },
  { cls := 18, slots := #[.int (-71)], vm := .none },
  { cls := 18, slots := #[.int (-70)], vm := .none },
  { cls := 18, slots := #[.int (-69)], vm := .none },
  { cls := 18, slots := #[.int (-68)], vm := .none },
  { cls := 18, slots := #[.int (-67)], vm := .none },
  { cls := 18, slots := #[.int (-66)], vm := .none },
  { cls := 18, slots := #[.int (-65)], vm := .none },
  { cls := 18, slots := #[.int (-64)], vm := .none },
  { cls := 18, slots := #[.int (-63)], vm := .none },
  { cls := 18, slots := #[.int (-62)], vm := .none },
  { cls := 18, slots := #[.int (-61)], vm := .none },
  { cls := 18, slots := #[.int (-60)], vm := .none },
  { cls := 18, slots := #[.int (-59)], vm := .none },
  { cls := 18, slots := #[.int (-58)], vm := .none },
  { cls := 18, slots := #[.int (-57)], vm := .none },
  { cls := 18, slots := #[.int (-56)], vm := .none },
  { cls := 18, slots := #[.int (-55)], vm := .none },
  { cls := 18, slots := #[.int (-54)], vm := .none },
  { cls := 18, slots := #[.int (-53)], vm := .none },
  { cls := 18, slots := #[.int (-52)], vm := .none },
  { cls := 18, slots := #[.int (-51)], vm := .none },
  { cls := 18, slots := #[.int (-50)], vm := .none },
  { cls := 18, slots := #[.int (-49)], vm := .none },
  { cls := 18, slots := #[.int (-48)], vm := .none },
  { cls := 18, slots := #[.int (-47)], vm := .none },
  { cls := 18, slots := #[.int (-46)], vm := .none },
  { cls := 18, slots := #[.int (-45)], vm := .none },
  { cls := 18, slots := #[.int (-44)], vm := .none },
  { cls := 18, slots := #[.int (-43)], vm := .none },
  { cls := 18, slots := #[.int (-42)], vm := .none },
  { cls := 18, slots := #[.int (-41)], vm := .none },
  { cls := 18, slots := #[.int (-40)], vm := .none },
  { cls := 18, slots := #[.int (-39)], vm := .none },
  { cls := 18, slots := #[.int (-38)], vm := .none },
  { cls := 18, slots := #[.int (-37)], vm := .none },
  { cls := 18, slots := #[.int (-36)], vm := .none },
  { cls := 18, slots := #[.int (-35)], vm := .none },
  { cls := 18, slots := #[.int (-34)], vm := .none },
  { cls := 18, slots := #[.int (-33)], vm := .none },
  { cls := 18, slots := #[.int (-32)], vm := .none },
  { cls := 18, slots := #[.int (-31)], vm := .none },
  { cls := 18, slots := #[.int (-30)], vm := .none },
  { cls := 18, slots := #[.int (-29)], vm := .none },
  { cls := 18, slots := #[.int (-28)], vm := .none },
  { cls := 18, slots := #[.int (-27)], vm := .none },
  { cls := 18, slots := #[.int (-26)], vm := .none },
  { cls := 18, slots := #[.int (-25)], vm := .none },
  { cls := 18, slots := #[.int (-24)], vm := .none },
  { cls := 18, slots := #[.int (-23)], vm := .none },
  { cls := 18, slots := #[.int (-22)], vm := .none },
  { cls := 18, slots := #[.int (-21)], vm := .none },
  { cls := 18, slots := #[.int (-20)], vm := .none },
  { cls := 18, slots := #[.int (-19)], vm := .none },
  { cls := 18, slots := #[.int (-18)], vm := .none },
  { cls := 18, slots := #[.int (-17)], vm := .none },
  { cls := 18, slots := #[.int (-16)], vm := .none },
  { cls := 18, slots := #[.int (-15)], vm := .none },
  { cls := 18, slots := #[.int (-14)], vm := .none },
  { cls := 18, slots := #[.int (-13)], vm := .none },
  { cls := 18, slots := #[.int (-12)], vm := .none },
  { cls := 18, slots := #[.int (-11)], vm := .none },
  { cls := 18, slots := #[.int (-10)], vm := .none },
  { cls := 18, slots := #[.int (-9)], vm := .none },
  { cls := 18, slots := #[.int (-8)], vm := .none },
  { cls := 18, slots := #[.int (-7)], vm := .none },
  { cls := 18, slots := #[.int (-6)], vm := .none },
  { cls := 18, slots := #[.int (-5)], vm := .none },
  { cls := 18, slots := #[.int (-4)], vm := .none },
  { cls := 18, slots := #[.int (-3)], vm := .none },
  { cls := 18, slots := #[.int (-2)], vm := .none },
  { cls := 18, slots := #[.int (-1)], vm := .none },
  { cls := 18, slots := #[.int 0], vm := .none },
  { cls := 18, slots := #[.int 1], vm := .none },
  { cls := 18, slots := #[.int 2], vm := .none },
  { cls := 18, slots := #[.int 3], vm := .none },
  { cls := 18, slots := #[.int 4], vm := .none },
  { cls := 18, slots := #[.int 5], vm := .none },
  { cls := 18, slots := #[.int 6], vm := .none },
  { cls := 18, slots := #[.int 7], vm := .none },
  { cls := 18, slots := #[.int 8], vm := .none },
  { cls := 18, slots := #[.int 9], vm := .none },
  { cls := 18, slots := #[.int 10], vm := .none },
  { cls := 18, slots := #[.int 11], vm := .none },
  { cls := 18, slots := #[.int 12], vm := .none },
  { cls := 18, slots := #[.int 13], vm := .none },
  { cls := 18, slots := #[.int 14], vm := .none },
  { cls := 18, slots := #[.int 15], vm := .none },
  { cls := 18, slots := #[.int 16], vm := .none },
  { cls := 18, slots := #[.int 17], vm := .none },
  { cls := 18, slots := #[.int 18], vm := .none },
  { cls := 18, slots := #[.int 19], vm := .none },
  { cls := 18, slots := #[.int 20], vm := .none },
  { cls := 18, slots := #[.int 21], vm := .none },
  { cls := 18, slots := #[.int 22], vm := .none },
  { cls := 18, slots := #[.int 23], vm := .none },
  { cls := 18, slots := #[.int 24], vm := .none },
  { cls := 18, slots := #[.int 25], vm := .none },
  { cls := 18, slots := #[.int 26], vm := .none },
  { cls := 18, slots := #[.int 27], vm := .none },
  { cls := 18, slots := #[.int 28], vm := .none },
  { cls := 18, slots := #[.int 29], vm := .none },
  { cls := 18, slots := #[.int 30], vm := .none },
  { cls := 18, slots := #[.int 31], vm := .none },
  { cls := 18, slots := #[.int 32], vm := .none },
  { cls := 18, slots := #[.int 33], vm := .none },
  { cls := 18, slots := #[.int 34], vm := .none },
  { cls := 18, slots := #[.int 35], vm := .none },
  { cls := 18, slots := #[.int 36], vm := .none },
  { cls := 18, slots := #[.int 37], vm := .none },
  { cls := 18, slots := #[.int 38], vm := .none },
  { cls := 18, slots := #[.int 39], vm := .none },
  { cls := 18, slots := #[.int 40], vm := .none },
  { cls := 18, slots := #[.int 41], vm := .none },
  { cls := 18, slots := #[.int 42], vm := .none },
  { cls := 18, slots := #[.int 43], vm := .none },
  { cls := 18, slots := #[.int 44], vm := .none },
  { cls := 18, slots := #[.int 45], vm := .none },
  { cls := 18, slots := #[.int 46], vm := .none },
  { cls := 18, slots := #[.int 47], vm := .none },
  { cls := 18, slots := #[.int 48], vm := .none },
  { cls := 18, slots := #[.int 49], vm := .none },
  { cls := 18, slots := #[.int 50], vm := .none },
  { cls := 18, slots := #[.int 51], vm := .none },
  { cls := 18, slots := #[.int 52], vm := .none },
  { cls := 18, slots := #[.int 53], vm := .none },
  { cls := 18, slots := #[.int 54], vm := .none },
  { cls := 18, slots := #[.int 55], vm := .none },
  { cls := 18, slots := #[.int 56], vm := .none },
  { cls := 18, slots := #[.int 57], vm := .none },
  { cls := 18, slots := #[.int 58], vm := .none },
  { cls := 18, slots := #[.int 59], vm := .none },
  { cls := 18, slots := #[.int 60], vm := .none },
  { cls := 18, slots := #[.int 61], vm := .none },
  { cls := 18, slots := #[.int 62], vm := .none },
  { cls := 18, slots := #[.int 63], vm := .none },
  { cls := 18, slots := #[.int 64], vm := .none },
  { cls := 18, slots := #[.int 65], vm := .none },
  { cls := 18, slots := #[.int 66], vm := .none },
  { cls := 18, slots := #[.int 67], vm := .none },
  { cls := 18, slots := #[.int 68], vm := .none },
  { cls := 18, slots := #[.int 69], vm := .none },
  { cls := 18, slots := #[.int 70], vm := .none },
  { cls := 18, slots := #[.int 71], vm := .none },
  { cls := 18, slots := #[.int 72], vm := .none },
  { cls := 18, slots := #[.int 73], vm := .none },
  { cls := 18, slots := #[.int 74], vm := .none },
  { cls := 18, slots := #[.int 75], vm := .none },
  { cls := 18, slots := #[.int 76], vm := .none },
  { cls := 18, slots := #[.int 77], vm := .none },
  { cls := 18, slots := #[.int 78], vm := .none },
  { cls := 18, slots := #[.int 79], vm := .none },
  { cls := 18, slots := #[.int 80], vm := .none },
  { cls := 18, slots := #[.int 81], vm := .none },
  { cls := 18, slots := #[.int 82], vm := .none },
  { cls := 18, slots := #[.int 83], vm := .none },
  { cls := 18, slots := #[.int 84], vm := .none },
  { cls := 18, slots := #[.int 85], vm := .none },
  { cls := 18, slots := #[.int 86], vm := .none },
  { cls := 18, slots := #[.int 87], vm := .none },
  { cls := 18, slots := #[.int 88], vm := .none },
  { cls := 18, slots := #[.int 89], vm := .none },
  { cls := 18, slots := #[.int 90], vm := .none },
  { cls := 18, slots := #[.int 91], vm := .none },
  { cls := 18, slots := #[.int 92], vm := .none },
  { cls := 18, slots := #[.int 93], vm := .none },
  { cls := 18, slots := #[.int 94], vm := .none },
  { cls := 18, slots := #[.int 95], vm := .none },
  { cls := 18, slots := #[.int 96], vm := .none },
  { cls := 18, slots := #[.int 97], vm := .none },
  { cls := 18, slots := #[.int 98], vm := .none },
  { cls := 18, slots := #[.int 99], vm := .none },
  { cls := 18, slots := #[.int 100], vm := .none },
  { cls := 18, slots := #[.int 101], vm := .none },
  { cls := 18, slots := #[.int 102], vm := .none },
  { cls := 18, slots := #[.int 103], vm := .none },
  { cls := 18, slots := #[.int 104], vm := .none },
  { cls := 18, slots := #[.int 105], vm := .none },
  { cls := 18, slots := #[.int 106], vm := .none },
  { cls := 18, slots := #[.int 107], vm := .none },
  { cls := 18, slots := #[.int 108], vm := .none },
  { cls := 18, slots := #[.int 109], vm := .none },
  { cls := 18, slots := #[.int 110], vm := .none },
  { cls := 18, slots := #[.int 111], vm := .none },
  { cls := 18, slots := #[.int 112], vm := .none },
  { cls := 18, slots := #[.int 113], vm := .none },
  { cls := 18, slots := #[.int 114], vm := .none },
  { cls := 18, slots := #[.int 115], vm := .none },
  { cls := 18, slots := #[.int 116], vm := .none },
  { cls := 18, slots := #[.int 117], vm := .none },
  { cls := 18, slots := #[.int 118], vm := .none },
  { cls := 18, slots := #[.int 119], vm := .none },
  { cls := 18, slots := #[.int 120], vm := .none },
  { cls := 18, slots := #[.int 121], vm := .none },
  { cls := 18, slots := #[.int 122], vm := .none },
  { cls := 18, slots := #[.int 123], vm := .none },
  { cls := 18, slots := #[.int 124], vm := .none },
  { cls := 18, slots := #[.int 125], vm := .none },
  { cls := 18, slots := #[.int 126], vm := .none },
  { cls := 18, slots := #[.int 127], vm := .none },
  { cls := 27, slots := #[.ref 6, .ref 7, .ref 8, .ref 9, .ref 10, .ref 11, .ref 12, .ref 13, .ref 14, .ref 15, .ref 16, .ref 17, .ref 18, .ref 19, .ref 20, .ref 21, .ref 22, .ref 23, .ref 24, .ref 25, .ref 26, .ref 27, .ref 28, .ref 29, .ref 30, .ref 31, .ref 32, .ref 33, .ref 34, .ref 35, .ref 36, .ref 37, .ref 38, .ref 39, .ref 40, .ref 41, .ref 42, .ref 43, .ref 44, .ref 45, .ref 46, .ref 47, .ref 48, .ref 49, .ref 50, .ref 51, .ref 52, .ref 53, .ref 54, .ref 55, .ref 56, .ref 57, .ref 58, .ref 59, .ref 60, .ref 61, .ref 62, .ref 63, .ref 64, .ref 65, .ref 66, .ref 67, .ref 68, .ref 69, .ref 70, .ref 71, .ref 72, .ref 73, .ref 74, .ref 75, .ref 76, .ref 77, .ref 78, .ref 79, .ref 80, .ref 81, .ref 82, .ref 83, .ref 84, .ref 85, .ref 86, .ref 87, .ref 88, .ref 89, .ref 90, .ref 91, .ref 92, .ref 93, .ref 94, .ref 95, .ref 96, .ref 97, .ref 98, .ref 99, .ref 100, .ref 101, .ref 102, .ref 103, .ref 104, .ref 105, .ref 106, .ref 107, .ref 108, .ref 109, .ref 110, .ref 111, .ref 112, .ref 113, .ref 114, .ref 115, .ref 116, .ref 117, .ref 118, .ref 119, .ref 120, .ref 121, .ref 122, .ref 123, .ref 124, .ref 125, .ref 126, .ref 127, .ref 128, .ref 129, .ref 130, .ref 131, .ref 132, .ref 133, .ref 134, .ref 135, .ref 136, .ref 137, .ref 138, .ref 139, .ref 140, .ref 141, .ref 142, .ref 143, .ref 144, .ref 145, .ref 146, .ref 147, .ref 148, .ref 149, .ref 150, .ref 151, .ref 152, .ref 153, .ref 154, .ref 155, .ref 156, .ref 157, .ref 158, .ref 159, .ref 160, .ref 161, .ref 162, .ref 163, .ref 164, .ref 165, .ref 166, .ref 167, .ref 168, .ref 169, .ref 170, .ref 171, .ref 172, .ref 173, .ref 174, .ref 175, .ref 176, .ref 177, .ref 178, .ref 179, .ref 180, .ref 181, .ref 182, .ref 183, .ref 184, .ref 185, .ref 186, .ref 187, .ref 188, .ref 189, .ref 190, .ref 191, .ref 192, .ref 193, .ref 194, .ref 195, .ref 196, .ref 197, .ref 198, .ref 199, .ref 200, .ref 201, .ref 202, .ref 203, .ref 204, .ref 205, .ref 206, .ref 207, .ref 208, .ref 209, .ref 210, .ref 211, .ref 212, .ref 213, .ref 214, .ref 215, .ref 216, .ref 217, .ref 218, .ref 219, .ref 220, .ref 221, .ref 222, .ref 223, .ref 224, .ref 225, .ref 226, .ref 227, .ref 228, .ref 229, .ref 230, .ref 231, .ref 232, .ref 233, .ref 234, .ref 235, .ref 236, .ref 237, .ref 238, .ref 239, .ref 240, .ref 241, .ref 242, .ref 243, .ref 244, .ref 245, .ref 246, .ref 247, .ref 248, .ref 249, .ref 250, .ref 251, .ref 252, .ref 253, .ref 254, .ref 255, .ref 256, .ref 257, .ref 258, .ref 259, .ref 260, .ref 261], vm := .none }]
def classes : Array Class := #[k0, k1, k2, k3, k4, k5, k6, k7, k8, k9, k10, k11, k12, k13, k14, k15, k16, k17, k18, k19, k20, k21, k22, k23, k24, k25, k26, k27, k28]
def interned : List (Array UInt16 × Addr) := []
def slotsUsed : Nat := 528
def theMethod : MethodId := ⟨1, 1⟩
def args0 : Array Value := #[.int 5, .int 5, .int 5]
def aboutOver (below : List Frame) : State where
  vm := { classes := classes, interned := interned.toArray }
  heap := heap
  slotsUsed := slotsUsed
  threads := #[{ frames := .invoking theMethod args0 :: below }]
def below0 : List Frame := [.native { method := ⟨0, 0⟩, args := #[] }]
def about1 : State := aboutOver below0
def p0 : Program := .bare "" "" ""
def e0 : Env := launch0.env 0 0 0
theorem w_frames : about1.frames = Frame.invoking theMethod args0 :: below0 := rfl
set_option maxRecDepth 65536 in
theorem w_args : argsFit about1.vm theMethod args0 = true := by decide +kernel
set_option maxRecDepth 65536 in
theorem w_heap : heapFits about1 = true := by decide +kernel
set_option maxRecDepth 65536 in
theorem w_runnable : about1.curStatus? = some .runnable := by decide +kernel
set_option maxRecDepth 65536 in
theorem w_alone : about1.alone = true := by decide +kernel
set_option maxRecDepth 65536 in
theorem w_named : about1.methodNamed? x = some theMethod := by decide +kernel
set_option maxRecDepth 65536 in
theorem w_hears : about1.hears theMethod below0 = true := by decide +kernel
set_option maxRecDepth 65536 in
theorem w_ripe : about1.ripe theMethod args0 below0 = true := by decide +kernel
theorem w_running : about1.status = .running := rfl
set_option maxRecDepth 65536 in
theorem w_room : about1.hasRoom e0.platform room_1 = true :=
  launch0.hasRoom_least _ room_1 (by decide +kernel) (by decide +kernel) (by decide +kernel) (by decide +kernel) (by decide +kernel) (by decide +kernel)
theorem allAtoms_all (ts : List Jvm.Cond) (a : Array Jvm.Value) (st : Jvm.State) : (allAtoms ts).before a st = ts.all (fun c => c.before a st) := by
  induction ts with
  | nil => rfl
  | cons c t ih =>
    show (Jvm.Cond.and c (allAtoms t)).before a st = _
    rw [Jvm.Cond.before_and, ih, List.all_cons]
def words1 : List Jvm.Cond := Jvm.Cond.code x code maxLocals ret :: tables_1
/-- a 'code' word, met by the world's own term for the bytes: nothing is compared byte by byte -/
theorem code_word {y : MethodName} {bytes : ByteArray} {mx : Nat} {rt : Option FieldType} {a : Array Value} {s : State} {m : MethodId} {meth : Method} {c : Code} (h1 : s.methodNamed? y = some m) (h2 : s.vm.method? m = some meth) (h3 : meth.code = some c) (h4 : c.code = bytes)
    (h5 : (c.maxLocals == mx && c.exceptionTable.isEmpty && decide (c.maxStack ≤ mostOperands) && decide (meth.sig.returnType = rt) && !meth.locks && decide (parseMethodDescriptor y.desc = some meth.sig)) = true) : (Jvm.Cond.code y bytes mx rt).before a s = true := by
  simp only [Bool.and_eq_true, beq_iff_eq, Bool.not_eq_true', decide_eq_true_eq] at h5
  obtain ⟨⟨⟨⟨⟨g1, g2⟩, g3⟩, g4⟩, g5⟩, g6⟩ := h5
  simp [Cond.before, Cond.holds, Cond.value, h1, h2, h3, h4, g1, g2, g3, g4, g5, g6]
def isCode : Jvm.Cond → Bool
  | .code _ _ _ _ => true
  | _ => false
theorem all_split {L : List Jvm.Cond} {P : Jvm.Cond → Bool} (h1 : L.all (fun c => isCode c || P c) = true) (h2 : ∀ c ∈ L.filter isCode, P c = true) : L.all P = true := by
  refine List.all_eq_true.mpr fun c hc => ?_
  have h := List.all_eq_true.mp h1 c hc
  rcases Bool.eq_false_or_eq_true (isCode c) with hi | hi
  · exact h2 c (List.mem_filter.mpr ⟨hc, hi⟩)
  · simpa [hi] using h
set_option maxRecDepth 65536 in
theorem w_c0 : (Jvm.Cond.code x code maxLocals ret).before args0 about1 = true := code_word (m := ⟨1, 1⟩) (meth := k1m1) (c := k1c1) (by decide +kernel) rfl rfl rfl (by decide +kernel)
set_option maxRecDepth 65536 in
theorem w_c1 : (Jvm.Cond.code ({ cls := "com/example/rondel/rondel/RingBuffer", name := "<init>", desc := "(ILcom/example/rondel/rondel/OverflowPolicy;)V" } : Jvm.MethodName) prog_2_method_2_code (3 : Nat) (Option.none : Option Jvm.ClassFile.FieldType)).before args0 about1 = true := code_word (m := ⟨12, 0⟩) (meth := k12m0) (c := k12c0) (by decide +kernel) rfl rfl rfl (by decide +kernel)
set_option maxRecDepth 65536 in
theorem w_c2 : (Jvm.Cond.code ({ cls := "java/util/AbstractQueue", name := "<init>", desc := "()V" } : Jvm.MethodName) jdk_2435_method_1_code (1 : Nat) (Option.none : Option Jvm.ClassFile.FieldType)).before args0 about1 = true := code_word (m := ⟨11, 0⟩) (meth := k11m0) (c := k11c0) (by decide +kernel) rfl rfl rfl (by decide +kernel)
set_option maxRecDepth 65536 in
theorem w_c3 : (Jvm.Cond.code ({ cls := "java/util/AbstractCollection", name := "<init>", desc := "()V" } : Jvm.MethodName) jdk_22_method_1_code (1 : Nat) (Option.none : Option Jvm.ClassFile.FieldType)).before args0 about1 = true := code_word (m := ⟨9, 0⟩) (meth := k9m0) (c := k9c0) (by decide +kernel) rfl rfl rfl (by decide +kernel)
set_option maxRecDepth 65536 in
theorem w_c4 : (Jvm.Cond.code ({ cls := "java/lang/Object", name := "<init>", desc := "()V" } : Jvm.MethodName) object_method_1_code (1 : Nat) (Option.none : Option Jvm.ClassFile.FieldType)).before args0 about1 = true := code_word (m := ⟨0, 0⟩) (meth := k0m0) (c := k0c0) (by decide +kernel) rfl rfl rfl (by decide +kernel)
set_option maxRecDepth 65536 in
theorem w_c5 : (Jvm.Cond.code ({ cls := "com/example/rondel/rondel/RingBuffer", name := "checkCapacity", desc := "(I)V" } : Jvm.MethodName) prog_2_method_26_code (1 : Nat) (Option.none : Option Jvm.ClassFile.FieldType)).before args0 about1 = true := code_word (m := ⟨12, 7⟩) (meth := k12m7) (c := k12c7) (by decide +kernel) rfl rfl rfl (by decide +kernel)
set_option maxRecDepth 65536 in
theorem w_c6 : (Jvm.Cond.code ({ cls := "java/util/Objects", name := "requireNonNull", desc := "(Ljava/lang/Object;Ljava/lang/String;)Ljava/lang/Object;" } : Jvm.MethodName) jdk_31_method_11_code (2 : Nat) (Option.some (Jvm.ClassFile.FieldType.object "java/lang/Object"))).before args0 about1 = true := code_word (m := ⟨16, 1⟩) (meth := k16m1) (c := k16c1) (by decide +kernel) rfl rfl rfl (by decide +kernel)
set_option maxRecDepth 65536 in
theorem w_c7 : (Jvm.Cond.code ({ cls := "com/example/rondel/rondel/RingBufferSizePinLaw", name := "step", desc := "(Lcom/example/rondel/rondel/RingBuffer;[IIIII)V" } : Jvm.MethodName) method_3_code (8 : Nat) (Option.none : Option Jvm.ClassFile.FieldType)).before args0 about1 = true := code_word (m := ⟨1, 2⟩) (meth := k1m2) (c := k1c2) (by decide +kernel) rfl rfl rfl (by decide +kernel)
set_option maxRecDepth 65536 in
theorem w_c8 : (Jvm.Cond.code ({ cls := "com/example/rondel/rondel/RingBuffer", name := "size", desc := "()I" } : Jvm.MethodName) prog_2_method_7_code (2 : Nat) (Option.some Jvm.ClassFile.FieldType.int)).before args0 about1 = true := code_word (m := ⟨12, 2⟩) (meth := k12m2) (c := k12c2) (by decide +kernel) rfl rfl rfl (by decide +kernel)
set_option maxRecDepth 65536 in
theorem w_c9 : (Jvm.Cond.code ({ cls := "java/lang/Integer", name := "valueOf", desc := "(I)Ljava/lang/Integer;" } : Jvm.MethodName) jdk_33_method_22_code (1 : Nat) (Option.some (Jvm.ClassFile.FieldType.object "java/lang/Integer"))).before args0 about1 = true := code_word (m := ⟨18, 0⟩) (meth := k18m0) (c := k18c0) (by decide +kernel) rfl rfl rfl (by decide +kernel)
set_option maxRecDepth 65536 in
theorem w_c10 : (Jvm.Cond.code ({ cls := "com/example/rondel/rondel/RingBuffer", name := "offer", desc := "(Ljava/lang/Object;)Z" } : Jvm.MethodName) prog_2_method_10_code (2 : Nat) (Option.some Jvm.ClassFile.FieldType.boolean)).before args0 about1 = true := code_word (m := ⟨12, 3⟩) (meth := k12m3) (c := k12c3) (by decide +kernel) rfl rfl rfl (by decide +kernel)
set_option maxRecDepth 65536 in
theorem w_c11 : (Jvm.Cond.code ({ cls := "com/example/rondel/rondel/RingBuffer", name := "push", desc := "(Ljava/lang/Object;Z)Ljava/lang/Object;" } : Jvm.MethodName) prog_2_method_27_code (7 : Nat) (Option.some (Jvm.ClassFile.FieldType.object "java/lang/Object"))).before args0 about1 = true := code_word (m := ⟨12, 8⟩) (meth := k12m8) (c := k12c8) (by decide +kernel) rfl rfl rfl (by decide +kernel)
set_option maxRecDepth 65536 in
theorem w_c12 : (Jvm.Cond.code ({ cls := "com/example/rondel/rondel/RingBuffer", name := "append", desc := "(Ljava/lang/Object;)V" } : Jvm.MethodName) prog_2_method_28_code (4 : Nat) (Option.none : Option Jvm.ClassFile.FieldType)).before args0 about1 = true := code_word (m := ⟨12, 9⟩) (meth := k12m9) (c := k12c9) (by decide +kernel) rfl rfl rfl (by decide +kernel)
set_option maxRecDepth 65536 in
theorem w_c13 : (Jvm.Cond.code ({ cls := "com/example/rondel/rondel/RingBuffer", name := "advance", desc := "(II)I" } : Jvm.MethodName) prog_2_method_32_code (4 : Nat) (Option.some Jvm.ClassFile.FieldType.int)).before args0 about1 = true := code_word (m := ⟨12, 11⟩) (meth := k12m11) (c := k12c11) (by decide +kernel) rfl rfl rfl (by decide +kernel)
set_option maxRecDepth 65536 in
theorem w_c14 : (Jvm.Cond.code ({ cls := "com/example/rondel/rondel/RingBuffer", name := "setCapacity", desc := "(I)V" } : Jvm.MethodName) prog_2_method_4_code (5 : Nat) (Option.none : Option Jvm.ClassFile.FieldType)).before args0 about1 = true := code_word (m := ⟨12, 1⟩) (meth := k12m1) (c := k12c1) (by decide +kernel) rfl rfl rfl (by decide +kernel)
set_option maxRecDepth 65536 in
theorem w_c15 : (Jvm.Cond.code ({ cls := "java/lang/Math", name := "max", desc := "(II)I" } : Jvm.MethodName) jdk_29_method_65_code (2 : Nat) (Option.some Jvm.ClassFile.FieldType.int)).before args0 about1 = true := code_word (m := ⟨20, 1⟩) (meth := k20m1) (c := k20c1) (by decide +kernel) rfl rfl rfl (by decide +kernel)
set_option maxRecDepth 65536 in
theorem w_c16 : (Jvm.Cond.code ({ cls := "com/example/rondel/rondel/RingBuffer", name := "copyInto", desc := "([Ljava/lang/Object;)V" } : Jvm.MethodName) prog_2_method_25_code (4 : Nat) (Option.none : Option Jvm.ClassFile.FieldType)).before args0 about1 = true := code_word (m := ⟨12, 6⟩) (meth := k12m6) (c := k12c6) (by decide +kernel) rfl rfl rfl (by decide +kernel)
set_option maxRecDepth 65536 in
theorem w_c17 : (Jvm.Cond.code ({ cls := "java/lang/Math", name := "min", desc := "(II)I" } : Jvm.MethodName) jdk_29_method_69_code (2 : Nat) (Option.some Jvm.ClassFile.FieldType.int)).before args0 about1 = true := code_word (m := ⟨20, 2⟩) (meth := k20m2) (c := k20c2) (by decide +kernel) rfl rfl rfl (by decide +kernel)
set_option maxRecDepth 65536 in
theorem w_c18 : (Jvm.Cond.code ({ cls := "com/example/rondel/rondel/RingBuffer", name := "poll", desc := "()Ljava/lang/Object;" } : Jvm.MethodName) prog_2_method_11_code (2 : Nat) (Option.some (Jvm.ClassFile.FieldType.object "java/lang/Object"))).before args0 about1 = true := code_word (m := ⟨12, 4⟩) (meth := k12m4) (c := k12c4) (by decide +kernel) rfl rfl rfl (by decide +kernel)
set_option maxRecDepth 65536 in
theorem w_c19 : (Jvm.Cond.code ({ cls := "com/example/rondel/rondel/RingBuffer", name := "peek", desc := "()Ljava/lang/Object;" } : Jvm.MethodName) prog_2_method_12_code (1 : Nat) (Option.some (Jvm.ClassFile.FieldType.object "java/lang/Object"))).before args0 about1 = true := code_word (m := ⟨12, 5⟩) (meth := k12m5) (c := k12c5) (by decide +kernel) rfl rfl rfl (by decide +kernel)
set_option maxRecDepth 65536 in
theorem w_c20 : (Jvm.Cond.code ({ cls := "com/example/rondel/rondel/RingBuffer", name := "elementAt", desc := "(I)Ljava/lang/Object;" } : Jvm.MethodName) prog_2_method_33_code (2 : Nat) (Option.some (Jvm.ClassFile.FieldType.object "java/lang/Object"))).before args0 about1 = true := code_word (m := ⟨12, 12⟩) (meth := k12m12) (c := k12c12) (by decide +kernel) rfl rfl rfl (by decide +kernel)
set_option maxRecDepth 65536 in
theorem w_c21 : (Jvm.Cond.code ({ cls := "com/example/rondel/rondel/RingBuffer", name := "dropOldest", desc := "()V" } : Jvm.MethodName) prog_2_method_30_code (3 : Nat) (Option.none : Option Jvm.ClassFile.FieldType)).before args0 about1 = true := code_word (m := ⟨12, 10⟩) (meth := k12m10) (c := k12c10) (by decide +kernel) rfl rfl rfl (by decide +kernel)
def codes1 : List Jvm.Cond := [Jvm.Cond.code x code maxLocals ret, Jvm.Cond.code ({ cls := "com/example/rondel/rondel/RingBuffer", name := "<init>", desc := "(ILcom/example/rondel/rondel/OverflowPolicy;)V" } : Jvm.MethodName) prog_2_method_2_code (3 : Nat) (Option.none : Option Jvm.ClassFile.FieldType), Jvm.Cond.code ({ cls := "java/util/AbstractQueue", name := "<init>", desc := "()V" } : Jvm.MethodName) jdk_2435_method_1_code (1 : Nat) (Option.none : Option Jvm.ClassFile.FieldType), Jvm.Cond.code ({ cls := "java/util/AbstractCollection", name := "<init>", desc := "()V" } : Jvm.MethodName) jdk_22_method_1_code (1 : Nat) (Option.none : Option Jvm.ClassFile.FieldType), Jvm.Cond.code ({ cls := "java/lang/Object", name := "<init>", desc := "()V" } : Jvm.MethodName) object_method_1_code (1 : Nat) (Option.none : Option Jvm.ClassFile.FieldType), Jvm.Cond.code ({ cls := "com/example/rondel/rondel/RingBuffer", name := "checkCapacity", desc := "(I)V" } : Jvm.MethodName) prog_2_method_26_code (1 : Nat) (Option.none : Option Jvm.ClassFile.FieldType), Jvm.Cond.code ({ cls := "java/util/Objects", name := "requireNonNull", desc := "(Ljava/lang/Object;Ljava/lang/String;)Ljava/lang/Object;" } : Jvm.MethodName) jdk_31_method_11_code (2 : Nat) (Option.some (Jvm.ClassFile.FieldType.object "java/lang/Object")), Jvm.Cond.code ({ cls := "com/example/rondel/rondel/RingBufferSizePinLaw", name := "step", desc := "(Lcom/example/rondel/rondel/RingBuffer;[IIIII)V" } : Jvm.MethodName) method_3_code (8 : Nat) (Option.none : Option Jvm.ClassFile.FieldType), Jvm.Cond.code ({ cls := "com/example/rondel/rondel/RingBuffer", name := "size", desc := "()I" } : Jvm.MethodName) prog_2_method_7_code (2 : Nat) (Option.some Jvm.ClassFile.FieldType.int), Jvm.Cond.code ({ cls := "java/lang/Integer", name := "valueOf", desc := "(I)Ljava/lang/Integer;" } : Jvm.MethodName) jdk_33_method_22_code (1 : Nat) (Option.some (Jvm.ClassFile.FieldType.object "java/lang/Integer")), Jvm.Cond.code ({ cls := "com/example/rondel/rondel/RingBuffer", name := "offer", desc := "(Ljava/lang/Object;)Z" } : Jvm.MethodName) prog_2_method_10_code (2 : Nat) (Option.some Jvm.ClassFile.FieldType.boolean), Jvm.Cond.code ({ cls := "com/example/rondel/rondel/RingBuffer", name := "push", desc := "(Ljava/lang/Object;Z)Ljava/lang/Object;" } : Jvm.MethodName) prog_2_method_27_code (7 : Nat) (Option.some (Jvm.ClassFile.FieldType.object "java/lang/Object")), Jvm.Cond.code ({ cls := "com/example/rondel/rondel/RingBuffer", name := "append", desc := "(Ljava/lang/Object;)V" } : Jvm.MethodName) prog_2_method_28_code (4 : Nat) (Option.none : Option Jvm.ClassFile.FieldType), Jvm.Cond.code ({ cls := "com/example/rondel/rondel/RingBuffer", name := "advance", desc := "(II)I" } : Jvm.MethodName) prog_2_method_32_code (4 : Nat) (Option.some Jvm.ClassFile.FieldType.int), Jvm.Cond.code ({ cls := "com/example/rondel/rondel/RingBuffer", name := "setCapacity", desc := "(I)V" } : Jvm.MethodName) prog_2_method_4_code (5 : Nat) (Option.none : Option Jvm.ClassFile.FieldType), Jvm.Cond.code ({ cls := "java/lang/Math", name := "max", desc := "(II)I" } : Jvm.MethodName) jdk_29_method_65_code (2 : Nat) (Option.some Jvm.ClassFile.FieldType.int), Jvm.Cond.code ({ cls := "com/example/rondel/rondel/RingBuffer", name := "copyInto", desc := "([Ljava/lang/Object;)V" } : Jvm.MethodName) prog_2_method_25_code (4 : Nat) (Option.none : Option Jvm.ClassFile.FieldType), Jvm.Cond.code ({ cls := "java/lang/Math", name := "min", desc := "(II)I" } : Jvm.MethodName) jdk_29_method_69_code (2 : Nat) (Option.some Jvm.ClassFile.FieldType.int), Jvm.Cond.code ({ cls := "com/example/rondel/rondel/RingBuffer", name := "poll", desc := "()Ljava/lang/Object;" } : Jvm.MethodName) prog_2_method_11_code (2 : Nat) (Option.some (Jvm.ClassFile.FieldType.object "java/lang/Object")), Jvm.Cond.code ({ cls := "com/example/rondel/rondel/RingBuffer", name := "peek", desc := "()Ljava/lang/Object;" } : Jvm.MethodName) prog_2_method_12_code (1 : Nat) (Option.some (Jvm.ClassFile.FieldType.object "java/lang/Object")), Jvm.Cond.code ({ cls := "com/example/rondel/rondel/RingBuffer", name := "elementAt", desc := "(I)Ljava/lang/Object;" } : Jvm.MethodName) prog_2_method_33_code (2 : Nat) (Option.some (Jvm.ClassFile.FieldType.object "java/lang/Object")), Jvm.Cond.code ({ cls := "com/example/rondel/rondel/RingBuffer", name := "dropOldest", desc := "()V" } : Jvm.MethodName) prog_2_method_30_code (3 : Nat) (Option.none : Option Jvm.ClassFile.FieldType)]
set_option maxRecDepth 65536 in
theorem codes_eq : words1.filter isCode = codes1 := rfl
theorem w_codes : ∀ c ∈ words1.filter isCode, c.before args0 about1 = true := by
  rw [codes_eq]
  intro c hc
  simp only [codes1, List.mem_cons, List.not_mem_nil, or_false] at hc
  rcases hc with rfl | rfl | rfl | rfl | rfl | rfl | rfl | rfl | rfl | rfl | rfl | rfl | rfl | rfl | rfl | rfl | rfl | rfl | rfl | rfl | rfl | rfl
  · exact w_c0
  · exact w_c1
  · exact w_c2
  · exact w_c3
  · exact w_c4
  · exact w_c5
  · exact w_c6
  · exact w_c7
  · exact w_c8
  · exact w_c9
  · exact w_c10
  · exact w_c11
  · exact w_c12
  · exact w_c13
  · exact w_c14
  · exact w_c15
  · exact w_c16
  · exact w_c17
  · exact w_c18
  · exact w_c19
  · exact w_c20
  · exact w_c21
set_option maxRecDepth 65536 in
theorem w_t1 : (words1.take 24).all (fun c => isCode c || c.before args0 about1) = true := by decide +kernel
set_option maxRecDepth 65536 in
theorem w_t2 : ((words1.drop 24).take 24).all (fun c => isCode c || c.before args0 about1) = true := by decide +kernel
set_option maxRecDepth 65536 in
theorem w_t3 : (((words1.drop 24).drop 24).take 24).all (fun c => isCode c || c.before args0 about1) = true := by decide +kernel
set_option maxRecDepth 65536 in
theorem w_t4 : ((((words1.drop 24).drop 24).drop 24).take 24).all (fun c => isCode c || c.before args0 about1) = true := by decide +kernel
set_option maxRecDepth 65536 in
theorem w_t5 : (((((words1.drop 24).drop 24).drop 24).drop 24).take 24).all (fun c => isCode c || c.before args0 about1) = true := by decide +kernel
set_option maxRecDepth 65536 in
theorem w_t6 : (((((words1.drop 24).drop 24).drop 24).drop 24).drop 24).all (fun c => isCode c || c.before args0 about1) = true := by decide +kernel
theorem w_tables : (allAtoms (Jvm.Cond.code x code maxLocals ret :: tables_1)).before args0 about1 = true := by
  rw [allAtoms_all]
  show words1.all (fun c => c.before args0 about1) = true
  refine all_split ?_ w_codes
  rw [← List.take_append_drop 24 words1, List.all_append, w_t1, ← List.take_append_drop 24 (words1.drop 24), List.all_append, w_t2, ← List.take_append_drop 24 ((words1.drop 24).drop 24), List.all_append, w_t3, ← List.take_append_drop 24 (((words1.drop 24).drop 24).drop 24), List.all_append, w_t4, ← List.take_append_drop 24 ((((words1.drop 24).drop 24).drop 24).drop 24), List.all_append, w_t5, w_t6]
  rfl
set_option maxRecDepth 65536 in
theorem w_rest : rest_1_c.before args0 about1 = true := by decide +kernel
set_option maxRecDepth 65536 in
theorem w_case : (Jvm.Cond.and given_1 narrow_1).before args0 about1 = true := by decide +kernel
theorem w_applies : (headSpec (Jvm.Cond.code x code maxLocals ret :: tables_1) room_1).applies x e0.platform about1 = true :=
  (Spec.applies_iff w_frames).mpr ⟨w_running, w_runnable, w_alone, w_named, w_hears, w_ripe, w_room, w_tables⟩
theorem atStart : AtStart classFile x code maxLocals ret World_1 tables_1 room_1 Calls_1 rest_1 Pre_1 launch0 p0 e0 about1 theMethod args0 below0 :=
  ⟨lists_1, trivial, launch0.admits_env _ _ _, launch0.least_env, fairChoices_fair.cas, fairChoices_fair.clock, w_frames, w_args, w_heap, w_applies, trivial, w_rest, w_case⟩
end start1
theorem witness_1 : WitnessClaimed_1 := ⟨start1.p0, start1.e0, start1.about1, start1.theMethod, start1.args0, start1.below0, start1.atStart⟩
end Jvm.Pilot.@@N@@
