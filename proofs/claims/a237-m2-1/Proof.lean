import JvmDerived
import JvmDerived.Pilot.@@N@@Statement
import JvmDerived.Pilot.@@N@@Code
set_option linter.unusedVariables false
set_option linter.unusedSimpArgs false
namespace Jvm.Pilot.@@N@@
open Jvm Jvm.ClassFile Sem Op Lib Jvm.Free Jvm.Stand Jvm.LawKit Jvm.RoadKit Bundle Jvm.Pilot.@@N@@.Jvm.D
section OwnKit
variable {p : Program} {l : Launch} {e : Env} {R : Room} {s : State} {m : MethodId} {args : Array Value} {below : List Frame} {meth : Method} {c : Code} {T : State} {Z : State} {own mn : String} {bytes : ByteArray} {ml n0 k n : Nat} {rt : Option FieldType} {h : Heap} {G : Outcome → State → Prop} {pc q : Nat} {L : Array Slot} {st rest : List Value} {a0 : Array Value}
/-- the run from S comes to an end of which G speaks -/
def Goes (p : Program) (e : Env) (below : List Frame) (G : Outcome → State → Prop) (S : State) : Prop := ∃ s₂ o, Steps p.tables e below S s₂ ∧ s₂.status = .running ∧ Ended s₂ below o ∧ G o s₂
theorem go_st {S S' : State} (f : ∀ t, Steps p.tables e below S' t → Steps p.tables e below S t) (r : Goes p e below G S') : Goes p e below G S := by
  obtain ⟨s₂, o, a, b⟩ := r; exact ⟨s₂, o, f _ a, b⟩
theorem go_tr {S S' : State} (f : Steps p.tables e below S S') (r : Goes p e below G S') : Goes p e below G S := by
  obtain ⟨s₂, o, a, b⟩ := r; exact ⟨s₂, o, f.trans a, b⟩
/-- what a body's walk knows from its start on -/
def Cx (p : Program) (s : State) (m : MethodId) (meth : Method) (c : Code) (Z : State) (own : String) (bytes : ByteArray) (ml : Nat) (rt : Option FieldType) (mn : String) : Prop :=
  p.tables.exec = Jvm.exec ∧ Z.Warmed39 s.vm ∧ s.vm.findClass own = some m.cls ∧ c.code = bytes ∧ c.maxLocals = ml ∧ meth.sig.returnType = rt ∧ meth.locks = false ∧ meth.name = mn
/-- where it stands: the heap is h; all that was written lies at n0 or above; at most k cells and n slots are new -/
def St (p : Program) (l : Launch) (e : Env) (R : Room) (s : State) (m : MethodId) (args : Array Value) (below : List Frame) (meth : Method) (c : Code) (n0 : Nat) (T : State) (h : Heap) (k n : Nat) : Prop :=
  ∃ locs cells slots, Stand p l e R s m args below meth c T locs cells slots ∧ Fr n0 locs ∧ T.heap = h ∧ cells ≤ k ∧ slots ≤ n
def FinN (Q : Option Value → Heap → Prop) (s : State) (n0 k n : Nat) (o : Outcome) (U : State) : Prop := ∃ v L, o = .returned v ∧ (Fr n0 L ∧ Q v U.heap) ∧ FrameEnd s o U L k n
def Met (l : Launch) (Z : State) (y : MethodName) (bytes : ByteArray) (ml : Nat) (rt : Option FieldType) (rm : Room) (as' : Array Value) (h0 : Heap) (n0 : Nat) (Q : Option Value → Heap → Prop) : Prop :=
  ∀ ws : List Jvm.Cond, MetFree l y (head1 (Jvm.Cond.code y bytes ml rt :: ws) rm) (fun a U => a = as' ∧ Z.Warmed39 U.vm ∧ U.heap = h0) (fun _ _ _ _ _ => True) (fun _ U o U' => ∃ v L, o = .returned v ∧ (Fr n0 L ∧ Q v U'.heap) ∧ FrameEnd U o U' L rm.cells rm.slots)
abbrev Met1 (l : Launch) (Z : State) (y : MethodName) (bytes : ByteArray) (ml : Nat) (rt : Option FieldType) (rm : Room) (as' : Array Value) (h0 : Heap) (n0 : Nat) (Q : Value → Heap → Prop) : Prop := Met l Z y bytes ml rt rm as' h0 n0 (fun v h => ∃ w, v = some w ∧ Q w h)
abbrev Met0 (l : Launch) (Z : State) (y : MethodName) (bytes : ByteArray) (ml : Nat) (rt : Option FieldType) (rm : Room) (as' : Array Value) (h0 : Heap) (n0 : Nat) (Q : Heap → Prop) : Prop := Met l Z y bytes ml rt rm as' h0 n0 (fun v h => v = none ∧ Q h)
theorem met_of {y : MethodName} {rm : Room} {as' : Array Value} {Q : Option Value → Heap → Prop} (hp : plainFor y = true) (hef : ∀ m, entryFrame m as' ml = mkF m 0 L [])
    (body : ∀ (p : Program) (e : Env) (s : State) (m : MethodId) (below : List Frame) (meth : Method) (c : Code) (T : State), Cx p s m meth c Z y.cls bytes ml rt y.name → St p l e rm s m as' below meth c n0 T h 0 0 → Goes p e below (FinN Q s n0 rm.cells rm.slots) (T.setTop (mkF m 0 L []))) :
    Met l Z y bytes ml rt rm as' h n0 Q := by
  intro ws
  refine MetFree.of_bodySF hp hisR ?_
  intro p e s m args below meth c s₁ Bd hml hP hK
  obtain ⟨rfl, hZ, hh⟩ := hP
  have e0 : s₁.heap = h := by rw [← hh, Bd.state]; rfl
  have b := body p e s m below meth c s₁ ⟨Bd.exec, hZ, findClass_of_methodNamed Bd.named, Bd.bytes, hml, Bd.returns, BodyLoose.notSynchronized Bd, (name_of_methodNamed Bd.named Bd.method).1⟩ ⟨[], 0, 0, Stand.of_body Bd, Fr.nil _, e0, Nat.le_refl _, Nat.le_refl _⟩
  rw [hef m]
  exact b
theorem St.mono {k' n' : Nat} (X : St p l e R s m args below meth c n0 T h k n) (hk : k ≤ k') (hn : n ≤ n') : St p l e R s m args below meth c n0 T h k' n' := by
  obtain ⟨a, b, d, x, y, z, u, v⟩ := X; exact ⟨a, b, d, x, y, z, Nat.le_trans u hk, Nat.le_trans v hn⟩
theorem g_aloadN (C : Cx p s m meth c Z own bytes ml rt mn) (X : St p l e R s m args below meth c n0 T h k n) {j : Fin 4} {v : Value} (hd : decode bytes pc = .ok (.aload_n j, 1)) (hq : pc + 1 = q) (hl : L[j.val]? = some (.val v)) (hv : v.isRef = true) (r : Goes p e below G (T.setTop (mkF m q L (v :: st)))) : Goes p e below G (T.setTop (mkF m pc L (st))) := by
  obtain ⟨hx, -, -, hby, -⟩ := C
  obtain ⟨_, _, _, X, -⟩ := X
  subst hq 
  exact go_st (fun t k => XS.aloadN X.here hx rfl (hb hby hd) hl hv k) r
theorem g_aload (C : Cx p s m meth c Z own bytes ml rt mn) (X : St p l e R s m args below meth c n0 T h k n) {j : Nat} {v : Value} (hd : decode bytes pc = .ok (.aload j, 2)) (hq : pc + 2 = q) (hl : L[j]? = some (.val v)) (hv : v.isRef = true) (r : Goes p e below G (T.setTop (mkF m q L (v :: st)))) : Goes p e below G (T.setTop (mkF m pc L (st))) := by
  obtain ⟨hx, -, -, hby, -⟩ := C
  obtain ⟨_, _, _, X, -⟩ := X
  subst hq 
  exact go_st (fun t k => XS.aload X.here hx rfl (hb hby hd) hl hv k) r
theorem g_iloadN (C : Cx p s m meth c Z own bytes ml rt mn) (X : St p l e R s m args below meth c n0 T h k n) {j : Fin 4} {v : Int32} (hd : decode bytes pc = .ok (.iload_n j, 1)) (hq : pc + 1 = q) (hl : L[j.val]? = some (.val (.int v))) (r : Goes p e below G (T.setTop (mkF m q L (.int v :: st)))) : Goes p e below G (T.setTop (mkF m pc L (st))) := by
  obtain ⟨hx, -, -, hby, -⟩ := C
  obtain ⟨_, _, _, X, -⟩ := X
  subst hq 
  exact go_st (fun t k => XS.iloadN X.here hx rfl (hb hby hd) hl k) r
theorem g_iload (C : Cx p s m meth c Z own bytes ml rt mn) (X : St p l e R s m args below meth c n0 T h k n) {j : Nat} {v : Int32} (hd : decode bytes pc = .ok (.iload j, 2)) (hq : pc + 2 = q) (hl : L[j]? = some (.val (.int v))) (r : Goes p e below G (T.setTop (mkF m q L (.int v :: st)))) : Goes p e below G (T.setTop (mkF m pc L (st))) := by
  obtain ⟨hx, -, -, hby, -⟩ := C
  obtain ⟨_, _, _, X, -⟩ := X
  subst hq 
  exact go_st (fun t k => XS.iload X.here hx rfl (hb hby hd) hl k) r
theorem g_lloadN (C : Cx p s m meth c Z own bytes ml rt mn) (X : St p l e R s m args below meth c n0 T h k n) {j : Fin 4} {v : Int64} (hd : decode bytes pc = .ok (.lload_n j, 1)) (hq : pc + 1 = q) (hl : L[j.val]? = some (.val (.long v))) (r : Goes p e below G (T.setTop (mkF m q L (.long v :: st)))) : Goes p e below G (T.setTop (mkF m pc L (st))) := by
  obtain ⟨hx, -, -, hby, -⟩ := C
  obtain ⟨_, _, _, X, -⟩ := X
  subst hq 
  exact go_st (fun t k => XS.lloadN X.here hx rfl (hb hby hd) hl k) r
theorem g_lload (C : Cx p s m meth c Z own bytes ml rt mn) (X : St p l e R s m args below meth c n0 T h k n) {j : Nat} {v : Int64} (hd : decode bytes pc = .ok (.lload j, 2)) (hq : pc + 2 = q) (hl : L[j]? = some (.val (.long v))) (r : Goes p e below G (T.setTop (mkF m q L (.long v :: st)))) : Goes p e below G (T.setTop (mkF m pc L (st))) := by
  obtain ⟨hx, -, -, hby, -⟩ := C
  obtain ⟨_, _, _, X, -⟩ := X
  subst hq 
  exact go_st (fun t k => XS.lload X.here hx rfl (hb hby hd) hl k) r
theorem g_iconst (C : Cx p s m meth c Z own bytes ml rt mn) (X : St p l e R s m args below meth c n0 T h k n) {i : Int} {z : Int32} (hd : decode bytes pc = .ok (.iconst i, 1)) (hq : pc + 1 = q) (hz : Int32.ofInt i = z) (r : Goes p e below G (T.setTop (mkF m q L (.int z :: st)))) : Goes p e below G (T.setTop (mkF m pc L (st))) := by
  obtain ⟨hx, -, -, hby, -⟩ := C
  obtain ⟨_, _, _, X, -⟩ := X
  subst hq hz
  exact go_st (fun t k => XS.iconst X.here hx rfl (hb hby hd)  k) r
theorem g_bipush (C : Cx p s m meth c Z own bytes ml rt mn) (X : St p l e R s m args below meth c n0 T h k n) {i : Int} {z : Int32} (hd : decode bytes pc = .ok (.bipush i, 2)) (hq : pc + 2 = q) (hz : (Int8.ofInt i).toInt32 = z) (r : Goes p e below G (T.setTop (mkF m q L (.int z :: st)))) : Goes p e below G (T.setTop (mkF m pc L (st))) := by
  obtain ⟨hx, -, -, hby, -⟩ := C
  obtain ⟨_, _, _, X, -⟩ := X
  subst hq hz
  exact go_st (fun t k => XS.bipush X.here hx rfl (hb hby hd)  k) r
theorem g_sipush (C : Cx p s m meth c Z own bytes ml rt mn) (X : St p l e R s m args below meth c n0 T h k n) {i : Int} {z : Int32} (hd : decode bytes pc = .ok (.sipush i, 3)) (hq : pc + 3 = q) (hz : (Int16.ofInt i).toInt32 = z) (r : Goes p e below G (T.setTop (mkF m q L (.int z :: st)))) : Goes p e below G (T.setTop (mkF m pc L (st))) := by
  obtain ⟨hx, -, -, hby, -⟩ := C
  obtain ⟨_, _, _, X, -⟩ := X
  subst hq hz
  exact go_st (fun t k => XS.sipush X.here hx rfl (hb hby hd)  k) r
theorem g_aconstNull (C : Cx p s m meth c Z own bytes ml rt mn) (X : St p l e R s m args below meth c n0 T h k n)  (hd : decode bytes pc = .ok (.aconst_null, 1)) (hq : pc + 1 = q)  (r : Goes p e below G (T.setTop (mkF m q L (.null :: st)))) : Goes p e below G (T.setTop (mkF m pc L (st))) := by
  obtain ⟨hx, -, -, hby, -⟩ := C
  obtain ⟨_, _, _, X, -⟩ := X
  subst hq 
  exact go_st (fun t k => XS.aconstNull X.here hx rfl (hb hby hd)  k) r
theorem g_iadd (C : Cx p s m meth c Z own bytes ml rt mn) (X : St p l e R s m args below meth c n0 T h k n) {x y z : Int32} (hd : decode bytes pc = .ok (.iadd, 1)) (hq : pc + 1 = q) (hz : x + y = z) (r : Goes p e below G (T.setTop (mkF m q L (.int z :: st)))) : Goes p e below G (T.setTop (mkF m pc L (.int y :: .int x :: st))) := by
  obtain ⟨hx, -, -, hby, -⟩ := C
  obtain ⟨_, _, _, X, -⟩ := X
  subst hq hz
  exact go_st (fun t k => XS.iadd X.here hx rfl (hb hby hd) rfl k) r
theorem g_isub (C : Cx p s m meth c Z own bytes ml rt mn) (X : St p l e R s m args below meth c n0 T h k n) {x y z : Int32} (hd : decode bytes pc = .ok (.isub, 1)) (hq : pc + 1 = q) (hz : x - y = z) (r : Goes p e below G (T.setTop (mkF m q L (.int z :: st)))) : Goes p e below G (T.setTop (mkF m pc L (.int y :: .int x :: st))) := by
  obtain ⟨hx, -, -, hby, -⟩ := C
  obtain ⟨_, _, _, X, -⟩ := X
  subst hq hz
  exact go_st (fun t k => XS.isub X.here hx rfl (hb hby hd) rfl k) r
theorem g_imul (C : Cx p s m meth c Z own bytes ml rt mn) (X : St p l e R s m args below meth c n0 T h k n) {x y z : Int32} (hd : decode bytes pc = .ok (.imul, 1)) (hq : pc + 1 = q) (hz : x * y = z) (r : Goes p e below G (T.setTop (mkF m q L (.int z :: st)))) : Goes p e below G (T.setTop (mkF m pc L (.int y :: .int x :: st))) := by
  obtain ⟨hx, -, -, hby, -⟩ := C
  obtain ⟨_, _, _, X, -⟩ := X
  subst hq hz
  exact go_st (fun t k => XS.imul X.here hx rfl (hb hby hd) rfl k) r
theorem g_iand (C : Cx p s m meth c Z own bytes ml rt mn) (X : St p l e R s m args below meth c n0 T h k n) {x y z : Int32} (hd : decode bytes pc = .ok (.iand, 1)) (hq : pc + 1 = q) (hz : x &&& y = z) (r : Goes p e below G (T.setTop (mkF m q L (.int z :: st)))) : Goes p e below G (T.setTop (mkF m pc L (.int y :: .int x :: st))) := by
  obtain ⟨hx, -, -, hby, -⟩ := C
  obtain ⟨_, _, _, X, -⟩ := X
  subst hq hz
  exact go_st (fun t k => XS.iand X.here hx rfl (hb hby hd) rfl k) r
theorem g_ior (C : Cx p s m meth c Z own bytes ml rt mn) (X : St p l e R s m args below meth c n0 T h k n) {x y z : Int32} (hd : decode bytes pc = .ok (.ior, 1)) (hq : pc + 1 = q) (hz : x ||| y = z) (r : Goes p e below G (T.setTop (mkF m q L (.int z :: st)))) : Goes p e below G (T.setTop (mkF m pc L (.int y :: .int x :: st))) := by
  obtain ⟨hx, -, -, hby, -⟩ := C
  obtain ⟨_, _, _, X, -⟩ := X
  subst hq hz
  exact go_st (fun t k => XS.ior X.here hx rfl (hb hby hd) rfl k) r
theorem g_ixor (C : Cx p s m meth c Z own bytes ml rt mn) (X : St p l e R s m args below meth c n0 T h k n) {x y z : Int32} (hd : decode bytes pc = .ok (.ixor, 1)) (hq : pc + 1 = q) (hz : x ^^^ y = z) (r : Goes p e below G (T.setTop (mkF m q L (.int z :: st)))) : Goes p e below G (T.setTop (mkF m pc L (.int y :: .int x :: st))) := by
  obtain ⟨hx, -, -, hby, -⟩ := C
  obtain ⟨_, _, _, X, -⟩ := X
  subst hq hz
  exact go_st (fun t k => XS.ixor X.here hx rfl (hb hby hd) rfl k) r
theorem g_ishl (C : Cx p s m meth c Z own bytes ml rt mn) (X : St p l e R s m args below meth c n0 T h k n) {x y z : Int32} (hd : decode bytes pc = .ok (.ishl, 1)) (hq : pc + 1 = q) (hz : x <<< (y &&& 31) = z) (r : Goes p e below G (T.setTop (mkF m q L (.int z :: st)))) : Goes p e below G (T.setTop (mkF m pc L (.int y :: .int x :: st))) := by
  obtain ⟨hx, -, -, hby, -⟩ := C
  obtain ⟨_, _, _, X, -⟩ := X
  subst hq hz
  exact go_st (fun t k => XS.ishl X.here hx rfl (hb hby hd) rfl k) r
theorem g_ishr (C : Cx p s m meth c Z own bytes ml rt mn) (X : St p l e R s m args below meth c n0 T h k n) {x y z : Int32} (hd : decode bytes pc = .ok (.ishr, 1)) (hq : pc + 1 = q) (hz : x >>> (y &&& 31) = z) (r : Goes p e below G (T.setTop (mkF m q L (.int z :: st)))) : Goes p e below G (T.setTop (mkF m pc L (.int y :: .int x :: st))) := by
  obtain ⟨hx, -, -, hby, -⟩ := C
  obtain ⟨_, _, _, X, -⟩ := X
  subst hq hz
  exact go_st (fun t k => XS.ishr X.here hx rfl (hb hby hd) rfl k) r
theorem g_iushr (C : Cx p s m meth c Z own bytes ml rt mn) (X : St p l e R s m args below meth c n0 T h k n) {x y z : Int32} (hd : decode bytes pc = .ok (.iushr, 1)) (hq : pc + 1 = q) (hz : (x.toUInt32 >>> (y &&& 31).toUInt32).toInt32 = z) (r : Goes p e below G (T.setTop (mkF m q L (.int z :: st)))) : Goes p e below G (T.setTop (mkF m pc L (.int y :: .int x :: st))) := by
  obtain ⟨hx, -, -, hby, -⟩ := C
  obtain ⟨_, _, _, X, -⟩ := X
  subst hq hz
  exact go_st (fun t k => XS.iushr X.here hx rfl (hb hby hd) rfl k) r
theorem g_idiv (C : Cx p s m meth c Z own bytes ml rt mn) (X : St p l e R s m args below meth c n0 T h k n) {x y z : Int32} (hd : decode bytes pc = .ok (.idiv, 1)) (hq : pc + 1 = q) (hy : y ≠ 0) (hz : x / y = z) (r : Goes p e below G (T.setTop (mkF m q L (.int z :: st)))) : Goes p e below G (T.setTop (mkF m pc L (.int y :: .int x :: st))) := by
  obtain ⟨hx, -, -, hby, -⟩ := C
  obtain ⟨_, _, _, X, -⟩ := X
  subst hq hz
  exact go_st (fun t k => XS.idiv X.here hx rfl (hb hby hd) rfl hy k) r
theorem g_irem (C : Cx p s m meth c Z own bytes ml rt mn) (X : St p l e R s m args below meth c n0 T h k n) {x y z : Int32} (hd : decode bytes pc = .ok (.irem, 1)) (hq : pc + 1 = q) (hy : y ≠ 0) (hz : x % y = z) (r : Goes p e below G (T.setTop (mkF m q L (.int z :: st)))) : Goes p e below G (T.setTop (mkF m pc L (.int y :: .int x :: st))) := by
  obtain ⟨hx, -, -, hby, -⟩ := C
  obtain ⟨_, _, _, X, -⟩ := X
  subst hq hz
  exact go_st (fun t k => iremM X hx rfl (hb hby hd) rfl hy k) r
theorem g_ineg (C : Cx p s m meth c Z own bytes ml rt mn) (X : St p l e R s m args below meth c n0 T h k n) {x z : Int32} (hd : decode bytes pc = .ok (.ineg, 1)) (hq : pc + 1 = q) (hz : -x = z) (r : Goes p e below G (T.setTop (mkF m q L (.int z :: st)))) : Goes p e below G (T.setTop (mkF m pc L (.int x :: st))) := by
  obtain ⟨hx, -, -, hby, -⟩ := C
  obtain ⟨_, _, _, X, -⟩ := X
  subst hq hz
  exact go_st (fun t k => XS.ineg X.here hx rfl (hb hby hd) rfl k) r
theorem g_ladd (C : Cx p s m meth c Z own bytes ml rt mn) (X : St p l e R s m args below meth c n0 T h k n) {x y z : Int64} (hd : decode bytes pc = .ok (.ladd, 1)) (hq : pc + 1 = q) (hz : x + y = z) (r : Goes p e below G (T.setTop (mkF m q L (.long z :: st)))) : Goes p e below G (T.setTop (mkF m pc L (.long y :: .long x :: st))) := by
  obtain ⟨hx, -, -, hby, -⟩ := C
  obtain ⟨_, _, _, X, -⟩ := X
  subst hq hz
  exact go_st (fun t k => XS.ladd X.here hx rfl (hb hby hd) rfl k) r
theorem g_lsub (C : Cx p s m meth c Z own bytes ml rt mn) (X : St p l e R s m args below meth c n0 T h k n) {x y z : Int64} (hd : decode bytes pc = .ok (.lsub, 1)) (hq : pc + 1 = q) (hz : x - y = z) (r : Goes p e below G (T.setTop (mkF m q L (.long z :: st)))) : Goes p e below G (T.setTop (mkF m pc L (.long y :: .long x :: st))) := by
  obtain ⟨hx, -, -, hby, -⟩ := C
  obtain ⟨_, _, _, X, -⟩ := X
  subst hq hz
  exact go_st (fun t k => XS.lsub X.here hx rfl (hb hby hd) rfl k) r
theorem g_lmul (C : Cx p s m meth c Z own bytes ml rt mn) (X : St p l e R s m args below meth c n0 T h k n) {x y z : Int64} (hd : decode bytes pc = .ok (.lmul, 1)) (hq : pc + 1 = q) (hz : x * y = z) (r : Goes p e below G (T.setTop (mkF m q L (.long z :: st)))) : Goes p e below G (T.setTop (mkF m pc L (.long y :: .long x :: st))) := by
  obtain ⟨hx, -, -, hby, -⟩ := C
  obtain ⟨_, _, _, X, -⟩ := X
  subst hq hz
  exact go_st (fun t k => XS.lmul X.here hx rfl (hb hby hd) rfl k) r
theorem g_land (C : Cx p s m meth c Z own bytes ml rt mn) (X : St p l e R s m args below meth c n0 T h k n) {x y z : Int64} (hd : decode bytes pc = .ok (.land, 1)) (hq : pc + 1 = q) (hz : x &&& y = z) (r : Goes p e below G (T.setTop (mkF m q L (.long z :: st)))) : Goes p e below G (T.setTop (mkF m pc L (.long y :: .long x :: st))) := by
  obtain ⟨hx, -, -, hby, -⟩ := C
  obtain ⟨_, _, _, X, -⟩ := X
  subst hq hz
  exact go_st (fun t k => XS.land X.here hx rfl (hb hby hd) rfl k) r
theorem g_lor (C : Cx p s m meth c Z own bytes ml rt mn) (X : St p l e R s m args below meth c n0 T h k n) {x y z : Int64} (hd : decode bytes pc = .ok (.lor, 1)) (hq : pc + 1 = q) (hz : x ||| y = z) (r : Goes p e below G (T.setTop (mkF m q L (.long z :: st)))) : Goes p e below G (T.setTop (mkF m pc L (.long y :: .long x :: st))) := by
  obtain ⟨hx, -, -, hby, -⟩ := C
  obtain ⟨_, _, _, X, -⟩ := X
  subst hq hz
  exact go_st (fun t k => XS.lor X.here hx rfl (hb hby hd) rfl k) r
theorem g_lxor (C : Cx p s m meth c Z own bytes ml rt mn) (X : St p l e R s m args below meth c n0 T h k n) {x y z : Int64} (hd : decode bytes pc = .ok (.lxor, 1)) (hq : pc + 1 = q) (hz : x ^^^ y = z) (r : Goes p e below G (T.setTop (mkF m q L (.long z :: st)))) : Goes p e below G (T.setTop (mkF m pc L (.long y :: .long x :: st))) := by
  obtain ⟨hx, -, -, hby, -⟩ := C
  obtain ⟨_, _, _, X, -⟩ := X
  subst hq hz
  exact go_st (fun t k => XS.lxor X.here hx rfl (hb hby hd) rfl k) r
theorem g_lshl (C : Cx p s m meth c Z own bytes ml rt mn) (X : St p l e R s m args below meth c n0 T h k n) {x z : Int64} {y : Int32} (hd : decode bytes pc = .ok (.lshl, 1)) (hq : pc + 1 = q) (hz : x <<< (y &&& 0x3f).toInt64 = z) (r : Goes p e below G (T.setTop (mkF m q L (.long z :: st)))) : Goes p e below G (T.setTop (mkF m pc L (.int y :: .long x :: st))) := by
  obtain ⟨hx, -, -, hby, -⟩ := C
  obtain ⟨_, _, _, X, -⟩ := X
  subst hq hz
  exact go_st (fun t k => XS.lshl X.here hx rfl (hb hby hd) rfl k) r
theorem g_lshr (C : Cx p s m meth c Z own bytes ml rt mn) (X : St p l e R s m args below meth c n0 T h k n) {x z : Int64} {y : Int32} (hd : decode bytes pc = .ok (.lshr, 1)) (hq : pc + 1 = q) (hz : x >>> (y &&& 0x3f).toInt64 = z) (r : Goes p e below G (T.setTop (mkF m q L (.long z :: st)))) : Goes p e below G (T.setTop (mkF m pc L (.int y :: .long x :: st))) := by
  obtain ⟨hx, -, -, hby, -⟩ := C
  obtain ⟨_, _, _, X, -⟩ := X
  subst hq hz
  exact go_st (fun t k => XS.lshr X.here hx rfl (hb hby hd) rfl k) r
theorem g_lushr (C : Cx p s m meth c Z own bytes ml rt mn) (X : St p l e R s m args below meth c n0 T h k n) {x z : Int64} {y : Int32} (hd : decode bytes pc = .ok (.lushr, 1)) (hq : pc + 1 = q) (hz : (x.toUInt64 >>> (y &&& 0x3f).toInt64.toUInt64).toInt64 = z) (r : Goes p e below G (T.setTop (mkF m q L (.long z :: st)))) : Goes p e below G (T.setTop (mkF m pc L (.int y :: .long x :: st))) := by
  obtain ⟨hx, -, -, hby, -⟩ := C
  obtain ⟨_, _, _, X, -⟩ := X
  subst hq hz
  exact go_st (fun t k => XS.lushr X.here hx rfl (hb hby hd) rfl k) r
theorem g_ldiv (C : Cx p s m meth c Z own bytes ml rt mn) (X : St p l e R s m args below meth c n0 T h k n) {x y z : Int64} (hd : decode bytes pc = .ok (.ldiv, 1)) (hq : pc + 1 = q) (hy : y ≠ 0) (hz : x / y = z) (r : Goes p e below G (T.setTop (mkF m q L (.long z :: st)))) : Goes p e below G (T.setTop (mkF m pc L (.long y :: .long x :: st))) := by
  obtain ⟨hx, -, -, hby, -⟩ := C
  obtain ⟨_, _, _, X, -⟩ := X
  subst hq hz
  exact go_st (fun t k => XS.ldiv X.here hx rfl (hb hby hd) rfl hy k) r
theorem g_lrem (C : Cx p s m meth c Z own bytes ml rt mn) (X : St p l e R s m args below meth c n0 T h k n) {x y z : Int64} (hd : decode bytes pc = .ok (.lrem, 1)) (hq : pc + 1 = q) (hy : y ≠ 0) (hz : x % y = z) (r : Goes p e below G (T.setTop (mkF m q L (.long z :: st)))) : Goes p e below G (T.setTop (mkF m pc L (.long y :: .long x :: st))) := by
  obtain ⟨hx, -, -, hby, -⟩ := C
  obtain ⟨_, _, _, X, -⟩ := X
  subst hq hz
  have w := lrem_mod x y
  exact go_st (fun t k => XS.lrem X.here hx rfl (hb hby hd) rfl hy (by rw [w]; exact k)) r
theorem g_lneg (C : Cx p s m meth c Z own bytes ml rt mn) (X : St p l e R s m args below meth c n0 T h k n) {x z : Int64} (hd : decode bytes pc = .ok (.lneg, 1)) (hq : pc + 1 = q) (hz : -x = z) (r : Goes p e below G (T.setTop (mkF m q L (.long z :: st)))) : Goes p e below G (T.setTop (mkF m pc L (.long x :: st))) := by
  obtain ⟨hx, -, -, hby, -⟩ := C
  obtain ⟨_, _, _, X, -⟩ := X
  subst hq hz
  exact go_st (fun t k => XS.lneg X.here hx rfl (hb hby hd) rfl k) r
theorem g_i2l (C : Cx p s m meth c Z own bytes ml rt mn) (X : St p l e R s m args below meth c n0 T h k n) {x : Int32} {z : Int64} (hd : decode bytes pc = .ok (.i2l, 1)) (hq : pc + 1 = q) (hz : x.toInt64 = z) (r : Goes p e below G (T.setTop (mkF m q L (.long z :: st)))) : Goes p e below G (T.setTop (mkF m pc L (.int x :: st))) := by
  obtain ⟨hx, -, -, hby, -⟩ := C
  obtain ⟨_, _, _, X, -⟩ := X
  subst hq hz
  exact go_st (fun t k => XS.i2l X.here hx rfl (hb hby hd) rfl k) r
theorem g_l2i (C : Cx p s m meth c Z own bytes ml rt mn) (X : St p l e R s m args below meth c n0 T h k n) {x : Int64} {z : Int32} (hd : decode bytes pc = .ok (.l2i, 1)) (hq : pc + 1 = q) (hz : x.toInt32 = z) (r : Goes p e below G (T.setTop (mkF m q L (.int z :: st)))) : Goes p e below G (T.setTop (mkF m pc L (.long x :: st))) := by
  obtain ⟨hx, -, -, hby, -⟩ := C
  obtain ⟨_, _, _, X, -⟩ := X
  subst hq hz
  exact go_st (fun t k => XS.l2i X.here hx rfl (hb hby hd) rfl k) r
theorem g_i2b (C : Cx p s m meth c Z own bytes ml rt mn) (X : St p l e R s m args below meth c n0 T h k n) {x z : Int32} (hd : decode bytes pc = .ok (.i2b, 1)) (hq : pc + 1 = q) (hz : x.toInt8.toInt32 = z) (r : Goes p e below G (T.setTop (mkF m q L (.int z :: st)))) : Goes p e below G (T.setTop (mkF m pc L (.int x :: st))) := by
  obtain ⟨hx, -, -, hby, -⟩ := C
  obtain ⟨_, _, _, X, -⟩ := X
  subst hq hz
  exact go_st (fun t k => XS.i2b X.here hx rfl (hb hby hd) rfl k) r
theorem g_i2s (C : Cx p s m meth c Z own bytes ml rt mn) (X : St p l e R s m args below meth c n0 T h k n) {x z : Int32} (hd : decode bytes pc = .ok (.i2s, 1)) (hq : pc + 1 = q) (hz : x.toInt16.toInt32 = z) (r : Goes p e below G (T.setTop (mkF m q L (.int z :: st)))) : Goes p e below G (T.setTop (mkF m pc L (.int x :: st))) := by
  obtain ⟨hx, -, -, hby, -⟩ := C
  obtain ⟨_, _, _, X, -⟩ := X
  subst hq hz
  exact go_st (fun t k => XS.i2s X.here hx rfl (hb hby hd) rfl k) r
theorem g_i2c (C : Cx p s m meth c Z own bytes ml rt mn) (X : St p l e R s m args below meth c n0 T h k n) {x z : Int32} (hd : decode bytes pc = .ok (.i2c, 1)) (hq : pc + 1 = q) (hz : x.toUInt32.toUInt16.toUInt32.toInt32 = z) (r : Goes p e below G (T.setTop (mkF m q L (.int z :: st)))) : Goes p e below G (T.setTop (mkF m pc L (.int x :: st))) := by
  obtain ⟨hx, -, -, hby, -⟩ := C
  obtain ⟨_, _, _, X, -⟩ := X
  subst hq hz
  exact go_st (fun t k => XS.i2c X.here hx rfl (hb hby hd) rfl k) r
theorem g_lconst (C : Cx p s m meth c Z own bytes ml rt mn) (X : St p l e R s m args below meth c n0 T h k n) {i : Fin 2} {z : Int64} (hd : decode bytes pc = .ok (.lconst i, 1)) (hq : pc + 1 = q) (hz : (i.val.toInt64) = z) (r : Goes p e below G (T.setTop (mkF m q L (.long z :: st)))) : Goes p e below G (T.setTop (mkF m pc L (st))) := by
  obtain ⟨hx, -, -, hby, -⟩ := C
  obtain ⟨_, _, _, X, -⟩ := X
  subst hq hz
  exact go_st (fun t k => XS.lconst X.here hx rfl (hb hby hd) k) r
theorem own_lcW (x y : Int64) : (if x > y then (1 : Int32) else if x = y then 0 else -1) = lcmpW x y := rfl
theorem g_lcmp (C : Cx p s m meth c Z own bytes ml rt mn) (X : St p l e R s m args below meth c n0 T h k n) {x y : Int64} {z : Int32} (hd : decode bytes pc = .ok (.lcmp, 1)) (hq : pc + 1 = q) (hz : lcmpW x y = z) (r : Goes p e below G (T.setTop (mkF m q L (.int z :: st)))) : Goes p e below G (T.setTop (mkF m pc L (.long y :: .long x :: st))) := by
  obtain ⟨hx, -, -, hby, -⟩ := C
  obtain ⟨_, _, _, X, -⟩ := X
  subst hq hz
  exact go_st (fun t k => XS.lcmp X.here hx rfl (hb hby hd) rfl k) r
theorem g_dup (C : Cx p s m meth c Z own bytes ml rt mn) (X : St p l e R s m args below meth c n0 T h k n) {x : Value} (hd : decode bytes pc = .ok (.dup, 1)) (hq : pc + 1 = q) (hc : x.category = 1) (r : Goes p e below G (T.setTop (mkF m q L (x :: x :: st)))) : Goes p e below G (T.setTop (mkF m pc L (x :: st))) := by
  obtain ⟨hx, -, -, hby, -⟩ := C
  obtain ⟨_, _, _, X, -⟩ := X
  subst hq 
  exact go_st (fun t k => XS.dup X.here hx rfl (hb hby hd) rfl hc k) r
theorem g_pop (C : Cx p s m meth c Z own bytes ml rt mn) (X : St p l e R s m args below meth c n0 T h k n) {x : Value} (hd : decode bytes pc = .ok (.pop, 1)) (hq : pc + 1 = q) (hc : x.category = 1) (r : Goes p e below G (T.setTop (mkF m q L (st)))) : Goes p e below G (T.setTop (mkF m pc L (x :: st))) := by
  obtain ⟨hx, -, -, hby, -⟩ := C
  obtain ⟨_, _, _, X, -⟩ := X
  subst hq 
  exact go_st (fun t k => XS.pop X.here hx rfl (hb hby hd) rfl hc k) r
theorem g_dupX1 (C : Cx p s m meth c Z own bytes ml rt mn) (X : St p l e R s m args below meth c n0 T h k n) {x y : Value} (hd : decode bytes pc = .ok (.dup_x1, 1)) (hq : pc + 1 = q) (hc : x.category = 1) (hc' : y.category = 1) (r : Goes p e below G (T.setTop (mkF m q L (x :: y :: x :: st)))) : Goes p e below G (T.setTop (mkF m pc L (x :: y :: st))) := by
  obtain ⟨hx, -, -, hby, -⟩ := C
  obtain ⟨_, _, _, X, -⟩ := X
  subst hq 
  exact go_st (fun t k => XS.dupX1 X.here hx rfl (hb hby hd) rfl hc hc' k) r
theorem g_dup2 (C : Cx p s m meth c Z own bytes ml rt mn) (X : St p l e R s m args below meth c n0 T h k n) {x y : Value} (hd : decode bytes pc = .ok (.dup2, 1)) (hq : pc + 1 = q) (hc : x.category = 1) (hc' : y.category = 1) (r : Goes p e below G (T.setTop (mkF m q L (x :: y :: x :: y :: st)))) : Goes p e below G (T.setTop (mkF m pc L (x :: y :: st))) := by
  obtain ⟨hx, -, -, hby, -⟩ := C
  obtain ⟨_, _, _, X, -⟩ := X
  subst hq 
  exact go_st (fun t k => Jvm.Free.XT.dup2 X.here hx rfl (hb hby hd) rfl hc hc' k) r
theorem g_istoreN (C : Cx p s m meth c Z own bytes ml rt mn) (X : St p l e R s m args below meth c n0 T h k n) {j : Fin 4} {x : Int32} {L' : Array Slot} (hd : decode bytes pc = .ok (.istore_n j, 1)) (hq : pc + 1 = q) (hl : storeLocals L j.val (.int x) = some L') (r : Goes p e below G (T.setTop (mkF m q L' (st)))) : Goes p e below G (T.setTop (mkF m pc L (.int x :: st))) := by
  obtain ⟨hx, -, -, hby, -⟩ := C
  obtain ⟨_, _, _, X, -⟩ := X
  subst hq 
  exact go_st (fun t k => XS.istoreN X.here hx rfl (hb hby hd) rfl hl k) r
theorem g_istore (C : Cx p s m meth c Z own bytes ml rt mn) (X : St p l e R s m args below meth c n0 T h k n) {j : Nat} {x : Int32} {L' : Array Slot} (hd : decode bytes pc = .ok (.istore j, 2)) (hq : pc + 2 = q) (hl : storeLocals L j (.int x) = some L') (r : Goes p e below G (T.setTop (mkF m q L' (st)))) : Goes p e below G (T.setTop (mkF m pc L (.int x :: st))) := by
  obtain ⟨hx, -, -, hby, -⟩ := C
  obtain ⟨_, _, _, X, -⟩ := X
  subst hq 
  exact go_st (fun t k => XS.istore X.here hx rfl (hb hby hd) rfl hl k) r
theorem g_lstoreN (C : Cx p s m meth c Z own bytes ml rt mn) (X : St p l e R s m args below meth c n0 T h k n) {j : Fin 4} {x : Int64} {L' : Array Slot} (hd : decode bytes pc = .ok (.lstore_n j, 1)) (hq : pc + 1 = q) (hl : storeLocals L j.val (.long x) = some L') (r : Goes p e below G (T.setTop (mkF m q L' (st)))) : Goes p e below G (T.setTop (mkF m pc L (.long x :: st))) := by
  obtain ⟨hx, -, -, hby, -⟩ := C
  obtain ⟨_, _, _, X, -⟩ := X
  subst hq 
  exact go_st (fun t k => XS.lstoreN X.here hx rfl (hb hby hd) rfl hl k) r
theorem g_lstore (C : Cx p s m meth c Z own bytes ml rt mn) (X : St p l e R s m args below meth c n0 T h k n) {j : Nat} {x : Int64} {L' : Array Slot} (hd : decode bytes pc = .ok (.lstore j, 2)) (hq : pc + 2 = q) (hl : storeLocals L j (.long x) = some L') (r : Goes p e below G (T.setTop (mkF m q L' (st)))) : Goes p e below G (T.setTop (mkF m pc L (.long x :: st))) := by
  obtain ⟨hx, -, -, hby, -⟩ := C
  obtain ⟨_, _, _, X, -⟩ := X
  subst hq 
  exact go_st (fun t k => XS.lstore X.here hx rfl (hb hby hd) rfl hl k) r
theorem g_astoreN (C : Cx p s m meth c Z own bytes ml rt mn) (X : St p l e R s m args below meth c n0 T h k n) {j : Fin 4} {x : Value} {L' : Array Slot} (hd : decode bytes pc = .ok (.astore_n j, 1)) (hq : pc + 1 = q) (hv : x.isRef = true) (hl : storeLocals L j.val x = some L') (r : Goes p e below G (T.setTop (mkF m q L' (st)))) : Goes p e below G (T.setTop (mkF m pc L (x :: st))) := by
  obtain ⟨hx, -, -, hby, -⟩ := C
  obtain ⟨_, _, _, X, -⟩ := X
  subst hq 
  exact go_st (fun t k => XS.astoreN X.here hx rfl (hb hby hd) rfl hv hl k) r
theorem g_astore (C : Cx p s m meth c Z own bytes ml rt mn) (X : St p l e R s m args below meth c n0 T h k n) {j : Nat} {x : Value} {L' : Array Slot} (hd : decode bytes pc = .ok (.astore j, 2)) (hq : pc + 2 = q) (hv : x.isRef = true) (hl : storeLocals L j x = some L') (r : Goes p e below G (T.setTop (mkF m q L' (st)))) : Goes p e below G (T.setTop (mkF m pc L (x :: st))) := by
  obtain ⟨hx, -, -, hby, -⟩ := C
  obtain ⟨_, _, _, X, -⟩ := X
  subst hq 
  exact go_st (fun t k => XS.astore X.here hx rfl (hb hby hd) rfl hv hl k) r
theorem g_iinc (C : Cx p s m meth c Z own bytes ml rt mn) (X : St p l e R s m args below meth c n0 T h k n) {j : Nat} {i : Int} {x z : Int32} {L' : Array Slot} (hd : decode bytes pc = .ok (.iinc j i, 3)) (hq : pc + 3 = q) (hl : L[j]? = some (.val (.int x))) (hz : x + Int32.ofInt i = z) (hl' : storeLocals L j (.int z) = some L') (r : Goes p e below G (T.setTop (mkF m q L' (st)))) : Goes p e below G (T.setTop (mkF m pc L (st))) := by
  obtain ⟨hx, -, -, hby, -⟩ := C
  obtain ⟨_, _, _, X, -⟩ := X
  subst hq hz
  exact go_st (fun t k => XS.iinc X.here hx rfl (hb hby hd) hl hl' k) r
theorem g_goto (C : Cx p s m meth c Z own bytes ml rt mn) (X : St p l e R s m args below meth c n0 T h k n)  {o : Int} (hd : decode bytes pc = .ok (.goto o, 3)) (ho : 0 ≤ (pc : Int) + o) (hq : ((pc : Int) + o).toNat = q)  (r : Goes p e below G (T.setTop (mkF m q L st))) : Goes p e below G (T.setTop (mkF m pc L (st))) := by
  obtain ⟨hx, -, -, hby, -⟩ := C
  obtain ⟨_, _, _, X, -⟩ := X
  exact go_st (fun t k => XS.goto X.here hx rfl rfl (hb hby hd) ho hq k) r
theorem g_ifY (C : Cx p s m meth c Z own bytes ml rt mn) (X : St p l e R s m args below meth c n0 T h k n) {cd : ClassFile.Cond} {x : Int32} {o : Int} (hd : decode bytes pc = .ok (.ifCond cd o, 3)) (ho : 0 ≤ (pc : Int) + o) (hq : ((pc : Int) + o).toNat = q) (hc : if_icmp.holds cd x 0 = true) (r : Goes p e below G (T.setTop (mkF m q L st))) : Goes p e below G (T.setTop (mkF m pc L (.int x :: st))) := by
  obtain ⟨hx, -, -, hby, -⟩ := C
  obtain ⟨_, _, _, X, -⟩ := X
  exact go_st (fun t k => XS.ifYes X.here hx rfl rfl (hb hby hd) rfl ((if0 _ _).trans hc) ho hq k) r
theorem g_ifN (C : Cx p s m meth c Z own bytes ml rt mn) (X : St p l e R s m args below meth c n0 T h k n) {cd : ClassFile.Cond} {x : Int32} {o : Int} (hd : decode bytes pc = .ok (.ifCond cd o, 3)) (hq : pc + 3 = q) (hc : if_icmp.holds cd x 0 = false) (r : Goes p e below G (T.setTop (mkF m q L st))) : Goes p e below G (T.setTop (mkF m pc L (.int x :: st))) := by
  obtain ⟨hx, -, -, hby, -⟩ := C
  obtain ⟨_, _, _, X, -⟩ := X
  subst hq
  exact go_st (fun t k => XS.ifNo X.here hx rfl (hb hby hd) rfl ((if0 _ _).trans hc) k) r
theorem g_icY (C : Cx p s m meth c Z own bytes ml rt mn) (X : St p l e R s m args below meth c n0 T h k n) {cd : ClassFile.Cond} {x y : Int32} {o : Int} (hd : decode bytes pc = .ok (.if_icmp cd o, 3)) (ho : 0 ≤ (pc : Int) + o) (hq : ((pc : Int) + o).toNat = q) (hc : if_icmp.holds cd x y = true) (r : Goes p e below G (T.setTop (mkF m q L st))) : Goes p e below G (T.setTop (mkF m pc L (.int y :: .int x :: st))) := by
  obtain ⟨hx, -, -, hby, -⟩ := C
  obtain ⟨_, _, _, X, -⟩ := X
  exact go_st (fun t k => XS.icmpYes X.here hx rfl rfl (hb hby hd) rfl hc ho hq k) r
theorem g_icN (C : Cx p s m meth c Z own bytes ml rt mn) (X : St p l e R s m args below meth c n0 T h k n) {cd : ClassFile.Cond} {x y : Int32} {o : Int} (hd : decode bytes pc = .ok (.if_icmp cd o, 3)) (hq : pc + 3 = q) (hc : if_icmp.holds cd x y = false) (r : Goes p e below G (T.setTop (mkF m q L st))) : Goes p e below G (T.setTop (mkF m pc L (.int y :: .int x :: st))) := by
  obtain ⟨hx, -, -, hby, -⟩ := C
  obtain ⟨_, _, _, X, -⟩ := X
  subst hq
  exact go_st (fun t k => XS.icmpNo X.here hx rfl (hb hby hd) rfl hc k) r
theorem g_nulY (C : Cx p s m meth c Z own bytes ml rt mn) (X : St p l e R s m args below meth c n0 T h k n)  {o : Int} (hd : decode bytes pc = .ok (.ifnull o, 3)) (ho : 0 ≤ (pc : Int) + o) (hq : ((pc : Int) + o).toNat = q)  (r : Goes p e below G (T.setTop (mkF m q L st))) : Goes p e below G (T.setTop (mkF m pc L (.null :: st))) := by
  obtain ⟨hx, -, -, hby, -⟩ := C
  obtain ⟨_, _, _, X, -⟩ := X
  exact go_st (fun t k => XS.ifnullYes X.here hx rfl rfl (hb hby hd) rfl ho hq k) r
theorem g_nulN (C : Cx p s m meth c Z own bytes ml rt mn) (X : St p l e R s m args below meth c n0 T h k n) {b : Addr} {o : Int} (hd : decode bytes pc = .ok (.ifnull o, 3)) (hq : pc + 3 = q)  (r : Goes p e below G (T.setTop (mkF m q L st))) : Goes p e below G (T.setTop (mkF m pc L (.ref b :: st))) := by
  obtain ⟨hx, -, -, hby, -⟩ := C
  obtain ⟨_, _, _, X, -⟩ := X
  subst hq
  exact go_st (fun t k => XS.ifnullNo X.here hx rfl (hb hby hd) rfl k) r
theorem g_nonY (C : Cx p s m meth c Z own bytes ml rt mn) (X : St p l e R s m args below meth c n0 T h k n) {b : Addr} {o : Int} (hd : decode bytes pc = .ok (.ifnonnull o, 3)) (ho : 0 ≤ (pc : Int) + o) (hq : ((pc : Int) + o).toNat = q)  (r : Goes p e below G (T.setTop (mkF m q L st))) : Goes p e below G (T.setTop (mkF m pc L (.ref b :: st))) := by
  obtain ⟨hx, -, -, hby, -⟩ := C
  obtain ⟨_, _, _, X, -⟩ := X
  exact go_st (fun t k => XS.ifnonnullYes X.here hx rfl rfl (hb hby hd) rfl ho hq k) r
theorem g_nonN (C : Cx p s m meth c Z own bytes ml rt mn) (X : St p l e R s m args below meth c n0 T h k n)  {o : Int} (hd : decode bytes pc = .ok (.ifnonnull o, 3)) (hq : pc + 3 = q)  (r : Goes p e below G (T.setTop (mkF m q L st))) : Goes p e below G (T.setTop (mkF m pc L (.null :: st))) := by
  obtain ⟨hx, -, -, hby, -⟩ := C
  obtain ⟨_, _, _, X, -⟩ := X
  subst hq
  exact go_st (fun t k => XS.ifnonnullNo X.here hx rfl (hb hby hd) rfl k) r
theorem g_boolF (C : Cx p s m meth c Z own bytes ml rt mn) (X : St p l e R s m args below meth c n0 T h k n) {cd : ClassFile.Cond} {x : Int32} (hd : decode bytes pc = .ok (.ifCond cd 7, 3)) (hd1 : decode bytes (pc + 3) = .ok (.iconst 1, 1)) (hd2 : decode bytes (pc + 4) = .ok (.goto 4, 3)) (hd3 : decode bytes (pc + 7) = .ok (.iconst 0, 1)) (hq : pc + 8 = q) (r : ∀ b : Int32, (if_icmp.holds cd x 0 = true → b = 0) → (if_icmp.holds cd x 0 = false → b = 1) → Goes p e below G (T.setTop (mkF m q L (.int b :: st)))) : Goes p e below G (T.setTop (mkF m pc L (.int x :: st))) := by
  subst hq
  cases hc : if_icmp.holds cd x 0
  · refine g_ifN C X hd (q := pc + 3) rfl hc ?_
    refine g_iconst C X hd1 (q := pc + 4) rfl (z := 1) rfl ?_
    refine g_goto C X hd2 (by omega) (q := pc + 8) (by omega) ?_
    exact r 1 (fun z => by rw [hc] at z; cases z) (fun _ => rfl)
  · refine g_ifY C X hd (by omega) (q := pc + 7) (by omega) hc ?_
    refine g_iconst C X hd3 (q := pc + 8) rfl (z := 0) rfl ?_
    exact r 0 (fun _ => rfl) (fun z => by rw [hc] at z; cases z)
theorem g_boolC (C : Cx p s m meth c Z own bytes ml rt mn) (X : St p l e R s m args below meth c n0 T h k n) {cd : ClassFile.Cond} {x y : Int32} (hd : decode bytes pc = .ok (.if_icmp cd 7, 3)) (hd1 : decode bytes (pc + 3) = .ok (.iconst 1, 1)) (hd2 : decode bytes (pc + 4) = .ok (.goto 4, 3)) (hd3 : decode bytes (pc + 7) = .ok (.iconst 0, 1)) (hq : pc + 8 = q) (r : ∀ b : Int32, (if_icmp.holds cd x y = true → b = 0) → (if_icmp.holds cd x y = false → b = 1) → Goes p e below G (T.setTop (mkF m q L (.int b :: st)))) : Goes p e below G (T.setTop (mkF m pc L (.int y :: .int x :: st))) := by
  subst hq
  cases hc : if_icmp.holds cd x y
  · refine g_icN C X hd (q := pc + 3) rfl hc ?_
    refine g_iconst C X hd1 (q := pc + 4) rfl (z := 1) rfl ?_
    refine g_goto C X hd2 (by omega) (q := pc + 8) (by omega) ?_
    exact r 1 (fun z => by rw [hc] at z; cases z) (fun _ => rfl)
  · refine g_icY C X hd (by omega) (q := pc + 7) (by omega) hc ?_
    refine g_iconst C X hd3 (q := pc + 8) rfl (z := 0) rfl ?_
    exact r 0 (fun _ => rfl) (fun z => by rw [hc] at z; cases z)
theorem g_acmp (C : Cx p s m meth c Z own bytes ml rt mn) (X : St p l e R s m args below meth c n0 T h k n) {cd : ACond} {x y : Value} {o : Int} {same : Bool} (hd : decode bytes pc = .ok (.if_acmp cd o, 3)) (h1 : x.isRef = true) (h2 : y.isRef = true) (hs : decide (x = y) = same) (ho : 0 ≤ (pc : Int) + o) (hq : q = if acV cd same = true then ((pc : Int) + o).toNat else pc + 3) (r : Goes p e below G (T.setTop (mkF m q L st))) : Goes p e below G (T.setTop (mkF m pc L (y :: x :: st))) := by
  obtain ⟨hx, -, -, hby, -⟩ := C
  obtain ⟨_, _, _, X, -⟩ := X
  exact go_st (fun t k => Jvm.RoadKit.acmp (g := mkF m pc L (y :: x :: st)) X hx rfl h1 h2 rfl (hb hby hd) rfl hs ho hq k) r
theorem g_lsw (C : Cx p s m meth c Z own bytes ml rt mn) (X : St p l e R s m args below meth c n0 T h k n) {d o : Int} {ps : Array (Int × Int)} {i : Int32} {len : Nat} (hd : decode bytes pc = .ok (.lookupswitch d ps, len)) (hinc : (ps.toList.zip (ps.toList.drop 1)).all (fun (a, next) => a.1 < next.1) = true) (hoff : lookupswitch.offset ps.toList d i.toInt = o) (ho : 0 ≤ (pc : Int) + o) (hq : ((pc : Int) + o).toNat = q) (r : Goes p e below G (T.setTop (mkF m q L st))) : Goes p e below G (T.setTop (mkF m pc L (.int i :: st))) := by
  obtain ⟨hx, -, -, hby, -⟩ := C
  obtain ⟨_, _, _, X, -⟩ := X
  subst hq
  refine go_st (fun t k => ?_) r
  have hd' := hb hby hd
  show Steps p.tables e below (T.setTop { method := m, pc := pc, locals := L, stack := .int i :: st, locked := none }) _
  jvm_step X.here [X.here.top, hx, hd', lookupswitch.wp_chain, hoff, ho]
  refine ⟨?_, k⟩
  intro a b a1 b1 hm
  simpa using List.all_eq_true.mp hinc ((a, b), a1, b1) (by simpa using hm)
theorem g_tswI (C : Cx p s m meth c Z own bytes ml rt mn) (X : St p l e R s m args below meth c n0 T h k n) {d lo hi o : Int} {offs : Array Int} {i : Int32} {len : Nat} (hd : decode bytes pc = .ok (.tableswitch d lo hi offs, len)) (hin : ¬ (i.toInt < lo ∨ i.toInt > hi)) (hoff : offs[(i.toInt - lo).toNat]? = some o) (ho : 0 ≤ (pc : Int) + o) (hq : ((pc : Int) + o).toNat = q) (r : Goes p e below G (T.setTop (mkF m q L st))) : Goes p e below G (T.setTop (mkF m pc L (.int i :: st))) := by
  obtain ⟨hx, -, -, hby, -⟩ := C
  obtain ⟨_, _, _, X, -⟩ := X
  exact go_st (fun t k => XS.tswIn X.here hx rfl rfl (hb hby hd) rfl hin hoff ho hq k) r
theorem g_tswO (C : Cx p s m meth c Z own bytes ml rt mn) (X : St p l e R s m args below meth c n0 T h k n) {d lo hi : Int} {offs : Array Int} {i : Int32} {len : Nat} (hd : decode bytes pc = .ok (.tableswitch d lo hi offs, len)) (hin : i.toInt < lo ∨ i.toInt > hi) (ho : 0 ≤ (pc : Int) + d) (hq : ((pc : Int) + d).toNat = q) (r : Goes p e below G (T.setTop (mkF m q L st))) : Goes p e below G (T.setTop (mkF m pc L (.int i :: st))) := by
  obtain ⟨hx, -, -, hby, -⟩ := C
  obtain ⟨_, _, _, X, -⟩ := X
  exact go_st (fun t k => XS.tswOut X.here hx rfl rfl (hb hby hd) rfl hin ho hq k) r
theorem g_ldcI (C : Cx p s m meth c Z own bytes ml rt mn) (X : St p l e R s m args below meth c n0 T h k n) {i : Nat} {v : Int32} (w : (Cond.constant own i v).before a0 Z = true) (hd : decode bytes pc = .ok (.ldc i, 2)) (hq : pc + 2 = q) (r : Goes p e below G (T.setTop (mkF m q L (.int v :: st)))) : Goes p e below G (T.setTop (mkF m pc L st)) := by
  obtain ⟨hx, hZ, hown, hby, -⟩ := C
  obtain ⟨_, _, _, X, -⟩ := X
  subst hq
  exact go_st (fun t k => X.ldcInt hx hown (mvT hZ w) (g := mkF m pc L st) rfl (hb hby hd) t k) r
theorem g_ldcJ (C : Cx p s m meth c Z own bytes ml rt mn) (X : St p l e R s m args below meth c n0 T h k n) {i : Nat} {v : Int64} (w : (Cond.constantLong own i v).before a0 Z = true) (hd : decode bytes pc = .ok (.ldc2_w i, 3)) (hq : pc + 3 = q) (r : Goes p e below G (T.setTop (mkF m q L (.long v :: st)))) : Goes p e below G (T.setTop (mkF m pc L st)) := by
  obtain ⟨hx, hZ, hown, hby, -⟩ := C
  obtain ⟨_, _, _, X, -⟩ := X
  subst hq
  exact go_st (fun t k => X.ldc2Long hx hown (mvT hZ w) (g := mkF m pc L st) rfl (hb hby hd) t k) r
theorem own_end (C : Cx p s m meth c Z own bytes ml rt mn) (X : St p l e R s m args below meth c n0 T h k n) {Q : Option Value → Heap → Prop} {K N : Nat} {S : State} {v : Option Value} (hv : rt = none → v = none) (hk : k ≤ K) (hn : n ≤ N) (hQ : Q v h)
    (f : ∀ locs cells slots fs, Stand p l e R s m args below meth c T locs cells slots → (∀ (f : JFrame) (acts : List Action), f.method = m → f.locked = none → f.entered = [] → (doReturn e (T.setTop f) acts v).1 = T.setFrames fs) → Steps p.tables e below S (T.setFrames fs)) : Goes p e below (FinN Q s n0 K N) S := by
  obtain ⟨hx, -, -, hby, -, hret, hlk, -⟩ := C
  obtain ⟨locs, cells, slots, X, hF, rfl, h1, h2⟩ := X
  obtain ⟨fs, hr, hrun, hended, hW, hsame⟩ := X.leave (v := v) (fun h => hv (hret.symm.trans h)) hlk
  exact ⟨_, _, f _ _ _ fs X hr, hrun, hended, _, _, rfl, ⟨hF, hQ⟩, ⟨_, rfl⟩, hW, hsame.mono (Nat.le_trans h1 hk) (Nat.le_trans h2 hn)⟩
theorem g_retI (C : Cx p s m meth c Z own bytes ml (some .int) mn) (X : St p l e R s m args below meth c n0 T h k n) {Q : Option Value → Heap → Prop} {K N : Nat} {z : Int32} (hd : decode bytes pc = .ok (.ireturn, 1)) (hk : k ≤ K) (hn : n ≤ N) (hQ : Q (some (.int z)) h) : Goes p e below (FinN Q s n0 K N) (T.setTop (mkF m pc L (.int z :: st))) := by
  refine own_end C X (by simp) hk hn hQ fun locs cells slots fs X hr => ?_
  obtain ⟨hx, -, -, hby, -, hret, hlk, -⟩ := C
  exact retOut X hx hret rfl (Or.inl ⟨rfl, Or.inl rfl, _, rfl⟩) (hb hby hd) hr
theorem g_retN {t : FieldType} (C : Cx p s m meth c Z own bytes ml (some t) mn) (X : St p l e R s m args below meth c n0 T h k n) {Q : Option Value → Heap → Prop} {K N : Nat} {z z' : Int32} (ht : t = .boolean ∨ t = .byte ∨ t = .char ∨ t = .short) (hz : nar t z = z') (hd : decode bytes pc = .ok (.ireturn, 1)) (hk : k ≤ K) (hn : n ≤ N) (hQ : Q (some (.int z')) h) : Goes p e below (FinN Q s n0 K N) (T.setTop (mkF m pc L (.int z :: st))) := by
  subst hz
  refine own_end C X (by simp) hk hn hQ fun locs cells slots fs X hr => ?_
  obtain ⟨hx, -, -, hby, -, hret, hlk, -⟩ := C
  exact retN X hx hret ht (hb hby hd) hr
theorem g_retA {t : FieldType} (C : Cx p s m meth c Z own bytes ml (some t) mn) (X : St p l e R s m args below meth c n0 T h k n) {Q : Option Value → Heap → Prop} {K N : Nat} {v : Value} (ht : t.isReference = true) (hv : v.isRef = true) (hd : decode bytes pc = .ok (.areturn, 1)) (hk : k ≤ K) (hn : n ≤ N) (hQ : Q (some v) h) : Goes p e below (FinN Q s n0 K N) (T.setTop (mkF m pc L (v :: st))) := by
  refine own_end C X (by simp) hk hn hQ fun locs cells slots fs X hr => ?_
  obtain ⟨hx, -, -, hby, -, hret, hlk, -⟩ := C
  have hn' : narrow t v = v := by rcases ref_cases hv with rfl | ⟨b, rfl⟩ <;> cases t <;> first | rfl | (cases ht)
  exact retOut X hx hret hn' (Or.inr (Or.inr (Or.inr (Or.inr ⟨rfl, ht, hv⟩)))) (hb hby hd) hr
theorem g_retJ (C : Cx p s m meth c Z own bytes ml (some .long) mn) (X : St p l e R s m args below meth c n0 T h k n) {Q : Option Value → Heap → Prop} {K N : Nat} {z : Int64} (hd : decode bytes pc = .ok (.lreturn, 1)) (hk : k ≤ K) (hn : n ≤ N) (hQ : Q (some (.long z)) h) : Goes p e below (FinN Q s n0 K N) (T.setTop (mkF m pc L (.long z :: st))) := by
  refine own_end C X (by simp) hk hn hQ fun locs cells slots fs X hr => ?_
  obtain ⟨hx, -, -, hby, -, hret, hlk, -⟩ := C
  exact retOut X hx hret rfl (Or.inr (Or.inl ⟨rfl, rfl, _, rfl⟩)) (hb hby hd) hr
theorem g_retV (C : Cx p s m meth c Z own bytes ml none mn) (X : St p l e R s m args below meth c n0 T h k n) {Q : Option Value → Heap → Prop} {K N : Nat} (hd : decode bytes pc = .ok (.return_, 1)) (hk : k ≤ K) (hn : n ≤ N) (hQ : Q none h) : Goes p e below (FinN Q s n0 K N) (T.setTop (mkF m pc L [])) := by
  refine own_end C X (fun _ => rfl) hk hn hQ fun locs cells slots fs X hr => ?_
  obtain ⟨hx, -, -, hby, -, hret, hlk, -⟩ := C
  exact X.returnOut hx hret (hb hby hd) hr
theorem g_dloadN (C : Cx p s m meth c Z own bytes ml rt mn) (X : St p l e R s m args below meth c n0 T h k n) {j : Fin 4} {v : UInt64} (hd : decode bytes pc = .ok (.dload_n j, 1)) (hq : pc + 1 = q) (hl : L[j.val]? = some (.val (.double v))) (r : Goes p e below G (T.setTop (mkF m q L (.double v :: st)))) : Goes p e below G (T.setTop (mkF m pc L (st))) := by
  obtain ⟨hx, -, -, hby, -⟩ := C
  obtain ⟨_, _, _, X, -⟩ := X
  subst hq 
  exact go_st (fun t k => XS.dloadN X.here hx rfl (hb hby hd) hl k) r
theorem g_dload (C : Cx p s m meth c Z own bytes ml rt mn) (X : St p l e R s m args below meth c n0 T h k n) {j : Nat} {v : UInt64} (hd : decode bytes pc = .ok (.dload j, 2)) (hq : pc + 2 = q) (hl : L[j]? = some (.val (.double v))) (r : Goes p e below G (T.setTop (mkF m q L (.double v :: st)))) : Goes p e below G (T.setTop (mkF m pc L (st))) := by
  obtain ⟨hx, -, -, hby, -⟩ := C
  obtain ⟨_, _, _, X, -⟩ := X
  subst hq 
  exact go_st (fun t k => XS.dload X.here hx rfl (hb hby hd) hl k) r
theorem g_dstoreN (C : Cx p s m meth c Z own bytes ml rt mn) (X : St p l e R s m args below meth c n0 T h k n) {j : Fin 4} {x : UInt64} {L' : Array Slot} (hd : decode bytes pc = .ok (.dstore_n j, 1)) (hq : pc + 1 = q) (hl : storeLocals L j.val (.double x) = some L') (r : Goes p e below G (T.setTop (mkF m q L' (st)))) : Goes p e below G (T.setTop (mkF m pc L (.double x :: st))) := by
  obtain ⟨hx, -, -, hby, -⟩ := C
  obtain ⟨_, _, _, X, -⟩ := X
  subst hq 
  exact go_st (fun t k => XS.dstoreN X.here hx rfl (hb hby hd) rfl hl k) r
theorem g_dstore (C : Cx p s m meth c Z own bytes ml rt mn) (X : St p l e R s m args below meth c n0 T h k n) {j : Nat} {x : UInt64} {L' : Array Slot} (hd : decode bytes pc = .ok (.dstore j, 2)) (hq : pc + 2 = q) (hl : storeLocals L j (.double x) = some L') (r : Goes p e below G (T.setTop (mkF m q L' (st)))) : Goes p e below G (T.setTop (mkF m pc L (.double x :: st))) := by
  obtain ⟨hx, -, -, hby, -⟩ := C
  obtain ⟨_, _, _, X, -⟩ := X
  subst hq 
  exact go_st (fun t k => XS.dstore X.here hx rfl (hb hby hd) rfl hl k) r
theorem g_i2d (C : Cx p s m meth c Z own bytes ml rt mn) (X : St p l e R s m args below meth c n0 T h k n) {x : Int32} {z : UInt64} (hd : decode bytes pc = .ok (.i2d, 1)) (hq : pc + 1 = q) (hz : FP.i2d x = z) (r : Goes p e below G (T.setTop (mkF m q L (.double z :: st)))) : Goes p e below G (T.setTop (mkF m pc L (.int x :: st))) := by
  obtain ⟨hx, -, -, hby, -⟩ := C
  obtain ⟨_, _, _, X, -⟩ := X
  subst hq 
  exact go_st (fun t k => XS.i2dS X.here hx rfl (hb hby hd) rfl hz k) r
theorem g_dcmp (C : Cx p s m meth c Z own bytes ml rt mn) (X : St p l e R s m args below meth c n0 T h k n) {o : CmpOp} {x y : UInt64} {z : Int32} (hd : decode bytes pc = .ok (.dcmp o, 1)) (hq : pc + 1 = q) (hz : cmpValue (FP.dcmp x y) o = z) (r : Goes p e below G (T.setTop (mkF m q L (.int z :: st)))) : Goes p e below G (T.setTop (mkF m pc L (.double y :: .double x :: st))) := by
  obtain ⟨hx, -, -, hby, -⟩ := C
  obtain ⟨_, _, _, X, -⟩ := X
  subst hq 
  exact go_st (fun t k => XS.dcmpS X.here hx rfl (hb hby hd) rfl hz k) r
theorem g_pop2 (C : Cx p s m meth c Z own bytes ml rt mn) (X : St p l e R s m args below meth c n0 T h k n) {x : Value} (hd : decode bytes pc = .ok (.pop2, 1)) (hq : pc + 1 = q) (hc : x.category = 2) (r : Goes p e below G (T.setTop (mkF m q L st))) : Goes p e below G (T.setTop (mkF m pc L (x :: st))) := by
  obtain ⟨hx, -, -, hby, -⟩ := C
  obtain ⟨_, _, _, X, -⟩ := X
  subst hq
  refine go_st (fun t k => ?_) r
  have hd' := hb hby hd
  show Steps p.tables e below (T.setTop { method := m, pc := pc, locals := L, stack := x :: st, locked := none }) _
  jvm_step X.here [X.here.top, hx, hd', hc]
  exact k
theorem g_dconst0 (C : Cx p s m meth c Z own bytes ml rt mn) (X : St p l e R s m args below meth c n0 T h k n) {z : UInt64} (hd : decode bytes pc = .ok (.dconst 0, 1)) (hq : pc + 1 = q) (hz : FP.dconst0 = z) (r : Goes p e below G (T.setTop (mkF m q L (.double z :: st)))) : Goes p e below G (T.setTop (mkF m pc L (st))) := by
  obtain ⟨hx, -, -, hby, -⟩ := C
  obtain ⟨_, _, _, X, -⟩ := X
  subst hq 
  exact go_st (fun t k => XS.dconst0 X.here hx rfl (hb hby hd) hz k) r
theorem g_dconst1 (C : Cx p s m meth c Z own bytes ml rt mn) (X : St p l e R s m args below meth c n0 T h k n) {z : UInt64} (hd : decode bytes pc = .ok (.dconst 1, 1)) (hq : pc + 1 = q) (hz : FP.dconst1 = z) (r : Goes p e below G (T.setTop (mkF m q L (.double z :: st)))) : Goes p e below G (T.setTop (mkF m pc L (st))) := by
  obtain ⟨hx, -, -, hby, -⟩ := C
  obtain ⟨_, _, _, X, -⟩ := X
  subst hq 
  exact go_st (fun t k => XS.dconst1 X.here hx rfl (hb hby hd) hz k) r
theorem g_retD (C : Cx p s m meth c Z own bytes ml (some .double) mn) (X : St p l e R s m args below meth c n0 T h k n) {Q : Option Value → Heap → Prop} {K N : Nat} {z : UInt64} (hd : decode bytes pc = .ok (.dreturn, 1)) (hk : k ≤ K) (hn : n ≤ N) (hQ : Q (some (.double z)) h) : Goes p e below (FinN Q s n0 K N) (T.setTop (mkF m pc L (.double z :: st))) := by
  refine own_end C X (by simp) hk hn hQ fun locs cells slots fs X hr => ?_
  obtain ⟨hx, -, -, hby, -, hret, hlk, -⟩ := C
  exact retOut X hx hret rfl (Or.inr (Or.inr (Or.inl ⟨rfl, rfl, _, rfl⟩))) (hb hby hd) hr
theorem g_getS (C : Cx p s m meth c Z own bytes ml rt mn) (X : St p l e R s m args below meth c n0 T h k n) {R0 O f d host : String} {i : Nat} {v : Value} (w : (Cond.fieldLink own i R0 f d).before a0 Z = true ∨ (Cond.fieldLinkNest own i R0 f d host).before a0 Z = true) (via : Via Z R0 O f d) (F : Sta Z h O f d v) (hd : decode bytes pc = .ok (.getstatic i, 3)) (hq : pc + 3 = q) (r : ∀ T', St p l e R s m args below meth c n0 T' h k n → Goes p e below G (T'.setTop (mkF m q L (v :: st)))) : Goes p e below G (T.setTop (mkF m pc L st)) := by
  obtain ⟨hx, hZ, hown, hby, -⟩ := C
  obtain ⟨_, _, _, X, hF, eT, h1, h2⟩ := X
  subst hq
  obtain ⟨T', X', e', st'⟩ := getS2 X hx hZ hown w via eT F (g := mkF m pc L st) rfl (hb hby hd)
  exact go_st st' (r T' ⟨_, _, _, X', hF, e', h1, h2⟩)
theorem g_getF (C : Cx p s m meth c Z own bytes ml rt mn) (X : St p l e R s m args below meth c n0 T h k n) {R0 O f d host : String} {i : Nat} {a : Addr} {v : Value} (w : (Cond.fieldLink own i R0 f d).before a0 Z = true ∨ (Cond.fieldLinkNest own i R0 f d host).before a0 Z = true) (via : Via Z R0 O f d) (F : Fld Z h a O f d v) (hd : decode bytes pc = .ok (.getfield i, 3)) (hq : pc + 3 = q) (r : ∀ T', St p l e R s m args below meth c n0 T' h k n → Goes p e below G (T'.setTop (mkF m q L (v :: st)))) : Goes p e below G (T.setTop (mkF m pc L (.ref a :: st))) := by
  obtain ⟨hx, hZ, hown, hby, -⟩ := C
  obtain ⟨_, _, _, X, hF, eT, h1, h2⟩ := X
  subst hq
  obtain ⟨T', X', e', st'⟩ := getF X hx hZ hown w via eT F (g := mkF m pc L (.ref a :: st)) rfl rfl (hb hby hd)
  exact go_st st' (r T' ⟨_, _, _, X', hF, e', h1, h2⟩)
theorem g_putF (C : Cx p s m meth c Z own bytes ml rt mn) (X : St p l e R s m args below meth c n0 T h k n) {R0 O f d host K : String} {i kk : Nat} {ty : FieldType} {a : Addr} {v old : Value} (w : (Cond.fieldLink own i R0 f d).before a0 Z = true ∨ (Cond.fieldLinkNest own i R0 f d host).before a0 Z = true) (via : Via Z R0 O f d) (F : Fld Z h a O f d old) (E : Exa Z h a K) (Ly : (Cond.lays K O f d).before a0 Z = true ∨ ((Cond.laysFinal K O f d).before a0 Z = true ∧ own = O ∧ mn = "<init>")) (wi : (Cond.instantiable K kk).before a0 Z = true)
    (hty : parseFieldDescriptor d = some ty) (hnn : narrow ty v = v) (hff : fits ty v = true) (hd : decode bytes pc = .ok (.putfield i, 3)) (hq : pc + 3 = q) (ha : n0 ≤ a) (r : ∀ T' h', St p l e R s m args below meth c n0 T' h' k n → Wr h h' a (Jvm.RoadKit.slotOf Z O f d) v → Goes p e below G (T'.setTop (mkF m q L st))) : Goes p e below G (T.setTop (mkF m pc L (v :: .ref a :: st))) := by
  obtain ⟨hx, hZ, hown, hby, -, -, -, hnm⟩ := C
  obtain ⟨_, _, _, X, hF, eT, h1, h2⟩ := X
  subst hq
  obtain ⟨T', h', X', e', W', st'⟩ := putF X hx hZ hown w via eT F E (Ly.imp id fun z => ⟨z.1, z.2.1, hnm.trans z.2.2⟩) wi hty hnn hff (g := mkF m pc L (v :: .ref a :: st)) rfl rfl (hb hby hd)
  exact go_st st' (r T' h' ⟨_, _, _, X', Fr.snoc X' hF ha, e', h1, h2⟩ W')
theorem g_putFN (C : Cx p s m meth c Z own bytes ml rt mn) (X : St p l e R s m args below meth c n0 T h k n) {R0 O f d K : String} {i kk : Nat} {ty : FieldType} {a : Addr} {v v' old : Value} (w : (Cond.fieldLink own i R0 f d).before a0 Z = true) (via : Via Z R0 O f d) (F : Fld Z h a O f d old) (E : Exa Z h a K) (Ly : (Cond.lays K O f d).before a0 Z = true ∨ ((Cond.laysFinal K O f d).before a0 Z = true ∧ own = O ∧ mn = "<init>")) (wi : (Cond.instantiable K kk).before a0 Z = true)
    (hty : parseFieldDescriptor d = some ty) (hnn : narrow ty v = v') (hff : fits ty v' = true) (hd : decode bytes pc = .ok (.putfield i, 3)) (hq : pc + 3 = q) (ha : n0 ≤ a) (r : ∀ T' h', St p l e R s m args below meth c n0 T' h' k n → Wr h h' a (Jvm.RoadKit.slotOf Z O f d) v' → Goes p e below G (T'.setTop (mkF m q L st))) : Goes p e below G (T.setTop (mkF m pc L (v :: .ref a :: st))) := by
  obtain ⟨hx, hZ, hown, hby, -, -, -, hnm⟩ := C
  obtain ⟨_, _, _, X, hF, eT, h1, h2⟩ := X
  subst hq
  obtain ⟨T', h', X', e', W', st'⟩ := putFN X hx hZ hown w via eT F E (Ly.imp id fun z => ⟨z.1, z.2.1, hnm.trans z.2.2⟩) wi hty hnn hff (g := mkF m pc L (v :: .ref a :: st)) rfl rfl (hb hby hd)
  exact go_st st' (r T' h' ⟨_, _, _, X', Fr.snoc X' hF ha, e', h1, h2⟩ W')
theorem g_new (C : Cx p s m meth c Z own bytes ml rt mn) (X : St p l e R s m args below meth c n0 T h k n) {K : String} {i z k' n' : Nat} (w : (Cond.classLink own i K).before a0 Z = true) (wi : (Cond.instantiable K z).before a0 Z = true) (wz : (Cond.initialized K).before a0 Z = true) (hd : decode bytes pc = .ok (.new i, 3)) (hq : pc + 3 = q) (hk : k + 1 = k') (hn : n + z = n') (hkR : k' ≤ R.cells) (hnR : n' ≤ R.slots)
    (r : ∀ T' h' a, a = h.size → St p l e R s m args below meth c n0 T' h' k' n' → Ext h h' → Exa Z h' a K → (∀ {O nm d : String} {ty : FieldType}, Laid Z a0 K O nm d → parseFieldDescriptor d = some ty → Fld Z h' a O nm d (defaultValue ty)) → Goes p e below G (T'.setTop (mkF m q L (.ref a :: st)))) : Goes p e below G (T.setTop (mkF m pc L st)) := by
  obtain ⟨hx, hZ, hown, hby, -⟩ := C
  obtain ⟨_, _, _, X, hF, eT, h1, h2⟩ := X
  subst hq hk hn
  obtain ⟨T', h', X', e', E', A', D', -, st'⟩ := newO X hx hZ hown w wi wz eT (g := mkF m pc L st) rfl (hb hby hd) (Nat.le_trans (Nat.add_le_add_right h1 1) hkR) (Nat.le_trans (Nat.add_le_add_right h2 z) hnR)
  exact go_st st' (r T' h' _ rfl ⟨_, _, _, X', hF, e', Nat.add_le_add_right h1 1, Nat.add_le_add_right h2 z⟩ E' A' D')
theorem g_newP (C : Cx p s m meth c Z own bytes ml rt mn) (X : St p l e R s m args below meth c n0 T h k n) {aty : ArrayType} {ty : FieldType} {z : Int32} {cap k' n' : Nat} (w : (Cond.arrayClass ty).before a0 Z = true) (hty : newarray.typeOf aty = ty) (hd : decode bytes pc = .ok (.newarray aty, 2)) (hq : pc + 2 = q) (hz : ¬ z < 0) (hcap : z.toNatClampNeg ≤ cap) (hcb : cap * 8 ≤ 536870912) (hk : k + 1 = k') (hn : n + cap = n') (hkR : k' ≤ R.cells) (hnR : n' ≤ R.slots)
    (r : ∀ T' h' cA a, a = h.size → St p l e R s m args below meth c n0 T' h' k' n' → Ext h h' → Arv Z h' a cA ty z [] (defaultValue ty) → Goes p e below G (T'.setTop (mkF m q L (.ref a :: st)))) : Goes p e below G (T.setTop (mkF m pc L (.int z :: st))) := by
  obtain ⟨hx, hZ, hown, hby, -⟩ := C
  obtain ⟨_, _, _, X, hF, eT, h1, h2⟩ := X
  subst hq hk hn hty
  obtain ⟨T', h', cA, X', e', E', A', st'⟩ := newP X hx hZ w eT (g := mkF m pc L (.int z :: st)) rfl (hb hby hd) rfl hz (cap := cap) hcap hcb (Nat.le_trans (Nat.add_le_add_right h1 1) hkR) (Nat.le_trans (Nat.add_le_add_right h2 cap) hnR)
  exact go_st st' (r T' h' cA _ rfl ⟨_, _, _, X', hF, e', Nat.add_le_add_right h1 1, Nat.add_le_add_right h2 cap⟩ E' (Arv.new A' hz))
theorem g_initO (C : Cx p s m meth c Z own bytes ml rt mn) (X : St p l e R s m args below meth c n0 T h k n) {i : Nat} {a : Addr} (w1 : (Cond.methodLink own i Lib.objectInit).before a0 Z = true) (w2 : (Cond.instanceMethod Lib.objectInit).before a0 Z = true) (w3 : (Cond.code Lib.objectInit ⟨#[0xb1]⟩ 1 none).before a0 Z = true) (hsz : L.size = ml) (hd : decode bytes pc = .ok (.invokespecial i, 3)) (hq : pc + 3 = q) (hf : 1 ≤ R.frames) (hW : (st.map fun v => v.category).sum + 12 ≤ R.locals)
    (r : ∀ T', St p l e R s m args below meth c n0 T' h k n → Goes p e below G (T'.setTop (mkF m q L st))) : Goes p e below G (T.setTop (mkF m pc L (.ref a :: st))) := by
  obtain ⟨hx, hZ, hown, hby, hml, -⟩ := C
  obtain ⟨_, _, _, X, hF, eT, h1, h2⟩ := X
  subst hq
  obtain ⟨T', X', e', st'⟩ := initO X hx hZ hown w1 w2 w3 eT (g := mkF m pc L (.ref a :: st)) rfl (hsz.trans hml.symm) rfl (hb hby hd) hf (W := (st.map fun v => v.category).sum) (by show 2 * 0 + _ ≤ _; omega) hW
  exact go_st st' (r T' ⟨_, _, _, X', hF, e', h1, h2⟩)
theorem g_iastore (C : Cx p s m meth c Z own bytes ml rt mn) (X : St p l e R s m args below meth c n0 T h k n) {a : Addr} {cA : ClassId} {z j : Int32} {vs vs' : List Value} {dv : Value} {i : Nat} {v : Int32} (V : Arv Z h a cA .int z vs dv) (hj : ¬ j < 0 ∧ j < z) (hi : j.toNatClampNeg = i) (hlt : i < vs.length) (hvs : vs.set i (.int v) = vs') (ha : n0 ≤ a) (hd : decode bytes pc = .ok (.iastore, 1)) (hq : pc + 1 = q)
    (r : ∀ T' h', St p l e R s m args below meth c n0 T' h' k n → Wr h h' a i (.int v) → Arv Z h' a cA .int z vs' dv → Goes p e below G (T'.setTop (mkF m q L st))) : Goes p e below G (T.setTop (mkF m pc L (.int v :: .int j :: .ref a :: st))) := by
  obtain ⟨hx, hZ, hown, hby, -⟩ := C
  obtain ⟨_, _, _, X, hF, eT, h1, h2⟩ := X
  subst hq hi hvs
  obtain ⟨cl, A, q1, Sz, q3, H, Gf⟩ := V
  obtain ⟨T', h', X', e', W', st'⟩ := stI X hx hZ eT A (j := j) (inb_of Sz hj) (g := mkF m pc L (.int v :: .int j :: .ref a :: st)) rfl rfl (hb hby hd)
  exact go_st st' (r T' h' ⟨_, _, _, X', Fr.snoc X' hF ha, e', h1, h2⟩ W' (Arv.set A q1 Sz q3 H Gf rfl W' _ rfl hlt))
theorem g_castore (C : Cx p s m meth c Z own bytes ml rt mn) (X : St p l e R s m args below meth c n0 T h k n) {a : Addr} {cA : ClassId} {z j : Int32} {vs vs' : List Value} {dv : Value} {i : Nat} {v : Int32} (V : Arv Z h a cA .char z vs dv) (hj : ¬ j < 0 ∧ j < z) (hi : j.toNatClampNeg = i) (hlt : i < vs.length) (hvs : vs.set i (.int (nar .char v)) = vs') (ha : n0 ≤ a) (hd : decode bytes pc = .ok (.castore, 1)) (hq : pc + 1 = q)
    (r : ∀ T' h', St p l e R s m args below meth c n0 T' h' k n → Wr h h' a i (.int (nar .char v)) → Arv Z h' a cA .char z vs' dv → Goes p e below G (T'.setTop (mkF m q L st))) : Goes p e below G (T.setTop (mkF m pc L (.int v :: .int j :: .ref a :: st))) := by
  obtain ⟨hx, hZ, hown, hby, -⟩ := C
  obtain ⟨_, _, _, X, hF, eT, h1, h2⟩ := X
  subst hq hi hvs
  obtain ⟨cl, A, q1, Sz, q3, H, Gf⟩ := V
  obtain ⟨T', h', X', e', W', st'⟩ := stC X hx hZ eT A (j := j) (inb_of Sz hj) (g := mkF m pc L (.int v :: .int j :: .ref a :: st)) rfl rfl (hb hby hd)
  exact go_st st' (r T' h' ⟨_, _, _, X', Fr.snoc X' hF ha, e', h1, h2⟩ W' (Arv.set A q1 Sz q3 H Gf (fits_nar_char _) W' _ rfl hlt))
theorem g_bastore (C : Cx p s m meth c Z own bytes ml rt mn) (X : St p l e R s m args below meth c n0 T h k n) {a : Addr} {cA : ClassId} {z j : Int32} {vs vs' : List Value} {dv : Value} {i : Nat} {v : Int32} (V : Arv Z h a cA .byte z vs dv) (hj : ¬ j < 0 ∧ j < z) (hi : j.toNatClampNeg = i) (hlt : i < vs.length) (hvs : vs.set i (.int (nar .byte v)) = vs') (ha : n0 ≤ a) (hd : decode bytes pc = .ok (.bastore, 1)) (hq : pc + 1 = q)
    (r : ∀ T' h', St p l e R s m args below meth c n0 T' h' k n → Wr h h' a i (.int (nar .byte v)) → Arv Z h' a cA .byte z vs' dv → Goes p e below G (T'.setTop (mkF m q L st))) : Goes p e below G (T.setTop (mkF m pc L (.int v :: .int j :: .ref a :: st))) := by
  obtain ⟨hx, hZ, hown, hby, -⟩ := C
  obtain ⟨_, _, _, X, hF, eT, h1, h2⟩ := X
  subst hq hi hvs
  obtain ⟨cl, A, q1, Sz, q3, H, Gf⟩ := V
  obtain ⟨T', h', X', e', W', st'⟩ := stB X hx hZ eT A (j := j) (inb_of Sz hj) (g := mkF m pc L (.int v :: .int j :: .ref a :: st)) rfl rfl (hb hby hd)
  exact go_st st' (r T' h' ⟨_, _, _, X', Fr.snoc X' hF ha, e', h1, h2⟩ W' (Arv.set A q1 Sz q3 H Gf (fits_nar_byte _) W' _ rfl hlt))
theorem g_zastore (C : Cx p s m meth c Z own bytes ml rt mn) (X : St p l e R s m args below meth c n0 T h k n) {a : Addr} {cA : ClassId} {z j : Int32} {vs vs' : List Value} {dv : Value} {i : Nat} {v : Int32} (V : Arv Z h a cA .boolean z vs dv) (hj : ¬ j < 0 ∧ j < z) (hi : j.toNatClampNeg = i) (hlt : i < vs.length) (hvs : vs.set i (.int (nar .boolean v)) = vs') (ha : n0 ≤ a) (hd : decode bytes pc = .ok (.bastore, 1)) (hq : pc + 1 = q)
    (r : ∀ T' h', St p l e R s m args below meth c n0 T' h' k n → Wr h h' a i (.int (nar .boolean v)) → Arv Z h' a cA .boolean z vs' dv → Goes p e below G (T'.setTop (mkF m q L st))) : Goes p e below G (T.setTop (mkF m pc L (.int v :: .int j :: .ref a :: st))) := by
  obtain ⟨hx, hZ, hown, hby, -⟩ := C
  obtain ⟨_, _, _, X, hF, eT, h1, h2⟩ := X
  subst hq hi hvs
  obtain ⟨cl, A, q1, Sz, q3, H, Gf⟩ := V
  obtain ⟨T', h', X', e', W', st'⟩ := stZ X hx hZ eT A (j := j) (inb_of Sz hj) (g := mkF m pc L (.int v :: .int j :: .ref a :: st)) rfl rfl (hb hby hd)
  exact go_st st' (r T' h' ⟨_, _, _, X', Fr.snoc X' hF ha, e', h1, h2⟩ W' (Arv.set A q1 Sz q3 H Gf (fits_nar_bool _) W' _ rfl hlt))
theorem g_lastore (C : Cx p s m meth c Z own bytes ml rt mn) (X : St p l e R s m args below meth c n0 T h k n) {a : Addr} {cA : ClassId} {z j : Int32} {vs vs' : List Value} {dv : Value} {i : Nat} {v : Int64} (V : Arv Z h a cA .long z vs dv) (hj : ¬ j < 0 ∧ j < z) (hi : j.toNatClampNeg = i) (hlt : i < vs.length) (hvs : vs.set i (.long v) = vs') (ha : n0 ≤ a) (hd : decode bytes pc = .ok (.lastore, 1)) (hq : pc + 1 = q)
    (r : ∀ T' h', St p l e R s m args below meth c n0 T' h' k n → Wr h h' a i (.long v) → Arv Z h' a cA .long z vs' dv → Goes p e below G (T'.setTop (mkF m q L st))) : Goes p e below G (T.setTop (mkF m pc L (.long v :: .int j :: .ref a :: st))) := by
  obtain ⟨hx, hZ, hown, hby, -⟩ := C
  obtain ⟨_, _, _, X, hF, eT, h1, h2⟩ := X
  subst hq hi hvs
  obtain ⟨cl, A, q1, Sz, q3, H, Gf⟩ := V
  obtain ⟨T', h', X', e', W', st'⟩ := stJ X hx hZ eT A (j := j) (inb_of Sz hj) (g := mkF m pc L (.long v :: .int j :: .ref a :: st)) rfl rfl (hb hby hd)
  exact go_st st' (r T' h' ⟨_, _, _, X', Fr.snoc X' hF ha, e', h1, h2⟩ W' (Arv.set A q1 Sz q3 H Gf rfl W' _ rfl hlt))
theorem g_dastore (C : Cx p s m meth c Z own bytes ml rt mn) (X : St p l e R s m args below meth c n0 T h k n) {a : Addr} {cA : ClassId} {z j : Int32} {vs vs' : List Value} {dv : Value} {i : Nat} {v : UInt64} (V : Arv Z h a cA .double z vs dv) (hj : ¬ j < 0 ∧ j < z) (hi : j.toNatClampNeg = i) (hlt : i < vs.length) (hvs : vs.set i (.double v) = vs') (ha : n0 ≤ a) (hd : decode bytes pc = .ok (.dastore, 1)) (hq : pc + 1 = q)
    (r : ∀ T' h', St p l e R s m args below meth c n0 T' h' k n → Wr h h' a i (.double v) → Arv Z h' a cA .double z vs' dv → Goes p e below G (T'.setTop (mkF m q L st))) : Goes p e below G (T.setTop (mkF m pc L (.double v :: .int j :: .ref a :: st))) := by
  obtain ⟨hx, hZ, hown, hby, -⟩ := C
  obtain ⟨_, _, _, X, hF, eT, h1, h2⟩ := X
  subst hq hi hvs
  obtain ⟨cl, A, q1, Sz, q3, H, Gf⟩ := V
  obtain ⟨T', h', X', e', W', st'⟩ := stD X hx hZ eT A (j := j) (inb_of Sz hj) (g := mkF m pc L (.double v :: .int j :: .ref a :: st)) rfl rfl (hb hby hd)
  exact go_st st' (r T' h' ⟨_, _, _, X', Fr.snoc X' hF ha, e', h1, h2⟩ W' (Arv.set A q1 Sz q3 H Gf rfl W' _ rfl hlt))
theorem g_aastore (C : Cx p s m meth c Z own bytes ml rt mn) (X : St p l e R s m args below meth c n0 T h k n) {a : Addr} {cA : ClassId} {z j : Int32} {vs vs' : List Value} {dv v : Value} {ty : FieldType} {i : Nat} (V : Arv Z h a cA ty z vs dv) (hty : ty.isReference = true) (F : Sto Z h a v) (hfv : fits ty v = true) (hj : ¬ j < 0 ∧ j < z) (hi : j.toNatClampNeg = i) (hlt : i < vs.length) (hvs : vs.set i v = vs') (ha : n0 ≤ a) (hd : decode bytes pc = .ok (.aastore, 1)) (hq : pc + 1 = q)
    (r : ∀ T' h', St p l e R s m args below meth c n0 T' h' k n → Wr h h' a i v → Arv Z h' a cA ty z vs' dv → Goes p e below G (T'.setTop (mkF m q L st))) : Goes p e below G (T.setTop (mkF m pc L (v :: .int j :: .ref a :: st))) := by
  obtain ⟨hx, hZ, hown, hby, -⟩ := C
  obtain ⟨_, _, _, X, hF, eT, h1, h2⟩ := X
  subst hq hi hvs
  obtain ⟨cl, A, q1, Sz, q3, H, Gf⟩ := V
  obtain ⟨T', h', X', e', W', st'⟩ := stR X hx hZ eT A (j := j) (inb_of Sz hj) hty F (g := mkF m pc L (v :: .int j :: .ref a :: st)) rfl rfl (hb hby hd)
  exact go_st st' (r T' h' ⟨_, _, _, X', Fr.snoc X' hF ha, e', h1, h2⟩ W' (Arv.set A q1 Sz q3 H Gf hfv W' _ rfl hlt))
theorem g_iaload (C : Cx p s m meth c Z own bytes ml rt mn) (X : St p l e R s m args below meth c n0 T h k n) {a : Addr} {cA : ClassId} {z j : Int32} {vs : List Value} {dv w : Value}  (V : Arv Z h a cA .int z vs dv) (hj : ¬ j < 0 ∧ j < z) (hv : vs.getD j.toNatClampNeg dv = w) (hd : decode bytes pc = .ok (.iaload, 1)) (hq : pc + 1 = q) (r : Goes p e below G (T.setTop (mkF m q L (w :: st)))) : Goes p e below G (T.setTop (mkF m pc L (.int j :: .ref a :: st))) := by
  obtain ⟨hx, hZ, hown, hby, -⟩ := C
  obtain ⟨_, _, _, X, hF, eT, h1, h2⟩ := X
  subst hq
  obtain ⟨cl, A, q1, Sz, q3, H, Gf⟩ := V
  exact go_st (fun t k => X.iaload hx (j := j) (v := w) (by rw [eT]; exact A.1) (State.isArrayOf_alike hZ.alike A.2.1) A.2.2 (inb_of Sz hj) (H.at (inb_of Sz hj) hv) (g := mkF m pc L (.int j :: .ref a :: st)) rfl rfl (hb hby hd) t k) r
theorem g_caload (C : Cx p s m meth c Z own bytes ml rt mn) (X : St p l e R s m args below meth c n0 T h k n) {a : Addr} {cA : ClassId} {z j : Int32} {vs : List Value} {dv w : Value}  (V : Arv Z h a cA .char z vs dv) (hj : ¬ j < 0 ∧ j < z) (hv : vs.getD j.toNatClampNeg dv = w) (hd : decode bytes pc = .ok (.caload, 1)) (hq : pc + 1 = q) (r : Goes p e below G (T.setTop (mkF m q L (w :: st)))) : Goes p e below G (T.setTop (mkF m pc L (.int j :: .ref a :: st))) := by
  obtain ⟨hx, hZ, hown, hby, -⟩ := C
  obtain ⟨_, _, _, X, hF, eT, h1, h2⟩ := X
  subst hq
  obtain ⟨cl, A, q1, Sz, q3, H, Gf⟩ := V
  exact go_st (fun t k => X.caload hx (j := j) (v := w) (by rw [eT]; exact A.1) (State.isArrayOf_alike hZ.alike A.2.1) A.2.2 (inb_of Sz hj) (H.at (inb_of Sz hj) hv) (g := mkF m pc L (.int j :: .ref a :: st)) rfl rfl (hb hby hd) t k) r
theorem g_baload (C : Cx p s m meth c Z own bytes ml rt mn) (X : St p l e R s m args below meth c n0 T h k n) {a : Addr} {cA : ClassId} {z j : Int32} {vs : List Value} {dv w : Value}  (V : Arv Z h a cA .byte z vs dv) (hj : ¬ j < 0 ∧ j < z) (hv : vs.getD j.toNatClampNeg dv = w) (hd : decode bytes pc = .ok (.baload, 1)) (hq : pc + 1 = q) (r : Goes p e below G (T.setTop (mkF m q L (w :: st)))) : Goes p e below G (T.setTop (mkF m pc L (.int j :: .ref a :: st))) := by
  obtain ⟨hx, hZ, hown, hby, -⟩ := C
  obtain ⟨_, _, _, X, hF, eT, h1, h2⟩ := X
  subst hq
  obtain ⟨cl, A, q1, Sz, q3, H, Gf⟩ := V
  exact go_st (fun t k => X.baloadBytes hx (j := j) (v := w) (by rw [eT]; exact A.1) (State.isArrayOf_alike hZ.alike A.2.1) A.2.2 (inb_of Sz hj) (H.at (inb_of Sz hj) hv) (g := mkF m pc L (.int j :: .ref a :: st)) rfl rfl (hb hby hd) t k) r
theorem g_zaload (C : Cx p s m meth c Z own bytes ml rt mn) (X : St p l e R s m args below meth c n0 T h k n) {a : Addr} {cA : ClassId} {z j : Int32} {vs : List Value} {dv w : Value}  (V : Arv Z h a cA .boolean z vs dv) (hj : ¬ j < 0 ∧ j < z) (hv : vs.getD j.toNatClampNeg dv = w) (hd : decode bytes pc = .ok (.baload, 1)) (hq : pc + 1 = q) (r : Goes p e below G (T.setTop (mkF m q L (w :: st)))) : Goes p e below G (T.setTop (mkF m pc L (.int j :: .ref a :: st))) := by
  obtain ⟨hx, hZ, hown, hby, -⟩ := C
  obtain ⟨_, _, _, X, hF, eT, h1, h2⟩ := X
  subst hq
  obtain ⟨cl, A, q1, Sz, q3, H, Gf⟩ := V
  exact go_st (fun t k => X.baloadBooleans hx (j := j) (v := w) (by rw [eT]; exact A.1) (State.isArrayOf_alike hZ.alike A.2.1) A.2.2 (inb_of Sz hj) (H.at (inb_of Sz hj) hv) (g := mkF m pc L (.int j :: .ref a :: st)) rfl rfl (hb hby hd) t k) r
theorem g_laload (C : Cx p s m meth c Z own bytes ml rt mn) (X : St p l e R s m args below meth c n0 T h k n) {a : Addr} {cA : ClassId} {z j : Int32} {vs : List Value} {dv w : Value}  (V : Arv Z h a cA .long z vs dv) (hj : ¬ j < 0 ∧ j < z) (hv : vs.getD j.toNatClampNeg dv = w) (hd : decode bytes pc = .ok (.laload, 1)) (hq : pc + 1 = q) (r : Goes p e below G (T.setTop (mkF m q L (w :: st)))) : Goes p e below G (T.setTop (mkF m pc L (.int j :: .ref a :: st))) := by
  obtain ⟨hx, hZ, hown, hby, -⟩ := C
  obtain ⟨_, _, _, X, hF, eT, h1, h2⟩ := X
  subst hq
  obtain ⟨cl, A, q1, Sz, q3, H, Gf⟩ := V
  exact go_st (fun t k => X.laload hx (j := j) (v := w) (by rw [eT]; exact A.1) (State.isArrayOf_alike hZ.alike A.2.1) A.2.2 (inb_of Sz hj) (H.at (inb_of Sz hj) hv) (g := mkF m pc L (.int j :: .ref a :: st)) rfl rfl (hb hby hd) t k) r
theorem g_daload (C : Cx p s m meth c Z own bytes ml rt mn) (X : St p l e R s m args below meth c n0 T h k n) {a : Addr} {cA : ClassId} {z j : Int32} {vs : List Value} {dv w : Value}  (V : Arv Z h a cA .double z vs dv) (hj : ¬ j < 0 ∧ j < z) (hv : vs.getD j.toNatClampNeg dv = w) (hd : decode bytes pc = .ok (.daload, 1)) (hq : pc + 1 = q) (r : Goes p e below G (T.setTop (mkF m q L (w :: st)))) : Goes p e below G (T.setTop (mkF m pc L (.int j :: .ref a :: st))) := by
  obtain ⟨hx, hZ, hown, hby, -⟩ := C
  obtain ⟨_, _, _, X, hF, eT, h1, h2⟩ := X
  subst hq
  obtain ⟨cl, A, q1, Sz, q3, H, Gf⟩ := V
  exact go_st (fun t k => X.daload hx (j := j) (v := w) (by rw [eT]; exact A.1) (State.isArrayOf_alike hZ.alike A.2.1) A.2.2 (inb_of Sz hj) (H.at (inb_of Sz hj) hv) (g := mkF m pc L (.int j :: .ref a :: st)) rfl rfl (hb hby hd) t k) r
theorem g_aaload (C : Cx p s m meth c Z own bytes ml rt mn) (X : St p l e R s m args below meth c n0 T h k n) {a : Addr} {cA : ClassId} {z j : Int32} {vs : List Value} {dv w : Value} {ty : FieldType} (hty : ty.isReference = true) (V : Arv Z h a cA ty z vs dv) (hj : ¬ j < 0 ∧ j < z) (hv : vs.getD j.toNatClampNeg dv = w) (hd : decode bytes pc = .ok (.aaload, 1)) (hq : pc + 1 = q) (r : Goes p e below G (T.setTop (mkF m q L (w :: st)))) : Goes p e below G (T.setTop (mkF m pc L (.int j :: .ref a :: st))) := by
  obtain ⟨hx, hZ, hown, hby, -⟩ := C
  obtain ⟨_, _, _, X, hF, eT, h1, h2⟩ := X
  subst hq
  obtain ⟨cl, A, q1, Sz, q3, H, Gf⟩ := V
  exact go_st (fun t k => X.aaload hx (j := j) (v := w) (by rw [eT]; exact A.1) (State.isArrayOf_alike hZ.alike A.2.1) hty A.2.2 (inb_of Sz hj) (H.at (inb_of Sz hj) hv) (g := mkF m pc L (.int j :: .ref a :: st)) rfl rfl (hb hby hd) t k) r
theorem g_alen (C : Cx p s m meth c Z own bytes ml rt mn) (X : St p l e R s m args below meth c n0 T h k n) {a : Addr} {cA : ClassId} {z : Int32} {vs : List Value} {dv : Value} {ty : FieldType} (V : Arv Z h a cA ty z vs dv) (hd : decode bytes pc = .ok (.arraylength, 1)) (hq : pc + 1 = q) (r : Goes p e below G (T.setTop (mkF m q L (.int z :: st)))) : Goes p e below G (T.setTop (mkF m pc L (.ref a :: st))) := by
  obtain ⟨hx, hZ, hown, hby, -⟩ := C
  obtain ⟨_, _, _, X, hF, eT, h1, h2⟩ := X
  subst hq
  obtain ⟨cl, A, q1, Sz, q3, H, Gf⟩ := V
  exact go_st (fun t k => X.arraylength hx (by rw [eT]; exact A.1) (State.isArrayOf_alike hZ.alike A.2.1) (g := mkF m pc L (.ref a :: st)) rfl rfl (hb hby hd) t (by rw [len_of Sz q3]; exact k)) r
theorem g_newR (C : Cx p s m meth c Z own bytes ml rt mn) (X : St p l e R s m args below meth c n0 T h k n) {K : String} {i cap k' n' : Nat} {z : Int32} (w1 : (Cond.classLink own i K).before a0 Z = true) (w2 : (Cond.arrayOver (.object K)).before a0 Z = true) (hd : decode bytes pc = .ok (.anewarray i, 3)) (hq : pc + 3 = q) (hz : ¬ z < 0) (hcap : z.toNatClampNeg ≤ cap) (hcb : cap * 8 ≤ 536870912) (hk : k + 1 = k') (hn : n + cap = n') (hkR : k' ≤ R.cells) (hnR : n' ≤ R.slots)
    (r : ∀ T' h' cA a, a = h.size → St p l e R s m args below meth c n0 T' h' k' n' → Ext h h' → Arv Z h' a cA (.object K) z [] .null → Ovr Z cA K → Goes p e below G (T'.setTop (mkF m q L (.ref a :: st)))) : Goes p e below G (T.setTop (mkF m pc L (.int z :: st))) := by
  obtain ⟨hx, hZ, hown, hby, -⟩ := C
  obtain ⟨_, _, _, X, hF, eT, h1, h2⟩ := X
  subst hq hk hn
  obtain ⟨T', h', cA, X', e', E', A', O', st'⟩ := newR X hx hZ hown w1 w2 eT (g := mkF m pc L (.int z :: st)) rfl (hb hby hd) rfl hz (cap := cap) hcap hcb (Nat.le_trans (Nat.add_le_add_right h1 1) hkR) (Nat.le_trans (Nat.add_le_add_right h2 cap) hnR)
  exact go_st st' (r T' h' cA _ rfl ⟨_, _, _, X', hF, e', Nat.add_le_add_right h1 1, Nat.add_le_add_right h2 cap⟩ E' (Arv.new A' hz) O')
theorem g_castY (C : Cx p s m meth c Z own bytes ml rt mn) (X : St p l e R s m args below meth c n0 T h k n) {K : String} {i : Nat} {a : Addr} (w : (Cond.classLink own i K).before a0 Z = true) (I : Ins Z h a K true) (hd : decode bytes pc = .ok (.checkcast i, 3)) (hq : pc + 3 = q) (r : ∀ T', St p l e R s m args below meth c n0 T' h k n → Goes p e below G (T'.setTop (mkF m q L (.ref a :: st)))) : Goes p e below G (T.setTop (mkF m pc L (.ref a :: st))) := by
  obtain ⟨hx, hZ, hown, hby, -⟩ := C
  obtain ⟨_, _, _, X, hF, eT, h1, h2⟩ := X
  subst hq
  obtain ⟨T', X', e', st'⟩ := castY X hx hZ hown w eT I (g := mkF m pc L (.ref a :: st)) rfl rfl (hb hby hd)
  exact go_st st' (r T' ⟨_, _, _, X', hF, e', h1, h2⟩)
theorem g_instY (C : Cx p s m meth c Z own bytes ml rt mn) (X : St p l e R s m args below meth c n0 T h k n) {K : String} {i : Nat} {a : Addr} (w : (Cond.classLink own i K).before a0 Z = true) (I : Ins Z h a K true) (hd : decode bytes pc = .ok (.instanceof i, 3)) (hq : pc + 3 = q) (r : ∀ T', St p l e R s m args below meth c n0 T' h k n → Goes p e below G (T'.setTop (mkF m q L (.int 1 :: st)))) : Goes p e below G (T.setTop (mkF m pc L (.ref a :: st))) := by
  obtain ⟨hx, hZ, hown, hby, -⟩ := C
  obtain ⟨_, _, _, X, hF, eT, h1, h2⟩ := X
  subst hq
  obtain ⟨T', X', e', st'⟩ := instY X hx hZ hown w eT I (g := mkF m pc L (.ref a :: st)) rfl rfl (hb hby hd)
  exact go_st st' (r T' ⟨_, _, _, X', hF, e', h1, h2⟩)
theorem g_instNo (C : Cx p s m meth c Z own bytes ml rt mn) (X : St p l e R s m args below meth c n0 T h k n) {K K' : String} {i : Nat} {a : Addr} (w : (Cond.classLink own i K).before a0 Z = true) (E : Exa Z h a K') (F : ∃ c t, Z.vm.findClass K' = some c ∧ Z.vm.findClass K = some t ∧ Z.vm.assignable c t = false) (hd : decode bytes pc = .ok (.instanceof i, 3)) (hq : pc + 3 = q) (r : ∀ T', St p l e R s m args below meth c n0 T' h k n → Goes p e below G (T'.setTop (mkF m q L (.int 0 :: st)))) : Goes p e below G (T.setTop (mkF m pc L (.ref a :: st))) := by
  obtain ⟨hx, hZ, hown, hby, -⟩ := C
  obtain ⟨_, _, _, X, hF, eT, h1, h2⟩ := X
  subst hq
  obtain ⟨T', X', e', st'⟩ := instNo X hx hZ hown w eT E F (g := mkF m pc L (.ref a :: st)) rfl rfl (hb hby hd)
  exact go_st st' (r T' ⟨_, _, _, X', hF, e', h1, h2⟩)
theorem g_instNull (C : Cx p s m meth c Z own bytes ml rt mn) (X : St p l e R s m args below meth c n0 T h k n) {i : Nat} (hd : decode bytes pc = .ok (.instanceof i, 3)) (hq : pc + 3 = q) (r : Goes p e below G (T.setTop (mkF m q L (.int 0 :: st)))) : Goes p e below G (T.setTop (mkF m pc L (.null :: st))) := by
  obtain ⟨hx, hZ, hown, hby, -⟩ := C
  obtain ⟨_, _, _, X, hF, eT, h1, h2⟩ := X
  subst hq
  exact go_st (fun t k => X.instanceofNull hx (g := mkF m pc L (.null :: st)) rfl rfl (hb hby hd) t k) r
theorem g_castNull (C : Cx p s m meth c Z own bytes ml rt mn) (X : St p l e R s m args below meth c n0 T h k n) {i : Nat} (hd : decode bytes pc = .ok (.checkcast i, 3)) (hq : pc + 3 = q) (r : Goes p e below G (T.setTop (mkF m q L (.null :: st)))) : Goes p e below G (T.setTop (mkF m pc L (.null :: st))) := by
  obtain ⟨hx, hZ, hown, hby, -⟩ := C
  obtain ⟨_, _, _, X, hF, eT, h1, h2⟩ := X
  subst hq
  exact go_st (fun t k => X.checkcastNull hx (g := mkF m pc L (.null :: st)) rfl rfl (hb hby hd) t k) r
theorem g_getClass (C : Cx p s m meth c Z own bytes ml rt mn) (X : St p l e R s m args below meth c n0 T h k n) {K : String} {i : Nat} {a mr : Addr} (w1 : (Cond.methodLink own i ⟨"java/lang/Object", "getClass", "()Ljava/lang/Class;"⟩).before a0 Z = true) (w2 : (Cond.declares ⟨"java/lang/Object", "getClass", "()Ljava/lang/Class;"⟩).before a0 Z = true) (w4 : (Cond.selects K ⟨"java/lang/Object", "getClass", "()Ljava/lang/Class;"⟩ ⟨"java/lang/Object", "getClass", "()Ljava/lang/Class;"⟩).before a0 Z = true)
    (w5 : (Cond.instanceMethod ⟨"java/lang/Object", "getClass", "()Ljava/lang/Class;"⟩).before a0 Z = true) (w6 : (Cond.native ⟨"java/lang/Object", "getClass", "()Ljava/lang/Class;"⟩).before a0 Z = true) (E : Exa Z h a K) (M : ∃ c k, Z.vm.findClass K = some c ∧ Z.vm.classes[c]? = some k ∧ k.mirror = some mr) (hsz : L.size = ml) (hd : decode bytes pc = .ok (.invokevirtual i, 3)) (hq : pc + 3 = q) (hf : 1 ≤ R.frames) (hl : (st.map fun v => v.category).sum + (nativeFrameWords "java/lang/Object" "getClass" 1 + 11) ≤ R.locals)
    (r : ∀ T', St p l e R s m args below meth c n0 T' h k n → Goes p e below G (T'.setTop (mkF m q L (.ref mr :: st)))) : Goes p e below G (T.setTop (mkF m pc L (.ref a :: st))) := by
  obtain ⟨hx, hZ, hown, hby, hml, -⟩ := C
  obtain ⟨_, _, _, X, hF, eT, h1, h2⟩ := X
  subst hq
  obtain ⟨cB, kB, i1, i2, i3⟩ := isOf hZ eT E
  obtain ⟨cc, kc, m1, m2, m3⟩ := M
  rw [hZ.alike.findClass] at i1
  cases i1.symm.trans m1
  obtain ⟨k', q, ek⟩ := hZ.alike.2.2 _ _ m2
  obtain ⟨vm', X', st'⟩ := X.getClassOf hx hown (mvT hZ w1) (mvT hZ w2) (notFace_of_selects (args := #[]) (mvT hZ w4)) (mvT hZ w4) (mvT hZ w5) (mvT hZ w6) (by rw [hZ.alike.findClass]; exact m1) i3 q (by rw [ek]; exact m3) (g := mkF m pc L (.ref a :: st)) rfl (hsz.trans hml.symm) rfl (hb hby hd) hf (by show 2 * 0 + _ + _ ≤ _; omega)
  exact go_st st' (r _ ⟨_, _, _, X', hF, eT, h1, h2⟩)
theorem g_callSb (C : Cx p s m meth c Z own bytes ml rt mn) (X : St p l e R s m args below meth c n0 T h k n) {as' : Array Value} {argsL : List Value} {ps : List FieldType} {rt' : Option FieldType} {k' n' W kc ks : Nat} {QL : Option Value → Heap → List Loc → Prop} {y : MethodName} {i : Nat} (hy : y.cls ≠ "java/lang/invoke/MethodHandle" ∧ y.cls ≠ "java/lang/invoke/VarHandle") (w1 : (Cond.methodLink own i y).before a0 Z = true) (w2 : (Cond.static y).before a0 Z = true) {bts : ByteArray} {mxl : Nat} {rty : Option FieldType} (w8 : (Cond.code y bts mxl rty).before a0 Z = true) (w9 : (Cond.initialized y.cls).before a0 Z = true) (bk : Back l R p e below s args y 3 W (fun A a => a = as' ∧ A.U.heap = h ∧ A.cells + kc ≤ R.cells ∧ A.slots + ks ≤ R.slots) (fun A _ v B => ∃ L, QL v B.U.heap L ∧ B.locs = A.locs ++ L ∧ B.cells = A.cells + kc ∧ B.slots = A.slots + ks)) (hk : k + kc = k') (hn : n + ks = n') (hkR : k' ≤ R.cells) (hnR : n' ≤ R.slots) (hsz : L.size = ml) (hdd : parseMethodDescriptor y.desc = some ⟨ps, rt'⟩) (hlen : argsL.length = ps.length) (hst : st = argsL.reverse ++ rest) (has : argsL.toArray = as') (hW : (rest.map fun v => v.category).sum = W) (hd : decode bytes pc = .ok (.invokestatic i, 3)) (hq : pc + 3 = q)
    (r : ∀ v T' h' L', St p l e R s m args below meth c n0 T' h' k' n' ∨ ¬ Fr n0 L' → QL v h' L' → Goes p e below G (T'.setTop (mkF m q L (v.toList ++ rest)))) : Goes p e below G (T.setTop (mkF m pc L st)) := by
  obtain ⟨hx, hZ, hown, hby, hml, -⟩ := C
  obtain ⟨_, cells, slots, X, hF, eT, h1, h2⟩ := X
  subst hq hk hn has hst hW
  obtain ⟨_, _, ⟨T', Lo, kk, nn⟩, -, X', ⟨Lc, hQ, q1, q2, q3⟩, st'⟩ := Jvm.LawKit.callS X hx hown (mvT hZ w1) (mvT hZ w2) (mvT hZ w9) (mvT hZ w8) hy bk (g := mkF m pc L (argsL.reverse ++ rest)) rfl (hsz.trans hml.symm) (argsL := argsL) (rest := rest) (lenOf hdd hlen) rfl (by show 2 * 0 + _ ≤ _; omega) (hb hby hd) (fun _ _ => ⟨rfl, eT, Nat.le_trans (Nat.add_le_add_right h1 _) hkR, Nat.le_trans (Nat.add_le_add_right h2 _) hnR⟩)
  dsimp only [Pt.U, Pt.locs, Pt.cells, Pt.slots] at X' q1 q2 q3 st' hQ
  subst q1 q2 q3
  refine go_st st' (r _ T' _ Lc ?_ hQ)
  by_cases hFr : Fr n0 Lc
  · exact Or.inl ⟨_, _, _, X', Fr.app hF hFr, rfl, Nat.add_le_add_right h1 _, Nat.add_le_add_right h2 _⟩
  · exact Or.inr hFr
theorem g_callS1 (C : Cx p s m meth c Z own bytes ml rt mn) (X : St p l e R s m args below meth c n0 T h k n) {rm : Room} {as' : Array Value} {bts : ByteArray} {mxl : Nat} {rty : Option FieldType} {argsL : List Value} {ps : List FieldType} {rt' : Option FieldType} {k' n' W : Nat} {Q : Value → Heap → Prop} {y : MethodName} {i : Nat} (hy : y.cls ≠ "java/lang/invoke/MethodHandle" ∧ y.cls ≠ "java/lang/invoke/VarHandle") (w1 : (Cond.methodLink own i y).before a0 Z = true) (w2 : (Cond.static y).before a0 Z = true) (w8 : (Cond.code y bts mxl rty).before a0 Z = true) (w9 : (Cond.initialized y.cls).before a0 Z = true) (hM : Met1 l Z y bts mxl rty rm as' h n0 Q) (hf : rm.frames + 1 ≤ R.frames) (hl : W + (mxl + 11) + rm.locals ≤ R.locals) (hk : k + rm.cells = k') (hn : n + rm.slots = n') (hkR : k' ≤ R.cells) (hnR : n' ≤ R.slots) (hsz : L.size = ml) (hdd : parseMethodDescriptor y.desc = some ⟨ps, rt'⟩) (hlen : argsL.length = ps.length) (hst : st = argsL.reverse ++ rest) (has : argsL.toArray = as') (hW : (rest.map fun v => v.category).sum = W) (hd : decode bytes pc = .ok (.invokestatic i, 3)) (hq : pc + 3 = q)
    (r : ∀ w T' h', St p l e R s m args below meth c n0 T' h' k' n' → Q w h' → Goes p e below G (T'.setTop (mkF m q L (w :: rest)))) : Goes p e below G (T.setTop (mkF m pc L st)) := by
  have bk := backOf (Q := fun v h L => Fr n0 L ∧ (∃ w, v = some w ∧ Q w h)) (R := R) (p := p) (e := e) (below := below) (s := s) (args := args) (len := 3) (W := W) (hM []) C.2.1 w8 w9 hf hl
  refine g_callSb C X (QL := fun v h L => Fr n0 L ∧ (∃ w, v = some w ∧ Q w h)) hy w1 w2 w8 w9 bk hk hn hkR hnR hsz hdd hlen hst has hW hd hq ?_
  rintro v T' h' L' hX ⟨hFr, hQ⟩
  obtain ⟨w, rfl, hQ⟩ := hQ
  exact r w T' h' (hX.resolve_right fun z => z hFr) hQ
theorem g_callS0 (C : Cx p s m meth c Z own bytes ml rt mn) (X : St p l e R s m args below meth c n0 T h k n) {rm : Room} {as' : Array Value} {bts : ByteArray} {mxl : Nat} {rty : Option FieldType} {argsL : List Value} {ps : List FieldType} {rt' : Option FieldType} {k' n' W : Nat} {Q : Heap → Prop} {y : MethodName} {i : Nat} (hy : y.cls ≠ "java/lang/invoke/MethodHandle" ∧ y.cls ≠ "java/lang/invoke/VarHandle") (w1 : (Cond.methodLink own i y).before a0 Z = true) (w2 : (Cond.static y).before a0 Z = true) (w8 : (Cond.code y bts mxl rty).before a0 Z = true) (w9 : (Cond.initialized y.cls).before a0 Z = true) (hM : Met0 l Z y bts mxl rty rm as' h n0 Q) (hf : rm.frames + 1 ≤ R.frames) (hl : W + (mxl + 11) + rm.locals ≤ R.locals) (hk : k + rm.cells = k') (hn : n + rm.slots = n') (hkR : k' ≤ R.cells) (hnR : n' ≤ R.slots) (hsz : L.size = ml) (hdd : parseMethodDescriptor y.desc = some ⟨ps, rt'⟩) (hlen : argsL.length = ps.length) (hst : st = argsL.reverse ++ rest) (has : argsL.toArray = as') (hW : (rest.map fun v => v.category).sum = W) (hd : decode bytes pc = .ok (.invokestatic i, 3)) (hq : pc + 3 = q)
    (r : ∀ T' h', St p l e R s m args below meth c n0 T' h' k' n' → Q h' → Goes p e below G (T'.setTop (mkF m q L rest))) : Goes p e below G (T.setTop (mkF m pc L st)) := by
  have bk := backOf (Q := fun v h L => Fr n0 L ∧ (v = none ∧ Q h)) (R := R) (p := p) (e := e) (below := below) (s := s) (args := args) (len := 3) (W := W) (hM []) C.2.1 w8 w9 hf hl
  refine g_callSb C X (QL := fun v h L => Fr n0 L ∧ (v = none ∧ Q h)) hy w1 w2 w8 w9 bk hk hn hkR hnR hsz hdd hlen hst has hW hd hq ?_
  rintro v T' h' L' hX ⟨hFr, hQ⟩
  obtain ⟨rfl, hQ⟩ := hQ
  exact r T' h' (hX.resolve_right fun z => z hFr) hQ
theorem g_callIb (C : Cx p s m meth c Z own bytes ml rt mn) (X : St p l e R s m args below meth c n0 T h k n) {as' : Array Value} {argsL : List Value} {ps : List FieldType} {rt' : Option FieldType} {k' n' W kc ks : Nat} {QL : Option Value → Heap → List Loc → Prop} {y : MethodName} {i : Nat} {a : Addr} (hy : y.cls ≠ "java/lang/invoke/MethodHandle" ∧ y.cls ≠ "java/lang/invoke/VarHandle") (hy1 : y.name = "<init>") (w1 : (Cond.methodLink own i y).before a0 Z = true) (w2 : (Cond.instanceMethod y).before a0 Z = true) {bts : ByteArray} {mxl : Nat} (w8 : (Cond.code y bts mxl none).before a0 Z = true) (bk : Back l R p e below s args y 3 W (fun A a => a = as' ∧ A.U.heap = h ∧ A.cells + kc ≤ R.cells ∧ A.slots + ks ≤ R.slots) (fun A _ v B => ∃ L, QL v B.U.heap L ∧ B.locs = A.locs ++ L ∧ B.cells = A.cells + kc ∧ B.slots = A.slots + ks)) (hk : k + kc = k') (hn : n + ks = n') (hkR : k' ≤ R.cells) (hnR : n' ≤ R.slots) (hsz : L.size = ml) (hdd : parseMethodDescriptor y.desc = some ⟨ps, rt'⟩) (hlen : argsL.length = ps.length) (hst : st = argsL.reverse ++ .ref a :: rest) (has : (.ref a :: argsL).toArray = as') (hW : (rest.map fun v => v.category).sum = W) (hd : decode bytes pc = .ok (.invokespecial i, 3)) (hq : pc + 3 = q)
    (r : ∀ v T' h' L', St p l e R s m args below meth c n0 T' h' k' n' ∨ ¬ Fr n0 L' → QL v h' L' → Goes p e below G (T'.setTop (mkF m q L (v.toList ++ rest)))) : Goes p e below G (T.setTop (mkF m pc L st)) := by
  obtain ⟨hx, hZ, hown, hby, hml, -⟩ := C
  obtain ⟨_, cells, slots, X, hF, eT, h1, h2⟩ := X
  subst hq hk hn has hst hW
  obtain ⟨_, _, ⟨T', Lo, kk, nn⟩, -, X', ⟨Lc, hQ, q1, q2, q3⟩, st'⟩ := X.specialBack hx hy1 hown (mvT hZ w1) (mvT hZ w2) (mvT hZ w8) hy bk (g := mkF m pc L (argsL.reverse ++ .ref a :: rest)) rfl (hsz.trans hml.symm) (Steps.refl _) (a := a) (argsL := argsL) (rest := rest) (lenOf hdd hlen) rfl (by show 2 * 0 + _ ≤ _; omega) (hb hby hd) (fun _ _ => ⟨rfl, eT, Nat.le_trans (Nat.add_le_add_right h1 _) hkR, Nat.le_trans (Nat.add_le_add_right h2 _) hnR⟩)
  dsimp only [Pt.U, Pt.locs, Pt.cells, Pt.slots] at X' q1 q2 q3 st' hQ
  subst q1 q2 q3
  refine go_tr st' (r _ T' _ Lc ?_ hQ)
  by_cases hFr : Fr n0 Lc
  · exact Or.inl ⟨_, _, _, X', Fr.app hF hFr, rfl, Nat.add_le_add_right h1 _, Nat.add_le_add_right h2 _⟩
  · exact Or.inr hFr
theorem g_callI0 (C : Cx p s m meth c Z own bytes ml rt mn) (X : St p l e R s m args below meth c n0 T h k n) {rm : Room} {as' : Array Value} {bts : ByteArray} {mxl : Nat} {argsL : List Value} {ps : List FieldType} {rt' : Option FieldType} {k' n' W : Nat} {Q : Heap → Prop} {y : MethodName} {i : Nat} {a : Addr} (hy : y.cls ≠ "java/lang/invoke/MethodHandle" ∧ y.cls ≠ "java/lang/invoke/VarHandle") (hy1 : y.name = "<init>") (w1 : (Cond.methodLink own i y).before a0 Z = true) (w2 : (Cond.instanceMethod y).before a0 Z = true) (w8 : (Cond.code y bts mxl none).before a0 Z = true) (w9 : (Cond.initialized y.cls).before a0 Z = true) (hM : Met0 l Z y bts mxl none rm as' h n0 Q) (hf : rm.frames + 1 ≤ R.frames) (hl : W + (mxl + 11) + rm.locals ≤ R.locals) (hk : k + rm.cells = k') (hn : n + rm.slots = n') (hkR : k' ≤ R.cells) (hnR : n' ≤ R.slots) (hsz : L.size = ml) (hdd : parseMethodDescriptor y.desc = some ⟨ps, rt'⟩) (hlen : argsL.length = ps.length) (hst : st = argsL.reverse ++ .ref a :: rest) (has : (.ref a :: argsL).toArray = as') (hW : (rest.map fun v => v.category).sum = W) (hd : decode bytes pc = .ok (.invokespecial i, 3)) (hq : pc + 3 = q)
    (r : ∀ T' h', St p l e R s m args below meth c n0 T' h' k' n' → Q h' → Goes p e below G (T'.setTop (mkF m q L rest))) : Goes p e below G (T.setTop (mkF m pc L st)) := by
  have bk := backOf (Q := fun v h L => Fr n0 L ∧ (v = none ∧ Q h)) (R := R) (p := p) (e := e) (below := below) (s := s) (args := args) (len := 3) (W := W) (hM []) C.2.1 w8 w9 hf hl
  refine g_callIb C X (QL := fun v h L => Fr n0 L ∧ (v = none ∧ Q h)) hy hy1 w1 w2 w8 bk hk hn hkR hnR hsz hdd hlen hst has hW hd hq ?_
  rintro v T' h' L' hX ⟨hFr, hQ⟩
  obtain ⟨rfl, hQ⟩ := hQ
  exact r T' h' (hX.resolve_right fun z => z hFr) hQ
theorem g_callVb (C : Cx p s m meth c Z own bytes ml rt mn) (X : St p l e R s m args below meth c n0 T h k n) {as' : Array Value} {argsL : List Value} {ps : List FieldType} {rt' : Option FieldType} {k' n' W kc ks : Nat} {QL : Option Value → Heap → List Loc → Prop} {y z : MethodName} {i : Nat} {a : Addr} {K : String} (hy : y.cls ≠ "java/lang/invoke/MethodHandle" ∧ y.cls ≠ "java/lang/invoke/VarHandle") (w1 : (Cond.methodLink own i y).before a0 Z = true) (w2 : (Cond.declares y).before a0 Z = true) (w3 : (Cond.selects K y z).before a0 Z = true) (w4 : (Cond.instanceMethod z).before a0 Z = true) (hnf : ∀ s' : State, Z.Warmed39 s'.vm → NotFace s' y) (E : Exa Z h a K) (bk : Back l R p e below s args z 3 W (fun A a => a = as' ∧ A.U.heap = h ∧ A.cells + kc ≤ R.cells ∧ A.slots + ks ≤ R.slots) (fun A _ v B => ∃ L, QL v B.U.heap L ∧ B.locs = A.locs ++ L ∧ B.cells = A.cells + kc ∧ B.slots = A.slots + ks)) (hk : k + kc = k') (hn : n + ks = n') (hkR : k' ≤ R.cells) (hnR : n' ≤ R.slots) (hsz : L.size = ml) (hdd : parseMethodDescriptor y.desc = some ⟨ps, rt'⟩) (hlen : argsL.length = ps.length) (hst : st = argsL.reverse ++ .ref a :: rest) (has : (.ref a :: argsL).toArray = as') (hW : (rest.map fun v => v.category).sum = W) (hd : decode bytes pc = .ok (.invokevirtual i, 3)) (hq : pc + 3 = q)
    (r : ∀ v T' h' L', St p l e R s m args below meth c n0 T' h' k' n' ∨ ¬ Fr n0 L' → QL v h' L' → Goes p e below G (T'.setTop (mkF m q L (v.toList ++ rest)))) : Goes p e below G (T.setTop (mkF m pc L st)) := by
  obtain ⟨hx, hZ, hown, hby, hml, -⟩ := C
  obtain ⟨_, cells, slots, X, hF, eT, h1, h2⟩ := X
  subst hq hk hn has hst hW
  obtain ⟨cB, kB, qa, qb, qc⟩ := isOf hZ eT E
  obtain ⟨_, _, ⟨T', Lo, kk, nn⟩, -, X', ⟨Lc, hQ, q1, q2, q3⟩, st'⟩ := X.virtualBack hx hown (mvT hZ w1) (mvT hZ w2) (hnf s hZ) (mvT hZ w3) (mvT hZ w4) hy bk qa qc (g := mkF m pc L (argsL.reverse ++ .ref a :: rest)) rfl (hsz.trans hml.symm) (Steps.refl _) (argsL := argsL) (rest := rest) (lenOf hdd hlen) rfl (by show 2 * 0 + _ ≤ _; omega) (hb hby hd) (fun _ _ => ⟨rfl, eT, Nat.le_trans (Nat.add_le_add_right h1 _) hkR, Nat.le_trans (Nat.add_le_add_right h2 _) hnR⟩)
  dsimp only [Pt.U, Pt.locs, Pt.cells, Pt.slots] at X' q1 q2 q3 st' hQ
  subst q1 q2 q3
  refine go_tr st' (r _ T' _ Lc ?_ hQ)
  by_cases hFr : Fr n0 Lc
  · exact Or.inl ⟨_, _, _, X', Fr.app hF hFr, rfl, Nat.add_le_add_right h1 _, Nat.add_le_add_right h2 _⟩
  · exact Or.inr hFr
theorem g_callV1 (C : Cx p s m meth c Z own bytes ml rt mn) (X : St p l e R s m args below meth c n0 T h k n) {rm : Room} {as' : Array Value} {bts : ByteArray} {mxl : Nat} {rty : Option FieldType} {argsL : List Value} {ps : List FieldType} {rt' : Option FieldType} {k' n' W : Nat} {Q : Value → Heap → Prop} {y z : MethodName} {i : Nat} {a : Addr} {K : String} (hy : y.cls ≠ "java/lang/invoke/MethodHandle" ∧ y.cls ≠ "java/lang/invoke/VarHandle") (w1 : (Cond.methodLink own i y).before a0 Z = true) (w2 : (Cond.declares y).before a0 Z = true) (w3 : (Cond.selects K y z).before a0 Z = true) (w4 : (Cond.instanceMethod z).before a0 Z = true) (hnf : ∀ s' : State, Z.Warmed39 s'.vm → NotFace s' y) (E : Exa Z h a K) (w8 : (Cond.code z bts mxl rty).before a0 Z = true) (w9 : (Cond.initialized z.cls).before a0 Z = true) (hM : Met1 l Z z bts mxl rty rm as' h n0 Q) (hf : rm.frames + 1 ≤ R.frames) (hl : W + (mxl + 11) + rm.locals ≤ R.locals) (hk : k + rm.cells = k') (hn : n + rm.slots = n') (hkR : k' ≤ R.cells) (hnR : n' ≤ R.slots) (hsz : L.size = ml) (hdd : parseMethodDescriptor y.desc = some ⟨ps, rt'⟩) (hlen : argsL.length = ps.length) (hst : st = argsL.reverse ++ .ref a :: rest) (has : (.ref a :: argsL).toArray = as') (hW : (rest.map fun v => v.category).sum = W) (hd : decode bytes pc = .ok (.invokevirtual i, 3)) (hq : pc + 3 = q)
    (r : ∀ w T' h', St p l e R s m args below meth c n0 T' h' k' n' → Q w h' → Goes p e below G (T'.setTop (mkF m q L (w :: rest)))) : Goes p e below G (T.setTop (mkF m pc L st)) := by
  have bk := backOf (Q := fun v h L => Fr n0 L ∧ (∃ w, v = some w ∧ Q w h)) (R := R) (p := p) (e := e) (below := below) (s := s) (args := args) (len := 3) (W := W) (hM []) C.2.1 w8 w9 hf hl
  refine g_callVb C X (QL := fun v h L => Fr n0 L ∧ (∃ w, v = some w ∧ Q w h)) hy w1 w2 w3 w4 hnf E bk hk hn hkR hnR hsz hdd hlen hst has hW hd hq ?_
  rintro v T' h' L' hX ⟨hFr, hQ⟩
  obtain ⟨w, rfl, hQ⟩ := hQ
  exact r w T' h' (hX.resolve_right fun z => z hFr) hQ
theorem g_callV0 (C : Cx p s m meth c Z own bytes ml rt mn) (X : St p l e R s m args below meth c n0 T h k n) {rm : Room} {as' : Array Value} {bts : ByteArray} {mxl : Nat} {rty : Option FieldType} {argsL : List Value} {ps : List FieldType} {rt' : Option FieldType} {k' n' W : Nat} {Q : Heap → Prop} {y z : MethodName} {i : Nat} {a : Addr} {K : String} (hy : y.cls ≠ "java/lang/invoke/MethodHandle" ∧ y.cls ≠ "java/lang/invoke/VarHandle") (w1 : (Cond.methodLink own i y).before a0 Z = true) (w2 : (Cond.declares y).before a0 Z = true) (w3 : (Cond.selects K y z).before a0 Z = true) (w4 : (Cond.instanceMethod z).before a0 Z = true) (hnf : ∀ s' : State, Z.Warmed39 s'.vm → NotFace s' y) (E : Exa Z h a K) (w8 : (Cond.code z bts mxl rty).before a0 Z = true) (w9 : (Cond.initialized z.cls).before a0 Z = true) (hM : Met0 l Z z bts mxl rty rm as' h n0 Q) (hf : rm.frames + 1 ≤ R.frames) (hl : W + (mxl + 11) + rm.locals ≤ R.locals) (hk : k + rm.cells = k') (hn : n + rm.slots = n') (hkR : k' ≤ R.cells) (hnR : n' ≤ R.slots) (hsz : L.size = ml) (hdd : parseMethodDescriptor y.desc = some ⟨ps, rt'⟩) (hlen : argsL.length = ps.length) (hst : st = argsL.reverse ++ .ref a :: rest) (has : (.ref a :: argsL).toArray = as') (hW : (rest.map fun v => v.category).sum = W) (hd : decode bytes pc = .ok (.invokevirtual i, 3)) (hq : pc + 3 = q)
    (r : ∀ T' h', St p l e R s m args below meth c n0 T' h' k' n' → Q h' → Goes p e below G (T'.setTop (mkF m q L rest))) : Goes p e below G (T.setTop (mkF m pc L st)) := by
  have bk := backOf (Q := fun v h L => Fr n0 L ∧ (v = none ∧ Q h)) (R := R) (p := p) (e := e) (below := below) (s := s) (args := args) (len := 3) (W := W) (hM []) C.2.1 w8 w9 hf hl
  refine g_callVb C X (QL := fun v h L => Fr n0 L ∧ (v = none ∧ Q h)) hy w1 w2 w3 w4 hnf E bk hk hn hkR hnR hsz hdd hlen hst has hW hd hq ?_
  rintro v T' h' L' hX ⟨hFr, hQ⟩
  obtain ⟨rfl, hQ⟩ := hQ
  exact r T' h' (hX.resolve_right fun z => z hFr) hQ
theorem g_callUb (C : Cx p s m meth c Z own bytes ml rt mn) (X : St p l e R s m args below meth c n0 T h k n) {as' : Array Value} {argsL : List Value} {ps : List FieldType} {rt' : Option FieldType} {k' n' W kc ks : Nat} {QL : Option Value → Heap → List Loc → Prop} {y z : MethodName} {i : Nat} {a : Addr} {K owner : String} (hy : owner ≠ "java/lang/invoke/MethodHandle" ∧ owner ≠ "java/lang/invoke/VarHandle") (w1 : (Cond.methodLink own i y).before a0 Z = true) (w2 : (Cond.sameMethod y.cls owner y.name y.desc).before a0 Z = true) (w2' : (Cond.declares ⟨owner, y.name, y.desc⟩).before a0 Z = true) (w3 : (Cond.selects K y z).before a0 Z = true) (w4 : (Cond.instanceMethod z).before a0 Z = true) (E : Exa Z h a K) (bk : Back l R p e below s args z 3 W (fun A a => a = as' ∧ A.U.heap = h ∧ A.cells + kc ≤ R.cells ∧ A.slots + ks ≤ R.slots) (fun A _ v B => ∃ L, QL v B.U.heap L ∧ B.locs = A.locs ++ L ∧ B.cells = A.cells + kc ∧ B.slots = A.slots + ks)) (hk : k + kc = k') (hn : n + ks = n') (hkR : k' ≤ R.cells) (hnR : n' ≤ R.slots) (hsz : L.size = ml) (hdd : parseMethodDescriptor y.desc = some ⟨ps, rt'⟩) (hlen : argsL.length = ps.length) (hst : st = argsL.reverse ++ .ref a :: rest) (has : (.ref a :: argsL).toArray = as') (hW : (rest.map fun v => v.category).sum = W) (hd : decode bytes pc = .ok (.invokevirtual i, 3)) (hq : pc + 3 = q)
    (r : ∀ v T' h' L', St p l e R s m args below meth c n0 T' h' k' n' ∨ ¬ Fr n0 L' → QL v h' L' → Goes p e below G (T'.setTop (mkF m q L (v.toList ++ rest)))) : Goes p e below G (T.setTop (mkF m pc L st)) := by
  obtain ⟨hx, hZ, hown, hby, hml, -⟩ := C
  obtain ⟨_, cells, slots, X, hF, eT, h1, h2⟩ := X
  subst hq hk hn has hst hW
  obtain ⟨cB, kB, qa, qb, qc⟩ := isOf hZ eT E
  obtain ⟨_, _, ⟨T', Lo, kk, nn⟩, -, X', ⟨Lc, hQ, q1, q2, q3⟩, st'⟩ := X.virtualBackUp hx hown (mvT hZ w1) (mvT hZ w2) (mvT hZ w2') hy (mvT hZ w3) (mvT hZ w4) bk qa qc (g := mkF m pc L (argsL.reverse ++ .ref a :: rest)) rfl (hsz.trans hml.symm) (Steps.refl _) (argsL := argsL) (rest := rest) (lenOf hdd hlen) rfl (by show 2 * 0 + _ ≤ _; omega) (hb hby hd) (fun _ _ => ⟨rfl, eT, Nat.le_trans (Nat.add_le_add_right h1 _) hkR, Nat.le_trans (Nat.add_le_add_right h2 _) hnR⟩)
  dsimp only [Pt.U, Pt.locs, Pt.cells, Pt.slots] at X' q1 q2 q3 st' hQ
  subst q1 q2 q3
  refine go_tr st' (r _ T' _ Lc ?_ hQ)
  by_cases hFr : Fr n0 Lc
  · exact Or.inl ⟨_, _, _, X', Fr.app hF hFr, rfl, Nat.add_le_add_right h1 _, Nat.add_le_add_right h2 _⟩
  · exact Or.inr hFr
theorem g_callU1 (C : Cx p s m meth c Z own bytes ml rt mn) (X : St p l e R s m args below meth c n0 T h k n) {rm : Room} {as' : Array Value} {bts : ByteArray} {mxl : Nat} {rty : Option FieldType} {argsL : List Value} {ps : List FieldType} {rt' : Option FieldType} {k' n' W : Nat} {Q : Value → Heap → Prop} {y z : MethodName} {i : Nat} {a : Addr} {K owner : String} (hy : owner ≠ "java/lang/invoke/MethodHandle" ∧ owner ≠ "java/lang/invoke/VarHandle") (w1 : (Cond.methodLink own i y).before a0 Z = true) (w2 : (Cond.sameMethod y.cls owner y.name y.desc).before a0 Z = true) (w2' : (Cond.declares ⟨owner, y.name, y.desc⟩).before a0 Z = true) (w3 : (Cond.selects K y z).before a0 Z = true) (w4 : (Cond.instanceMethod z).before a0 Z = true) (E : Exa Z h a K) (w8 : (Cond.code z bts mxl rty).before a0 Z = true) (w9 : (Cond.initialized z.cls).before a0 Z = true) (hM : Met1 l Z z bts mxl rty rm as' h n0 Q) (hf : rm.frames + 1 ≤ R.frames) (hl : W + (mxl + 11) + rm.locals ≤ R.locals) (hk : k + rm.cells = k') (hn : n + rm.slots = n') (hkR : k' ≤ R.cells) (hnR : n' ≤ R.slots) (hsz : L.size = ml) (hdd : parseMethodDescriptor y.desc = some ⟨ps, rt'⟩) (hlen : argsL.length = ps.length) (hst : st = argsL.reverse ++ .ref a :: rest) (has : (.ref a :: argsL).toArray = as') (hW : (rest.map fun v => v.category).sum = W) (hd : decode bytes pc = .ok (.invokevirtual i, 3)) (hq : pc + 3 = q)
    (r : ∀ w T' h', St p l e R s m args below meth c n0 T' h' k' n' → Q w h' → Goes p e below G (T'.setTop (mkF m q L (w :: rest)))) : Goes p e below G (T.setTop (mkF m pc L st)) := by
  have bk := backOf (Q := fun v h L => Fr n0 L ∧ (∃ w, v = some w ∧ Q w h)) (R := R) (p := p) (e := e) (below := below) (s := s) (args := args) (len := 3) (W := W) (hM []) C.2.1 w8 w9 hf hl
  refine g_callUb C X (QL := fun v h L => Fr n0 L ∧ (∃ w, v = some w ∧ Q w h)) hy w1 w2 w2' w3 w4 E bk hk hn hkR hnR hsz hdd hlen hst has hW hd hq ?_
  rintro v T' h' L' hX ⟨hFr, hQ⟩
  obtain ⟨w, rfl, hQ⟩ := hQ
  exact r w T' h' (hX.resolve_right fun z => z hFr) hQ
theorem g_callU0 (C : Cx p s m meth c Z own bytes ml rt mn) (X : St p l e R s m args below meth c n0 T h k n) {rm : Room} {as' : Array Value} {bts : ByteArray} {mxl : Nat} {rty : Option FieldType} {argsL : List Value} {ps : List FieldType} {rt' : Option FieldType} {k' n' W : Nat} {Q : Heap → Prop} {y z : MethodName} {i : Nat} {a : Addr} {K owner : String} (hy : owner ≠ "java/lang/invoke/MethodHandle" ∧ owner ≠ "java/lang/invoke/VarHandle") (w1 : (Cond.methodLink own i y).before a0 Z = true) (w2 : (Cond.sameMethod y.cls owner y.name y.desc).before a0 Z = true) (w2' : (Cond.declares ⟨owner, y.name, y.desc⟩).before a0 Z = true) (w3 : (Cond.selects K y z).before a0 Z = true) (w4 : (Cond.instanceMethod z).before a0 Z = true) (E : Exa Z h a K) (w8 : (Cond.code z bts mxl rty).before a0 Z = true) (w9 : (Cond.initialized z.cls).before a0 Z = true) (hM : Met0 l Z z bts mxl rty rm as' h n0 Q) (hf : rm.frames + 1 ≤ R.frames) (hl : W + (mxl + 11) + rm.locals ≤ R.locals) (hk : k + rm.cells = k') (hn : n + rm.slots = n') (hkR : k' ≤ R.cells) (hnR : n' ≤ R.slots) (hsz : L.size = ml) (hdd : parseMethodDescriptor y.desc = some ⟨ps, rt'⟩) (hlen : argsL.length = ps.length) (hst : st = argsL.reverse ++ .ref a :: rest) (has : (.ref a :: argsL).toArray = as') (hW : (rest.map fun v => v.category).sum = W) (hd : decode bytes pc = .ok (.invokevirtual i, 3)) (hq : pc + 3 = q)
    (r : ∀ T' h', St p l e R s m args below meth c n0 T' h' k' n' → Q h' → Goes p e below G (T'.setTop (mkF m q L rest))) : Goes p e below G (T.setTop (mkF m pc L st)) := by
  have bk := backOf (Q := fun v h L => Fr n0 L ∧ (v = none ∧ Q h)) (R := R) (p := p) (e := e) (below := below) (s := s) (args := args) (len := 3) (W := W) (hM []) C.2.1 w8 w9 hf hl
  refine g_callUb C X (QL := fun v h L => Fr n0 L ∧ (v = none ∧ Q h)) hy w1 w2 w2' w3 w4 E bk hk hn hkR hnR hsz hdd hlen hst has hW hd hq ?_
  rintro v T' h' L' hX ⟨hFr, hQ⟩
  obtain ⟨rfl, hQ⟩ := hQ
  exact r T' h' (hX.resolve_right fun z => z hFr) hQ
theorem g_callPb (C : Cx p s m meth c Z own bytes ml rt mn) (X : St p l e R s m args below meth c n0 T h k n) {as' : Array Value} {argsL : List Value} {ps : List FieldType} {rt' : Option FieldType} {k' n' W kc ks : Nat} {QL : Option Value → Heap → List Loc → Prop} {y : MethodName} {i : Nat} {a : Addr} {K : String} (hy : y.cls ≠ "java/lang/invoke/MethodHandle" ∧ y.cls ≠ "java/lang/invoke/VarHandle") (w1 : (Cond.methodLink own i y).before a0 Z = true) (w3 : (Cond.selects y.cls y y).before a0 Z = true) (w4 : (Cond.instanceMethod y).before a0 Z = true) (w5 : (Cond.privateMethod y).before a0 Z = true) (E : Exa Z h a K) {bts : ByteArray} {mxl : Nat} {rty : Option FieldType} (w8 : (Cond.code y bts mxl rty).before a0 Z = true) (bk : Back l R p e below s args y 3 W (fun A a => a = as' ∧ A.U.heap = h ∧ A.cells + kc ≤ R.cells ∧ A.slots + ks ≤ R.slots) (fun A _ v B => ∃ L, QL v B.U.heap L ∧ B.locs = A.locs ++ L ∧ B.cells = A.cells + kc ∧ B.slots = A.slots + ks)) (hk : k + kc = k') (hn : n + ks = n') (hkR : k' ≤ R.cells) (hnR : n' ≤ R.slots) (hsz : L.size = ml) (hdd : parseMethodDescriptor y.desc = some ⟨ps, rt'⟩) (hlen : argsL.length = ps.length) (hst : st = argsL.reverse ++ .ref a :: rest) (has : (.ref a :: argsL).toArray = as') (hW : (rest.map fun v => v.category).sum = W) (hd : decode bytes pc = .ok (.invokevirtual i, 3)) (hq : pc + 3 = q)
    (r : ∀ v T' h' L', St p l e R s m args below meth c n0 T' h' k' n' ∨ ¬ Fr n0 L' → QL v h' L' → Goes p e below G (T'.setTop (mkF m q L (v.toList ++ rest)))) : Goes p e below G (T.setTop (mkF m pc L st)) := by
  obtain ⟨hx, hZ, hown, hby, hml, -⟩ := C
  obtain ⟨_, cells, slots, X, hF, eT, h1, h2⟩ := X
  subst hq hk hn has hst hW
  obtain ⟨cq, qa, qb⟩ := E.cell
  obtain ⟨_, _, ⟨T', Lo, kk, nn⟩, -, X', ⟨Lc, hQ, q1, q2, q3⟩, st'⟩ := X.privateBack hx hown (mvT hZ w1) (mvT hZ w4) (mvT hZ w3) (Cond.privateMethod_at (mvP hZ w5 (args := #[]))) (mvT hZ w8) hy bk (g := mkF m pc L (argsL.reverse ++ .ref a :: rest)) rfl (hsz.trans hml.symm) (Steps.refl _) (a := a) (by rw [eT]; exact qa) qb (argsL := argsL) (rest := rest) (lenOf hdd hlen) rfl (by show 2 * 0 + _ ≤ _; omega) (hb hby hd) (fun _ _ => ⟨rfl, eT, Nat.le_trans (Nat.add_le_add_right h1 _) hkR, Nat.le_trans (Nat.add_le_add_right h2 _) hnR⟩)
  dsimp only [Pt.U, Pt.locs, Pt.cells, Pt.slots] at X' q1 q2 q3 st' hQ
  subst q1 q2 q3
  refine go_tr st' (r _ T' _ Lc ?_ hQ)
  by_cases hFr : Fr n0 Lc
  · exact Or.inl ⟨_, _, _, X', Fr.app hF hFr, rfl, Nat.add_le_add_right h1 _, Nat.add_le_add_right h2 _⟩
  · exact Or.inr hFr
theorem g_callP1 (C : Cx p s m meth c Z own bytes ml rt mn) (X : St p l e R s m args below meth c n0 T h k n) {rm : Room} {as' : Array Value} {bts : ByteArray} {mxl : Nat} {rty : Option FieldType} {argsL : List Value} {ps : List FieldType} {rt' : Option FieldType} {k' n' W : Nat} {Q : Value → Heap → Prop} {y : MethodName} {i : Nat} {a : Addr} {K : String} (hy : y.cls ≠ "java/lang/invoke/MethodHandle" ∧ y.cls ≠ "java/lang/invoke/VarHandle") (w1 : (Cond.methodLink own i y).before a0 Z = true) (w3 : (Cond.selects y.cls y y).before a0 Z = true) (w4 : (Cond.instanceMethod y).before a0 Z = true) (w5 : (Cond.privateMethod y).before a0 Z = true) (E : Exa Z h a K) (w8 : (Cond.code y bts mxl rty).before a0 Z = true) (w9 : (Cond.initialized y.cls).before a0 Z = true) (hM : Met1 l Z y bts mxl rty rm as' h n0 Q) (hf : rm.frames + 1 ≤ R.frames) (hl : W + (mxl + 11) + rm.locals ≤ R.locals) (hk : k + rm.cells = k') (hn : n + rm.slots = n') (hkR : k' ≤ R.cells) (hnR : n' ≤ R.slots) (hsz : L.size = ml) (hdd : parseMethodDescriptor y.desc = some ⟨ps, rt'⟩) (hlen : argsL.length = ps.length) (hst : st = argsL.reverse ++ .ref a :: rest) (has : (.ref a :: argsL).toArray = as') (hW : (rest.map fun v => v.category).sum = W) (hd : decode bytes pc = .ok (.invokevirtual i, 3)) (hq : pc + 3 = q)
    (r : ∀ w T' h', St p l e R s m args below meth c n0 T' h' k' n' → Q w h' → Goes p e below G (T'.setTop (mkF m q L (w :: rest)))) : Goes p e below G (T.setTop (mkF m pc L st)) := by
  have bk := backOf (Q := fun v h L => Fr n0 L ∧ (∃ w, v = some w ∧ Q w h)) (R := R) (p := p) (e := e) (below := below) (s := s) (args := args) (len := 3) (W := W) (hM []) C.2.1 w8 w9 hf hl
  refine g_callPb C X (QL := fun v h L => Fr n0 L ∧ (∃ w, v = some w ∧ Q w h)) hy w1 w3 w4 w5 E w8 bk hk hn hkR hnR hsz hdd hlen hst has hW hd hq ?_
  rintro v T' h' L' hX ⟨hFr, hQ⟩
  obtain ⟨w, rfl, hQ⟩ := hQ
  exact r w T' h' (hX.resolve_right fun z => z hFr) hQ
theorem g_callP0 (C : Cx p s m meth c Z own bytes ml rt mn) (X : St p l e R s m args below meth c n0 T h k n) {rm : Room} {as' : Array Value} {bts : ByteArray} {mxl : Nat} {rty : Option FieldType} {argsL : List Value} {ps : List FieldType} {rt' : Option FieldType} {k' n' W : Nat} {Q : Heap → Prop} {y : MethodName} {i : Nat} {a : Addr} {K : String} (hy : y.cls ≠ "java/lang/invoke/MethodHandle" ∧ y.cls ≠ "java/lang/invoke/VarHandle") (w1 : (Cond.methodLink own i y).before a0 Z = true) (w3 : (Cond.selects y.cls y y).before a0 Z = true) (w4 : (Cond.instanceMethod y).before a0 Z = true) (w5 : (Cond.privateMethod y).before a0 Z = true) (E : Exa Z h a K) (w8 : (Cond.code y bts mxl rty).before a0 Z = true) (w9 : (Cond.initialized y.cls).before a0 Z = true) (hM : Met0 l Z y bts mxl rty rm as' h n0 Q) (hf : rm.frames + 1 ≤ R.frames) (hl : W + (mxl + 11) + rm.locals ≤ R.locals) (hk : k + rm.cells = k') (hn : n + rm.slots = n') (hkR : k' ≤ R.cells) (hnR : n' ≤ R.slots) (hsz : L.size = ml) (hdd : parseMethodDescriptor y.desc = some ⟨ps, rt'⟩) (hlen : argsL.length = ps.length) (hst : st = argsL.reverse ++ .ref a :: rest) (has : (.ref a :: argsL).toArray = as') (hW : (rest.map fun v => v.category).sum = W) (hd : decode bytes pc = .ok (.invokevirtual i, 3)) (hq : pc + 3 = q)
    (r : ∀ T' h', St p l e R s m args below meth c n0 T' h' k' n' → Q h' → Goes p e below G (T'.setTop (mkF m q L rest))) : Goes p e below G (T.setTop (mkF m pc L st)) := by
  have bk := backOf (Q := fun v h L => Fr n0 L ∧ (v = none ∧ Q h)) (R := R) (p := p) (e := e) (below := below) (s := s) (args := args) (len := 3) (W := W) (hM []) C.2.1 w8 w9 hf hl
  refine g_callPb C X (QL := fun v h L => Fr n0 L ∧ (v = none ∧ Q h)) hy w1 w3 w4 w5 E w8 bk hk hn hkR hnR hsz hdd hlen hst has hW hd hq ?_
  rintro v T' h' L' hX ⟨hFr, hQ⟩
  obtain ⟨rfl, hQ⟩ := hQ
  exact r T' h' (hX.resolve_right fun z => z hFr) hQ
theorem sel_priv {y : MethodName} {kk : Nat} (wi : (Cond.instantiable y.cls kk).before a0 Z = true) (w4 : (Cond.instanceMethod y).before a0 Z = true) (w5 : (Cond.privateMethod y).before a0 Z = true) (hy : y.cls ≠ "java/lang/invoke/MethodHandle" ∧ y.cls ≠ "java/lang/invoke/VarHandle") : (Cond.selects y.cls y y).before a0 Z = true := by
  obtain ⟨c1, k1, i1, i2, -, i4, -⟩ := Cond.instantiable_spec wi
  exact Stand.selects_self_of_private i1 i2 (by simp only [Bool.or_eq_false_iff] at i4; exact i4.1) (Cond.privateMethod_at w5) w4 hy
theorem own_nb {b : Int32} {t : Bool} (h1 : t = true → b = 0) (h2 : t = false → b = 1) : nar .boolean b = b := by
  cases t
  · rw [h2 rfl]; decide
  · rw [h1 rfl]; decide
theorem nf_sel {y : MethodName} {K : String} (w : (Cond.selects K y y).before a0 Z = true) : ∀ s' : State, Z.Warmed39 s'.vm → NotFace s' y := fun s' hZ => notFace_of_selects (args := #[]) (mvT hZ w)
end OwnKit
theorem own_i32 {x y : Int32} (h : x.toInt = y.toInt) : x = y := Int32.toInt_inj.mp h
theorem own_r1 {u w : Int32} {hi : Int} (h : u.toInt ≤ hi) (hw : hi < w.toInt) : u < w := Int32.lt_iff_toInt_lt.mpr (Int.lt_of_le_of_lt h hw)
theorem own_r2 {u w : Int32} {lo : Int} (h : lo ≤ u.toInt) (hw : w.toInt ≤ lo) : ¬ u < w := fun q => by have := Int32.lt_iff_toInt_lt.mp q; omega
theorem own_r3 {u w : Int32} {lo : Int} (h : lo ≤ w.toInt) (hu : u.toInt < lo) : u < w := Int32.lt_iff_toInt_lt.mpr (by omega)
theorem own_r4 {u w : Int32} {hi : Int} (h : w.toInt ≤ hi) (hu : hi ≤ u.toInt) : ¬ u < w := fun q => by have := Int32.lt_iff_toInt_lt.mp q; omega
theorem own_r5 {u w : Int32} {lo : Int} (h : lo ≤ u.toInt) (hw : w.toInt < lo) : ¬ u = w := fun q => by subst q; omega
theorem own_r6 {u w : Int32} {hi : Int} (h : u.toInt ≤ hi) (hw : hi < w.toInt) : ¬ u = w := fun q => by subst q; omega
theorem own_f0 {u w : Int32} {z : Int} (h1 : z ≤ u.toInt) (h2 : u.toInt ≤ z) (hz : w.toInt = z) : u = w := own_i32 (by omega)
theorem own_f1 {u w : Int32} {z : Int} (h : u < w) (hz : w.toInt = z + 1) : u.toInt ≤ z := by have := Int32.lt_iff_toInt_lt.mp h; omega
theorem own_f2 {u w : Int32} {z : Int} (h : ¬ u < w) (hz : w.toInt = z) : z ≤ u.toInt := by rw [Int32.lt_iff_toInt_lt] at h; omega
theorem own_f3 {u w : Int32} {z : Int} (h : w < u) (hz : w.toInt + 1 = z) : z ≤ u.toInt := by have := Int32.lt_iff_toInt_lt.mp h; omega
theorem own_f4 {u w : Int32} {z : Int} (h : ¬ w < u) (hz : w.toInt = z) : u.toInt ≤ z := by rw [Int32.lt_iff_toInt_lt] at h; omega
theorem own_f5 {u w : Int32} {z lo : Int} (h : ¬ u = w) (hl : lo ≤ u.toInt) (hz : w.toInt = lo ∧ z = lo + 1) : z ≤ u.toInt := by
  have : u.toInt ≠ w.toInt := fun q => h (own_i32 q)
  omega
theorem own_f6 {u w : Int32} {z hi : Int} (h : ¬ u = w) (hl : u.toInt ≤ hi) (hz : w.toInt = hi ∧ z = hi - 1) : u.toInt ≤ z := by
  have : u.toInt ≠ w.toInt := fun q => h (own_i32 q)
  omega
theorem own_i2c {v : Int32} {lo hi : Int} (h1 : lo ≤ v.toInt) (h2 : v.toInt ≤ hi) (h3 : 0 ≤ lo) (h4 : hi ≤ 65535) : v.toUInt32.toUInt16.toUInt32.toInt32 = v := by
  have h := c_i2c v
  apply own_i32
  omega
theorem own_narC {v : Int32} {lo hi : Int} (h1 : lo ≤ v.toInt) (h2 : v.toInt ≤ hi) (h3 : 0 ≤ lo) (h4 : hi ≤ 65535) : nar .char v = v := own_i2c h1 h2 h3 h4
theorem own_ch {v : Int32} {lo hi : Int} (h1 : lo ≤ v.toInt) (h2 : v.toInt ≤ hi) (h3 : 0 ≤ lo) (h4 : hi ≤ 255) : ¬ v < 0 ∧ ¬ (255 : Int32) < v := ⟨own_r2 h1 h3, own_r4 h2 h4⟩
theorem own_rem {x y : Int32} {d : Int} (hy : y.toInt = d + 1) (hd : 0 < d + 1) (hx : 0 ≤ x.toInt) : 0 ≤ (x % y).toInt ∧ (x % y).toInt ≤ d := by
  have h := (c_irem x y (d + 1) hy).1 hx
  rw [h]
  have := Int.emod_nonneg x.toInt (show d + 1 ≠ 0 by omega)
  have := Int.emod_lt_of_pos x.toInt hd
  omega
theorem own_ne {a b : Addr} {h : Heap} (h1 : a < h.size) (h2 : b = h.size) : a ≠ b := fun q => by subst q; subst h2; exact Nat.lt_irrefl _ h1
theorem own_ge {Z : State} {n0 : Nat} {h : Heap} {a : Addr} (O : Old Z n0 h) (g : a = h.size) : n0 ≤ a := by rw [g, ← O.1]; exact O.2.1
theorem own_szO {Z : State} {n0 : Nat} {h : Heap} (O : Old Z n0 h) : n0 ≤ h.size := by rw [← O.1]; exact O.2.1
theorem own_sz {h h' : Heap} {a : Addr} (q : h.size ≤ h'.size) (g : a = h'.size) : h.size ≤ a := g ▸ q
theorem own_neO {Z : State} {n0 : Nat} {h : Heap} {a b : Addr} (q : a < Z.heap.size) (O : Old Z n0 h) (r : n0 ≤ b) : a ≠ b := O.ne q r
theorem own_sta {s : State} {args : Array Value} {C n d K : String} (h : (Jvm.Cond.exactly (.static C n d) K).value args s none s [] = some true) (hi : (Jvm.Cond.initializedFor C n d).before args s = true ∨ ((Jvm.Cond.initialized C).before args s = true ∧ (Jvm.Cond.laysStatic C n d).before args s = true)) : ∃ a, (Term.static C n d).eval args s none [] s = some (.ref a) ∧ Sta s s.heap C n d (.ref a) ∧ Exa s s.heap a K := by
  obtain ⟨a, ev⟩ := exa_v h
  exact ⟨a, ev, Sta.start ev hi, Exa.start ev h⟩
theorem own_fldI {s : State} {args : Array Value} {t : Term} {C n d : String} {v : Int32} {a : Addr} (ev : t.eval args s none [] s = some (.ref a)) (h : (Jvm.Cond.eq (.field t C n d) (.int v)).value args s none s [] = some true) : Fld s s.heap a C n d (.int v) := by
  apply Fld.start
  cases hf : s.fieldOf? a C n d with
  | none => simp [Cond.value, Term.eval, ev, hf] at h
  | some x => cases x <;> simp [Cond.value, Term.eval, ev, hf] at h; subst h; rfl
theorem own_fldN {s : State} {args : Array Value} {t : Term} {C n d : String} {a : Addr} (ev : t.eval args s none [] s = some (.ref a)) (h : (Jvm.Cond.eq (.field t C n d) .null).value args s none s [] = some true) : Fld s s.heap a C n d .null := by
  apply Fld.start
  have := null_v h
  rw [fld_at ev] at this
  exact this
theorem own_fldR {s : State} {args : Array Value} {t : Term} {C n d K : String} {a : Addr} (ev : t.eval args s none [] s = some (.ref a)) (h : (Jvm.Cond.exactly (.field t C n d) K).value args s none s [] = some true) : ∃ b, (Term.field t C n d).eval args s none [] s = some (.ref b) ∧ Fld s s.heap a C n d (.ref b) ∧ Exa s s.heap b K := by
  obtain ⟨b, e2⟩ := exa_v h
  refine ⟨b, e2, Fld.start ?_, Exa.start e2 h⟩
  rw [← fld_at ev]; exact e2
theorem own_split4 {v : Int32} (h1 : 0 ≤ v.toInt) (h2 : v.toInt < 4) : v = 0 ∨ v = 1 ∨ v = 2 ∨ v = 3 := by
  have h : v.toInt = 0 ∨ v.toInt = 1 ∨ v.toInt = 2 ∨ v.toInt = 3 := by omega
  rcases h with h | h | h | h
  · exact Or.inl (own_i32 h)
  · exact Or.inr (Or.inl (own_i32 h))
  · exact Or.inr (Or.inr (Or.inl (own_i32 h)))
  · exact Or.inr (Or.inr (Or.inr (own_i32 h)))
theorem own_and3 (x : Int32) : x &&& 3 = 0 ∨ x &&& 3 = 1 ∨ x &&& 3 = 2 ∨ x &&& 3 = 3 := by
  have h := c_mask x 3 2 (by decide) (by decide)
  exact own_split4 (by omega) (by omega)
theorem w0 {Z : State} {a0 : Array Value} (hw : ∀ d ∈ tables_1, d.before a0 Z = true) : (Jvm.Cond.constant "com/example/rondel/rondel/primitive/DoubleRingBufferIsFullPinLaw" (7 : Nat) (2147483647 : Int32)).before a0 Z = true := hw _ (List.mem_of_getElem? (i := 0) rfl)
theorem w1 {Z : State} {a0 : Array Value} (hw : ∀ d ∈ tables_1, d.before a0 Z = true) : (Jvm.Cond.constant "com/example/rondel/rondel/primitive/DoubleRingBufferIsFullPinLaw" (8 : Nat) (65535 : Int32)).before a0 Z = true := hw _ (List.mem_of_getElem? (i := 1) rfl)
theorem w2 {Z : State} {a0 : Array Value} (hw : ∀ d ∈ tables_1, d.before a0 Z = true) : (Jvm.Cond.classLink "com/example/rondel/rondel/primitive/DoubleRingBufferIsFullPinLaw" (9 : Nat) "com/example/rondel/rondel/primitive/DoubleRingBuffer").before a0 Z = true := hw _ (List.mem_of_getElem? (i := 2) rfl)
theorem w3 {Z : State} {a0 : Array Value} (hw : ∀ d ∈ tables_1, d.before a0 Z = true) : (Jvm.Cond.instantiable "com/example/rondel/rondel/primitive/DoubleRingBuffer" (4 : Nat)).before a0 Z = true := hw _ (List.mem_of_getElem? (i := 3) rfl)
theorem w4 {Z : State} {a0 : Array Value} (hw : ∀ d ∈ tables_1, d.before a0 Z = true) : (Jvm.Cond.initialized "com/example/rondel/rondel/primitive/DoubleRingBuffer").before a0 Z = true := hw _ (List.mem_of_getElem? (i := 4) rfl)
theorem w13 {Z : State} {a0 : Array Value} (hw : ∀ d ∈ tables_1, d.before a0 Z = true) : (Jvm.Cond.laysFinal "com/example/rondel/rondel/primitive/DoubleRingBuffer" "com/example/rondel/rondel/primitive/DoubleRingBuffer" "readings" "[D").before a0 Z = true := hw _ (List.mem_of_getElem? (i := 13) rfl)
theorem w20 {Z : State} {a0 : Array Value} (hw : ∀ d ∈ tables_1, d.before a0 Z = true) : (Jvm.Cond.lays "com/example/rondel/rondel/primitive/DoubleRingBuffer" "com/example/rondel/rondel/primitive/DoubleRingBuffer" "size" "I").before a0 Z = true := hw _ (List.mem_of_getElem? (i := 20) rfl)
theorem w26 {Z : State} {a0 : Array Value} (hw : ∀ d ∈ tables_1, d.before a0 Z = true) : (Jvm.Cond.lays "com/example/rondel/rondel/primitive/DoubleRingBuffer" "com/example/rondel/rondel/primitive/DoubleRingBuffer" "head" "I").before a0 Z = true := hw _ (List.mem_of_getElem? (i := 26) rfl)
theorem w28 {Z : State} {a0 : Array Value} (hw : ∀ d ∈ tables_1, d.before a0 Z = true) : (Jvm.Cond.lays "com/example/rondel/rondel/primitive/DoubleRingBuffer" "com/example/rondel/rondel/primitive/DoubleRingBuffer" "modCount" "I").before a0 Z = true := hw _ (List.mem_of_getElem? (i := 28) rfl)
theorem w5 {Z : State} {a0 : Array Value} (hw : ∀ d ∈ tables_1, d.before a0 Z = true) : (Jvm.Cond.methodLink "com/example/rondel/rondel/primitive/DoubleRingBufferIsFullPinLaw" (11 : Nat) ({ cls := "com/example/rondel/rondel/primitive/DoubleRingBuffer", name := "<init>", desc := "(I)V" } : Jvm.MethodName)).before a0 Z = true := hw _ (List.mem_of_getElem? (i := 5) rfl)
theorem d1_0 : decode prog_11_method_1_code 0 = .ok (.aload_n 0, 1) := by decide +kernel
theorem d1_1 : decode prog_11_method_1_code 1 = .ok (.invokespecial 3, 3) := by decide +kernel
theorem w8 {Z : State} {a0 : Array Value} (hw : ∀ d ∈ tables_1, d.before a0 Z = true) : (Jvm.Cond.methodLink "com/example/rondel/rondel/primitive/DoubleRingBuffer" (3 : Nat) ({ cls := "java/lang/Object", name := "<init>", desc := "()V" } : Jvm.MethodName)).before a0 Z = true := hw _ (List.mem_of_getElem? (i := 8) rfl)
theorem w9 {Z : State} {a0 : Array Value} (hw : ∀ d ∈ tables_1, d.before a0 Z = true) : (Jvm.Cond.instanceMethod ({ cls := "java/lang/Object", name := "<init>", desc := "()V" } : Jvm.MethodName)).before a0 Z = true := hw _ (List.mem_of_getElem? (i := 9) rfl)
theorem w10 {Z : State} {a0 : Array Value} (hw : ∀ d ∈ tables_1, d.before a0 Z = true) : (Jvm.Cond.code ({ cls := "java/lang/Object", name := "<init>", desc := "()V" } : Jvm.MethodName) object_method_1_code (1 : Nat) (Option.none : Option Jvm.ClassFile.FieldType)).before a0 Z = true := hw _ (List.mem_of_getElem? (i := 10) rfl)
theorem d1_4 : decode prog_11_method_1_code 4 = .ok (.iload_n 1, 1) := by decide +kernel
theorem d1_5 : decode prog_11_method_1_code 5 = .ok (.iconst 1, 1) := by decide +kernel
theorem d1_6 : decode prog_11_method_1_code 6 = .ok (.if_icmp .ge 17, 3) := by decide +kernel
theorem d1_23 : decode prog_11_method_1_code 23 = .ok (.aload_n 0, 1) := by decide +kernel
theorem d1_24 : decode prog_11_method_1_code 24 = .ok (.iload_n 1, 1) := by decide +kernel
theorem d1_25 : decode prog_11_method_1_code 25 = .ok (.newarray .double, 2) := by decide +kernel
theorem w11 {Z : State} {a0 : Array Value} (hw : ∀ d ∈ tables_1, d.before a0 Z = true) : (Jvm.Cond.arrayClass Jvm.ClassFile.FieldType.double).before a0 Z = true := hw _ (List.mem_of_getElem? (i := 11) rfl)
theorem d1_27 : decode prog_11_method_1_code 27 = .ok (.putfield 18, 3) := by decide +kernel
theorem w12 {Z : State} {a0 : Array Value} (hw : ∀ d ∈ tables_1, d.before a0 Z = true) : (Jvm.Cond.fieldLink "com/example/rondel/rondel/primitive/DoubleRingBuffer" (18 : Nat) "com/example/rondel/rondel/primitive/DoubleRingBuffer" "readings" "[D").before a0 Z = true := hw _ (List.mem_of_getElem? (i := 12) rfl)
theorem d1_30 : decode prog_11_method_1_code 30 = .ok (.return_, 1) := by decide +kernel
theorem pn_10 : plainName "com/example/rondel/rondel/primitive/DoubleRingBuffer" = true := by first | (simp [plainName, overriddenIn]; done) | decide +kernel
theorem w7 {Z : State} {a0 : Array Value} (hw : ∀ d ∈ tables_1, d.before a0 Z = true) : (Jvm.Cond.code ({ cls := "com/example/rondel/rondel/primitive/DoubleRingBuffer", name := "<init>", desc := "(I)V" } : Jvm.MethodName) prog_11_method_1_code (2 : Nat) (Option.none : Option Jvm.ClassFile.FieldType)).before a0 Z = true := hw _ (List.mem_of_getElem? (i := 7) rfl)
theorem pd_11 : parseMethodDescriptor "(I)V" = some ⟨[.int], none⟩ := by decide +kernel
theorem w6 {Z : State} {a0 : Array Value} (hw : ∀ d ∈ tables_1, d.before a0 Z = true) : (Jvm.Cond.instanceMethod ({ cls := "com/example/rondel/rondel/primitive/DoubleRingBuffer", name := "<init>", desc := "(I)V" } : Jvm.MethodName)).before a0 Z = true := hw _ (List.mem_of_getElem? (i := 6) rfl)
theorem w14 {Z : State} {a0 : Array Value} (hw : ∀ d ∈ tables_1, d.before a0 Z = true) : (Jvm.Cond.methodLink "com/example/rondel/rondel/primitive/DoubleRingBufferIsFullPinLaw" (14 : Nat) ({ cls := "com/example/rondel/rondel/primitive/DoubleRingBuffer", name := "add", desc := "(D)V" } : Jvm.MethodName)).before a0 Z = true := hw _ (List.mem_of_getElem? (i := 14) rfl)
theorem d3_0 : decode prog_11_method_6_code 0 = .ok (.aload_n 0, 1) := by decide +kernel
theorem d3_1 : decode prog_11_method_6_code 1 = .ok (.getfield 24, 3) := by decide +kernel
theorem w19 {Z : State} {a0 : Array Value} (hw : ∀ d ∈ tables_1, d.before a0 Z = true) : (Jvm.Cond.fieldLink "com/example/rondel/rondel/primitive/DoubleRingBuffer" (24 : Nat) "com/example/rondel/rondel/primitive/DoubleRingBuffer" "size" "I").before a0 Z = true := hw _ (List.mem_of_getElem? (i := 19) rfl)
theorem d3_4 : decode prog_11_method_6_code 4 = .ok (.aload_n 0, 1) := by decide +kernel
theorem d3_5 : decode prog_11_method_6_code 5 = .ok (.getfield 18, 3) := by decide +kernel
theorem d3_8 : decode prog_11_method_6_code 8 = .ok (.arraylength, 1) := by decide +kernel
theorem d3_9 : decode prog_11_method_6_code 9 = .ok (.if_icmp .ne 28, 3) := by decide +kernel
theorem d3_37 : decode prog_11_method_6_code 37 = .ok (.aload_n 0, 1) := by decide +kernel
theorem d3_38 : decode prog_11_method_6_code 38 = .ok (.getfield 18, 3) := by decide +kernel
theorem d3_41 : decode prog_11_method_6_code 41 = .ok (.aload_n 0, 1) := by decide +kernel
theorem d3_42 : decode prog_11_method_6_code 42 = .ok (.aload_n 0, 1) := by decide +kernel
theorem d3_43 : decode prog_11_method_6_code 43 = .ok (.getfield 24, 3) := by decide +kernel
theorem d3_46 : decode prog_11_method_6_code 46 = .ok (.invokevirtual 35, 3) := by decide +kernel
theorem w21 {Z : State} {a0 : Array Value} (hw : ∀ d ∈ tables_1, d.before a0 Z = true) : (Jvm.Cond.methodLink "com/example/rondel/rondel/primitive/DoubleRingBuffer" (35 : Nat) ({ cls := "com/example/rondel/rondel/primitive/DoubleRingBuffer", name := "slot", desc := "(I)I" } : Jvm.MethodName)).before a0 Z = true := hw _ (List.mem_of_getElem? (i := 21) rfl)
theorem d4_0 : decode prog_11_method_18_code 0 = .ok (.aload_n 0, 1) := by decide +kernel
theorem d4_1 : decode prog_11_method_18_code 1 = .ok (.getfield 18, 3) := by decide +kernel
theorem d4_4 : decode prog_11_method_18_code 4 = .ok (.arraylength, 1) := by decide +kernel
theorem d4_5 : decode prog_11_method_18_code 5 = .ok (.aload_n 0, 1) := by decide +kernel
theorem d4_6 : decode prog_11_method_18_code 6 = .ok (.getfield 28, 3) := by decide +kernel
theorem w25 {Z : State} {a0 : Array Value} (hw : ∀ d ∈ tables_1, d.before a0 Z = true) : (Jvm.Cond.fieldLink "com/example/rondel/rondel/primitive/DoubleRingBuffer" (28 : Nat) "com/example/rondel/rondel/primitive/DoubleRingBuffer" "head" "I").before a0 Z = true := hw _ (List.mem_of_getElem? (i := 25) rfl)
theorem d4_9 : decode prog_11_method_18_code 9 = .ok (.isub, 1) := by decide +kernel
theorem d4_10 : decode prog_11_method_18_code 10 = .ok (.istore_n 2, 1) := by decide +kernel
theorem d4_11 : decode prog_11_method_18_code 11 = .ok (.iload_n 1, 1) := by decide +kernel
theorem d4_12 : decode prog_11_method_18_code 12 = .ok (.iload_n 2, 1) := by decide +kernel
theorem d4_13 : decode prog_11_method_18_code 13 = .ok (.if_icmp .ge 12, 3) := by decide +kernel
theorem d4_16 : decode prog_11_method_18_code 16 = .ok (.aload_n 0, 1) := by decide +kernel
theorem d4_17 : decode prog_11_method_18_code 17 = .ok (.getfield 28, 3) := by decide +kernel
theorem d4_20 : decode prog_11_method_18_code 20 = .ok (.iload_n 1, 1) := by decide +kernel
theorem d4_21 : decode prog_11_method_18_code 21 = .ok (.iadd, 1) := by decide +kernel
theorem d4_22 : decode prog_11_method_18_code 22 = .ok (.goto 6, 3) := by decide +kernel
theorem d4_28 : decode prog_11_method_18_code 28 = .ok (.ireturn, 1) := by decide +kernel
theorem w24 {Z : State} {a0 : Array Value} (hw : ∀ d ∈ tables_1, d.before a0 Z = true) : (Jvm.Cond.code ({ cls := "com/example/rondel/rondel/primitive/DoubleRingBuffer", name := "slot", desc := "(I)I" } : Jvm.MethodName) prog_11_method_18_code (3 : Nat) (Option.some Jvm.ClassFile.FieldType.int)).before a0 Z = true := hw _ (List.mem_of_getElem? (i := 24) rfl)
theorem pd_40 : parseMethodDescriptor "(I)I" = some ⟨[.int], some .int⟩ := by decide +kernel
theorem w22 {Z : State} {a0 : Array Value} (hw : ∀ d ∈ tables_1, d.before a0 Z = true) : (Jvm.Cond.instanceMethod ({ cls := "com/example/rondel/rondel/primitive/DoubleRingBuffer", name := "slot", desc := "(I)I" } : Jvm.MethodName)).before a0 Z = true := hw _ (List.mem_of_getElem? (i := 22) rfl)
theorem w23 {Z : State} {a0 : Array Value} (hw : ∀ d ∈ tables_1, d.before a0 Z = true) : (Jvm.Cond.privateMethod ({ cls := "com/example/rondel/rondel/primitive/DoubleRingBuffer", name := "slot", desc := "(I)I" } : Jvm.MethodName)).before a0 Z = true := hw _ (List.mem_of_getElem? (i := 23) rfl)
theorem d3_49 : decode prog_11_method_6_code 49 = .ok (.dload_n 1, 1) := by decide +kernel
theorem d3_50 : decode prog_11_method_6_code 50 = .ok (.dastore, 1) := by decide +kernel
theorem d3_51 : decode prog_11_method_6_code 51 = .ok (.aload_n 0, 1) := by decide +kernel
theorem d3_52 : decode prog_11_method_6_code 52 = .ok (.dup, 1) := by decide +kernel
theorem d3_53 : decode prog_11_method_6_code 53 = .ok (.getfield 24, 3) := by decide +kernel
theorem d3_56 : decode prog_11_method_6_code 56 = .ok (.iconst 1, 1) := by decide +kernel
theorem d3_57 : decode prog_11_method_6_code 57 = .ok (.iadd, 1) := by decide +kernel
theorem d3_58 : decode prog_11_method_6_code 58 = .ok (.putfield 24, 3) := by decide +kernel
theorem d3_61 : decode prog_11_method_6_code 61 = .ok (.aload_n 0, 1) := by decide +kernel
theorem d3_62 : decode prog_11_method_6_code 62 = .ok (.dup, 1) := by decide +kernel
theorem d3_63 : decode prog_11_method_6_code 63 = .ok (.getfield 38, 3) := by decide +kernel
theorem w27 {Z : State} {a0 : Array Value} (hw : ∀ d ∈ tables_1, d.before a0 Z = true) : (Jvm.Cond.fieldLink "com/example/rondel/rondel/primitive/DoubleRingBuffer" (38 : Nat) "com/example/rondel/rondel/primitive/DoubleRingBuffer" "modCount" "I").before a0 Z = true := hw _ (List.mem_of_getElem? (i := 27) rfl)
theorem d3_66 : decode prog_11_method_6_code 66 = .ok (.iconst 1, 1) := by decide +kernel
theorem d3_67 : decode prog_11_method_6_code 67 = .ok (.iadd, 1) := by decide +kernel
theorem d3_68 : decode prog_11_method_6_code 68 = .ok (.putfield 38, 3) := by decide +kernel
theorem d3_71 : decode prog_11_method_6_code 71 = .ok (.return_, 1) := by decide +kernel
theorem w18 {Z : State} {a0 : Array Value} (hw : ∀ d ∈ tables_1, d.before a0 Z = true) : (Jvm.Cond.code ({ cls := "com/example/rondel/rondel/primitive/DoubleRingBuffer", name := "add", desc := "(D)V" } : Jvm.MethodName) prog_11_method_6_code (3 : Nat) (Option.none : Option Jvm.ClassFile.FieldType)).before a0 Z = true := hw _ (List.mem_of_getElem? (i := 18) rfl)
theorem pd_56 : parseMethodDescriptor "(D)V" = some ⟨[.double], none⟩ := by decide +kernel
theorem w15 {Z : State} {a0 : Array Value} (hw : ∀ d ∈ tables_1, d.before a0 Z = true) : (Jvm.Cond.declares ({ cls := "com/example/rondel/rondel/primitive/DoubleRingBuffer", name := "add", desc := "(D)V" } : Jvm.MethodName)).before a0 Z = true := hw _ (List.mem_of_getElem? (i := 15) rfl)
theorem w17 {Z : State} {a0 : Array Value} (hw : ∀ d ∈ tables_1, d.before a0 Z = true) : (Jvm.Cond.selects "com/example/rondel/rondel/primitive/DoubleRingBuffer" ({ cls := "com/example/rondel/rondel/primitive/DoubleRingBuffer", name := "add", desc := "(D)V" } : Jvm.MethodName) ({ cls := "com/example/rondel/rondel/primitive/DoubleRingBuffer", name := "add", desc := "(D)V" } : Jvm.MethodName)).before a0 Z = true := hw _ (List.mem_of_getElem? (i := 17) rfl)
theorem w16 {Z : State} {a0 : Array Value} (hw : ∀ d ∈ tables_1, d.before a0 Z = true) : (Jvm.Cond.instanceMethod ({ cls := "com/example/rondel/rondel/primitive/DoubleRingBuffer", name := "add", desc := "(D)V" } : Jvm.MethodName)).before a0 Z = true := hw _ (List.mem_of_getElem? (i := 16) rfl)
theorem d3_12 : decode prog_11_method_6_code 12 = .ok (.aload_n 0, 1) := by decide +kernel
theorem d3_13 : decode prog_11_method_6_code 13 = .ok (.getfield 18, 3) := by decide +kernel
theorem d3_16 : decode prog_11_method_6_code 16 = .ok (.aload_n 0, 1) := by decide +kernel
theorem d3_17 : decode prog_11_method_6_code 17 = .ok (.getfield 28, 3) := by decide +kernel
theorem d3_20 : decode prog_11_method_6_code 20 = .ok (.dload_n 1, 1) := by decide +kernel
theorem d3_21 : decode prog_11_method_6_code 21 = .ok (.dastore, 1) := by decide +kernel
theorem d3_22 : decode prog_11_method_6_code 22 = .ok (.aload_n 0, 1) := by decide +kernel
theorem d3_23 : decode prog_11_method_6_code 23 = .ok (.aload_n 0, 1) := by decide +kernel
theorem d3_24 : decode prog_11_method_6_code 24 = .ok (.aload_n 0, 1) := by decide +kernel
theorem d3_25 : decode prog_11_method_6_code 25 = .ok (.getfield 28, 3) := by decide +kernel
theorem d3_28 : decode prog_11_method_6_code 28 = .ok (.invokevirtual 31, 3) := by decide +kernel
theorem w29 {Z : State} {a0 : Array Value} (hw : ∀ d ∈ tables_1, d.before a0 Z = true) : (Jvm.Cond.methodLink "com/example/rondel/rondel/primitive/DoubleRingBuffer" (31 : Nat) ({ cls := "com/example/rondel/rondel/primitive/DoubleRingBuffer", name := "next", desc := "(I)I" } : Jvm.MethodName)).before a0 Z = true := hw _ (List.mem_of_getElem? (i := 29) rfl)
theorem d5_0 : decode prog_11_method_19_code 0 = .ok (.iload_n 1, 1) := by decide +kernel
theorem d5_1 : decode prog_11_method_19_code 1 = .ok (.aload_n 0, 1) := by decide +kernel
theorem d5_2 : decode prog_11_method_19_code 2 = .ok (.getfield 18, 3) := by decide +kernel
theorem d5_5 : decode prog_11_method_19_code 5 = .ok (.arraylength, 1) := by decide +kernel
theorem d5_6 : decode prog_11_method_19_code 6 = .ok (.iconst 1, 1) := by decide +kernel
theorem d5_7 : decode prog_11_method_19_code 7 = .ok (.isub, 1) := by decide +kernel
theorem d5_8 : decode prog_11_method_19_code 8 = .ok (.if_icmp .ne 7, 3) := by decide +kernel
theorem d5_11 : decode prog_11_method_19_code 11 = .ok (.iconst 0, 1) := by decide +kernel
theorem d5_12 : decode prog_11_method_19_code 12 = .ok (.goto 6, 3) := by decide +kernel
theorem d5_18 : decode prog_11_method_19_code 18 = .ok (.ireturn, 1) := by decide +kernel
theorem w32 {Z : State} {a0 : Array Value} (hw : ∀ d ∈ tables_1, d.before a0 Z = true) : (Jvm.Cond.code ({ cls := "com/example/rondel/rondel/primitive/DoubleRingBuffer", name := "next", desc := "(I)I" } : Jvm.MethodName) prog_11_method_19_code (2 : Nat) (Option.some Jvm.ClassFile.FieldType.int)).before a0 Z = true := hw _ (List.mem_of_getElem? (i := 32) rfl)
theorem w30 {Z : State} {a0 : Array Value} (hw : ∀ d ∈ tables_1, d.before a0 Z = true) : (Jvm.Cond.instanceMethod ({ cls := "com/example/rondel/rondel/primitive/DoubleRingBuffer", name := "next", desc := "(I)I" } : Jvm.MethodName)).before a0 Z = true := hw _ (List.mem_of_getElem? (i := 30) rfl)
theorem w31 {Z : State} {a0 : Array Value} (hw : ∀ d ∈ tables_1, d.before a0 Z = true) : (Jvm.Cond.privateMethod ({ cls := "com/example/rondel/rondel/primitive/DoubleRingBuffer", name := "next", desc := "(I)I" } : Jvm.MethodName)).before a0 Z = true := hw _ (List.mem_of_getElem? (i := 31) rfl)
theorem d3_31 : decode prog_11_method_6_code 31 = .ok (.putfield 28, 3) := by decide +kernel
theorem d3_34 : decode prog_11_method_6_code 34 = .ok (.goto 27, 3) := by decide +kernel
theorem w33 {Z : State} {a0 : Array Value} (hw : ∀ d ∈ tables_1, d.before a0 Z = true) : (Jvm.Cond.methodLink "com/example/rondel/rondel/primitive/DoubleRingBufferIsFullPinLaw" (18 : Nat) ({ cls := "java/lang/Math", name := "min", desc := "(II)I" } : Jvm.MethodName)).before a0 Z = true := hw _ (List.mem_of_getElem? (i := 33) rfl)
theorem d6_0 : decode jdk_29_method_69_code 0 = .ok (.iload_n 0, 1) := by decide +kernel
theorem d6_1 : decode jdk_29_method_69_code 1 = .ok (.iload_n 1, 1) := by decide +kernel
theorem d6_2 : decode jdk_29_method_69_code 2 = .ok (.if_icmp .gt 7, 3) := by decide +kernel
theorem d6_9 : decode jdk_29_method_69_code 9 = .ok (.iload_n 1, 1) := by decide +kernel
theorem d6_10 : decode jdk_29_method_69_code 10 = .ok (.ireturn, 1) := by decide +kernel
theorem w36 {Z : State} {a0 : Array Value} (hw : ∀ d ∈ tables_1, d.before a0 Z = true) : (Jvm.Cond.code ({ cls := "java/lang/Math", name := "min", desc := "(II)I" } : Jvm.MethodName) jdk_29_method_69_code (2 : Nat) (Option.some Jvm.ClassFile.FieldType.int)).before a0 Z = true := hw _ (List.mem_of_getElem? (i := 36) rfl)
theorem w35 {Z : State} {a0 : Array Value} (hw : ∀ d ∈ tables_1, d.before a0 Z = true) : (Jvm.Cond.initialized "java/lang/Math").before a0 Z = true := hw _ (List.mem_of_getElem? (i := 35) rfl)
theorem pd_85 : parseMethodDescriptor "(II)I" = some ⟨[.int, .int], some .int⟩ := by decide +kernel
theorem w34 {Z : State} {a0 : Array Value} (hw : ∀ d ∈ tables_1, d.before a0 Z = true) : (Jvm.Cond.static ({ cls := "java/lang/Math", name := "min", desc := "(II)I" } : Jvm.MethodName)).before a0 Z = true := hw _ (List.mem_of_getElem? (i := 34) rfl)
theorem w37 {Z : State} {a0 : Array Value} (hw : ∀ d ∈ tables_1, d.before a0 Z = true) : (Jvm.Cond.methodLink "com/example/rondel/rondel/primitive/DoubleRingBufferIsFullPinLaw" (28 : Nat) ({ cls := "com/example/rondel/rondel/primitive/DoubleRingBuffer", name := "isFull", desc := "()Z" } : Jvm.MethodName)).before a0 Z = true := hw _ (List.mem_of_getElem? (i := 37) rfl)
theorem d7_0 : decode prog_11_method_5_code 0 = .ok (.aload_n 0, 1) := by decide +kernel
theorem d7_1 : decode prog_11_method_5_code 1 = .ok (.getfield 24, 3) := by decide +kernel
theorem d7_4 : decode prog_11_method_5_code 4 = .ok (.aload_n 0, 1) := by decide +kernel
theorem d7_5 : decode prog_11_method_5_code 5 = .ok (.getfield 18, 3) := by decide +kernel
theorem d7_8 : decode prog_11_method_5_code 8 = .ok (.arraylength, 1) := by decide +kernel
theorem d7_9 : decode prog_11_method_5_code 9 = .ok (.if_icmp .ne 7, 3) := by decide +kernel
theorem d7_12 : decode prog_11_method_5_code 12 = .ok (.iconst 1, 1) := by decide +kernel
theorem d7_13 : decode prog_11_method_5_code 13 = .ok (.goto 4, 3) := by decide +kernel
theorem d7_17 : decode prog_11_method_5_code 17 = .ok (.ireturn, 1) := by decide +kernel
theorem w41 {Z : State} {a0 : Array Value} (hw : ∀ d ∈ tables_1, d.before a0 Z = true) : (Jvm.Cond.code ({ cls := "com/example/rondel/rondel/primitive/DoubleRingBuffer", name := "isFull", desc := "()Z" } : Jvm.MethodName) prog_11_method_5_code (1 : Nat) (Option.some Jvm.ClassFile.FieldType.boolean)).before a0 Z = true := hw _ (List.mem_of_getElem? (i := 41) rfl)
theorem pd_95 : parseMethodDescriptor "()Z" = some ⟨[], some .boolean⟩ := by decide +kernel
theorem w38 {Z : State} {a0 : Array Value} (hw : ∀ d ∈ tables_1, d.before a0 Z = true) : (Jvm.Cond.declares ({ cls := "com/example/rondel/rondel/primitive/DoubleRingBuffer", name := "isFull", desc := "()Z" } : Jvm.MethodName)).before a0 Z = true := hw _ (List.mem_of_getElem? (i := 38) rfl)
theorem w40 {Z : State} {a0 : Array Value} (hw : ∀ d ∈ tables_1, d.before a0 Z = true) : (Jvm.Cond.selects "com/example/rondel/rondel/primitive/DoubleRingBuffer" ({ cls := "com/example/rondel/rondel/primitive/DoubleRingBuffer", name := "isFull", desc := "()Z" } : Jvm.MethodName) ({ cls := "com/example/rondel/rondel/primitive/DoubleRingBuffer", name := "isFull", desc := "()Z" } : Jvm.MethodName)).before a0 Z = true := hw _ (List.mem_of_getElem? (i := 40) rfl)
theorem w39 {Z : State} {a0 : Array Value} (hw : ∀ d ∈ tables_1, d.before a0 Z = true) : (Jvm.Cond.instanceMethod ({ cls := "com/example/rondel/rondel/primitive/DoubleRingBuffer", name := "isFull", desc := "()Z" } : Jvm.MethodName)).before a0 Z = true := hw _ (List.mem_of_getElem? (i := 39) rfl)
theorem w42 {Z : State} {a0 : Array Value} (hw : ∀ d ∈ tables_1, d.before a0 Z = true) : (Jvm.Cond.methodLink "com/example/rondel/rondel/primitive/DoubleRingBufferIsFullPinLaw" (24 : Nat) ({ cls := "com/example/rondel/rondel/primitive/DoubleRingBuffer", name := "removeFirst", desc := "()D" } : Jvm.MethodName)).before a0 Z = true := hw _ (List.mem_of_getElem? (i := 42) rfl)
theorem d8_0 : decode prog_11_method_7_code 0 = .ok (.aload_n 0, 1) := by decide +kernel
theorem d8_1 : decode prog_11_method_7_code 1 = .ok (.invokevirtual 41, 3) := by decide +kernel
theorem w47 {Z : State} {a0 : Array Value} (hw : ∀ d ∈ tables_1, d.before a0 Z = true) : (Jvm.Cond.methodLink "com/example/rondel/rondel/primitive/DoubleRingBuffer" (41 : Nat) ({ cls := "com/example/rondel/rondel/primitive/DoubleRingBuffer", name := "getFirst", desc := "()D" } : Jvm.MethodName)).before a0 Z = true := hw _ (List.mem_of_getElem? (i := 47) rfl)
theorem d9_0 : decode prog_11_method_9_code 0 = .ok (.aload_n 0, 1) := by decide +kernel
theorem d9_1 : decode prog_11_method_9_code 1 = .ok (.invokevirtual 48, 3) := by decide +kernel
theorem w52 {Z : State} {a0 : Array Value} (hw : ∀ d ∈ tables_1, d.before a0 Z = true) : (Jvm.Cond.methodLink "com/example/rondel/rondel/primitive/DoubleRingBuffer" (48 : Nat) ({ cls := "com/example/rondel/rondel/primitive/DoubleRingBuffer", name := "checkNotEmpty", desc := "()V" } : Jvm.MethodName)).before a0 Z = true := hw _ (List.mem_of_getElem? (i := 52) rfl)
theorem d10_0 : decode prog_11_method_17_code 0 = .ok (.aload_n 0, 1) := by decide +kernel
theorem d10_1 : decode prog_11_method_17_code 1 = .ok (.getfield 24, 3) := by decide +kernel
theorem d10_4 : decode prog_11_method_17_code 4 = .ok (.ifCond .ne 13, 3) := by decide +kernel
theorem d10_17 : decode prog_11_method_17_code 17 = .ok (.return_, 1) := by decide +kernel
theorem w55 {Z : State} {a0 : Array Value} (hw : ∀ d ∈ tables_1, d.before a0 Z = true) : (Jvm.Cond.code ({ cls := "com/example/rondel/rondel/primitive/DoubleRingBuffer", name := "checkNotEmpty", desc := "()V" } : Jvm.MethodName) prog_11_method_17_code (1 : Nat) (Option.none : Option Jvm.ClassFile.FieldType)).before a0 Z = true := hw _ (List.mem_of_getElem? (i := 55) rfl)
theorem pd_104 : parseMethodDescriptor "()V" = some ⟨[], none⟩ := by decide +kernel
theorem w53 {Z : State} {a0 : Array Value} (hw : ∀ d ∈ tables_1, d.before a0 Z = true) : (Jvm.Cond.instanceMethod ({ cls := "com/example/rondel/rondel/primitive/DoubleRingBuffer", name := "checkNotEmpty", desc := "()V" } : Jvm.MethodName)).before a0 Z = true := hw _ (List.mem_of_getElem? (i := 53) rfl)
theorem w54 {Z : State} {a0 : Array Value} (hw : ∀ d ∈ tables_1, d.before a0 Z = true) : (Jvm.Cond.privateMethod ({ cls := "com/example/rondel/rondel/primitive/DoubleRingBuffer", name := "checkNotEmpty", desc := "()V" } : Jvm.MethodName)).before a0 Z = true := hw _ (List.mem_of_getElem? (i := 54) rfl)
theorem d9_4 : decode prog_11_method_9_code 4 = .ok (.aload_n 0, 1) := by decide +kernel
theorem d9_5 : decode prog_11_method_9_code 5 = .ok (.getfield 18, 3) := by decide +kernel
theorem d9_8 : decode prog_11_method_9_code 8 = .ok (.aload_n 0, 1) := by decide +kernel
theorem d9_9 : decode prog_11_method_9_code 9 = .ok (.getfield 28, 3) := by decide +kernel
theorem d9_12 : decode prog_11_method_9_code 12 = .ok (.daload, 1) := by decide +kernel
theorem d9_13 : decode prog_11_method_9_code 13 = .ok (.dreturn, 1) := by decide +kernel
theorem w51 {Z : State} {a0 : Array Value} (hw : ∀ d ∈ tables_1, d.before a0 Z = true) : (Jvm.Cond.code ({ cls := "com/example/rondel/rondel/primitive/DoubleRingBuffer", name := "getFirst", desc := "()D" } : Jvm.MethodName) prog_11_method_9_code (1 : Nat) (Option.some Jvm.ClassFile.FieldType.double)).before a0 Z = true := hw _ (List.mem_of_getElem? (i := 51) rfl)
theorem pd_111 : parseMethodDescriptor "()D" = some ⟨[], some .double⟩ := by decide +kernel
theorem w48 {Z : State} {a0 : Array Value} (hw : ∀ d ∈ tables_1, d.before a0 Z = true) : (Jvm.Cond.declares ({ cls := "com/example/rondel/rondel/primitive/DoubleRingBuffer", name := "getFirst", desc := "()D" } : Jvm.MethodName)).before a0 Z = true := hw _ (List.mem_of_getElem? (i := 48) rfl)
theorem w50 {Z : State} {a0 : Array Value} (hw : ∀ d ∈ tables_1, d.before a0 Z = true) : (Jvm.Cond.selects "com/example/rondel/rondel/primitive/DoubleRingBuffer" ({ cls := "com/example/rondel/rondel/primitive/DoubleRingBuffer", name := "getFirst", desc := "()D" } : Jvm.MethodName) ({ cls := "com/example/rondel/rondel/primitive/DoubleRingBuffer", name := "getFirst", desc := "()D" } : Jvm.MethodName)).before a0 Z = true := hw _ (List.mem_of_getElem? (i := 50) rfl)
theorem w49 {Z : State} {a0 : Array Value} (hw : ∀ d ∈ tables_1, d.before a0 Z = true) : (Jvm.Cond.instanceMethod ({ cls := "com/example/rondel/rondel/primitive/DoubleRingBuffer", name := "getFirst", desc := "()D" } : Jvm.MethodName)).before a0 Z = true := hw _ (List.mem_of_getElem? (i := 49) rfl)
theorem d8_4 : decode prog_11_method_7_code 4 = .ok (.dstore_n 1, 1) := by decide +kernel
theorem d8_5 : decode prog_11_method_7_code 5 = .ok (.aload_n 0, 1) := by decide +kernel
theorem d8_6 : decode prog_11_method_7_code 6 = .ok (.aload_n 0, 1) := by decide +kernel
theorem d8_7 : decode prog_11_method_7_code 7 = .ok (.aload_n 0, 1) := by decide +kernel
theorem d8_8 : decode prog_11_method_7_code 8 = .ok (.getfield 28, 3) := by decide +kernel
theorem d8_11 : decode prog_11_method_7_code 11 = .ok (.invokevirtual 31, 3) := by decide +kernel
theorem d8_14 : decode prog_11_method_7_code 14 = .ok (.putfield 28, 3) := by decide +kernel
theorem d8_17 : decode prog_11_method_7_code 17 = .ok (.aload_n 0, 1) := by decide +kernel
theorem d8_18 : decode prog_11_method_7_code 18 = .ok (.dup, 1) := by decide +kernel
theorem d8_19 : decode prog_11_method_7_code 19 = .ok (.getfield 24, 3) := by decide +kernel
theorem d8_22 : decode prog_11_method_7_code 22 = .ok (.iconst 1, 1) := by decide +kernel
theorem d8_23 : decode prog_11_method_7_code 23 = .ok (.isub, 1) := by decide +kernel
theorem d8_24 : decode prog_11_method_7_code 24 = .ok (.putfield 24, 3) := by decide +kernel
theorem d8_27 : decode prog_11_method_7_code 27 = .ok (.aload_n 0, 1) := by decide +kernel
theorem d8_28 : decode prog_11_method_7_code 28 = .ok (.dup, 1) := by decide +kernel
theorem d8_29 : decode prog_11_method_7_code 29 = .ok (.getfield 38, 3) := by decide +kernel
theorem d8_32 : decode prog_11_method_7_code 32 = .ok (.iconst 1, 1) := by decide +kernel
theorem d8_33 : decode prog_11_method_7_code 33 = .ok (.iadd, 1) := by decide +kernel
theorem d8_34 : decode prog_11_method_7_code 34 = .ok (.putfield 38, 3) := by decide +kernel
theorem d8_37 : decode prog_11_method_7_code 37 = .ok (.dload_n 1, 1) := by decide +kernel
theorem d8_38 : decode prog_11_method_7_code 38 = .ok (.dreturn, 1) := by decide +kernel
theorem w46 {Z : State} {a0 : Array Value} (hw : ∀ d ∈ tables_1, d.before a0 Z = true) : (Jvm.Cond.code ({ cls := "com/example/rondel/rondel/primitive/DoubleRingBuffer", name := "removeFirst", desc := "()D" } : Jvm.MethodName) prog_11_method_7_code (3 : Nat) (Option.some Jvm.ClassFile.FieldType.double)).before a0 Z = true := hw _ (List.mem_of_getElem? (i := 46) rfl)
theorem w43 {Z : State} {a0 : Array Value} (hw : ∀ d ∈ tables_1, d.before a0 Z = true) : (Jvm.Cond.declares ({ cls := "com/example/rondel/rondel/primitive/DoubleRingBuffer", name := "removeFirst", desc := "()D" } : Jvm.MethodName)).before a0 Z = true := hw _ (List.mem_of_getElem? (i := 43) rfl)
theorem w45 {Z : State} {a0 : Array Value} (hw : ∀ d ∈ tables_1, d.before a0 Z = true) : (Jvm.Cond.selects "com/example/rondel/rondel/primitive/DoubleRingBuffer" ({ cls := "com/example/rondel/rondel/primitive/DoubleRingBuffer", name := "removeFirst", desc := "()D" } : Jvm.MethodName) ({ cls := "com/example/rondel/rondel/primitive/DoubleRingBuffer", name := "removeFirst", desc := "()D" } : Jvm.MethodName)).before a0 Z = true := hw _ (List.mem_of_getElem? (i := 45) rfl)
theorem w44 {Z : State} {a0 : Array Value} (hw : ∀ d ∈ tables_1, d.before a0 Z = true) : (Jvm.Cond.instanceMethod ({ cls := "com/example/rondel/rondel/primitive/DoubleRingBuffer", name := "removeFirst", desc := "()D" } : Jvm.MethodName)).before a0 Z = true := hw _ (List.mem_of_getElem? (i := 44) rfl)
theorem d7_16 : decode prog_11_method_5_code 16 = .ok (.iconst 0, 1) := by decide +kernel
theorem d6_5 : decode jdk_29_method_69_code 5 = .ok (.iload_n 0, 1) := by decide +kernel
theorem d6_6 : decode jdk_29_method_69_code 6 = .ok (.goto 4, 3) := by decide +kernel
theorem d5_15 : decode prog_11_method_19_code 15 = .ok (.iload_n 1, 1) := by decide +kernel
theorem d5_16 : decode prog_11_method_19_code 16 = .ok (.iconst 1, 1) := by decide +kernel
theorem d5_17 : decode prog_11_method_19_code 17 = .ok (.iadd, 1) := by decide +kernel
theorem pn_139 : plainName "com/example/rondel/rondel/primitive/DoubleRingBufferIsFullPinLaw" = true := by first | (simp [plainName, overriddenIn]; done) | decide +kernel
set_option maxRecDepth 65536 in
set_option maxHeartbeats 40000000 in
theorem rm_init_0 {l : Launch} {Z : State} {a0 : Array Value} (hw : ∀ d ∈ tables_1, d.before a0 Z = true) {o0 : Addr} {i1 : Int32} {h0 : Heap} {n0 : Nat} (O : Old Z n0 h0)  (P0 : Exa Z h0 o0 "com/example/rondel/rondel/primitive/DoubleRingBuffer") (P1 : Fld Z h0 o0 "com/example/rondel/rondel/primitive/DoubleRingBuffer" "readings" "[D" .null) (P2 : Fld Z h0 o0 "com/example/rondel/rondel/primitive/DoubleRingBuffer" "size" "I" (.int (0 : Int32))) (P3 : Fld Z h0 o0 "com/example/rondel/rondel/primitive/DoubleRingBuffer" "head" "I" (.int (0 : Int32))) (P4 : Fld Z h0 o0 "com/example/rondel/rondel/primitive/DoubleRingBuffer" "modCount" "I" (.int i1)) (G0 : n0 ≤ o0) :
    Met0 l Z (⟨"com/example/rondel/rondel/primitive/DoubleRingBuffer", "<init>", "(I)V"⟩ : MethodName) prog_11_method_1_code 2 none ({ frames := 1, cells := 1, slots := 1, locals := 12 } : Room) #[(.ref o0), (.int (1 : Int32))] h0 n0 (fun h => ∃ b3 : Addr, ∃ kA6 : ClassId, Keep h0 h [o0] ∧ n0 ≤ b3 ∧ h0.size ≤ b3 ∧ Exa Z h o0 "com/example/rondel/rondel/primitive/DoubleRingBuffer" ∧ Fld Z h o0 "com/example/rondel/rondel/primitive/DoubleRingBuffer" "readings" "[D" (.ref b3) ∧ Fld Z h o0 "com/example/rondel/rondel/primitive/DoubleRingBuffer" "size" "I" (.int (0 : Int32)) ∧ Fld Z h o0 "com/example/rondel/rondel/primitive/DoubleRingBuffer" "head" "I" (.int (0 : Int32)) ∧ Fld Z h o0 "com/example/rondel/rondel/primitive/DoubleRingBuffer" "modCount" "I" (.int i1) ∧ Arv Z h b3 kA6 .double (1 : Int32) [(.double 0)] (.double 0)) := by
  refine met_of (L := #[.val (.ref o0), .val (.int (1 : Int32))]) (plainFor_of_name pn_10) (fun m => by first | (simp [entryFrame, mkF, argsToLocals, Value.category]; done) | rfl) ?_
  intro p e s m below meth c T C X
  change Cx p s m meth c Z "com/example/rondel/rondel/primitive/DoubleRingBuffer" prog_11_method_1_code 2 none "<init>" at C
  refine g_aloadN C X d1_0 (q := 1) rfl rfl rfl ?_
  refine g_initO C X (w8 hw) (w9 hw) (w10 hw) rfl d1_1 (q := 4) rfl (by decide) (by decide) ?_
  intro T1 X2
  refine g_iloadN C X2 d1_4 (q := 5) rfl rfl ?_
  refine g_iconst C X2 d1_5 (q := 6) rfl (z := (1 : Int32)) rfl ?_
  refine g_icY C X2 d1_6 (by decide) (q := 23) (by decide) (by decide) ?_
  refine g_aloadN C X2 d1_23 (q := 24) rfl rfl rfl ?_
  refine g_iloadN C X2 d1_24 (q := 25) rfl rfl ?_
  refine g_newP C X2 (w11 hw) rfl d1_25 (q := 27) rfl (by decide) (cap := 1) (by decide) (by decide) (k' := 1) rfl (n' := 1) rfl (by decide) (by decide) ?_
  intro T4 h5 kA6 b3 g8 X7 E9 V10
  have ge11 : n0 ≤ b3 := own_ge O g8
  have O12 := O.ext E9
  have V13 : Arv Z h5 b3 kA6 .double (1 : Int32) [(.double 0)] (.double 0) := Arv.pad V10 (pad_rep [] _ 1)
  have f14 := (P1.ext E9)
  have f15 := (P0.ext E9)
  refine g_putF C X7 (host := "") (Or.inl (w12 hw)) Via.refl f14 f15 (Or.inr ⟨(w13 hw), rfl, rfl⟩) (w3 hw) (ty := (.array .double)) (by decide) rfl rfl d1_27 (q := 30) rfl G0 ?_
  intro T16 h18 X17 W19
  have FW19 := Fld.same W19 f14
  have O20 := O12.wr W19 G0
  exact g_retV C X17 d1_30 (by decide) (by decide) ⟨rfl, b3, kA6, (((Keep.refl h0 [o0]).ext E9).wr W19 (Or.inl (List.mem_of_getElem? (i := 0) rfl))), ge11, (own_sz (Keep.refl h0 [o0]).1 g8), (f15.wr W19), FW19, ((P2.ext E9).other W19 (Or.inr (slot_ne (Or.inl (w20 hw)) (Or.inr (w13 hw)) (by decide) (t := .int) (t' := (.array .double)) (by decide) (by decide)))), ((P3.ext E9).other W19 (Or.inr (slot_ne (Or.inl (w26 hw)) (Or.inr (w13 hw)) (by decide) (t := .int) (t' := (.array .double)) (by decide) (by decide)))), ((P4.ext E9).other W19 (Or.inr (slot_ne (Or.inl (w28 hw)) (Or.inr (w13 hw)) (by decide) (t := .int) (t' := (.array .double)) (by decide) (by decide)))), (V13.other W19 (Ne.symm (own_ne P0.lt g8)))⟩
set_option maxRecDepth 65536 in
set_option maxHeartbeats 40000000 in
theorem rm_slot_0 {l : Launch} {Z : State} {a0 : Array Value} (hw : ∀ d ∈ tables_1, d.before a0 Z = true) {o0 : Addr} {o1 : Addr} {i2 : Int32} {kc3 : ClassId} {x4 : UInt64} {h0 : Heap} {n0 : Nat} (O : Old Z n0 h0)  (P0 : Exa Z h0 o0 "com/example/rondel/rondel/primitive/DoubleRingBuffer") (P1 : Fld Z h0 o0 "com/example/rondel/rondel/primitive/DoubleRingBuffer" "readings" "[D" (.ref o1)) (P2 : Fld Z h0 o0 "com/example/rondel/rondel/primitive/DoubleRingBuffer" "size" "I" (.int (0 : Int32))) (P3 : Fld Z h0 o0 "com/example/rondel/rondel/primitive/DoubleRingBuffer" "head" "I" (.int (0 : Int32))) (P4 : Fld Z h0 o0 "com/example/rondel/rondel/primitive/DoubleRingBuffer" "modCount" "I" (.int i2)) (P5 : Arv Z h0 o1 kc3 .double (1 : Int32) [(.double x4)] (.double 0)) (G0 : n0 ≤ o0) (G1 : n0 ≤ o1) (N0_1 : o0 ≠ o1) :
    Met1 l Z (⟨"com/example/rondel/rondel/primitive/DoubleRingBuffer", "slot", "(I)I"⟩ : MethodName) prog_11_method_18_code 3 (some .int) ({ frames := 0, cells := 0, slots := 0, locals := 0 } : Room) #[(.ref o0), (.int (0 : Int32))] h0 n0 (fun v h => v = (.int (0 : Int32)) ∧ h0 = h) := by
  refine met_of (L := #[.val (.ref o0), .val (.int (0 : Int32)), .unset]) (plainFor_of_name pn_10) (fun m => by first | (simp [entryFrame, mkF, argsToLocals, Value.category]; done) | rfl) ?_
  intro p e s m below meth c T C X
  change Cx p s m meth c Z "com/example/rondel/rondel/primitive/DoubleRingBuffer" prog_11_method_18_code 3 (some .int) "slot" at C
  refine g_aloadN C X d4_0 (q := 1) rfl rfl rfl ?_
  refine g_getF C X (host := "") (Or.inl (w12 hw)) Via.refl P1 d4_1 (q := 4) rfl ?_
  intro T1 X2
  refine g_alen C X2 P5 d4_4 (q := 5) rfl ?_
  refine g_aloadN C X2 d4_5 (q := 6) rfl rfl rfl ?_
  refine g_getF C X2 (host := "") (Or.inl (w25 hw)) Via.refl P3 d4_6 (q := 9) rfl ?_
  intro T3 X4
  refine g_isub C X4 d4_9 (q := 10) rfl (z := (1 : Int32)) (by decide) ?_
  refine g_istoreN C X4 d4_10 (q := 11) rfl (L' := #[.val (.ref o0), .val (.int (0 : Int32)), .val (.int (1 : Int32))]) rfl ?_
  refine g_iloadN C X4 d4_11 (q := 12) rfl rfl ?_
  refine g_iloadN C X4 d4_12 (q := 13) rfl rfl ?_
  refine g_icN C X4 d4_13 (q := 16) rfl (by decide) ?_
  refine g_aloadN C X4 d4_16 (q := 17) rfl rfl rfl ?_
  refine g_getF C X4 (host := "") (Or.inl (w25 hw)) Via.refl P3 d4_17 (q := 20) rfl ?_
  intro T5 X6
  refine g_iloadN C X6 d4_20 (q := 21) rfl rfl ?_
  refine g_iadd C X6 d4_21 (q := 22) rfl (z := (0 : Int32)) (by decide) ?_
  refine g_goto C X6 d4_22 (by decide) (q := 28) (by decide) ?_
  exact g_retI C X6 d4_28 (by decide) (by decide) ⟨_, rfl, rfl, rfl⟩
set_option maxRecDepth 65536 in
set_option maxHeartbeats 40000000 in
theorem rm_add_0 {l : Launch} {Z : State} {a0 : Array Value} (hw : ∀ d ∈ tables_1, d.before a0 Z = true) {o0 : Addr} {o1 : Addr} {i2 : Int32} {kc3 : ClassId} {x4 : UInt64} {x5 : UInt64} {h0 : Heap} {n0 : Nat} (O : Old Z n0 h0)  (P0 : Exa Z h0 o0 "com/example/rondel/rondel/primitive/DoubleRingBuffer") (P1 : Fld Z h0 o0 "com/example/rondel/rondel/primitive/DoubleRingBuffer" "readings" "[D" (.ref o1)) (P2 : Fld Z h0 o0 "com/example/rondel/rondel/primitive/DoubleRingBuffer" "size" "I" (.int (0 : Int32))) (P3 : Fld Z h0 o0 "com/example/rondel/rondel/primitive/DoubleRingBuffer" "head" "I" (.int (0 : Int32))) (P4 : Fld Z h0 o0 "com/example/rondel/rondel/primitive/DoubleRingBuffer" "modCount" "I" (.int i2)) (P5 : Arv Z h0 o1 kc3 .double (1 : Int32) [(.double x4)] (.double 0)) (G0 : n0 ≤ o0) (G1 : n0 ≤ o1) (N0_1 : o0 ≠ o1) :
    Met0 l Z (⟨"com/example/rondel/rondel/primitive/DoubleRingBuffer", "add", "(D)V"⟩ : MethodName) prog_11_method_6_code 3 none ({ frames := 1, cells := 0, slots := 0, locals := 15 } : Room) #[(.ref o0), (.double x5)] h0 n0 (fun h => Keep h0 h [o1, o0] ∧ Exa Z h o0 "com/example/rondel/rondel/primitive/DoubleRingBuffer" ∧ Fld Z h o0 "com/example/rondel/rondel/primitive/DoubleRingBuffer" "readings" "[D" (.ref o1) ∧ Fld Z h o0 "com/example/rondel/rondel/primitive/DoubleRingBuffer" "size" "I" (.int (1 : Int32)) ∧ Fld Z h o0 "com/example/rondel/rondel/primitive/DoubleRingBuffer" "head" "I" (.int (0 : Int32)) ∧ Fld Z h o0 "com/example/rondel/rondel/primitive/DoubleRingBuffer" "modCount" "I" (.int (i2 + (1 : Int32))) ∧ Arv Z h o1 kc3 .double (1 : Int32) [(.double x5)] (.double 0)) := by
  refine met_of (L := #[.val (.ref o0), .val (.double x5), .second]) (plainFor_of_name pn_10) (fun m => by first | (simp [entryFrame, mkF, argsToLocals, Value.category]; done) | rfl) ?_
  intro p e s m below meth c T C X
  change Cx p s m meth c Z "com/example/rondel/rondel/primitive/DoubleRingBuffer" prog_11_method_6_code 3 none "add" at C
  refine g_aloadN C X d3_0 (q := 1) rfl rfl rfl ?_
  refine g_getF C X (host := "") (Or.inl (w19 hw)) Via.refl P2 d3_1 (q := 4) rfl ?_
  intro T1 X2
  refine g_aloadN C X2 d3_4 (q := 5) rfl rfl rfl ?_
  refine g_getF C X2 (host := "") (Or.inl (w12 hw)) Via.refl P1 d3_5 (q := 8) rfl ?_
  intro T3 X4
  refine g_alen C X4 P5 d3_8 (q := 9) rfl ?_
  refine g_icY C X4 d3_9 (by decide) (q := 37) (by decide) (by decide) ?_
  refine g_aloadN C X4 d3_37 (q := 38) rfl rfl rfl ?_
  refine g_getF C X4 (host := "") (Or.inl (w12 hw)) Via.refl P1 d3_38 (q := 41) rfl ?_
  intro T5 X6
  refine g_aloadN C X6 d3_41 (q := 42) rfl rfl rfl ?_
  refine g_aloadN C X6 d3_42 (q := 43) rfl rfl rfl ?_
  refine g_getF C X6 (host := "") (Or.inl (w19 hw)) Via.refl P2 d3_43 (q := 46) rfl ?_
  intro T7 X8
  refine g_callP1 C X8 (y := (⟨"com/example/rondel/rondel/primitive/DoubleRingBuffer", "slot", "(I)I"⟩ : MethodName)) (a := o0) (by decide) (w21 hw) (sel_priv (w3 hw) (w22 hw) (w23 hw) (by decide)) (w22 hw) (w23 hw) P0 (w24 hw) (w4 hw) (rm_slot_0 hw (o0 := o0) (o1 := o1) (i2 := i2) (kc3 := kc3) (x4 := x4) O P0 P1 P2 P3 P4 P5 G0 G1 N0_1) (W := 1) (by decide) (by decide) (k' := 0) rfl (n' := 0) rfl (by decide) (by decide) rfl pd_40 (argsL := [(.int (0 : Int32))]) rfl (rest := [(.ref o1)]) rfl rfl rfl d3_46 (q := 49) rfl ?_
  rintro _ T9 _ X10 ⟨rfl, rfl⟩
  refine g_dloadN C X10 d3_49 (q := 50) rfl rfl ?_
  refine g_dastore C X10 P5 (by decide) (i := 0) (by decide) (Nat.le_of_ble_eq_true rfl) (vs' := [(.double x5)]) rfl G1 d3_50 (q := 51) rfl ?_
  intro T11 h12 X13 W14 V15
  have O16 := O.wr W14 G1
  refine g_aloadN C X13 d3_51 (q := 52) rfl rfl rfl ?_
  refine g_dup C X13 d3_52 (q := 53) rfl rfl ?_
  have f17 := (P2.other W14 (Or.inl N0_1))
  refine g_getF C X13 (host := "") (Or.inl (w19 hw)) Via.refl f17 d3_53 (q := 56) rfl ?_
  intro T18 X19
  refine g_iconst C X19 d3_56 (q := 57) rfl (z := (1 : Int32)) rfl ?_
  refine g_iadd C X19 d3_57 (q := 58) rfl (z := (1 : Int32)) (by decide) ?_
  have f20 := (P0.wr W14)
  refine g_putF C X19 (host := "") (Or.inl (w19 hw)) Via.refl f17 f20 (Or.inl (w20 hw)) (w3 hw) (ty := .int) (by decide) rfl rfl d3_58 (q := 61) rfl G0 ?_
  intro T21 h23 X22 W24
  have FW24 := Fld.same W24 f17
  have O25 := O16.wr W24 G0
  refine g_aloadN C X22 d3_61 (q := 62) rfl rfl rfl ?_
  refine g_dup C X22 d3_62 (q := 63) rfl rfl ?_
  have f26 := ((P4.other W14 (Or.inl N0_1)).other W24 (Or.inr (slot_ne (Or.inl (w28 hw)) (Or.inl (w20 hw)) (by decide) (t := .int) (t' := .int) (by decide) (by decide))))
  refine g_getF C X22 (host := "") (Or.inl (w27 hw)) Via.refl f26 d3_63 (q := 66) rfl ?_
  intro T27 X28
  refine g_iconst C X28 d3_66 (q := 67) rfl (z := (1 : Int32)) rfl ?_
  refine g_iadd C X28 d3_67 (q := 68) rfl (z := (i2 + (1 : Int32))) rfl ?_
  have f29 := (f20.wr W24)
  refine g_putF C X28 (host := "") (Or.inl (w27 hw)) Via.refl f26 f29 (Or.inl (w28 hw)) (w3 hw) (ty := .int) (by decide) rfl rfl d3_68 (q := 71) rfl G0 ?_
  intro T30 h32 X31 W33
  have FW33 := Fld.same W33 f26
  have O34 := O25.wr W33 G0
  exact g_retV C X31 d3_71 (by decide) (by decide) ⟨rfl, ((((Keep.refl h0 [o1, o0]).wr W14 (Or.inl (List.mem_of_getElem? (i := 0) rfl))).wr W24 (Or.inl (List.mem_of_getElem? (i := 1) rfl))).wr W33 (Or.inl (List.mem_of_getElem? (i := 1) rfl))), (f29.wr W33), (((P1.other W14 (Or.inl N0_1)).other W24 (Or.inr (slot_ne (Or.inr (w13 hw)) (Or.inl (w20 hw)) (by decide) (t := (.array .double)) (t' := .int) (by decide) (by decide)))).other W33 (Or.inr (slot_ne (Or.inr (w13 hw)) (Or.inl (w28 hw)) (by decide) (t := (.array .double)) (t' := .int) (by decide) (by decide)))), (FW24.other W33 (Or.inr (slot_ne (Or.inl (w20 hw)) (Or.inl (w28 hw)) (by decide) (t := .int) (t' := .int) (by decide) (by decide)))), (((P3.other W14 (Or.inl N0_1)).other W24 (Or.inr (slot_ne (Or.inl (w26 hw)) (Or.inl (w20 hw)) (by decide) (t := .int) (t' := .int) (by decide) (by decide)))).other W33 (Or.inr (slot_ne (Or.inl (w26 hw)) (Or.inl (w28 hw)) (by decide) (t := .int) (t' := .int) (by decide) (by decide)))), FW33, ((V15.other W24 (Ne.symm N0_1)).other W33 (Ne.symm N0_1))⟩
set_option maxRecDepth 65536 in
set_option maxHeartbeats 40000000 in
theorem rm_next_0 {l : Launch} {Z : State} {a0 : Array Value} (hw : ∀ d ∈ tables_1, d.before a0 Z = true) {o0 : Addr} {o1 : Addr} {i2 : Int32} {kc3 : ClassId} {x4 : UInt64} {h0 : Heap} {n0 : Nat} (O : Old Z n0 h0)  (P0 : Exa Z h0 o0 "com/example/rondel/rondel/primitive/DoubleRingBuffer") (P1 : Fld Z h0 o0 "com/example/rondel/rondel/primitive/DoubleRingBuffer" "readings" "[D" (.ref o1)) (P2 : Fld Z h0 o0 "com/example/rondel/rondel/primitive/DoubleRingBuffer" "size" "I" (.int (1 : Int32))) (P3 : Fld Z h0 o0 "com/example/rondel/rondel/primitive/DoubleRingBuffer" "head" "I" (.int (0 : Int32))) (P4 : Fld Z h0 o0 "com/example/rondel/rondel/primitive/DoubleRingBuffer" "modCount" "I" (.int i2)) (P5 : Arv Z h0 o1 kc3 .double (1 : Int32) [(.double x4)] (.double 0)) (G0 : n0 ≤ o0) (G1 : n0 ≤ o1) (N0_1 : o0 ≠ o1) :
    Met1 l Z (⟨"com/example/rondel/rondel/primitive/DoubleRingBuffer", "next", "(I)I"⟩ : MethodName) prog_11_method_19_code 2 (some .int) ({ frames := 0, cells := 0, slots := 0, locals := 0 } : Room) #[(.ref o0), (.int (0 : Int32))] h0 n0 (fun v h => v = (.int (0 : Int32)) ∧ h0 = h) := by
  refine met_of (L := #[.val (.ref o0), .val (.int (0 : Int32))]) (plainFor_of_name pn_10) (fun m => by first | (simp [entryFrame, mkF, argsToLocals, Value.category]; done) | rfl) ?_
  intro p e s m below meth c T C X
  change Cx p s m meth c Z "com/example/rondel/rondel/primitive/DoubleRingBuffer" prog_11_method_19_code 2 (some .int) "next" at C
  refine g_iloadN C X d5_0 (q := 1) rfl rfl ?_
  refine g_aloadN C X d5_1 (q := 2) rfl rfl rfl ?_
  refine g_getF C X (host := "") (Or.inl (w12 hw)) Via.refl P1 d5_2 (q := 5) rfl ?_
  intro T1 X2
  refine g_alen C X2 P5 d5_5 (q := 6) rfl ?_
  refine g_iconst C X2 d5_6 (q := 7) rfl (z := (1 : Int32)) rfl ?_
  refine g_isub C X2 d5_7 (q := 8) rfl (z := (0 : Int32)) (by decide) ?_
  refine g_icN C X2 d5_8 (q := 11) rfl (by decide) ?_
  refine g_iconst C X2 d5_11 (q := 12) rfl (z := (0 : Int32)) rfl ?_
  refine g_goto C X2 d5_12 (by decide) (q := 18) (by decide) ?_
  exact g_retI C X2 d5_18 (by decide) (by decide) ⟨_, rfl, rfl, rfl⟩
set_option maxRecDepth 65536 in
set_option maxHeartbeats 40000000 in
theorem rm_add_1 {l : Launch} {Z : State} {a0 : Array Value} (hw : ∀ d ∈ tables_1, d.before a0 Z = true) {o0 : Addr} {o1 : Addr} {i2 : Int32} {kc3 : ClassId} {x4 : UInt64} {x5 : UInt64} {h0 : Heap} {n0 : Nat} (O : Old Z n0 h0)  (P0 : Exa Z h0 o0 "com/example/rondel/rondel/primitive/DoubleRingBuffer") (P1 : Fld Z h0 o0 "com/example/rondel/rondel/primitive/DoubleRingBuffer" "readings" "[D" (.ref o1)) (P2 : Fld Z h0 o0 "com/example/rondel/rondel/primitive/DoubleRingBuffer" "size" "I" (.int (1 : Int32))) (P3 : Fld Z h0 o0 "com/example/rondel/rondel/primitive/DoubleRingBuffer" "head" "I" (.int (0 : Int32))) (P4 : Fld Z h0 o0 "com/example/rondel/rondel/primitive/DoubleRingBuffer" "modCount" "I" (.int i2)) (P5 : Arv Z h0 o1 kc3 .double (1 : Int32) [(.double x4)] (.double 0)) (G0 : n0 ≤ o0) (G1 : n0 ≤ o1) (N0_1 : o0 ≠ o1) :
    Met0 l Z (⟨"com/example/rondel/rondel/primitive/DoubleRingBuffer", "add", "(D)V"⟩ : MethodName) prog_11_method_6_code 3 none ({ frames := 1, cells := 0, slots := 0, locals := 14 } : Room) #[(.ref o0), (.double x5)] h0 n0 (fun h => Keep h0 h [o1, o0] ∧ Exa Z h o0 "com/example/rondel/rondel/primitive/DoubleRingBuffer" ∧ Fld Z h o0 "com/example/rondel/rondel/primitive/DoubleRingBuffer" "readings" "[D" (.ref o1) ∧ Fld Z h o0 "com/example/rondel/rondel/primitive/DoubleRingBuffer" "size" "I" (.int (1 : Int32)) ∧ Fld Z h o0 "com/example/rondel/rondel/primitive/DoubleRingBuffer" "head" "I" (.int (0 : Int32)) ∧ Fld Z h o0 "com/example/rondel/rondel/primitive/DoubleRingBuffer" "modCount" "I" (.int (i2 + (1 : Int32))) ∧ Arv Z h o1 kc3 .double (1 : Int32) [(.double x5)] (.double 0)) := by
  refine met_of (L := #[.val (.ref o0), .val (.double x5), .second]) (plainFor_of_name pn_10) (fun m => by first | (simp [entryFrame, mkF, argsToLocals, Value.category]; done) | rfl) ?_
  intro p e s m below meth c T C X
  change Cx p s m meth c Z "com/example/rondel/rondel/primitive/DoubleRingBuffer" prog_11_method_6_code 3 none "add" at C
  refine g_aloadN C X d3_0 (q := 1) rfl rfl rfl ?_
  refine g_getF C X (host := "") (Or.inl (w19 hw)) Via.refl P2 d3_1 (q := 4) rfl ?_
  intro T1 X2
  refine g_aloadN C X2 d3_4 (q := 5) rfl rfl rfl ?_
  refine g_getF C X2 (host := "") (Or.inl (w12 hw)) Via.refl P1 d3_5 (q := 8) rfl ?_
  intro T3 X4
  refine g_alen C X4 P5 d3_8 (q := 9) rfl ?_
  refine g_icN C X4 d3_9 (q := 12) rfl (by decide) ?_
  refine g_aloadN C X4 d3_12 (q := 13) rfl rfl rfl ?_
  refine g_getF C X4 (host := "") (Or.inl (w12 hw)) Via.refl P1 d3_13 (q := 16) rfl ?_
  intro T5 X6
  refine g_aloadN C X6 d3_16 (q := 17) rfl rfl rfl ?_
  refine g_getF C X6 (host := "") (Or.inl (w25 hw)) Via.refl P3 d3_17 (q := 20) rfl ?_
  intro T7 X8
  refine g_dloadN C X8 d3_20 (q := 21) rfl rfl ?_
  refine g_dastore C X8 P5 (by decide) (i := 0) (by decide) (Nat.le_of_ble_eq_true rfl) (vs' := [(.double x5)]) rfl G1 d3_21 (q := 22) rfl ?_
  intro T9 h10 X11 W12 V13
  have O14 := O.wr W12 G1
  refine g_aloadN C X11 d3_22 (q := 23) rfl rfl rfl ?_
  refine g_aloadN C X11 d3_23 (q := 24) rfl rfl rfl ?_
  refine g_aloadN C X11 d3_24 (q := 25) rfl rfl rfl ?_
  have f15 := (P3.other W12 (Or.inl N0_1))
  refine g_getF C X11 (host := "") (Or.inl (w25 hw)) Via.refl f15 d3_25 (q := 28) rfl ?_
  intro T16 X17
  have f18 := (P0.wr W12)
  have f19 := (P1.other W12 (Or.inl N0_1))
  have f20 := (P2.other W12 (Or.inl N0_1))
  have f21 := (P4.other W12 (Or.inl N0_1))
  refine g_callP1 C X17 (y := (⟨"com/example/rondel/rondel/primitive/DoubleRingBuffer", "next", "(I)I"⟩ : MethodName)) (a := o0) (by decide) (w29 hw) (sel_priv (w3 hw) (w30 hw) (w31 hw) (by decide)) (w30 hw) (w31 hw) f18 (w32 hw) (w4 hw) (rm_next_0 hw (o0 := o0) (o1 := o1) (i2 := i2) (kc3 := kc3) (x4 := x5) O14 f18 f19 f20 f15 f21 V13 G0 G1 N0_1) (W := 1) (by decide) (by decide) (k' := 0) rfl (n' := 0) rfl (by decide) (by decide) rfl pd_40 (argsL := [(.int (0 : Int32))]) rfl (rest := [(.ref o0)]) rfl rfl rfl d3_28 (q := 31) rfl ?_
  rintro _ T22 _ X23 ⟨rfl, rfl⟩
  refine g_putF C X23 (host := "") (Or.inl (w25 hw)) Via.refl f15 f18 (Or.inl (w26 hw)) (w3 hw) (ty := .int) (by decide) rfl rfl d3_31 (q := 34) rfl G0 ?_
  intro T24 h26 X25 W27
  have FW27 := Fld.same W27 f15
  have O28 := O14.wr W27 G0
  refine g_goto C X25 d3_34 (by decide) (q := 61) (by decide) ?_
  refine g_aloadN C X25 d3_61 (q := 62) rfl rfl rfl ?_
  refine g_dup C X25 d3_62 (q := 63) rfl rfl ?_
  have f29 := (f21.other W27 (Or.inr (slot_ne (Or.inl (w28 hw)) (Or.inl (w26 hw)) (by decide) (t := .int) (t' := .int) (by decide) (by decide))))
  refine g_getF C X25 (host := "") (Or.inl (w27 hw)) Via.refl f29 d3_63 (q := 66) rfl ?_
  intro T30 X31
  refine g_iconst C X31 d3_66 (q := 67) rfl (z := (1 : Int32)) rfl ?_
  refine g_iadd C X31 d3_67 (q := 68) rfl (z := (i2 + (1 : Int32))) rfl ?_
  have f32 := (f18.wr W27)
  refine g_putF C X31 (host := "") (Or.inl (w27 hw)) Via.refl f29 f32 (Or.inl (w28 hw)) (w3 hw) (ty := .int) (by decide) rfl rfl d3_68 (q := 71) rfl G0 ?_
  intro T33 h35 X34 W36
  have FW36 := Fld.same W36 f29
  have O37 := O28.wr W36 G0
  exact g_retV C X34 d3_71 (by decide) (by decide) ⟨rfl, ((((Keep.refl h0 [o1, o0]).wr W12 (Or.inl (List.mem_of_getElem? (i := 0) rfl))).wr W27 (Or.inl (List.mem_of_getElem? (i := 1) rfl))).wr W36 (Or.inl (List.mem_of_getElem? (i := 1) rfl))), (f32.wr W36), ((f19.other W27 (Or.inr (slot_ne (Or.inr (w13 hw)) (Or.inl (w26 hw)) (by decide) (t := (.array .double)) (t' := .int) (by decide) (by decide)))).other W36 (Or.inr (slot_ne (Or.inr (w13 hw)) (Or.inl (w28 hw)) (by decide) (t := (.array .double)) (t' := .int) (by decide) (by decide)))), ((f20.other W27 (Or.inr (slot_ne (Or.inl (w20 hw)) (Or.inl (w26 hw)) (by decide) (t := .int) (t' := .int) (by decide) (by decide)))).other W36 (Or.inr (slot_ne (Or.inl (w20 hw)) (Or.inl (w28 hw)) (by decide) (t := .int) (t' := .int) (by decide) (by decide)))), (FW27.other W36 (Or.inr (slot_ne (Or.inl (w26 hw)) (Or.inl (w28 hw)) (by decide) (t := .int) (t' := .int) (by decide) (by decide)))), FW36, ((V13.other W27 (Ne.symm N0_1)).other W36 (Ne.symm N0_1))⟩
set_option maxRecDepth 65536 in
set_option maxHeartbeats 40000000 in
theorem rm_min_0 {l : Launch} {Z : State} {a0 : Array Value} (hw : ∀ d ∈ tables_1, d.before a0 Z = true)  {h0 : Heap} {n0 : Nat} (O : Old Z n0 h0)  :
    Met1 l Z (⟨"java/lang/Math", "min", "(II)I"⟩ : MethodName) jdk_29_method_69_code 2 (some .int) ({ frames := 0, cells := 0, slots := 0, locals := 0 } : Room) #[(.int (5 : Int32)), (.int (1 : Int32))] h0 n0 (fun v h => v = (.int (1 : Int32)) ∧ h0 = h) := by
  refine met_of (L := #[.val (.int (5 : Int32)), .val (.int (1 : Int32))]) (Jvm.Free.JP.mathPlain rfl (by decide +kernel)) (fun m => by first | (simp [entryFrame, mkF, argsToLocals, Value.category]; done) | rfl) ?_
  intro p e s m below meth c T C X
  change Cx p s m meth c Z "java/lang/Math" jdk_29_method_69_code 2 (some .int) "min" at C
  refine g_iloadN C X d6_0 (q := 1) rfl rfl ?_
  refine g_iloadN C X d6_1 (q := 2) rfl rfl ?_
  refine g_icY C X d6_2 (by decide) (q := 9) (by decide) (by decide) ?_
  refine g_iloadN C X d6_9 (q := 10) rfl rfl ?_
  exact g_retI C X d6_10 (by decide) (by decide) ⟨_, rfl, rfl, rfl⟩
set_option maxRecDepth 65536 in
set_option maxHeartbeats 40000000 in
theorem rm_isFull_0 {l : Launch} {Z : State} {a0 : Array Value} (hw : ∀ d ∈ tables_1, d.before a0 Z = true) {o0 : Addr} {o1 : Addr} {i2 : Int32} {kc3 : ClassId} {x4 : UInt64} {h0 : Heap} {n0 : Nat} (O : Old Z n0 h0)  (P0 : Exa Z h0 o0 "com/example/rondel/rondel/primitive/DoubleRingBuffer") (P1 : Fld Z h0 o0 "com/example/rondel/rondel/primitive/DoubleRingBuffer" "readings" "[D" (.ref o1)) (P2 : Fld Z h0 o0 "com/example/rondel/rondel/primitive/DoubleRingBuffer" "size" "I" (.int (1 : Int32))) (P3 : Fld Z h0 o0 "com/example/rondel/rondel/primitive/DoubleRingBuffer" "head" "I" (.int (0 : Int32))) (P4 : Fld Z h0 o0 "com/example/rondel/rondel/primitive/DoubleRingBuffer" "modCount" "I" (.int i2)) (P5 : Arv Z h0 o1 kc3 .double (1 : Int32) [(.double x4)] (.double 0)) (G0 : n0 ≤ o0) (G1 : n0 ≤ o1) (N0_1 : o0 ≠ o1) :
    Met1 l Z (⟨"com/example/rondel/rondel/primitive/DoubleRingBuffer", "isFull", "()Z"⟩ : MethodName) prog_11_method_5_code 1 (some .boolean) ({ frames := 0, cells := 0, slots := 0, locals := 0 } : Room) #[(.ref o0)] h0 n0 (fun v h => v = (.int (1 : Int32)) ∧ h0 = h) := by
  refine met_of (L := #[.val (.ref o0)]) (plainFor_of_name pn_10) (fun m => by first | (simp [entryFrame, mkF, argsToLocals, Value.category]; done) | rfl) ?_
  intro p e s m below meth c T C X
  change Cx p s m meth c Z "com/example/rondel/rondel/primitive/DoubleRingBuffer" prog_11_method_5_code 1 (some .boolean) "isFull" at C
  refine g_aloadN C X d7_0 (q := 1) rfl rfl rfl ?_
  refine g_getF C X (host := "") (Or.inl (w19 hw)) Via.refl P2 d7_1 (q := 4) rfl ?_
  intro T1 X2
  refine g_aloadN C X2 d7_4 (q := 5) rfl rfl rfl ?_
  refine g_getF C X2 (host := "") (Or.inl (w12 hw)) Via.refl P1 d7_5 (q := 8) rfl ?_
  intro T3 X4
  refine g_alen C X4 P5 d7_8 (q := 9) rfl ?_
  refine g_icN C X4 d7_9 (q := 12) rfl (by decide) ?_
  refine g_iconst C X4 d7_12 (q := 13) rfl (z := (1 : Int32)) rfl ?_
  refine g_goto C X4 d7_13 (by decide) (q := 17) (by decide) ?_
  exact g_retN C X4 (Or.inl rfl) (z' := (1 : Int32)) (by decide) d7_17 (by decide) (by decide) ⟨_, rfl, rfl, rfl⟩
set_option maxRecDepth 65536 in
set_option maxHeartbeats 40000000 in
theorem rm_checkNotEmpty_0 {l : Launch} {Z : State} {a0 : Array Value} (hw : ∀ d ∈ tables_1, d.before a0 Z = true) {o0 : Addr} {o1 : Addr} {i2 : Int32} {kc3 : ClassId} {x4 : UInt64} {h0 : Heap} {n0 : Nat} (O : Old Z n0 h0)  (P0 : Exa Z h0 o0 "com/example/rondel/rondel/primitive/DoubleRingBuffer") (P1 : Fld Z h0 o0 "com/example/rondel/rondel/primitive/DoubleRingBuffer" "readings" "[D" (.ref o1)) (P2 : Fld Z h0 o0 "com/example/rondel/rondel/primitive/DoubleRingBuffer" "size" "I" (.int (1 : Int32))) (P3 : Fld Z h0 o0 "com/example/rondel/rondel/primitive/DoubleRingBuffer" "head" "I" (.int (0 : Int32))) (P4 : Fld Z h0 o0 "com/example/rondel/rondel/primitive/DoubleRingBuffer" "modCount" "I" (.int i2)) (P5 : Arv Z h0 o1 kc3 .double (1 : Int32) [(.double x4)] (.double 0)) (G0 : n0 ≤ o0) (G1 : n0 ≤ o1) (N0_1 : o0 ≠ o1) :
    Met0 l Z (⟨"com/example/rondel/rondel/primitive/DoubleRingBuffer", "checkNotEmpty", "()V"⟩ : MethodName) prog_11_method_17_code 1 none ({ frames := 0, cells := 0, slots := 0, locals := 0 } : Room) #[(.ref o0)] h0 n0 (fun h => h0 = h) := by
  refine met_of (L := #[.val (.ref o0)]) (plainFor_of_name pn_10) (fun m => by first | (simp [entryFrame, mkF, argsToLocals, Value.category]; done) | rfl) ?_
  intro p e s m below meth c T C X
  change Cx p s m meth c Z "com/example/rondel/rondel/primitive/DoubleRingBuffer" prog_11_method_17_code 1 none "checkNotEmpty" at C
  refine g_aloadN C X d10_0 (q := 1) rfl rfl rfl ?_
  refine g_getF C X (host := "") (Or.inl (w19 hw)) Via.refl P2 d10_1 (q := 4) rfl ?_
  intro T1 X2
  refine g_ifY C X2 d10_4 (by decide) (q := 17) (by decide) (by decide) ?_
  exact g_retV C X2 d10_17 (by decide) (by decide) ⟨rfl, rfl⟩
set_option maxRecDepth 65536 in
set_option maxHeartbeats 40000000 in
theorem rm_getFirst_0 {l : Launch} {Z : State} {a0 : Array Value} (hw : ∀ d ∈ tables_1, d.before a0 Z = true) {o0 : Addr} {o1 : Addr} {i2 : Int32} {kc3 : ClassId} {x4 : UInt64} {h0 : Heap} {n0 : Nat} (O : Old Z n0 h0)  (P0 : Exa Z h0 o0 "com/example/rondel/rondel/primitive/DoubleRingBuffer") (P1 : Fld Z h0 o0 "com/example/rondel/rondel/primitive/DoubleRingBuffer" "readings" "[D" (.ref o1)) (P2 : Fld Z h0 o0 "com/example/rondel/rondel/primitive/DoubleRingBuffer" "size" "I" (.int (1 : Int32))) (P3 : Fld Z h0 o0 "com/example/rondel/rondel/primitive/DoubleRingBuffer" "head" "I" (.int (0 : Int32))) (P4 : Fld Z h0 o0 "com/example/rondel/rondel/primitive/DoubleRingBuffer" "modCount" "I" (.int i2)) (P5 : Arv Z h0 o1 kc3 .double (1 : Int32) [(.double x4)] (.double 0)) (G0 : n0 ≤ o0) (G1 : n0 ≤ o1) (N0_1 : o0 ≠ o1) :
    Met1 l Z (⟨"com/example/rondel/rondel/primitive/DoubleRingBuffer", "getFirst", "()D"⟩ : MethodName) prog_11_method_9_code 1 (some .double) ({ frames := 1, cells := 0, slots := 0, locals := 12 } : Room) #[(.ref o0)] h0 n0 (fun v h => v = (.double x4) ∧ h0 = h) := by
  refine met_of (L := #[.val (.ref o0)]) (plainFor_of_name pn_10) (fun m => by first | (simp [entryFrame, mkF, argsToLocals, Value.category]; done) | rfl) ?_
  intro p e s m below meth c T C X
  change Cx p s m meth c Z "com/example/rondel/rondel/primitive/DoubleRingBuffer" prog_11_method_9_code 1 (some .double) "getFirst" at C
  refine g_aloadN C X d9_0 (q := 1) rfl rfl rfl ?_
  refine g_callP0 C X (y := (⟨"com/example/rondel/rondel/primitive/DoubleRingBuffer", "checkNotEmpty", "()V"⟩ : MethodName)) (a := o0) (by decide) (w52 hw) (sel_priv (w3 hw) (w53 hw) (w54 hw) (by decide)) (w53 hw) (w54 hw) P0 (w55 hw) (w4 hw) (rm_checkNotEmpty_0 hw (o0 := o0) (o1 := o1) (i2 := i2) (kc3 := kc3) (x4 := x4) O P0 P1 P2 P3 P4 P5 G0 G1 N0_1) (W := 0) (by decide) (by decide) (k' := 0) rfl (n' := 0) rfl (by decide) (by decide) rfl pd_104 (argsL := []) rfl (rest := []) rfl rfl rfl d9_1 (q := 4) rfl ?_
  rintro T1 _ X2 rfl
  refine g_aloadN C X2 d9_4 (q := 5) rfl rfl rfl ?_
  refine g_getF C X2 (host := "") (Or.inl (w12 hw)) Via.refl P1 d9_5 (q := 8) rfl ?_
  intro T3 X4
  refine g_aloadN C X4 d9_8 (q := 9) rfl rfl rfl ?_
  refine g_getF C X4 (host := "") (Or.inl (w25 hw)) Via.refl P3 d9_9 (q := 12) rfl ?_
  intro T5 X6
  refine g_daload C X6 P5 (by decide) (w := (.double x4)) rfl d9_12 (q := 13) rfl ?_
  exact g_retD C X6 d9_13 (by decide) (by decide) ⟨_, rfl, rfl, rfl⟩
set_option maxRecDepth 65536 in
set_option maxHeartbeats 40000000 in
theorem rm_removeFirst_0 {l : Launch} {Z : State} {a0 : Array Value} (hw : ∀ d ∈ tables_1, d.before a0 Z = true) {o0 : Addr} {o1 : Addr} {i2 : Int32} {kc3 : ClassId} {x4 : UInt64} {h0 : Heap} {n0 : Nat} (O : Old Z n0 h0)  (P0 : Exa Z h0 o0 "com/example/rondel/rondel/primitive/DoubleRingBuffer") (P1 : Fld Z h0 o0 "com/example/rondel/rondel/primitive/DoubleRingBuffer" "readings" "[D" (.ref o1)) (P2 : Fld Z h0 o0 "com/example/rondel/rondel/primitive/DoubleRingBuffer" "size" "I" (.int (1 : Int32))) (P3 : Fld Z h0 o0 "com/example/rondel/rondel/primitive/DoubleRingBuffer" "head" "I" (.int (0 : Int32))) (P4 : Fld Z h0 o0 "com/example/rondel/rondel/primitive/DoubleRingBuffer" "modCount" "I" (.int i2)) (P5 : Arv Z h0 o1 kc3 .double (1 : Int32) [(.double x4)] (.double 0)) (G0 : n0 ≤ o0) (G1 : n0 ≤ o1) (N0_1 : o0 ≠ o1) :
    Met1 l Z (⟨"com/example/rondel/rondel/primitive/DoubleRingBuffer", "removeFirst", "()D"⟩ : MethodName) prog_11_method_7_code 3 (some .double) ({ frames := 2, cells := 0, slots := 0, locals := 24 } : Room) #[(.ref o0)] h0 n0 (fun v h => v = (.double x4) ∧ Keep h0 h [o0] ∧ Exa Z h o0 "com/example/rondel/rondel/primitive/DoubleRingBuffer" ∧ Fld Z h o0 "com/example/rondel/rondel/primitive/DoubleRingBuffer" "readings" "[D" (.ref o1) ∧ Fld Z h o0 "com/example/rondel/rondel/primitive/DoubleRingBuffer" "size" "I" (.int (0 : Int32)) ∧ Fld Z h o0 "com/example/rondel/rondel/primitive/DoubleRingBuffer" "head" "I" (.int (0 : Int32)) ∧ Fld Z h o0 "com/example/rondel/rondel/primitive/DoubleRingBuffer" "modCount" "I" (.int (i2 + (1 : Int32)))) := by
  refine met_of (L := #[.val (.ref o0), .unset, .unset]) (plainFor_of_name pn_10) (fun m => by first | (simp [entryFrame, mkF, argsToLocals, Value.category]; done) | rfl) ?_
  intro p e s m below meth c T C X
  change Cx p s m meth c Z "com/example/rondel/rondel/primitive/DoubleRingBuffer" prog_11_method_7_code 3 (some .double) "removeFirst" at C
  refine g_aloadN C X d8_0 (q := 1) rfl rfl rfl ?_
  refine g_callV1 C X (y := (⟨"com/example/rondel/rondel/primitive/DoubleRingBuffer", "getFirst", "()D"⟩ : MethodName)) (z := (⟨"com/example/rondel/rondel/primitive/DoubleRingBuffer", "getFirst", "()D"⟩ : MethodName)) (a := o0) (by decide) (w47 hw) (w48 hw) (w50 hw) (w49 hw) (nf_sel (w50 hw)) P0 (w51 hw) (w4 hw) (rm_getFirst_0 hw (o0 := o0) (o1 := o1) (i2 := i2) (kc3 := kc3) (x4 := x4) O P0 P1 P2 P3 P4 P5 G0 G1 N0_1) (W := 0) (by decide) (by decide) (k' := 0) rfl (n' := 0) rfl (by decide) (by decide) rfl pd_111 (argsL := []) rfl (rest := []) rfl rfl rfl d8_1 (q := 4) rfl ?_
  rintro _ T1 _ X2 ⟨rfl, rfl⟩
  refine g_dstoreN C X2 d8_4 (q := 5) rfl (L' := #[.val (.ref o0), .val (.double x4), .second]) rfl ?_
  refine g_aloadN C X2 d8_5 (q := 6) rfl rfl rfl ?_
  refine g_aloadN C X2 d8_6 (q := 7) rfl rfl rfl ?_
  refine g_aloadN C X2 d8_7 (q := 8) rfl rfl rfl ?_
  refine g_getF C X2 (host := "") (Or.inl (w25 hw)) Via.refl P3 d8_8 (q := 11) rfl ?_
  intro T3 X4
  refine g_callP1 C X4 (y := (⟨"com/example/rondel/rondel/primitive/DoubleRingBuffer", "next", "(I)I"⟩ : MethodName)) (a := o0) (by decide) (w29 hw) (sel_priv (w3 hw) (w30 hw) (w31 hw) (by decide)) (w30 hw) (w31 hw) P0 (w32 hw) (w4 hw) (rm_next_0 hw (o0 := o0) (o1 := o1) (i2 := i2) (kc3 := kc3) (x4 := x4) O P0 P1 P2 P3 P4 P5 G0 G1 N0_1) (W := 1) (by decide) (by decide) (k' := 0) rfl (n' := 0) rfl (by decide) (by decide) rfl pd_40 (argsL := [(.int (0 : Int32))]) rfl (rest := [(.ref o0)]) rfl rfl rfl d8_11 (q := 14) rfl ?_
  rintro _ T5 _ X6 ⟨rfl, rfl⟩
  refine g_putF C X6 (host := "") (Or.inl (w25 hw)) Via.refl P3 P0 (Or.inl (w26 hw)) (w3 hw) (ty := .int) (by decide) rfl rfl d8_14 (q := 17) rfl G0 ?_
  intro T7 h9 X8 W10
  have FW10 := Fld.same W10 P3
  have O11 := O.wr W10 G0
  refine g_aloadN C X8 d8_17 (q := 18) rfl rfl rfl ?_
  refine g_dup C X8 d8_18 (q := 19) rfl rfl ?_
  have f12 := (P2.other W10 (Or.inr (slot_ne (Or.inl (w20 hw)) (Or.inl (w26 hw)) (by decide) (t := .int) (t' := .int) (by decide) (by decide))))
  refine g_getF C X8 (host := "") (Or.inl (w19 hw)) Via.refl f12 d8_19 (q := 22) rfl ?_
  intro T13 X14
  refine g_iconst C X14 d8_22 (q := 23) rfl (z := (1 : Int32)) rfl ?_
  refine g_isub C X14 d8_23 (q := 24) rfl (z := (0 : Int32)) (by decide) ?_
  have f15 := (P0.wr W10)
  refine g_putF C X14 (host := "") (Or.inl (w19 hw)) Via.refl f12 f15 (Or.inl (w20 hw)) (w3 hw) (ty := .int) (by decide) rfl rfl d8_24 (q := 27) rfl G0 ?_
  intro T16 h18 X17 W19
  have FW19 := Fld.same W19 f12
  have O20 := O11.wr W19 G0
  refine g_aloadN C X17 d8_27 (q := 28) rfl rfl rfl ?_
  refine g_dup C X17 d8_28 (q := 29) rfl rfl ?_
  have f21 := ((P4.other W10 (Or.inr (slot_ne (Or.inl (w28 hw)) (Or.inl (w26 hw)) (by decide) (t := .int) (t' := .int) (by decide) (by decide)))).other W19 (Or.inr (slot_ne (Or.inl (w28 hw)) (Or.inl (w20 hw)) (by decide) (t := .int) (t' := .int) (by decide) (by decide))))
  refine g_getF C X17 (host := "") (Or.inl (w27 hw)) Via.refl f21 d8_29 (q := 32) rfl ?_
  intro T22 X23
  refine g_iconst C X23 d8_32 (q := 33) rfl (z := (1 : Int32)) rfl ?_
  refine g_iadd C X23 d8_33 (q := 34) rfl (z := (i2 + (1 : Int32))) rfl ?_
  have f24 := (f15.wr W19)
  refine g_putF C X23 (host := "") (Or.inl (w27 hw)) Via.refl f21 f24 (Or.inl (w28 hw)) (w3 hw) (ty := .int) (by decide) rfl rfl d8_34 (q := 37) rfl G0 ?_
  intro T25 h27 X26 W28
  have FW28 := Fld.same W28 f21
  have O29 := O20.wr W28 G0
  refine g_dloadN C X26 d8_37 (q := 38) rfl rfl ?_
  exact g_retD C X26 d8_38 (by decide) (by decide) ⟨_, rfl, rfl, ((((Keep.refl h0 [o0]).wr W10 (Or.inl (List.mem_of_getElem? (i := 0) rfl))).wr W19 (Or.inl (List.mem_of_getElem? (i := 0) rfl))).wr W28 (Or.inl (List.mem_of_getElem? (i := 0) rfl))), (f24.wr W28), (((P1.other W10 (Or.inr (slot_ne (Or.inr (w13 hw)) (Or.inl (w26 hw)) (by decide) (t := (.array .double)) (t' := .int) (by decide) (by decide)))).other W19 (Or.inr (slot_ne (Or.inr (w13 hw)) (Or.inl (w20 hw)) (by decide) (t := (.array .double)) (t' := .int) (by decide) (by decide)))).other W28 (Or.inr (slot_ne (Or.inr (w13 hw)) (Or.inl (w28 hw)) (by decide) (t := (.array .double)) (t' := .int) (by decide) (by decide)))), (FW19.other W28 (Or.inr (slot_ne (Or.inl (w20 hw)) (Or.inl (w28 hw)) (by decide) (t := .int) (t' := .int) (by decide) (by decide)))), ((FW10.other W19 (Or.inr (slot_ne (Or.inl (w26 hw)) (Or.inl (w20 hw)) (by decide) (t := .int) (t' := .int) (by decide) (by decide)))).other W28 (Or.inr (slot_ne (Or.inl (w26 hw)) (Or.inl (w28 hw)) (by decide) (t := .int) (t' := .int) (by decide) (by decide)))), FW28⟩
set_option maxRecDepth 65536 in
set_option maxHeartbeats 40000000 in
theorem rm_isFull_1 {l : Launch} {Z : State} {a0 : Array Value} (hw : ∀ d ∈ tables_1, d.before a0 Z = true) {o0 : Addr} {o1 : Addr} {i2 : Int32} {kc3 : ClassId} {x4 : UInt64} {h0 : Heap} {n0 : Nat} (O : Old Z n0 h0)  (P0 : Exa Z h0 o0 "com/example/rondel/rondel/primitive/DoubleRingBuffer") (P1 : Fld Z h0 o0 "com/example/rondel/rondel/primitive/DoubleRingBuffer" "readings" "[D" (.ref o1)) (P2 : Fld Z h0 o0 "com/example/rondel/rondel/primitive/DoubleRingBuffer" "size" "I" (.int (0 : Int32))) (P3 : Fld Z h0 o0 "com/example/rondel/rondel/primitive/DoubleRingBuffer" "head" "I" (.int (0 : Int32))) (P4 : Fld Z h0 o0 "com/example/rondel/rondel/primitive/DoubleRingBuffer" "modCount" "I" (.int i2)) (P5 : Arv Z h0 o1 kc3 .double (1 : Int32) [(.double x4)] (.double 0)) (G0 : n0 ≤ o0) (G1 : n0 ≤ o1) (N0_1 : o0 ≠ o1) :
    Met1 l Z (⟨"com/example/rondel/rondel/primitive/DoubleRingBuffer", "isFull", "()Z"⟩ : MethodName) prog_11_method_5_code 1 (some .boolean) ({ frames := 0, cells := 0, slots := 0, locals := 0 } : Room) #[(.ref o0)] h0 n0 (fun v h => v = (.int (0 : Int32)) ∧ h0 = h) := by
  refine met_of (L := #[.val (.ref o0)]) (plainFor_of_name pn_10) (fun m => by first | (simp [entryFrame, mkF, argsToLocals, Value.category]; done) | rfl) ?_
  intro p e s m below meth c T C X
  change Cx p s m meth c Z "com/example/rondel/rondel/primitive/DoubleRingBuffer" prog_11_method_5_code 1 (some .boolean) "isFull" at C
  refine g_aloadN C X d7_0 (q := 1) rfl rfl rfl ?_
  refine g_getF C X (host := "") (Or.inl (w19 hw)) Via.refl P2 d7_1 (q := 4) rfl ?_
  intro T1 X2
  refine g_aloadN C X2 d7_4 (q := 5) rfl rfl rfl ?_
  refine g_getF C X2 (host := "") (Or.inl (w12 hw)) Via.refl P1 d7_5 (q := 8) rfl ?_
  intro T3 X4
  refine g_alen C X4 P5 d7_8 (q := 9) rfl ?_
  refine g_icY C X4 d7_9 (by decide) (q := 16) (by decide) (by decide) ?_
  refine g_iconst C X4 d7_16 (q := 17) rfl (z := (0 : Int32)) rfl ?_
  exact g_retN C X4 (Or.inl rfl) (z' := (0 : Int32)) (by decide) d7_17 (by decide) (by decide) ⟨_, rfl, rfl, rfl⟩
set_option maxRecDepth 65536 in
set_option maxHeartbeats 40000000 in
theorem rm_min_1 {l : Launch} {Z : State} {a0 : Array Value} (hw : ∀ d ∈ tables_1, d.before a0 Z = true)  {h0 : Heap} {n0 : Nat} (O : Old Z n0 h0)  :
    Met1 l Z (⟨"java/lang/Math", "min", "(II)I"⟩ : MethodName) jdk_29_method_69_code 2 (some .int) ({ frames := 0, cells := 0, slots := 0, locals := 0 } : Room) #[(.int (4 : Int32)), (.int (1 : Int32))] h0 n0 (fun v h => v = (.int (1 : Int32)) ∧ h0 = h) := by
  refine met_of (L := #[.val (.int (4 : Int32)), .val (.int (1 : Int32))]) (Jvm.Free.JP.mathPlain rfl (by decide +kernel)) (fun m => by first | (simp [entryFrame, mkF, argsToLocals, Value.category]; done) | rfl) ?_
  intro p e s m below meth c T C X
  change Cx p s m meth c Z "java/lang/Math" jdk_29_method_69_code 2 (some .int) "min" at C
  refine g_iloadN C X d6_0 (q := 1) rfl rfl ?_
  refine g_iloadN C X d6_1 (q := 2) rfl rfl ?_
  refine g_icY C X d6_2 (by decide) (q := 9) (by decide) (by decide) ?_
  refine g_iloadN C X d6_9 (q := 10) rfl rfl ?_
  exact g_retI C X d6_10 (by decide) (by decide) ⟨_, rfl, rfl, rfl⟩
set_option maxRecDepth 65536 in
set_option maxHeartbeats 40000000 in
theorem rm_min_2 {l : Launch} {Z : State} {a0 : Array Value} (hw : ∀ d ∈ tables_1, d.before a0 Z = true)  {h0 : Heap} {n0 : Nat} (O : Old Z n0 h0)  :
    Met1 l Z (⟨"java/lang/Math", "min", "(II)I"⟩ : MethodName) jdk_29_method_69_code 2 (some .int) ({ frames := 0, cells := 0, slots := 0, locals := 0 } : Room) #[(.int (3 : Int32)), (.int (1 : Int32))] h0 n0 (fun v h => v = (.int (1 : Int32)) ∧ h0 = h) := by
  refine met_of (L := #[.val (.int (3 : Int32)), .val (.int (1 : Int32))]) (Jvm.Free.JP.mathPlain rfl (by decide +kernel)) (fun m => by first | (simp [entryFrame, mkF, argsToLocals, Value.category]; done) | rfl) ?_
  intro p e s m below meth c T C X
  change Cx p s m meth c Z "java/lang/Math" jdk_29_method_69_code 2 (some .int) "min" at C
  refine g_iloadN C X d6_0 (q := 1) rfl rfl ?_
  refine g_iloadN C X d6_1 (q := 2) rfl rfl ?_
  refine g_icY C X d6_2 (by decide) (q := 9) (by decide) (by decide) ?_
  refine g_iloadN C X d6_9 (q := 10) rfl rfl ?_
  exact g_retI C X d6_10 (by decide) (by decide) ⟨_, rfl, rfl, rfl⟩
set_option maxRecDepth 65536 in
set_option maxHeartbeats 40000000 in
theorem rm_min_3 {l : Launch} {Z : State} {a0 : Array Value} (hw : ∀ d ∈ tables_1, d.before a0 Z = true)  {h0 : Heap} {n0 : Nat} (O : Old Z n0 h0)  :
    Met1 l Z (⟨"java/lang/Math", "min", "(II)I"⟩ : MethodName) jdk_29_method_69_code 2 (some .int) ({ frames := 0, cells := 0, slots := 0, locals := 0 } : Room) #[(.int (2 : Int32)), (.int (1 : Int32))] h0 n0 (fun v h => v = (.int (1 : Int32)) ∧ h0 = h) := by
  refine met_of (L := #[.val (.int (2 : Int32)), .val (.int (1 : Int32))]) (Jvm.Free.JP.mathPlain rfl (by decide +kernel)) (fun m => by first | (simp [entryFrame, mkF, argsToLocals, Value.category]; done) | rfl) ?_
  intro p e s m below meth c T C X
  change Cx p s m meth c Z "java/lang/Math" jdk_29_method_69_code 2 (some .int) "min" at C
  refine g_iloadN C X d6_0 (q := 1) rfl rfl ?_
  refine g_iloadN C X d6_1 (q := 2) rfl rfl ?_
  refine g_icY C X d6_2 (by decide) (q := 9) (by decide) (by decide) ?_
  refine g_iloadN C X d6_9 (q := 10) rfl rfl ?_
  exact g_retI C X d6_10 (by decide) (by decide) ⟨_, rfl, rfl, rfl⟩
set_option maxRecDepth 65536 in
set_option maxHeartbeats 40000000 in
theorem rm_min_4 {l : Launch} {Z : State} {a0 : Array Value} (hw : ∀ d ∈ tables_1, d.before a0 Z = true)  {h0 : Heap} {n0 : Nat} (O : Old Z n0 h0)  :
    Met1 l Z (⟨"java/lang/Math", "min", "(II)I"⟩ : MethodName) jdk_29_method_69_code 2 (some .int) ({ frames := 0, cells := 0, slots := 0, locals := 0 } : Room) #[(.int (1 : Int32)), (.int (1 : Int32))] h0 n0 (fun v h => v = (.int (1 : Int32)) ∧ h0 = h) := by
  refine met_of (L := #[.val (.int (1 : Int32)), .val (.int (1 : Int32))]) (Jvm.Free.JP.mathPlain rfl (by decide +kernel)) (fun m => by first | (simp [entryFrame, mkF, argsToLocals, Value.category]; done) | rfl) ?_
  intro p e s m below meth c T C X
  change Cx p s m meth c Z "java/lang/Math" jdk_29_method_69_code 2 (some .int) "min" at C
  refine g_iloadN C X d6_0 (q := 1) rfl rfl ?_
  refine g_iloadN C X d6_1 (q := 2) rfl rfl ?_
  refine g_icN C X d6_2 (q := 5) rfl (by decide) ?_
  refine g_iloadN C X d6_5 (q := 6) rfl rfl ?_
  refine g_goto C X d6_6 (by decide) (q := 10) (by decide) ?_
  exact g_retI C X d6_10 (by decide) (by decide) ⟨_, rfl, rfl, rfl⟩
set_option maxRecDepth 65536 in
set_option maxHeartbeats 40000000 in
theorem rm_min_5 {l : Launch} {Z : State} {a0 : Array Value} (hw : ∀ d ∈ tables_1, d.before a0 Z = true)  {h0 : Heap} {n0 : Nat} (O : Old Z n0 h0)  :
    Met1 l Z (⟨"java/lang/Math", "min", "(II)I"⟩ : MethodName) jdk_29_method_69_code 2 (some .int) ({ frames := 0, cells := 0, slots := 0, locals := 0 } : Room) #[(.int (0 : Int32)), (.int (1 : Int32))] h0 n0 (fun v h => v = (.int (0 : Int32)) ∧ h0 = h) := by
  refine met_of (L := #[.val (.int (0 : Int32)), .val (.int (1 : Int32))]) (Jvm.Free.JP.mathPlain rfl (by decide +kernel)) (fun m => by first | (simp [entryFrame, mkF, argsToLocals, Value.category]; done) | rfl) ?_
  intro p e s m below meth c T C X
  change Cx p s m meth c Z "java/lang/Math" jdk_29_method_69_code 2 (some .int) "min" at C
  refine g_iloadN C X d6_0 (q := 1) rfl rfl ?_
  refine g_iloadN C X d6_1 (q := 2) rfl rfl ?_
  refine g_icN C X d6_2 (q := 5) rfl (by decide) ?_
  refine g_iloadN C X d6_5 (q := 6) rfl rfl ?_
  refine g_goto C X d6_6 (by decide) (q := 10) (by decide) ?_
  exact g_retI C X d6_10 (by decide) (by decide) ⟨_, rfl, rfl, rfl⟩
set_option maxRecDepth 65536 in
set_option maxHeartbeats 40000000 in
theorem rm_init_1 {l : Launch} {Z : State} {a0 : Array Value} (hw : ∀ d ∈ tables_1, d.before a0 Z = true) {o0 : Addr} {i1 : Int32} {h0 : Heap} {n0 : Nat} (O : Old Z n0 h0)  (P0 : Exa Z h0 o0 "com/example/rondel/rondel/primitive/DoubleRingBuffer") (P1 : Fld Z h0 o0 "com/example/rondel/rondel/primitive/DoubleRingBuffer" "readings" "[D" .null) (P2 : Fld Z h0 o0 "com/example/rondel/rondel/primitive/DoubleRingBuffer" "size" "I" (.int (0 : Int32))) (P3 : Fld Z h0 o0 "com/example/rondel/rondel/primitive/DoubleRingBuffer" "head" "I" (.int (0 : Int32))) (P4 : Fld Z h0 o0 "com/example/rondel/rondel/primitive/DoubleRingBuffer" "modCount" "I" (.int i1)) (G0 : n0 ≤ o0) :
    Met0 l Z (⟨"com/example/rondel/rondel/primitive/DoubleRingBuffer", "<init>", "(I)V"⟩ : MethodName) prog_11_method_1_code 2 none ({ frames := 1, cells := 1, slots := 2, locals := 12 } : Room) #[(.ref o0), (.int (2 : Int32))] h0 n0 (fun h => ∃ b3 : Addr, ∃ kA6 : ClassId, Keep h0 h [o0] ∧ n0 ≤ b3 ∧ h0.size ≤ b3 ∧ Exa Z h o0 "com/example/rondel/rondel/primitive/DoubleRingBuffer" ∧ Fld Z h o0 "com/example/rondel/rondel/primitive/DoubleRingBuffer" "readings" "[D" (.ref b3) ∧ Fld Z h o0 "com/example/rondel/rondel/primitive/DoubleRingBuffer" "size" "I" (.int (0 : Int32)) ∧ Fld Z h o0 "com/example/rondel/rondel/primitive/DoubleRingBuffer" "head" "I" (.int (0 : Int32)) ∧ Fld Z h o0 "com/example/rondel/rondel/primitive/DoubleRingBuffer" "modCount" "I" (.int i1) ∧ Arv Z h b3 kA6 .double (2 : Int32) [(.double 0), (.double 0)] (.double 0)) := by
  refine met_of (L := #[.val (.ref o0), .val (.int (2 : Int32))]) (plainFor_of_name pn_10) (fun m => by first | (simp [entryFrame, mkF, argsToLocals, Value.category]; done) | rfl) ?_
  intro p e s m below meth c T C X
  change Cx p s m meth c Z "com/example/rondel/rondel/primitive/DoubleRingBuffer" prog_11_method_1_code 2 none "<init>" at C
  refine g_aloadN C X d1_0 (q := 1) rfl rfl rfl ?_
  refine g_initO C X (w8 hw) (w9 hw) (w10 hw) rfl d1_1 (q := 4) rfl (by decide) (by decide) ?_
  intro T1 X2
  refine g_iloadN C X2 d1_4 (q := 5) rfl rfl ?_
  refine g_iconst C X2 d1_5 (q := 6) rfl (z := (1 : Int32)) rfl ?_
  refine g_icY C X2 d1_6 (by decide) (q := 23) (by decide) (by decide) ?_
  refine g_aloadN C X2 d1_23 (q := 24) rfl rfl rfl ?_
  refine g_iloadN C X2 d1_24 (q := 25) rfl rfl ?_
  refine g_newP C X2 (w11 hw) rfl d1_25 (q := 27) rfl (by decide) (cap := 2) (by decide) (by decide) (k' := 1) rfl (n' := 2) rfl (by decide) (by decide) ?_
  intro T4 h5 kA6 b3 g8 X7 E9 V10
  have ge11 : n0 ≤ b3 := own_ge O g8
  have O12 := O.ext E9
  have V13 : Arv Z h5 b3 kA6 .double (2 : Int32) [(.double 0), (.double 0)] (.double 0) := Arv.pad V10 (pad_rep [] _ 2)
  have f14 := (P1.ext E9)
  have f15 := (P0.ext E9)
  refine g_putF C X7 (host := "") (Or.inl (w12 hw)) Via.refl f14 f15 (Or.inr ⟨(w13 hw), rfl, rfl⟩) (w3 hw) (ty := (.array .double)) (by decide) rfl rfl d1_27 (q := 30) rfl G0 ?_
  intro T16 h18 X17 W19
  have FW19 := Fld.same W19 f14
  have O20 := O12.wr W19 G0
  exact g_retV C X17 d1_30 (by decide) (by decide) ⟨rfl, b3, kA6, (((Keep.refl h0 [o0]).ext E9).wr W19 (Or.inl (List.mem_of_getElem? (i := 0) rfl))), ge11, (own_sz (Keep.refl h0 [o0]).1 g8), (f15.wr W19), FW19, ((P2.ext E9).other W19 (Or.inr (slot_ne (Or.inl (w20 hw)) (Or.inr (w13 hw)) (by decide) (t := .int) (t' := (.array .double)) (by decide) (by decide)))), ((P3.ext E9).other W19 (Or.inr (slot_ne (Or.inl (w26 hw)) (Or.inr (w13 hw)) (by decide) (t := .int) (t' := (.array .double)) (by decide) (by decide)))), ((P4.ext E9).other W19 (Or.inr (slot_ne (Or.inl (w28 hw)) (Or.inr (w13 hw)) (by decide) (t := .int) (t' := (.array .double)) (by decide) (by decide)))), (V13.other W19 (Ne.symm (own_ne P0.lt g8)))⟩
set_option maxRecDepth 65536 in
set_option maxHeartbeats 40000000 in
theorem rm_slot_1 {l : Launch} {Z : State} {a0 : Array Value} (hw : ∀ d ∈ tables_1, d.before a0 Z = true) {o0 : Addr} {o1 : Addr} {i2 : Int32} {kc3 : ClassId} {x4 : UInt64} {x5 : UInt64} {h0 : Heap} {n0 : Nat} (O : Old Z n0 h0)  (P0 : Exa Z h0 o0 "com/example/rondel/rondel/primitive/DoubleRingBuffer") (P1 : Fld Z h0 o0 "com/example/rondel/rondel/primitive/DoubleRingBuffer" "readings" "[D" (.ref o1)) (P2 : Fld Z h0 o0 "com/example/rondel/rondel/primitive/DoubleRingBuffer" "size" "I" (.int (0 : Int32))) (P3 : Fld Z h0 o0 "com/example/rondel/rondel/primitive/DoubleRingBuffer" "head" "I" (.int (0 : Int32))) (P4 : Fld Z h0 o0 "com/example/rondel/rondel/primitive/DoubleRingBuffer" "modCount" "I" (.int i2)) (P5 : Arv Z h0 o1 kc3 .double (2 : Int32) [(.double x4), (.double x5)] (.double 0)) (G0 : n0 ≤ o0) (G1 : n0 ≤ o1) (N0_1 : o0 ≠ o1) :
    Met1 l Z (⟨"com/example/rondel/rondel/primitive/DoubleRingBuffer", "slot", "(I)I"⟩ : MethodName) prog_11_method_18_code 3 (some .int) ({ frames := 0, cells := 0, slots := 0, locals := 0 } : Room) #[(.ref o0), (.int (0 : Int32))] h0 n0 (fun v h => v = (.int (0 : Int32)) ∧ h0 = h) := by
  refine met_of (L := #[.val (.ref o0), .val (.int (0 : Int32)), .unset]) (plainFor_of_name pn_10) (fun m => by first | (simp [entryFrame, mkF, argsToLocals, Value.category]; done) | rfl) ?_
  intro p e s m below meth c T C X
  change Cx p s m meth c Z "com/example/rondel/rondel/primitive/DoubleRingBuffer" prog_11_method_18_code 3 (some .int) "slot" at C
  refine g_aloadN C X d4_0 (q := 1) rfl rfl rfl ?_
  refine g_getF C X (host := "") (Or.inl (w12 hw)) Via.refl P1 d4_1 (q := 4) rfl ?_
  intro T1 X2
  refine g_alen C X2 P5 d4_4 (q := 5) rfl ?_
  refine g_aloadN C X2 d4_5 (q := 6) rfl rfl rfl ?_
  refine g_getF C X2 (host := "") (Or.inl (w25 hw)) Via.refl P3 d4_6 (q := 9) rfl ?_
  intro T3 X4
  refine g_isub C X4 d4_9 (q := 10) rfl (z := (2 : Int32)) (by decide) ?_
  refine g_istoreN C X4 d4_10 (q := 11) rfl (L' := #[.val (.ref o0), .val (.int (0 : Int32)), .val (.int (2 : Int32))]) rfl ?_
  refine g_iloadN C X4 d4_11 (q := 12) rfl rfl ?_
  refine g_iloadN C X4 d4_12 (q := 13) rfl rfl ?_
  refine g_icN C X4 d4_13 (q := 16) rfl (by decide) ?_
  refine g_aloadN C X4 d4_16 (q := 17) rfl rfl rfl ?_
  refine g_getF C X4 (host := "") (Or.inl (w25 hw)) Via.refl P3 d4_17 (q := 20) rfl ?_
  intro T5 X6
  refine g_iloadN C X6 d4_20 (q := 21) rfl rfl ?_
  refine g_iadd C X6 d4_21 (q := 22) rfl (z := (0 : Int32)) (by decide) ?_
  refine g_goto C X6 d4_22 (by decide) (q := 28) (by decide) ?_
  exact g_retI C X6 d4_28 (by decide) (by decide) ⟨_, rfl, rfl, rfl⟩
set_option maxRecDepth 65536 in
set_option maxHeartbeats 40000000 in
theorem rm_add_2 {l : Launch} {Z : State} {a0 : Array Value} (hw : ∀ d ∈ tables_1, d.before a0 Z = true) {o0 : Addr} {o1 : Addr} {i2 : Int32} {kc3 : ClassId} {x4 : UInt64} {x5 : UInt64} {x6 : UInt64} {h0 : Heap} {n0 : Nat} (O : Old Z n0 h0)  (P0 : Exa Z h0 o0 "com/example/rondel/rondel/primitive/DoubleRingBuffer") (P1 : Fld Z h0 o0 "com/example/rondel/rondel/primitive/DoubleRingBuffer" "readings" "[D" (.ref o1)) (P2 : Fld Z h0 o0 "com/example/rondel/rondel/primitive/DoubleRingBuffer" "size" "I" (.int (0 : Int32))) (P3 : Fld Z h0 o0 "com/example/rondel/rondel/primitive/DoubleRingBuffer" "head" "I" (.int (0 : Int32))) (P4 : Fld Z h0 o0 "com/example/rondel/rondel/primitive/DoubleRingBuffer" "modCount" "I" (.int i2)) (P5 : Arv Z h0 o1 kc3 .double (2 : Int32) [(.double x4), (.double x5)] (.double 0)) (G0 : n0 ≤ o0) (G1 : n0 ≤ o1) (N0_1 : o0 ≠ o1) :
    Met0 l Z (⟨"com/example/rondel/rondel/primitive/DoubleRingBuffer", "add", "(D)V"⟩ : MethodName) prog_11_method_6_code 3 none ({ frames := 1, cells := 0, slots := 0, locals := 15 } : Room) #[(.ref o0), (.double x6)] h0 n0 (fun h => Keep h0 h [o1, o0] ∧ Exa Z h o0 "com/example/rondel/rondel/primitive/DoubleRingBuffer" ∧ Fld Z h o0 "com/example/rondel/rondel/primitive/DoubleRingBuffer" "readings" "[D" (.ref o1) ∧ Fld Z h o0 "com/example/rondel/rondel/primitive/DoubleRingBuffer" "size" "I" (.int (1 : Int32)) ∧ Fld Z h o0 "com/example/rondel/rondel/primitive/DoubleRingBuffer" "head" "I" (.int (0 : Int32)) ∧ Fld Z h o0 "com/example/rondel/rondel/primitive/DoubleRingBuffer" "modCount" "I" (.int (i2 + (1 : Int32))) ∧ Arv Z h o1 kc3 .double (2 : Int32) [(.double x6), (.double x5)] (.double 0)) := by
  refine met_of (L := #[.val (.ref o0), .val (.double x6), .second]) (plainFor_of_name pn_10) (fun m => by first | (simp [entryFrame, mkF, argsToLocals, Value.category]; done) | rfl) ?_
  intro p e s m below meth c T C X
  change Cx p s m meth c Z "com/example/rondel/rondel/primitive/DoubleRingBuffer" prog_11_method_6_code 3 none "add" at C
  refine g_aloadN C X d3_0 (q := 1) rfl rfl rfl ?_
  refine g_getF C X (host := "") (Or.inl (w19 hw)) Via.refl P2 d3_1 (q := 4) rfl ?_
  intro T1 X2
  refine g_aloadN C X2 d3_4 (q := 5) rfl rfl rfl ?_
  refine g_getF C X2 (host := "") (Or.inl (w12 hw)) Via.refl P1 d3_5 (q := 8) rfl ?_
  intro T3 X4
  refine g_alen C X4 P5 d3_8 (q := 9) rfl ?_
  refine g_icY C X4 d3_9 (by decide) (q := 37) (by decide) (by decide) ?_
  refine g_aloadN C X4 d3_37 (q := 38) rfl rfl rfl ?_
  refine g_getF C X4 (host := "") (Or.inl (w12 hw)) Via.refl P1 d3_38 (q := 41) rfl ?_
  intro T5 X6
  refine g_aloadN C X6 d3_41 (q := 42) rfl rfl rfl ?_
  refine g_aloadN C X6 d3_42 (q := 43) rfl rfl rfl ?_
  refine g_getF C X6 (host := "") (Or.inl (w19 hw)) Via.refl P2 d3_43 (q := 46) rfl ?_
  intro T7 X8
  refine g_callP1 C X8 (y := (⟨"com/example/rondel/rondel/primitive/DoubleRingBuffer", "slot", "(I)I"⟩ : MethodName)) (a := o0) (by decide) (w21 hw) (sel_priv (w3 hw) (w22 hw) (w23 hw) (by decide)) (w22 hw) (w23 hw) P0 (w24 hw) (w4 hw) (rm_slot_1 hw (o0 := o0) (o1 := o1) (i2 := i2) (kc3 := kc3) (x4 := x4) (x5 := x5) O P0 P1 P2 P3 P4 P5 G0 G1 N0_1) (W := 1) (by decide) (by decide) (k' := 0) rfl (n' := 0) rfl (by decide) (by decide) rfl pd_40 (argsL := [(.int (0 : Int32))]) rfl (rest := [(.ref o1)]) rfl rfl rfl d3_46 (q := 49) rfl ?_
  rintro _ T9 _ X10 ⟨rfl, rfl⟩
  refine g_dloadN C X10 d3_49 (q := 50) rfl rfl ?_
  refine g_dastore C X10 P5 (by decide) (i := 0) (by decide) (Nat.le_of_ble_eq_true rfl) (vs' := [(.double x6), (.double x5)]) rfl G1 d3_50 (q := 51) rfl ?_
  intro T11 h12 X13 W14 V15
  have O16 := O.wr W14 G1
  refine g_aloadN C X13 d3_51 (q := 52) rfl rfl rfl ?_
  refine g_dup C X13 d3_52 (q := 53) rfl rfl ?_
  have f17 := (P2.other W14 (Or.inl N0_1))
  refine g_getF C X13 (host := "") (Or.inl (w19 hw)) Via.refl f17 d3_53 (q := 56) rfl ?_
  intro T18 X19
  refine g_iconst C X19 d3_56 (q := 57) rfl (z := (1 : Int32)) rfl ?_
  refine g_iadd C X19 d3_57 (q := 58) rfl (z := (1 : Int32)) (by decide) ?_
  have f20 := (P0.wr W14)
  refine g_putF C X19 (host := "") (Or.inl (w19 hw)) Via.refl f17 f20 (Or.inl (w20 hw)) (w3 hw) (ty := .int) (by decide) rfl rfl d3_58 (q := 61) rfl G0 ?_
  intro T21 h23 X22 W24
  have FW24 := Fld.same W24 f17
  have O25 := O16.wr W24 G0
  refine g_aloadN C X22 d3_61 (q := 62) rfl rfl rfl ?_
  refine g_dup C X22 d3_62 (q := 63) rfl rfl ?_
  have f26 := ((P4.other W14 (Or.inl N0_1)).other W24 (Or.inr (slot_ne (Or.inl (w28 hw)) (Or.inl (w20 hw)) (by decide) (t := .int) (t' := .int) (by decide) (by decide))))
  refine g_getF C X22 (host := "") (Or.inl (w27 hw)) Via.refl f26 d3_63 (q := 66) rfl ?_
  intro T27 X28
  refine g_iconst C X28 d3_66 (q := 67) rfl (z := (1 : Int32)) rfl ?_
  refine g_iadd C X28 d3_67 (q := 68) rfl (z := (i2 + (1 : Int32))) rfl ?_
  have f29 := (f20.wr W24)
  refine g_putF C X28 (host := "") (Or.inl (w27 hw)) Via.refl f26 f29 (Or.inl (w28 hw)) (w3 hw) (ty := .int) (by decide) rfl rfl d3_68 (q := 71) rfl G0 ?_
  intro T30 h32 X31 W33
  have FW33 := Fld.same W33 f26
  have O34 := O25.wr W33 G0
  exact g_retV C X31 d3_71 (by decide) (by decide) ⟨rfl, ((((Keep.refl h0 [o1, o0]).wr W14 (Or.inl (List.mem_of_getElem? (i := 0) rfl))).wr W24 (Or.inl (List.mem_of_getElem? (i := 1) rfl))).wr W33 (Or.inl (List.mem_of_getElem? (i := 1) rfl))), (f29.wr W33), (((P1.other W14 (Or.inl N0_1)).other W24 (Or.inr (slot_ne (Or.inr (w13 hw)) (Or.inl (w20 hw)) (by decide) (t := (.array .double)) (t' := .int) (by decide) (by decide)))).other W33 (Or.inr (slot_ne (Or.inr (w13 hw)) (Or.inl (w28 hw)) (by decide) (t := (.array .double)) (t' := .int) (by decide) (by decide)))), (FW24.other W33 (Or.inr (slot_ne (Or.inl (w20 hw)) (Or.inl (w28 hw)) (by decide) (t := .int) (t' := .int) (by decide) (by decide)))), (((P3.other W14 (Or.inl N0_1)).other W24 (Or.inr (slot_ne (Or.inl (w26 hw)) (Or.inl (w20 hw)) (by decide) (t := .int) (t' := .int) (by decide) (by decide)))).other W33 (Or.inr (slot_ne (Or.inl (w26 hw)) (Or.inl (w28 hw)) (by decide) (t := .int) (t' := .int) (by decide) (by decide)))), FW33, ((V15.other W24 (Ne.symm N0_1)).other W33 (Ne.symm N0_1))⟩
set_option maxRecDepth 65536 in
set_option maxHeartbeats 40000000 in
theorem rm_slot_2 {l : Launch} {Z : State} {a0 : Array Value} (hw : ∀ d ∈ tables_1, d.before a0 Z = true) {o0 : Addr} {o1 : Addr} {i2 : Int32} {kc3 : ClassId} {x4 : UInt64} {x5 : UInt64} {h0 : Heap} {n0 : Nat} (O : Old Z n0 h0)  (P0 : Exa Z h0 o0 "com/example/rondel/rondel/primitive/DoubleRingBuffer") (P1 : Fld Z h0 o0 "com/example/rondel/rondel/primitive/DoubleRingBuffer" "readings" "[D" (.ref o1)) (P2 : Fld Z h0 o0 "com/example/rondel/rondel/primitive/DoubleRingBuffer" "size" "I" (.int (1 : Int32))) (P3 : Fld Z h0 o0 "com/example/rondel/rondel/primitive/DoubleRingBuffer" "head" "I" (.int (0 : Int32))) (P4 : Fld Z h0 o0 "com/example/rondel/rondel/primitive/DoubleRingBuffer" "modCount" "I" (.int i2)) (P5 : Arv Z h0 o1 kc3 .double (2 : Int32) [(.double x4), (.double x5)] (.double 0)) (G0 : n0 ≤ o0) (G1 : n0 ≤ o1) (N0_1 : o0 ≠ o1) :
    Met1 l Z (⟨"com/example/rondel/rondel/primitive/DoubleRingBuffer", "slot", "(I)I"⟩ : MethodName) prog_11_method_18_code 3 (some .int) ({ frames := 0, cells := 0, slots := 0, locals := 0 } : Room) #[(.ref o0), (.int (1 : Int32))] h0 n0 (fun v h => v = (.int (1 : Int32)) ∧ h0 = h) := by
  refine met_of (L := #[.val (.ref o0), .val (.int (1 : Int32)), .unset]) (plainFor_of_name pn_10) (fun m => by first | (simp [entryFrame, mkF, argsToLocals, Value.category]; done) | rfl) ?_
  intro p e s m below meth c T C X
  change Cx p s m meth c Z "com/example/rondel/rondel/primitive/DoubleRingBuffer" prog_11_method_18_code 3 (some .int) "slot" at C
  refine g_aloadN C X d4_0 (q := 1) rfl rfl rfl ?_
  refine g_getF C X (host := "") (Or.inl (w12 hw)) Via.refl P1 d4_1 (q := 4) rfl ?_
  intro T1 X2
  refine g_alen C X2 P5 d4_4 (q := 5) rfl ?_
  refine g_aloadN C X2 d4_5 (q := 6) rfl rfl rfl ?_
  refine g_getF C X2 (host := "") (Or.inl (w25 hw)) Via.refl P3 d4_6 (q := 9) rfl ?_
  intro T3 X4
  refine g_isub C X4 d4_9 (q := 10) rfl (z := (2 : Int32)) (by decide) ?_
  refine g_istoreN C X4 d4_10 (q := 11) rfl (L' := #[.val (.ref o0), .val (.int (1 : Int32)), .val (.int (2 : Int32))]) rfl ?_
  refine g_iloadN C X4 d4_11 (q := 12) rfl rfl ?_
  refine g_iloadN C X4 d4_12 (q := 13) rfl rfl ?_
  refine g_icN C X4 d4_13 (q := 16) rfl (by decide) ?_
  refine g_aloadN C X4 d4_16 (q := 17) rfl rfl rfl ?_
  refine g_getF C X4 (host := "") (Or.inl (w25 hw)) Via.refl P3 d4_17 (q := 20) rfl ?_
  intro T5 X6
  refine g_iloadN C X6 d4_20 (q := 21) rfl rfl ?_
  refine g_iadd C X6 d4_21 (q := 22) rfl (z := (1 : Int32)) (by decide) ?_
  refine g_goto C X6 d4_22 (by decide) (q := 28) (by decide) ?_
  exact g_retI C X6 d4_28 (by decide) (by decide) ⟨_, rfl, rfl, rfl⟩
set_option maxRecDepth 65536 in
set_option maxHeartbeats 40000000 in
theorem rm_add_3 {l : Launch} {Z : State} {a0 : Array Value} (hw : ∀ d ∈ tables_1, d.before a0 Z = true) {o0 : Addr} {o1 : Addr} {i2 : Int32} {kc3 : ClassId} {x4 : UInt64} {x5 : UInt64} {x6 : UInt64} {h0 : Heap} {n0 : Nat} (O : Old Z n0 h0)  (P0 : Exa Z h0 o0 "com/example/rondel/rondel/primitive/DoubleRingBuffer") (P1 : Fld Z h0 o0 "com/example/rondel/rondel/primitive/DoubleRingBuffer" "readings" "[D" (.ref o1)) (P2 : Fld Z h0 o0 "com/example/rondel/rondel/primitive/DoubleRingBuffer" "size" "I" (.int (1 : Int32))) (P3 : Fld Z h0 o0 "com/example/rondel/rondel/primitive/DoubleRingBuffer" "head" "I" (.int (0 : Int32))) (P4 : Fld Z h0 o0 "com/example/rondel/rondel/primitive/DoubleRingBuffer" "modCount" "I" (.int i2)) (P5 : Arv Z h0 o1 kc3 .double (2 : Int32) [(.double x4), (.double x5)] (.double 0)) (G0 : n0 ≤ o0) (G1 : n0 ≤ o1) (N0_1 : o0 ≠ o1) :
    Met0 l Z (⟨"com/example/rondel/rondel/primitive/DoubleRingBuffer", "add", "(D)V"⟩ : MethodName) prog_11_method_6_code 3 none ({ frames := 1, cells := 0, slots := 0, locals := 15 } : Room) #[(.ref o0), (.double x6)] h0 n0 (fun h => Keep h0 h [o1, o0] ∧ Exa Z h o0 "com/example/rondel/rondel/primitive/DoubleRingBuffer" ∧ Fld Z h o0 "com/example/rondel/rondel/primitive/DoubleRingBuffer" "readings" "[D" (.ref o1) ∧ Fld Z h o0 "com/example/rondel/rondel/primitive/DoubleRingBuffer" "size" "I" (.int (2 : Int32)) ∧ Fld Z h o0 "com/example/rondel/rondel/primitive/DoubleRingBuffer" "head" "I" (.int (0 : Int32)) ∧ Fld Z h o0 "com/example/rondel/rondel/primitive/DoubleRingBuffer" "modCount" "I" (.int (i2 + (1 : Int32))) ∧ Arv Z h o1 kc3 .double (2 : Int32) [(.double x4), (.double x6)] (.double 0)) := by
  refine met_of (L := #[.val (.ref o0), .val (.double x6), .second]) (plainFor_of_name pn_10) (fun m => by first | (simp [entryFrame, mkF, argsToLocals, Value.category]; done) | rfl) ?_
  intro p e s m below meth c T C X
  change Cx p s m meth c Z "com/example/rondel/rondel/primitive/DoubleRingBuffer" prog_11_method_6_code 3 none "add" at C
  refine g_aloadN C X d3_0 (q := 1) rfl rfl rfl ?_
  refine g_getF C X (host := "") (Or.inl (w19 hw)) Via.refl P2 d3_1 (q := 4) rfl ?_
  intro T1 X2
  refine g_aloadN C X2 d3_4 (q := 5) rfl rfl rfl ?_
  refine g_getF C X2 (host := "") (Or.inl (w12 hw)) Via.refl P1 d3_5 (q := 8) rfl ?_
  intro T3 X4
  refine g_alen C X4 P5 d3_8 (q := 9) rfl ?_
  refine g_icY C X4 d3_9 (by decide) (q := 37) (by decide) (by decide) ?_
  refine g_aloadN C X4 d3_37 (q := 38) rfl rfl rfl ?_
  refine g_getF C X4 (host := "") (Or.inl (w12 hw)) Via.refl P1 d3_38 (q := 41) rfl ?_
  intro T5 X6
  refine g_aloadN C X6 d3_41 (q := 42) rfl rfl rfl ?_
  refine g_aloadN C X6 d3_42 (q := 43) rfl rfl rfl ?_
  refine g_getF C X6 (host := "") (Or.inl (w19 hw)) Via.refl P2 d3_43 (q := 46) rfl ?_
  intro T7 X8
  refine g_callP1 C X8 (y := (⟨"com/example/rondel/rondel/primitive/DoubleRingBuffer", "slot", "(I)I"⟩ : MethodName)) (a := o0) (by decide) (w21 hw) (sel_priv (w3 hw) (w22 hw) (w23 hw) (by decide)) (w22 hw) (w23 hw) P0 (w24 hw) (w4 hw) (rm_slot_2 hw (o0 := o0) (o1 := o1) (i2 := i2) (kc3 := kc3) (x4 := x4) (x5 := x5) O P0 P1 P2 P3 P4 P5 G0 G1 N0_1) (W := 1) (by decide) (by decide) (k' := 0) rfl (n' := 0) rfl (by decide) (by decide) rfl pd_40 (argsL := [(.int (1 : Int32))]) rfl (rest := [(.ref o1)]) rfl rfl rfl d3_46 (q := 49) rfl ?_
  rintro _ T9 _ X10 ⟨rfl, rfl⟩
  refine g_dloadN C X10 d3_49 (q := 50) rfl rfl ?_
  refine g_dastore C X10 P5 (by decide) (i := 1) (by decide) (Nat.le_of_ble_eq_true rfl) (vs' := [(.double x4), (.double x6)]) rfl G1 d3_50 (q := 51) rfl ?_
  intro T11 h12 X13 W14 V15
  have O16 := O.wr W14 G1
  refine g_aloadN C X13 d3_51 (q := 52) rfl rfl rfl ?_
  refine g_dup C X13 d3_52 (q := 53) rfl rfl ?_
  have f17 := (P2.other W14 (Or.inl N0_1))
  refine g_getF C X13 (host := "") (Or.inl (w19 hw)) Via.refl f17 d3_53 (q := 56) rfl ?_
  intro T18 X19
  refine g_iconst C X19 d3_56 (q := 57) rfl (z := (1 : Int32)) rfl ?_
  refine g_iadd C X19 d3_57 (q := 58) rfl (z := (2 : Int32)) (by decide) ?_
  have f20 := (P0.wr W14)
  refine g_putF C X19 (host := "") (Or.inl (w19 hw)) Via.refl f17 f20 (Or.inl (w20 hw)) (w3 hw) (ty := .int) (by decide) rfl rfl d3_58 (q := 61) rfl G0 ?_
  intro T21 h23 X22 W24
  have FW24 := Fld.same W24 f17
  have O25 := O16.wr W24 G0
  refine g_aloadN C X22 d3_61 (q := 62) rfl rfl rfl ?_
  refine g_dup C X22 d3_62 (q := 63) rfl rfl ?_
  have f26 := ((P4.other W14 (Or.inl N0_1)).other W24 (Or.inr (slot_ne (Or.inl (w28 hw)) (Or.inl (w20 hw)) (by decide) (t := .int) (t' := .int) (by decide) (by decide))))
  refine g_getF C X22 (host := "") (Or.inl (w27 hw)) Via.refl f26 d3_63 (q := 66) rfl ?_
  intro T27 X28
  refine g_iconst C X28 d3_66 (q := 67) rfl (z := (1 : Int32)) rfl ?_
  refine g_iadd C X28 d3_67 (q := 68) rfl (z := (i2 + (1 : Int32))) rfl ?_
  have f29 := (f20.wr W24)
  refine g_putF C X28 (host := "") (Or.inl (w27 hw)) Via.refl f26 f29 (Or.inl (w28 hw)) (w3 hw) (ty := .int) (by decide) rfl rfl d3_68 (q := 71) rfl G0 ?_
  intro T30 h32 X31 W33
  have FW33 := Fld.same W33 f26
  have O34 := O25.wr W33 G0
  exact g_retV C X31 d3_71 (by decide) (by decide) ⟨rfl, ((((Keep.refl h0 [o1, o0]).wr W14 (Or.inl (List.mem_of_getElem? (i := 0) rfl))).wr W24 (Or.inl (List.mem_of_getElem? (i := 1) rfl))).wr W33 (Or.inl (List.mem_of_getElem? (i := 1) rfl))), (f29.wr W33), (((P1.other W14 (Or.inl N0_1)).other W24 (Or.inr (slot_ne (Or.inr (w13 hw)) (Or.inl (w20 hw)) (by decide) (t := (.array .double)) (t' := .int) (by decide) (by decide)))).other W33 (Or.inr (slot_ne (Or.inr (w13 hw)) (Or.inl (w28 hw)) (by decide) (t := (.array .double)) (t' := .int) (by decide) (by decide)))), (FW24.other W33 (Or.inr (slot_ne (Or.inl (w20 hw)) (Or.inl (w28 hw)) (by decide) (t := .int) (t' := .int) (by decide) (by decide)))), (((P3.other W14 (Or.inl N0_1)).other W24 (Or.inr (slot_ne (Or.inl (w26 hw)) (Or.inl (w20 hw)) (by decide) (t := .int) (t' := .int) (by decide) (by decide)))).other W33 (Or.inr (slot_ne (Or.inl (w26 hw)) (Or.inl (w28 hw)) (by decide) (t := .int) (t' := .int) (by decide) (by decide)))), FW33, ((V15.other W24 (Ne.symm N0_1)).other W33 (Ne.symm N0_1))⟩
set_option maxRecDepth 65536 in
set_option maxHeartbeats 40000000 in
theorem rm_next_1 {l : Launch} {Z : State} {a0 : Array Value} (hw : ∀ d ∈ tables_1, d.before a0 Z = true) {o0 : Addr} {o1 : Addr} {i2 : Int32} {kc3 : ClassId} {x4 : UInt64} {x5 : UInt64} {h0 : Heap} {n0 : Nat} (O : Old Z n0 h0)  (P0 : Exa Z h0 o0 "com/example/rondel/rondel/primitive/DoubleRingBuffer") (P1 : Fld Z h0 o0 "com/example/rondel/rondel/primitive/DoubleRingBuffer" "readings" "[D" (.ref o1)) (P2 : Fld Z h0 o0 "com/example/rondel/rondel/primitive/DoubleRingBuffer" "size" "I" (.int (2 : Int32))) (P3 : Fld Z h0 o0 "com/example/rondel/rondel/primitive/DoubleRingBuffer" "head" "I" (.int (0 : Int32))) (P4 : Fld Z h0 o0 "com/example/rondel/rondel/primitive/DoubleRingBuffer" "modCount" "I" (.int i2)) (P5 : Arv Z h0 o1 kc3 .double (2 : Int32) [(.double x4), (.double x5)] (.double 0)) (G0 : n0 ≤ o0) (G1 : n0 ≤ o1) (N0_1 : o0 ≠ o1) :
    Met1 l Z (⟨"com/example/rondel/rondel/primitive/DoubleRingBuffer", "next", "(I)I"⟩ : MethodName) prog_11_method_19_code 2 (some .int) ({ frames := 0, cells := 0, slots := 0, locals := 0 } : Room) #[(.ref o0), (.int (0 : Int32))] h0 n0 (fun v h => v = (.int (1 : Int32)) ∧ h0 = h) := by
  refine met_of (L := #[.val (.ref o0), .val (.int (0 : Int32))]) (plainFor_of_name pn_10) (fun m => by first | (simp [entryFrame, mkF, argsToLocals, Value.category]; done) | rfl) ?_
  intro p e s m below meth c T C X
  change Cx p s m meth c Z "com/example/rondel/rondel/primitive/DoubleRingBuffer" prog_11_method_19_code 2 (some .int) "next" at C
  refine g_iloadN C X d5_0 (q := 1) rfl rfl ?_
  refine g_aloadN C X d5_1 (q := 2) rfl rfl rfl ?_
  refine g_getF C X (host := "") (Or.inl (w12 hw)) Via.refl P1 d5_2 (q := 5) rfl ?_
  intro T1 X2
  refine g_alen C X2 P5 d5_5 (q := 6) rfl ?_
  refine g_iconst C X2 d5_6 (q := 7) rfl (z := (1 : Int32)) rfl ?_
  refine g_isub C X2 d5_7 (q := 8) rfl (z := (1 : Int32)) (by decide) ?_
  refine g_icY C X2 d5_8 (by decide) (q := 15) (by decide) (by decide) ?_
  refine g_iloadN C X2 d5_15 (q := 16) rfl rfl ?_
  refine g_iconst C X2 d5_16 (q := 17) rfl (z := (1 : Int32)) rfl ?_
  refine g_iadd C X2 d5_17 (q := 18) rfl (z := (1 : Int32)) (by decide) ?_
  exact g_retI C X2 d5_18 (by decide) (by decide) ⟨_, rfl, rfl, rfl⟩
set_option maxRecDepth 65536 in
set_option maxHeartbeats 40000000 in
theorem rm_add_4 {l : Launch} {Z : State} {a0 : Array Value} (hw : ∀ d ∈ tables_1, d.before a0 Z = true) {o0 : Addr} {o1 : Addr} {i2 : Int32} {kc3 : ClassId} {x4 : UInt64} {x5 : UInt64} {x6 : UInt64} {h0 : Heap} {n0 : Nat} (O : Old Z n0 h0)  (P0 : Exa Z h0 o0 "com/example/rondel/rondel/primitive/DoubleRingBuffer") (P1 : Fld Z h0 o0 "com/example/rondel/rondel/primitive/DoubleRingBuffer" "readings" "[D" (.ref o1)) (P2 : Fld Z h0 o0 "com/example/rondel/rondel/primitive/DoubleRingBuffer" "size" "I" (.int (2 : Int32))) (P3 : Fld Z h0 o0 "com/example/rondel/rondel/primitive/DoubleRingBuffer" "head" "I" (.int (0 : Int32))) (P4 : Fld Z h0 o0 "com/example/rondel/rondel/primitive/DoubleRingBuffer" "modCount" "I" (.int i2)) (P5 : Arv Z h0 o1 kc3 .double (2 : Int32) [(.double x4), (.double x5)] (.double 0)) (G0 : n0 ≤ o0) (G1 : n0 ≤ o1) (N0_1 : o0 ≠ o1) :
    Met0 l Z (⟨"com/example/rondel/rondel/primitive/DoubleRingBuffer", "add", "(D)V"⟩ : MethodName) prog_11_method_6_code 3 none ({ frames := 1, cells := 0, slots := 0, locals := 14 } : Room) #[(.ref o0), (.double x6)] h0 n0 (fun h => Keep h0 h [o1, o0] ∧ Exa Z h o0 "com/example/rondel/rondel/primitive/DoubleRingBuffer" ∧ Fld Z h o0 "com/example/rondel/rondel/primitive/DoubleRingBuffer" "readings" "[D" (.ref o1) ∧ Fld Z h o0 "com/example/rondel/rondel/primitive/DoubleRingBuffer" "size" "I" (.int (2 : Int32)) ∧ Fld Z h o0 "com/example/rondel/rondel/primitive/DoubleRingBuffer" "head" "I" (.int (1 : Int32)) ∧ Fld Z h o0 "com/example/rondel/rondel/primitive/DoubleRingBuffer" "modCount" "I" (.int (i2 + (1 : Int32))) ∧ Arv Z h o1 kc3 .double (2 : Int32) [(.double x6), (.double x5)] (.double 0)) := by
  refine met_of (L := #[.val (.ref o0), .val (.double x6), .second]) (plainFor_of_name pn_10) (fun m => by first | (simp [entryFrame, mkF, argsToLocals, Value.category]; done) | rfl) ?_
  intro p e s m below meth c T C X
  change Cx p s m meth c Z "com/example/rondel/rondel/primitive/DoubleRingBuffer" prog_11_method_6_code 3 none "add" at C
  refine g_aloadN C X d3_0 (q := 1) rfl rfl rfl ?_
  refine g_getF C X (host := "") (Or.inl (w19 hw)) Via.refl P2 d3_1 (q := 4) rfl ?_
  intro T1 X2
  refine g_aloadN C X2 d3_4 (q := 5) rfl rfl rfl ?_
  refine g_getF C X2 (host := "") (Or.inl (w12 hw)) Via.refl P1 d3_5 (q := 8) rfl ?_
  intro T3 X4
  refine g_alen C X4 P5 d3_8 (q := 9) rfl ?_
  refine g_icN C X4 d3_9 (q := 12) rfl (by decide) ?_
  refine g_aloadN C X4 d3_12 (q := 13) rfl rfl rfl ?_
  refine g_getF C X4 (host := "") (Or.inl (w12 hw)) Via.refl P1 d3_13 (q := 16) rfl ?_
  intro T5 X6
  refine g_aloadN C X6 d3_16 (q := 17) rfl rfl rfl ?_
  refine g_getF C X6 (host := "") (Or.inl (w25 hw)) Via.refl P3 d3_17 (q := 20) rfl ?_
  intro T7 X8
  refine g_dloadN C X8 d3_20 (q := 21) rfl rfl ?_
  refine g_dastore C X8 P5 (by decide) (i := 0) (by decide) (Nat.le_of_ble_eq_true rfl) (vs' := [(.double x6), (.double x5)]) rfl G1 d3_21 (q := 22) rfl ?_
  intro T9 h10 X11 W12 V13
  have O14 := O.wr W12 G1
  refine g_aloadN C X11 d3_22 (q := 23) rfl rfl rfl ?_
  refine g_aloadN C X11 d3_23 (q := 24) rfl rfl rfl ?_
  refine g_aloadN C X11 d3_24 (q := 25) rfl rfl rfl ?_
  have f15 := (P3.other W12 (Or.inl N0_1))
  refine g_getF C X11 (host := "") (Or.inl (w25 hw)) Via.refl f15 d3_25 (q := 28) rfl ?_
  intro T16 X17
  have f18 := (P0.wr W12)
  have f19 := (P1.other W12 (Or.inl N0_1))
  have f20 := (P2.other W12 (Or.inl N0_1))
  have f21 := (P4.other W12 (Or.inl N0_1))
  refine g_callP1 C X17 (y := (⟨"com/example/rondel/rondel/primitive/DoubleRingBuffer", "next", "(I)I"⟩ : MethodName)) (a := o0) (by decide) (w29 hw) (sel_priv (w3 hw) (w30 hw) (w31 hw) (by decide)) (w30 hw) (w31 hw) f18 (w32 hw) (w4 hw) (rm_next_1 hw (o0 := o0) (o1 := o1) (i2 := i2) (kc3 := kc3) (x4 := x6) (x5 := x5) O14 f18 f19 f20 f15 f21 V13 G0 G1 N0_1) (W := 1) (by decide) (by decide) (k' := 0) rfl (n' := 0) rfl (by decide) (by decide) rfl pd_40 (argsL := [(.int (0 : Int32))]) rfl (rest := [(.ref o0)]) rfl rfl rfl d3_28 (q := 31) rfl ?_
  rintro _ T22 _ X23 ⟨rfl, rfl⟩
  refine g_putF C X23 (host := "") (Or.inl (w25 hw)) Via.refl f15 f18 (Or.inl (w26 hw)) (w3 hw) (ty := .int) (by decide) rfl rfl d3_31 (q := 34) rfl G0 ?_
  intro T24 h26 X25 W27
  have FW27 := Fld.same W27 f15
  have O28 := O14.wr W27 G0
  refine g_goto C X25 d3_34 (by decide) (q := 61) (by decide) ?_
  refine g_aloadN C X25 d3_61 (q := 62) rfl rfl rfl ?_
  refine g_dup C X25 d3_62 (q := 63) rfl rfl ?_
  have f29 := (f21.other W27 (Or.inr (slot_ne (Or.inl (w28 hw)) (Or.inl (w26 hw)) (by decide) (t := .int) (t' := .int) (by decide) (by decide))))
  refine g_getF C X25 (host := "") (Or.inl (w27 hw)) Via.refl f29 d3_63 (q := 66) rfl ?_
  intro T30 X31
  refine g_iconst C X31 d3_66 (q := 67) rfl (z := (1 : Int32)) rfl ?_
  refine g_iadd C X31 d3_67 (q := 68) rfl (z := (i2 + (1 : Int32))) rfl ?_
  have f32 := (f18.wr W27)
  refine g_putF C X31 (host := "") (Or.inl (w27 hw)) Via.refl f29 f32 (Or.inl (w28 hw)) (w3 hw) (ty := .int) (by decide) rfl rfl d3_68 (q := 71) rfl G0 ?_
  intro T33 h35 X34 W36
  have FW36 := Fld.same W36 f29
  have O37 := O28.wr W36 G0
  exact g_retV C X34 d3_71 (by decide) (by decide) ⟨rfl, ((((Keep.refl h0 [o1, o0]).wr W12 (Or.inl (List.mem_of_getElem? (i := 0) rfl))).wr W27 (Or.inl (List.mem_of_getElem? (i := 1) rfl))).wr W36 (Or.inl (List.mem_of_getElem? (i := 1) rfl))), (f32.wr W36), ((f19.other W27 (Or.inr (slot_ne (Or.inr (w13 hw)) (Or.inl (w26 hw)) (by decide) (t := (.array .double)) (t' := .int) (by decide) (by decide)))).other W36 (Or.inr (slot_ne (Or.inr (w13 hw)) (Or.inl (w28 hw)) (by decide) (t := (.array .double)) (t' := .int) (by decide) (by decide)))), ((f20.other W27 (Or.inr (slot_ne (Or.inl (w20 hw)) (Or.inl (w26 hw)) (by decide) (t := .int) (t' := .int) (by decide) (by decide)))).other W36 (Or.inr (slot_ne (Or.inl (w20 hw)) (Or.inl (w28 hw)) (by decide) (t := .int) (t' := .int) (by decide) (by decide)))), (FW27.other W36 (Or.inr (slot_ne (Or.inl (w26 hw)) (Or.inl (w28 hw)) (by decide) (t := .int) (t' := .int) (by decide) (by decide)))), FW36, ((V13.other W27 (Ne.symm N0_1)).other W36 (Ne.symm N0_1))⟩
set_option maxRecDepth 65536 in
set_option maxHeartbeats 40000000 in
theorem rm_next_2 {l : Launch} {Z : State} {a0 : Array Value} (hw : ∀ d ∈ tables_1, d.before a0 Z = true) {o0 : Addr} {o1 : Addr} {i2 : Int32} {kc3 : ClassId} {x4 : UInt64} {x5 : UInt64} {h0 : Heap} {n0 : Nat} (O : Old Z n0 h0)  (P0 : Exa Z h0 o0 "com/example/rondel/rondel/primitive/DoubleRingBuffer") (P1 : Fld Z h0 o0 "com/example/rondel/rondel/primitive/DoubleRingBuffer" "readings" "[D" (.ref o1)) (P2 : Fld Z h0 o0 "com/example/rondel/rondel/primitive/DoubleRingBuffer" "size" "I" (.int (2 : Int32))) (P3 : Fld Z h0 o0 "com/example/rondel/rondel/primitive/DoubleRingBuffer" "head" "I" (.int (1 : Int32))) (P4 : Fld Z h0 o0 "com/example/rondel/rondel/primitive/DoubleRingBuffer" "modCount" "I" (.int i2)) (P5 : Arv Z h0 o1 kc3 .double (2 : Int32) [(.double x4), (.double x5)] (.double 0)) (G0 : n0 ≤ o0) (G1 : n0 ≤ o1) (N0_1 : o0 ≠ o1) :
    Met1 l Z (⟨"com/example/rondel/rondel/primitive/DoubleRingBuffer", "next", "(I)I"⟩ : MethodName) prog_11_method_19_code 2 (some .int) ({ frames := 0, cells := 0, slots := 0, locals := 0 } : Room) #[(.ref o0), (.int (1 : Int32))] h0 n0 (fun v h => v = (.int (0 : Int32)) ∧ h0 = h) := by
  refine met_of (L := #[.val (.ref o0), .val (.int (1 : Int32))]) (plainFor_of_name pn_10) (fun m => by first | (simp [entryFrame, mkF, argsToLocals, Value.category]; done) | rfl) ?_
  intro p e s m below meth c T C X
  change Cx p s m meth c Z "com/example/rondel/rondel/primitive/DoubleRingBuffer" prog_11_method_19_code 2 (some .int) "next" at C
  refine g_iloadN C X d5_0 (q := 1) rfl rfl ?_
  refine g_aloadN C X d5_1 (q := 2) rfl rfl rfl ?_
  refine g_getF C X (host := "") (Or.inl (w12 hw)) Via.refl P1 d5_2 (q := 5) rfl ?_
  intro T1 X2
  refine g_alen C X2 P5 d5_5 (q := 6) rfl ?_
  refine g_iconst C X2 d5_6 (q := 7) rfl (z := (1 : Int32)) rfl ?_
  refine g_isub C X2 d5_7 (q := 8) rfl (z := (1 : Int32)) (by decide) ?_
  refine g_icN C X2 d5_8 (q := 11) rfl (by decide) ?_
  refine g_iconst C X2 d5_11 (q := 12) rfl (z := (0 : Int32)) rfl ?_
  refine g_goto C X2 d5_12 (by decide) (q := 18) (by decide) ?_
  exact g_retI C X2 d5_18 (by decide) (by decide) ⟨_, rfl, rfl, rfl⟩
set_option maxRecDepth 65536 in
set_option maxHeartbeats 40000000 in
theorem rm_add_5 {l : Launch} {Z : State} {a0 : Array Value} (hw : ∀ d ∈ tables_1, d.before a0 Z = true) {o0 : Addr} {o1 : Addr} {i2 : Int32} {kc3 : ClassId} {x4 : UInt64} {x5 : UInt64} {x6 : UInt64} {h0 : Heap} {n0 : Nat} (O : Old Z n0 h0)  (P0 : Exa Z h0 o0 "com/example/rondel/rondel/primitive/DoubleRingBuffer") (P1 : Fld Z h0 o0 "com/example/rondel/rondel/primitive/DoubleRingBuffer" "readings" "[D" (.ref o1)) (P2 : Fld Z h0 o0 "com/example/rondel/rondel/primitive/DoubleRingBuffer" "size" "I" (.int (2 : Int32))) (P3 : Fld Z h0 o0 "com/example/rondel/rondel/primitive/DoubleRingBuffer" "head" "I" (.int (1 : Int32))) (P4 : Fld Z h0 o0 "com/example/rondel/rondel/primitive/DoubleRingBuffer" "modCount" "I" (.int i2)) (P5 : Arv Z h0 o1 kc3 .double (2 : Int32) [(.double x4), (.double x5)] (.double 0)) (G0 : n0 ≤ o0) (G1 : n0 ≤ o1) (N0_1 : o0 ≠ o1) :
    Met0 l Z (⟨"com/example/rondel/rondel/primitive/DoubleRingBuffer", "add", "(D)V"⟩ : MethodName) prog_11_method_6_code 3 none ({ frames := 1, cells := 0, slots := 0, locals := 14 } : Room) #[(.ref o0), (.double x6)] h0 n0 (fun h => Keep h0 h [o1, o0] ∧ Exa Z h o0 "com/example/rondel/rondel/primitive/DoubleRingBuffer" ∧ Fld Z h o0 "com/example/rondel/rondel/primitive/DoubleRingBuffer" "readings" "[D" (.ref o1) ∧ Fld Z h o0 "com/example/rondel/rondel/primitive/DoubleRingBuffer" "size" "I" (.int (2 : Int32)) ∧ Fld Z h o0 "com/example/rondel/rondel/primitive/DoubleRingBuffer" "head" "I" (.int (0 : Int32)) ∧ Fld Z h o0 "com/example/rondel/rondel/primitive/DoubleRingBuffer" "modCount" "I" (.int (i2 + (1 : Int32))) ∧ Arv Z h o1 kc3 .double (2 : Int32) [(.double x4), (.double x6)] (.double 0)) := by
  refine met_of (L := #[.val (.ref o0), .val (.double x6), .second]) (plainFor_of_name pn_10) (fun m => by first | (simp [entryFrame, mkF, argsToLocals, Value.category]; done) | rfl) ?_
  intro p e s m below meth c T C X
  change Cx p s m meth c Z "com/example/rondel/rondel/primitive/DoubleRingBuffer" prog_11_method_6_code 3 none "add" at C
  refine g_aloadN C X d3_0 (q := 1) rfl rfl rfl ?_
  refine g_getF C X (host := "") (Or.inl (w19 hw)) Via.refl P2 d3_1 (q := 4) rfl ?_
  intro T1 X2
  refine g_aloadN C X2 d3_4 (q := 5) rfl rfl rfl ?_
  refine g_getF C X2 (host := "") (Or.inl (w12 hw)) Via.refl P1 d3_5 (q := 8) rfl ?_
  intro T3 X4
  refine g_alen C X4 P5 d3_8 (q := 9) rfl ?_
  refine g_icN C X4 d3_9 (q := 12) rfl (by decide) ?_
  refine g_aloadN C X4 d3_12 (q := 13) rfl rfl rfl ?_
  refine g_getF C X4 (host := "") (Or.inl (w12 hw)) Via.refl P1 d3_13 (q := 16) rfl ?_
  intro T5 X6
  refine g_aloadN C X6 d3_16 (q := 17) rfl rfl rfl ?_
  refine g_getF C X6 (host := "") (Or.inl (w25 hw)) Via.refl P3 d3_17 (q := 20) rfl ?_
  intro T7 X8
  refine g_dloadN C X8 d3_20 (q := 21) rfl rfl ?_
  refine g_dastore C X8 P5 (by decide) (i := 1) (by decide) (Nat.le_of_ble_eq_true rfl) (vs' := [(.double x4), (.double x6)]) rfl G1 d3_21 (q := 22) rfl ?_
  intro T9 h10 X11 W12 V13
  have O14 := O.wr W12 G1
  refine g_aloadN C X11 d3_22 (q := 23) rfl rfl rfl ?_
  refine g_aloadN C X11 d3_23 (q := 24) rfl rfl rfl ?_
  refine g_aloadN C X11 d3_24 (q := 25) rfl rfl rfl ?_
  have f15 := (P3.other W12 (Or.inl N0_1))
  refine g_getF C X11 (host := "") (Or.inl (w25 hw)) Via.refl f15 d3_25 (q := 28) rfl ?_
  intro T16 X17
  have f18 := (P0.wr W12)
  have f19 := (P1.other W12 (Or.inl N0_1))
  have f20 := (P2.other W12 (Or.inl N0_1))
  have f21 := (P4.other W12 (Or.inl N0_1))
  refine g_callP1 C X17 (y := (⟨"com/example/rondel/rondel/primitive/DoubleRingBuffer", "next", "(I)I"⟩ : MethodName)) (a := o0) (by decide) (w29 hw) (sel_priv (w3 hw) (w30 hw) (w31 hw) (by decide)) (w30 hw) (w31 hw) f18 (w32 hw) (w4 hw) (rm_next_2 hw (o0 := o0) (o1 := o1) (i2 := i2) (kc3 := kc3) (x4 := x4) (x5 := x6) O14 f18 f19 f20 f15 f21 V13 G0 G1 N0_1) (W := 1) (by decide) (by decide) (k' := 0) rfl (n' := 0) rfl (by decide) (by decide) rfl pd_40 (argsL := [(.int (1 : Int32))]) rfl (rest := [(.ref o0)]) rfl rfl rfl d3_28 (q := 31) rfl ?_
  rintro _ T22 _ X23 ⟨rfl, rfl⟩
  refine g_putF C X23 (host := "") (Or.inl (w25 hw)) Via.refl f15 f18 (Or.inl (w26 hw)) (w3 hw) (ty := .int) (by decide) rfl rfl d3_31 (q := 34) rfl G0 ?_
  intro T24 h26 X25 W27
  have FW27 := Fld.same W27 f15
  have O28 := O14.wr W27 G0
  refine g_goto C X25 d3_34 (by decide) (q := 61) (by decide) ?_
  refine g_aloadN C X25 d3_61 (q := 62) rfl rfl rfl ?_
  refine g_dup C X25 d3_62 (q := 63) rfl rfl ?_
  have f29 := (f21.other W27 (Or.inr (slot_ne (Or.inl (w28 hw)) (Or.inl (w26 hw)) (by decide) (t := .int) (t' := .int) (by decide) (by decide))))
  refine g_getF C X25 (host := "") (Or.inl (w27 hw)) Via.refl f29 d3_63 (q := 66) rfl ?_
  intro T30 X31
  refine g_iconst C X31 d3_66 (q := 67) rfl (z := (1 : Int32)) rfl ?_
  refine g_iadd C X31 d3_67 (q := 68) rfl (z := (i2 + (1 : Int32))) rfl ?_
  have f32 := (f18.wr W27)
  refine g_putF C X31 (host := "") (Or.inl (w27 hw)) Via.refl f29 f32 (Or.inl (w28 hw)) (w3 hw) (ty := .int) (by decide) rfl rfl d3_68 (q := 71) rfl G0 ?_
  intro T33 h35 X34 W36
  have FW36 := Fld.same W36 f29
  have O37 := O28.wr W36 G0
  exact g_retV C X34 d3_71 (by decide) (by decide) ⟨rfl, ((((Keep.refl h0 [o1, o0]).wr W12 (Or.inl (List.mem_of_getElem? (i := 0) rfl))).wr W27 (Or.inl (List.mem_of_getElem? (i := 1) rfl))).wr W36 (Or.inl (List.mem_of_getElem? (i := 1) rfl))), (f32.wr W36), ((f19.other W27 (Or.inr (slot_ne (Or.inr (w13 hw)) (Or.inl (w26 hw)) (by decide) (t := (.array .double)) (t' := .int) (by decide) (by decide)))).other W36 (Or.inr (slot_ne (Or.inr (w13 hw)) (Or.inl (w28 hw)) (by decide) (t := (.array .double)) (t' := .int) (by decide) (by decide)))), ((f20.other W27 (Or.inr (slot_ne (Or.inl (w20 hw)) (Or.inl (w26 hw)) (by decide) (t := .int) (t' := .int) (by decide) (by decide)))).other W36 (Or.inr (slot_ne (Or.inl (w20 hw)) (Or.inl (w28 hw)) (by decide) (t := .int) (t' := .int) (by decide) (by decide)))), (FW27.other W36 (Or.inr (slot_ne (Or.inl (w26 hw)) (Or.inl (w28 hw)) (by decide) (t := .int) (t' := .int) (by decide) (by decide)))), FW36, ((V13.other W27 (Ne.symm N0_1)).other W36 (Ne.symm N0_1))⟩
set_option maxRecDepth 65536 in
set_option maxHeartbeats 40000000 in
theorem rm_min_6 {l : Launch} {Z : State} {a0 : Array Value} (hw : ∀ d ∈ tables_1, d.before a0 Z = true)  {h0 : Heap} {n0 : Nat} (O : Old Z n0 h0)  :
    Met1 l Z (⟨"java/lang/Math", "min", "(II)I"⟩ : MethodName) jdk_29_method_69_code 2 (some .int) ({ frames := 0, cells := 0, slots := 0, locals := 0 } : Room) #[(.int (5 : Int32)), (.int (2 : Int32))] h0 n0 (fun v h => v = (.int (2 : Int32)) ∧ h0 = h) := by
  refine met_of (L := #[.val (.int (5 : Int32)), .val (.int (2 : Int32))]) (Jvm.Free.JP.mathPlain rfl (by decide +kernel)) (fun m => by first | (simp [entryFrame, mkF, argsToLocals, Value.category]; done) | rfl) ?_
  intro p e s m below meth c T C X
  change Cx p s m meth c Z "java/lang/Math" jdk_29_method_69_code 2 (some .int) "min" at C
  refine g_iloadN C X d6_0 (q := 1) rfl rfl ?_
  refine g_iloadN C X d6_1 (q := 2) rfl rfl ?_
  refine g_icY C X d6_2 (by decide) (q := 9) (by decide) (by decide) ?_
  refine g_iloadN C X d6_9 (q := 10) rfl rfl ?_
  exact g_retI C X d6_10 (by decide) (by decide) ⟨_, rfl, rfl, rfl⟩
set_option maxRecDepth 65536 in
set_option maxHeartbeats 40000000 in
theorem rm_isFull_2 {l : Launch} {Z : State} {a0 : Array Value} (hw : ∀ d ∈ tables_1, d.before a0 Z = true) {o0 : Addr} {o1 : Addr} {i2 : Int32} {kc3 : ClassId} {x4 : UInt64} {x5 : UInt64} {h0 : Heap} {n0 : Nat} (O : Old Z n0 h0)  (P0 : Exa Z h0 o0 "com/example/rondel/rondel/primitive/DoubleRingBuffer") (P1 : Fld Z h0 o0 "com/example/rondel/rondel/primitive/DoubleRingBuffer" "readings" "[D" (.ref o1)) (P2 : Fld Z h0 o0 "com/example/rondel/rondel/primitive/DoubleRingBuffer" "size" "I" (.int (2 : Int32))) (P3 : Fld Z h0 o0 "com/example/rondel/rondel/primitive/DoubleRingBuffer" "head" "I" (.int (1 : Int32))) (P4 : Fld Z h0 o0 "com/example/rondel/rondel/primitive/DoubleRingBuffer" "modCount" "I" (.int i2)) (P5 : Arv Z h0 o1 kc3 .double (2 : Int32) [(.double x4), (.double x5)] (.double 0)) (G0 : n0 ≤ o0) (G1 : n0 ≤ o1) (N0_1 : o0 ≠ o1) :
    Met1 l Z (⟨"com/example/rondel/rondel/primitive/DoubleRingBuffer", "isFull", "()Z"⟩ : MethodName) prog_11_method_5_code 1 (some .boolean) ({ frames := 0, cells := 0, slots := 0, locals := 0 } : Room) #[(.ref o0)] h0 n0 (fun v h => v = (.int (1 : Int32)) ∧ h0 = h) := by
  refine met_of (L := #[.val (.ref o0)]) (plainFor_of_name pn_10) (fun m => by first | (simp [entryFrame, mkF, argsToLocals, Value.category]; done) | rfl) ?_
  intro p e s m below meth c T C X
  change Cx p s m meth c Z "com/example/rondel/rondel/primitive/DoubleRingBuffer" prog_11_method_5_code 1 (some .boolean) "isFull" at C
  refine g_aloadN C X d7_0 (q := 1) rfl rfl rfl ?_
  refine g_getF C X (host := "") (Or.inl (w19 hw)) Via.refl P2 d7_1 (q := 4) rfl ?_
  intro T1 X2
  refine g_aloadN C X2 d7_4 (q := 5) rfl rfl rfl ?_
  refine g_getF C X2 (host := "") (Or.inl (w12 hw)) Via.refl P1 d7_5 (q := 8) rfl ?_
  intro T3 X4
  refine g_alen C X4 P5 d7_8 (q := 9) rfl ?_
  refine g_icN C X4 d7_9 (q := 12) rfl (by decide) ?_
  refine g_iconst C X4 d7_12 (q := 13) rfl (z := (1 : Int32)) rfl ?_
  refine g_goto C X4 d7_13 (by decide) (q := 17) (by decide) ?_
  exact g_retN C X4 (Or.inl rfl) (z' := (1 : Int32)) (by decide) d7_17 (by decide) (by decide) ⟨_, rfl, rfl, rfl⟩
set_option maxRecDepth 65536 in
set_option maxHeartbeats 40000000 in
theorem rm_checkNotEmpty_1 {l : Launch} {Z : State} {a0 : Array Value} (hw : ∀ d ∈ tables_1, d.before a0 Z = true) {o0 : Addr} {o1 : Addr} {i2 : Int32} {kc3 : ClassId} {x4 : UInt64} {x5 : UInt64} {h0 : Heap} {n0 : Nat} (O : Old Z n0 h0)  (P0 : Exa Z h0 o0 "com/example/rondel/rondel/primitive/DoubleRingBuffer") (P1 : Fld Z h0 o0 "com/example/rondel/rondel/primitive/DoubleRingBuffer" "readings" "[D" (.ref o1)) (P2 : Fld Z h0 o0 "com/example/rondel/rondel/primitive/DoubleRingBuffer" "size" "I" (.int (2 : Int32))) (P3 : Fld Z h0 o0 "com/example/rondel/rondel/primitive/DoubleRingBuffer" "head" "I" (.int (1 : Int32))) (P4 : Fld Z h0 o0 "com/example/rondel/rondel/primitive/DoubleRingBuffer" "modCount" "I" (.int i2)) (P5 : Arv Z h0 o1 kc3 .double (2 : Int32) [(.double x4), (.double x5)] (.double 0)) (G0 : n0 ≤ o0) (G1 : n0 ≤ o1) (N0_1 : o0 ≠ o1) :
    Met0 l Z (⟨"com/example/rondel/rondel/primitive/DoubleRingBuffer", "checkNotEmpty", "()V"⟩ : MethodName) prog_11_method_17_code 1 none ({ frames := 0, cells := 0, slots := 0, locals := 0 } : Room) #[(.ref o0)] h0 n0 (fun h => h0 = h) := by
  refine met_of (L := #[.val (.ref o0)]) (plainFor_of_name pn_10) (fun m => by first | (simp [entryFrame, mkF, argsToLocals, Value.category]; done) | rfl) ?_
  intro p e s m below meth c T C X
  change Cx p s m meth c Z "com/example/rondel/rondel/primitive/DoubleRingBuffer" prog_11_method_17_code 1 none "checkNotEmpty" at C
  refine g_aloadN C X d10_0 (q := 1) rfl rfl rfl ?_
  refine g_getF C X (host := "") (Or.inl (w19 hw)) Via.refl P2 d10_1 (q := 4) rfl ?_
  intro T1 X2
  refine g_ifY C X2 d10_4 (by decide) (q := 17) (by decide) (by decide) ?_
  exact g_retV C X2 d10_17 (by decide) (by decide) ⟨rfl, rfl⟩
set_option maxRecDepth 65536 in
set_option maxHeartbeats 40000000 in
theorem rm_getFirst_1 {l : Launch} {Z : State} {a0 : Array Value} (hw : ∀ d ∈ tables_1, d.before a0 Z = true) {o0 : Addr} {o1 : Addr} {i2 : Int32} {kc3 : ClassId} {x4 : UInt64} {x5 : UInt64} {h0 : Heap} {n0 : Nat} (O : Old Z n0 h0)  (P0 : Exa Z h0 o0 "com/example/rondel/rondel/primitive/DoubleRingBuffer") (P1 : Fld Z h0 o0 "com/example/rondel/rondel/primitive/DoubleRingBuffer" "readings" "[D" (.ref o1)) (P2 : Fld Z h0 o0 "com/example/rondel/rondel/primitive/DoubleRingBuffer" "size" "I" (.int (2 : Int32))) (P3 : Fld Z h0 o0 "com/example/rondel/rondel/primitive/DoubleRingBuffer" "head" "I" (.int (1 : Int32))) (P4 : Fld Z h0 o0 "com/example/rondel/rondel/primitive/DoubleRingBuffer" "modCount" "I" (.int i2)) (P5 : Arv Z h0 o1 kc3 .double (2 : Int32) [(.double x4), (.double x5)] (.double 0)) (G0 : n0 ≤ o0) (G1 : n0 ≤ o1) (N0_1 : o0 ≠ o1) :
    Met1 l Z (⟨"com/example/rondel/rondel/primitive/DoubleRingBuffer", "getFirst", "()D"⟩ : MethodName) prog_11_method_9_code 1 (some .double) ({ frames := 1, cells := 0, slots := 0, locals := 12 } : Room) #[(.ref o0)] h0 n0 (fun v h => v = (.double x5) ∧ h0 = h) := by
  refine met_of (L := #[.val (.ref o0)]) (plainFor_of_name pn_10) (fun m => by first | (simp [entryFrame, mkF, argsToLocals, Value.category]; done) | rfl) ?_
  intro p e s m below meth c T C X
  change Cx p s m meth c Z "com/example/rondel/rondel/primitive/DoubleRingBuffer" prog_11_method_9_code 1 (some .double) "getFirst" at C
  refine g_aloadN C X d9_0 (q := 1) rfl rfl rfl ?_
  refine g_callP0 C X (y := (⟨"com/example/rondel/rondel/primitive/DoubleRingBuffer", "checkNotEmpty", "()V"⟩ : MethodName)) (a := o0) (by decide) (w52 hw) (sel_priv (w3 hw) (w53 hw) (w54 hw) (by decide)) (w53 hw) (w54 hw) P0 (w55 hw) (w4 hw) (rm_checkNotEmpty_1 hw (o0 := o0) (o1 := o1) (i2 := i2) (kc3 := kc3) (x4 := x4) (x5 := x5) O P0 P1 P2 P3 P4 P5 G0 G1 N0_1) (W := 0) (by decide) (by decide) (k' := 0) rfl (n' := 0) rfl (by decide) (by decide) rfl pd_104 (argsL := []) rfl (rest := []) rfl rfl rfl d9_1 (q := 4) rfl ?_
  rintro T1 _ X2 rfl
  refine g_aloadN C X2 d9_4 (q := 5) rfl rfl rfl ?_
  refine g_getF C X2 (host := "") (Or.inl (w12 hw)) Via.refl P1 d9_5 (q := 8) rfl ?_
  intro T3 X4
  refine g_aloadN C X4 d9_8 (q := 9) rfl rfl rfl ?_
  refine g_getF C X4 (host := "") (Or.inl (w25 hw)) Via.refl P3 d9_9 (q := 12) rfl ?_
  intro T5 X6
  refine g_daload C X6 P5 (by decide) (w := (.double x5)) rfl d9_12 (q := 13) rfl ?_
  exact g_retD C X6 d9_13 (by decide) (by decide) ⟨_, rfl, rfl, rfl⟩
set_option maxRecDepth 65536 in
set_option maxHeartbeats 40000000 in
theorem rm_removeFirst_1 {l : Launch} {Z : State} {a0 : Array Value} (hw : ∀ d ∈ tables_1, d.before a0 Z = true) {o0 : Addr} {o1 : Addr} {i2 : Int32} {kc3 : ClassId} {x4 : UInt64} {x5 : UInt64} {h0 : Heap} {n0 : Nat} (O : Old Z n0 h0)  (P0 : Exa Z h0 o0 "com/example/rondel/rondel/primitive/DoubleRingBuffer") (P1 : Fld Z h0 o0 "com/example/rondel/rondel/primitive/DoubleRingBuffer" "readings" "[D" (.ref o1)) (P2 : Fld Z h0 o0 "com/example/rondel/rondel/primitive/DoubleRingBuffer" "size" "I" (.int (2 : Int32))) (P3 : Fld Z h0 o0 "com/example/rondel/rondel/primitive/DoubleRingBuffer" "head" "I" (.int (1 : Int32))) (P4 : Fld Z h0 o0 "com/example/rondel/rondel/primitive/DoubleRingBuffer" "modCount" "I" (.int i2)) (P5 : Arv Z h0 o1 kc3 .double (2 : Int32) [(.double x4), (.double x5)] (.double 0)) (G0 : n0 ≤ o0) (G1 : n0 ≤ o1) (N0_1 : o0 ≠ o1) :
    Met1 l Z (⟨"com/example/rondel/rondel/primitive/DoubleRingBuffer", "removeFirst", "()D"⟩ : MethodName) prog_11_method_7_code 3 (some .double) ({ frames := 2, cells := 0, slots := 0, locals := 24 } : Room) #[(.ref o0)] h0 n0 (fun v h => v = (.double x5) ∧ Keep h0 h [o0] ∧ Exa Z h o0 "com/example/rondel/rondel/primitive/DoubleRingBuffer" ∧ Fld Z h o0 "com/example/rondel/rondel/primitive/DoubleRingBuffer" "readings" "[D" (.ref o1) ∧ Fld Z h o0 "com/example/rondel/rondel/primitive/DoubleRingBuffer" "size" "I" (.int (1 : Int32)) ∧ Fld Z h o0 "com/example/rondel/rondel/primitive/DoubleRingBuffer" "head" "I" (.int (0 : Int32)) ∧ Fld Z h o0 "com/example/rondel/rondel/primitive/DoubleRingBuffer" "modCount" "I" (.int (i2 + (1 : Int32)))) := by
  refine met_of (L := #[.val (.ref o0), .unset, .unset]) (plainFor_of_name pn_10) (fun m => by first | (simp [entryFrame, mkF, argsToLocals, Value.category]; done) | rfl) ?_
  intro p e s m below meth c T C X
  change Cx p s m meth c Z "com/example/rondel/rondel/primitive/DoubleRingBuffer" prog_11_method_7_code 3 (some .double) "removeFirst" at C
  refine g_aloadN C X d8_0 (q := 1) rfl rfl rfl ?_
  refine g_callV1 C X (y := (⟨"com/example/rondel/rondel/primitive/DoubleRingBuffer", "getFirst", "()D"⟩ : MethodName)) (z := (⟨"com/example/rondel/rondel/primitive/DoubleRingBuffer", "getFirst", "()D"⟩ : MethodName)) (a := o0) (by decide) (w47 hw) (w48 hw) (w50 hw) (w49 hw) (nf_sel (w50 hw)) P0 (w51 hw) (w4 hw) (rm_getFirst_1 hw (o0 := o0) (o1 := o1) (i2 := i2) (kc3 := kc3) (x4 := x4) (x5 := x5) O P0 P1 P2 P3 P4 P5 G0 G1 N0_1) (W := 0) (by decide) (by decide) (k' := 0) rfl (n' := 0) rfl (by decide) (by decide) rfl pd_111 (argsL := []) rfl (rest := []) rfl rfl rfl d8_1 (q := 4) rfl ?_
  rintro _ T1 _ X2 ⟨rfl, rfl⟩
  refine g_dstoreN C X2 d8_4 (q := 5) rfl (L' := #[.val (.ref o0), .val (.double x5), .second]) rfl ?_
  refine g_aloadN C X2 d8_5 (q := 6) rfl rfl rfl ?_
  refine g_aloadN C X2 d8_6 (q := 7) rfl rfl rfl ?_
  refine g_aloadN C X2 d8_7 (q := 8) rfl rfl rfl ?_
  refine g_getF C X2 (host := "") (Or.inl (w25 hw)) Via.refl P3 d8_8 (q := 11) rfl ?_
  intro T3 X4
  refine g_callP1 C X4 (y := (⟨"com/example/rondel/rondel/primitive/DoubleRingBuffer", "next", "(I)I"⟩ : MethodName)) (a := o0) (by decide) (w29 hw) (sel_priv (w3 hw) (w30 hw) (w31 hw) (by decide)) (w30 hw) (w31 hw) P0 (w32 hw) (w4 hw) (rm_next_2 hw (o0 := o0) (o1 := o1) (i2 := i2) (kc3 := kc3) (x4 := x4) (x5 := x5) O P0 P1 P2 P3 P4 P5 G0 G1 N0_1) (W := 1) (by decide) (by decide) (k' := 0) rfl (n' := 0) rfl (by decide) (by decide) rfl pd_40 (argsL := [(.int (1 : Int32))]) rfl (rest := [(.ref o0)]) rfl rfl rfl d8_11 (q := 14) rfl ?_
  rintro _ T5 _ X6 ⟨rfl, rfl⟩
  refine g_putF C X6 (host := "") (Or.inl (w25 hw)) Via.refl P3 P0 (Or.inl (w26 hw)) (w3 hw) (ty := .int) (by decide) rfl rfl d8_14 (q := 17) rfl G0 ?_
  intro T7 h9 X8 W10
  have FW10 := Fld.same W10 P3
  have O11 := O.wr W10 G0
  refine g_aloadN C X8 d8_17 (q := 18) rfl rfl rfl ?_
  refine g_dup C X8 d8_18 (q := 19) rfl rfl ?_
  have f12 := (P2.other W10 (Or.inr (slot_ne (Or.inl (w20 hw)) (Or.inl (w26 hw)) (by decide) (t := .int) (t' := .int) (by decide) (by decide))))
  refine g_getF C X8 (host := "") (Or.inl (w19 hw)) Via.refl f12 d8_19 (q := 22) rfl ?_
  intro T13 X14
  refine g_iconst C X14 d8_22 (q := 23) rfl (z := (1 : Int32)) rfl ?_
  refine g_isub C X14 d8_23 (q := 24) rfl (z := (1 : Int32)) (by decide) ?_
  have f15 := (P0.wr W10)
  refine g_putF C X14 (host := "") (Or.inl (w19 hw)) Via.refl f12 f15 (Or.inl (w20 hw)) (w3 hw) (ty := .int) (by decide) rfl rfl d8_24 (q := 27) rfl G0 ?_
  intro T16 h18 X17 W19
  have FW19 := Fld.same W19 f12
  have O20 := O11.wr W19 G0
  refine g_aloadN C X17 d8_27 (q := 28) rfl rfl rfl ?_
  refine g_dup C X17 d8_28 (q := 29) rfl rfl ?_
  have f21 := ((P4.other W10 (Or.inr (slot_ne (Or.inl (w28 hw)) (Or.inl (w26 hw)) (by decide) (t := .int) (t' := .int) (by decide) (by decide)))).other W19 (Or.inr (slot_ne (Or.inl (w28 hw)) (Or.inl (w20 hw)) (by decide) (t := .int) (t' := .int) (by decide) (by decide))))
  refine g_getF C X17 (host := "") (Or.inl (w27 hw)) Via.refl f21 d8_29 (q := 32) rfl ?_
  intro T22 X23
  refine g_iconst C X23 d8_32 (q := 33) rfl (z := (1 : Int32)) rfl ?_
  refine g_iadd C X23 d8_33 (q := 34) rfl (z := (i2 + (1 : Int32))) rfl ?_
  have f24 := (f15.wr W19)
  refine g_putF C X23 (host := "") (Or.inl (w27 hw)) Via.refl f21 f24 (Or.inl (w28 hw)) (w3 hw) (ty := .int) (by decide) rfl rfl d8_34 (q := 37) rfl G0 ?_
  intro T25 h27 X26 W28
  have FW28 := Fld.same W28 f21
  have O29 := O20.wr W28 G0
  refine g_dloadN C X26 d8_37 (q := 38) rfl rfl ?_
  exact g_retD C X26 d8_38 (by decide) (by decide) ⟨_, rfl, rfl, ((((Keep.refl h0 [o0]).wr W10 (Or.inl (List.mem_of_getElem? (i := 0) rfl))).wr W19 (Or.inl (List.mem_of_getElem? (i := 0) rfl))).wr W28 (Or.inl (List.mem_of_getElem? (i := 0) rfl))), (f24.wr W28), (((P1.other W10 (Or.inr (slot_ne (Or.inr (w13 hw)) (Or.inl (w26 hw)) (by decide) (t := (.array .double)) (t' := .int) (by decide) (by decide)))).other W19 (Or.inr (slot_ne (Or.inr (w13 hw)) (Or.inl (w20 hw)) (by decide) (t := (.array .double)) (t' := .int) (by decide) (by decide)))).other W28 (Or.inr (slot_ne (Or.inr (w13 hw)) (Or.inl (w28 hw)) (by decide) (t := (.array .double)) (t' := .int) (by decide) (by decide)))), (FW19.other W28 (Or.inr (slot_ne (Or.inl (w20 hw)) (Or.inl (w28 hw)) (by decide) (t := .int) (t' := .int) (by decide) (by decide)))), ((FW10.other W19 (Or.inr (slot_ne (Or.inl (w26 hw)) (Or.inl (w20 hw)) (by decide) (t := .int) (t' := .int) (by decide) (by decide)))).other W28 (Or.inr (slot_ne (Or.inl (w26 hw)) (Or.inl (w28 hw)) (by decide) (t := .int) (t' := .int) (by decide) (by decide)))), FW28⟩
set_option maxRecDepth 65536 in
set_option maxHeartbeats 40000000 in
theorem rm_isFull_3 {l : Launch} {Z : State} {a0 : Array Value} (hw : ∀ d ∈ tables_1, d.before a0 Z = true) {o0 : Addr} {o1 : Addr} {i2 : Int32} {kc3 : ClassId} {x4 : UInt64} {x5 : UInt64} {h0 : Heap} {n0 : Nat} (O : Old Z n0 h0)  (P0 : Exa Z h0 o0 "com/example/rondel/rondel/primitive/DoubleRingBuffer") (P1 : Fld Z h0 o0 "com/example/rondel/rondel/primitive/DoubleRingBuffer" "readings" "[D" (.ref o1)) (P2 : Fld Z h0 o0 "com/example/rondel/rondel/primitive/DoubleRingBuffer" "size" "I" (.int (1 : Int32))) (P3 : Fld Z h0 o0 "com/example/rondel/rondel/primitive/DoubleRingBuffer" "head" "I" (.int (0 : Int32))) (P4 : Fld Z h0 o0 "com/example/rondel/rondel/primitive/DoubleRingBuffer" "modCount" "I" (.int i2)) (P5 : Arv Z h0 o1 kc3 .double (2 : Int32) [(.double x4), (.double x5)] (.double 0)) (G0 : n0 ≤ o0) (G1 : n0 ≤ o1) (N0_1 : o0 ≠ o1) :
    Met1 l Z (⟨"com/example/rondel/rondel/primitive/DoubleRingBuffer", "isFull", "()Z"⟩ : MethodName) prog_11_method_5_code 1 (some .boolean) ({ frames := 0, cells := 0, slots := 0, locals := 0 } : Room) #[(.ref o0)] h0 n0 (fun v h => v = (.int (0 : Int32)) ∧ h0 = h) := by
  refine met_of (L := #[.val (.ref o0)]) (plainFor_of_name pn_10) (fun m => by first | (simp [entryFrame, mkF, argsToLocals, Value.category]; done) | rfl) ?_
  intro p e s m below meth c T C X
  change Cx p s m meth c Z "com/example/rondel/rondel/primitive/DoubleRingBuffer" prog_11_method_5_code 1 (some .boolean) "isFull" at C
  refine g_aloadN C X d7_0 (q := 1) rfl rfl rfl ?_
  refine g_getF C X (host := "") (Or.inl (w19 hw)) Via.refl P2 d7_1 (q := 4) rfl ?_
  intro T1 X2
  refine g_aloadN C X2 d7_4 (q := 5) rfl rfl rfl ?_
  refine g_getF C X2 (host := "") (Or.inl (w12 hw)) Via.refl P1 d7_5 (q := 8) rfl ?_
  intro T3 X4
  refine g_alen C X4 P5 d7_8 (q := 9) rfl ?_
  refine g_icY C X4 d7_9 (by decide) (q := 16) (by decide) (by decide) ?_
  refine g_iconst C X4 d7_16 (q := 17) rfl (z := (0 : Int32)) rfl ?_
  exact g_retN C X4 (Or.inl rfl) (z' := (0 : Int32)) (by decide) d7_17 (by decide) (by decide) ⟨_, rfl, rfl, rfl⟩
set_option maxRecDepth 65536 in
set_option maxHeartbeats 40000000 in
theorem rm_min_7 {l : Launch} {Z : State} {a0 : Array Value} (hw : ∀ d ∈ tables_1, d.before a0 Z = true)  {h0 : Heap} {n0 : Nat} (O : Old Z n0 h0)  :
    Met1 l Z (⟨"java/lang/Math", "min", "(II)I"⟩ : MethodName) jdk_29_method_69_code 2 (some .int) ({ frames := 0, cells := 0, slots := 0, locals := 0 } : Room) #[(.int (4 : Int32)), (.int (2 : Int32))] h0 n0 (fun v h => v = (.int (2 : Int32)) ∧ h0 = h) := by
  refine met_of (L := #[.val (.int (4 : Int32)), .val (.int (2 : Int32))]) (Jvm.Free.JP.mathPlain rfl (by decide +kernel)) (fun m => by first | (simp [entryFrame, mkF, argsToLocals, Value.category]; done) | rfl) ?_
  intro p e s m below meth c T C X
  change Cx p s m meth c Z "java/lang/Math" jdk_29_method_69_code 2 (some .int) "min" at C
  refine g_iloadN C X d6_0 (q := 1) rfl rfl ?_
  refine g_iloadN C X d6_1 (q := 2) rfl rfl ?_
  refine g_icY C X d6_2 (by decide) (q := 9) (by decide) (by decide) ?_
  refine g_iloadN C X d6_9 (q := 10) rfl rfl ?_
  exact g_retI C X d6_10 (by decide) (by decide) ⟨_, rfl, rfl, rfl⟩
set_option maxRecDepth 65536 in
set_option maxHeartbeats 40000000 in
theorem rm_isFull_4 {l : Launch} {Z : State} {a0 : Array Value} (hw : ∀ d ∈ tables_1, d.before a0 Z = true) {o0 : Addr} {o1 : Addr} {i2 : Int32} {kc3 : ClassId} {x4 : UInt64} {x5 : UInt64} {h0 : Heap} {n0 : Nat} (O : Old Z n0 h0)  (P0 : Exa Z h0 o0 "com/example/rondel/rondel/primitive/DoubleRingBuffer") (P1 : Fld Z h0 o0 "com/example/rondel/rondel/primitive/DoubleRingBuffer" "readings" "[D" (.ref o1)) (P2 : Fld Z h0 o0 "com/example/rondel/rondel/primitive/DoubleRingBuffer" "size" "I" (.int (2 : Int32))) (P3 : Fld Z h0 o0 "com/example/rondel/rondel/primitive/DoubleRingBuffer" "head" "I" (.int (0 : Int32))) (P4 : Fld Z h0 o0 "com/example/rondel/rondel/primitive/DoubleRingBuffer" "modCount" "I" (.int i2)) (P5 : Arv Z h0 o1 kc3 .double (2 : Int32) [(.double x4), (.double x5)] (.double 0)) (G0 : n0 ≤ o0) (G1 : n0 ≤ o1) (N0_1 : o0 ≠ o1) :
    Met1 l Z (⟨"com/example/rondel/rondel/primitive/DoubleRingBuffer", "isFull", "()Z"⟩ : MethodName) prog_11_method_5_code 1 (some .boolean) ({ frames := 0, cells := 0, slots := 0, locals := 0 } : Room) #[(.ref o0)] h0 n0 (fun v h => v = (.int (1 : Int32)) ∧ h0 = h) := by
  refine met_of (L := #[.val (.ref o0)]) (plainFor_of_name pn_10) (fun m => by first | (simp [entryFrame, mkF, argsToLocals, Value.category]; done) | rfl) ?_
  intro p e s m below meth c T C X
  change Cx p s m meth c Z "com/example/rondel/rondel/primitive/DoubleRingBuffer" prog_11_method_5_code 1 (some .boolean) "isFull" at C
  refine g_aloadN C X d7_0 (q := 1) rfl rfl rfl ?_
  refine g_getF C X (host := "") (Or.inl (w19 hw)) Via.refl P2 d7_1 (q := 4) rfl ?_
  intro T1 X2
  refine g_aloadN C X2 d7_4 (q := 5) rfl rfl rfl ?_
  refine g_getF C X2 (host := "") (Or.inl (w12 hw)) Via.refl P1 d7_5 (q := 8) rfl ?_
  intro T3 X4
  refine g_alen C X4 P5 d7_8 (q := 9) rfl ?_
  refine g_icN C X4 d7_9 (q := 12) rfl (by decide) ?_
  refine g_iconst C X4 d7_12 (q := 13) rfl (z := (1 : Int32)) rfl ?_
  refine g_goto C X4 d7_13 (by decide) (q := 17) (by decide) ?_
  exact g_retN C X4 (Or.inl rfl) (z' := (1 : Int32)) (by decide) d7_17 (by decide) (by decide) ⟨_, rfl, rfl, rfl⟩
set_option maxRecDepth 65536 in
set_option maxHeartbeats 40000000 in
theorem rm_checkNotEmpty_2 {l : Launch} {Z : State} {a0 : Array Value} (hw : ∀ d ∈ tables_1, d.before a0 Z = true) {o0 : Addr} {o1 : Addr} {i2 : Int32} {kc3 : ClassId} {x4 : UInt64} {x5 : UInt64} {h0 : Heap} {n0 : Nat} (O : Old Z n0 h0)  (P0 : Exa Z h0 o0 "com/example/rondel/rondel/primitive/DoubleRingBuffer") (P1 : Fld Z h0 o0 "com/example/rondel/rondel/primitive/DoubleRingBuffer" "readings" "[D" (.ref o1)) (P2 : Fld Z h0 o0 "com/example/rondel/rondel/primitive/DoubleRingBuffer" "size" "I" (.int (2 : Int32))) (P3 : Fld Z h0 o0 "com/example/rondel/rondel/primitive/DoubleRingBuffer" "head" "I" (.int (0 : Int32))) (P4 : Fld Z h0 o0 "com/example/rondel/rondel/primitive/DoubleRingBuffer" "modCount" "I" (.int i2)) (P5 : Arv Z h0 o1 kc3 .double (2 : Int32) [(.double x4), (.double x5)] (.double 0)) (G0 : n0 ≤ o0) (G1 : n0 ≤ o1) (N0_1 : o0 ≠ o1) :
    Met0 l Z (⟨"com/example/rondel/rondel/primitive/DoubleRingBuffer", "checkNotEmpty", "()V"⟩ : MethodName) prog_11_method_17_code 1 none ({ frames := 0, cells := 0, slots := 0, locals := 0 } : Room) #[(.ref o0)] h0 n0 (fun h => h0 = h) := by
  refine met_of (L := #[.val (.ref o0)]) (plainFor_of_name pn_10) (fun m => by first | (simp [entryFrame, mkF, argsToLocals, Value.category]; done) | rfl) ?_
  intro p e s m below meth c T C X
  change Cx p s m meth c Z "com/example/rondel/rondel/primitive/DoubleRingBuffer" prog_11_method_17_code 1 none "checkNotEmpty" at C
  refine g_aloadN C X d10_0 (q := 1) rfl rfl rfl ?_
  refine g_getF C X (host := "") (Or.inl (w19 hw)) Via.refl P2 d10_1 (q := 4) rfl ?_
  intro T1 X2
  refine g_ifY C X2 d10_4 (by decide) (q := 17) (by decide) (by decide) ?_
  exact g_retV C X2 d10_17 (by decide) (by decide) ⟨rfl, rfl⟩
set_option maxRecDepth 65536 in
set_option maxHeartbeats 40000000 in
theorem rm_getFirst_2 {l : Launch} {Z : State} {a0 : Array Value} (hw : ∀ d ∈ tables_1, d.before a0 Z = true) {o0 : Addr} {o1 : Addr} {i2 : Int32} {kc3 : ClassId} {x4 : UInt64} {x5 : UInt64} {h0 : Heap} {n0 : Nat} (O : Old Z n0 h0)  (P0 : Exa Z h0 o0 "com/example/rondel/rondel/primitive/DoubleRingBuffer") (P1 : Fld Z h0 o0 "com/example/rondel/rondel/primitive/DoubleRingBuffer" "readings" "[D" (.ref o1)) (P2 : Fld Z h0 o0 "com/example/rondel/rondel/primitive/DoubleRingBuffer" "size" "I" (.int (2 : Int32))) (P3 : Fld Z h0 o0 "com/example/rondel/rondel/primitive/DoubleRingBuffer" "head" "I" (.int (0 : Int32))) (P4 : Fld Z h0 o0 "com/example/rondel/rondel/primitive/DoubleRingBuffer" "modCount" "I" (.int i2)) (P5 : Arv Z h0 o1 kc3 .double (2 : Int32) [(.double x4), (.double x5)] (.double 0)) (G0 : n0 ≤ o0) (G1 : n0 ≤ o1) (N0_1 : o0 ≠ o1) :
    Met1 l Z (⟨"com/example/rondel/rondel/primitive/DoubleRingBuffer", "getFirst", "()D"⟩ : MethodName) prog_11_method_9_code 1 (some .double) ({ frames := 1, cells := 0, slots := 0, locals := 12 } : Room) #[(.ref o0)] h0 n0 (fun v h => v = (.double x4) ∧ h0 = h) := by
  refine met_of (L := #[.val (.ref o0)]) (plainFor_of_name pn_10) (fun m => by first | (simp [entryFrame, mkF, argsToLocals, Value.category]; done) | rfl) ?_
  intro p e s m below meth c T C X
  change Cx p s m meth c Z "com/example/rondel/rondel/primitive/DoubleRingBuffer" prog_11_method_9_code 1 (some .double) "getFirst" at C
  refine g_aloadN C X d9_0 (q := 1) rfl rfl rfl ?_
  refine g_callP0 C X (y := (⟨"com/example/rondel/rondel/primitive/DoubleRingBuffer", "checkNotEmpty", "()V"⟩ : MethodName)) (a := o0) (by decide) (w52 hw) (sel_priv (w3 hw) (w53 hw) (w54 hw) (by decide)) (w53 hw) (w54 hw) P0 (w55 hw) (w4 hw) (rm_checkNotEmpty_2 hw (o0 := o0) (o1 := o1) (i2 := i2) (kc3 := kc3) (x4 := x4) (x5 := x5) O P0 P1 P2 P3 P4 P5 G0 G1 N0_1) (W := 0) (by decide) (by decide) (k' := 0) rfl (n' := 0) rfl (by decide) (by decide) rfl pd_104 (argsL := []) rfl (rest := []) rfl rfl rfl d9_1 (q := 4) rfl ?_
  rintro T1 _ X2 rfl
  refine g_aloadN C X2 d9_4 (q := 5) rfl rfl rfl ?_
  refine g_getF C X2 (host := "") (Or.inl (w12 hw)) Via.refl P1 d9_5 (q := 8) rfl ?_
  intro T3 X4
  refine g_aloadN C X4 d9_8 (q := 9) rfl rfl rfl ?_
  refine g_getF C X4 (host := "") (Or.inl (w25 hw)) Via.refl P3 d9_9 (q := 12) rfl ?_
  intro T5 X6
  refine g_daload C X6 P5 (by decide) (w := (.double x4)) rfl d9_12 (q := 13) rfl ?_
  exact g_retD C X6 d9_13 (by decide) (by decide) ⟨_, rfl, rfl, rfl⟩
set_option maxRecDepth 65536 in
set_option maxHeartbeats 40000000 in
theorem rm_removeFirst_2 {l : Launch} {Z : State} {a0 : Array Value} (hw : ∀ d ∈ tables_1, d.before a0 Z = true) {o0 : Addr} {o1 : Addr} {i2 : Int32} {kc3 : ClassId} {x4 : UInt64} {x5 : UInt64} {h0 : Heap} {n0 : Nat} (O : Old Z n0 h0)  (P0 : Exa Z h0 o0 "com/example/rondel/rondel/primitive/DoubleRingBuffer") (P1 : Fld Z h0 o0 "com/example/rondel/rondel/primitive/DoubleRingBuffer" "readings" "[D" (.ref o1)) (P2 : Fld Z h0 o0 "com/example/rondel/rondel/primitive/DoubleRingBuffer" "size" "I" (.int (2 : Int32))) (P3 : Fld Z h0 o0 "com/example/rondel/rondel/primitive/DoubleRingBuffer" "head" "I" (.int (0 : Int32))) (P4 : Fld Z h0 o0 "com/example/rondel/rondel/primitive/DoubleRingBuffer" "modCount" "I" (.int i2)) (P5 : Arv Z h0 o1 kc3 .double (2 : Int32) [(.double x4), (.double x5)] (.double 0)) (G0 : n0 ≤ o0) (G1 : n0 ≤ o1) (N0_1 : o0 ≠ o1) :
    Met1 l Z (⟨"com/example/rondel/rondel/primitive/DoubleRingBuffer", "removeFirst", "()D"⟩ : MethodName) prog_11_method_7_code 3 (some .double) ({ frames := 2, cells := 0, slots := 0, locals := 24 } : Room) #[(.ref o0)] h0 n0 (fun v h => v = (.double x4) ∧ Keep h0 h [o0] ∧ Exa Z h o0 "com/example/rondel/rondel/primitive/DoubleRingBuffer" ∧ Fld Z h o0 "com/example/rondel/rondel/primitive/DoubleRingBuffer" "readings" "[D" (.ref o1) ∧ Fld Z h o0 "com/example/rondel/rondel/primitive/DoubleRingBuffer" "size" "I" (.int (1 : Int32)) ∧ Fld Z h o0 "com/example/rondel/rondel/primitive/DoubleRingBuffer" "head" "I" (.int (1 : Int32)) ∧ Fld Z h o0 "com/example/rondel/rondel/primitive/DoubleRingBuffer" "modCount" "I" (.int (i2 + (1 : Int32)))) := by
  refine met_of (L := #[.val (.ref o0), .unset, .unset]) (plainFor_of_name pn_10) (fun m => by first | (simp [entryFrame, mkF, argsToLocals, Value.category]; done) | rfl) ?_
  intro p e s m below meth c T C X
  change Cx p s m meth c Z "com/example/rondel/rondel/primitive/DoubleRingBuffer" prog_11_method_7_code 3 (some .double) "removeFirst" at C
  refine g_aloadN C X d8_0 (q := 1) rfl rfl rfl ?_
  refine g_callV1 C X (y := (⟨"com/example/rondel/rondel/primitive/DoubleRingBuffer", "getFirst", "()D"⟩ : MethodName)) (z := (⟨"com/example/rondel/rondel/primitive/DoubleRingBuffer", "getFirst", "()D"⟩ : MethodName)) (a := o0) (by decide) (w47 hw) (w48 hw) (w50 hw) (w49 hw) (nf_sel (w50 hw)) P0 (w51 hw) (w4 hw) (rm_getFirst_2 hw (o0 := o0) (o1 := o1) (i2 := i2) (kc3 := kc3) (x4 := x4) (x5 := x5) O P0 P1 P2 P3 P4 P5 G0 G1 N0_1) (W := 0) (by decide) (by decide) (k' := 0) rfl (n' := 0) rfl (by decide) (by decide) rfl pd_111 (argsL := []) rfl (rest := []) rfl rfl rfl d8_1 (q := 4) rfl ?_
  rintro _ T1 _ X2 ⟨rfl, rfl⟩
  refine g_dstoreN C X2 d8_4 (q := 5) rfl (L' := #[.val (.ref o0), .val (.double x4), .second]) rfl ?_
  refine g_aloadN C X2 d8_5 (q := 6) rfl rfl rfl ?_
  refine g_aloadN C X2 d8_6 (q := 7) rfl rfl rfl ?_
  refine g_aloadN C X2 d8_7 (q := 8) rfl rfl rfl ?_
  refine g_getF C X2 (host := "") (Or.inl (w25 hw)) Via.refl P3 d8_8 (q := 11) rfl ?_
  intro T3 X4
  refine g_callP1 C X4 (y := (⟨"com/example/rondel/rondel/primitive/DoubleRingBuffer", "next", "(I)I"⟩ : MethodName)) (a := o0) (by decide) (w29 hw) (sel_priv (w3 hw) (w30 hw) (w31 hw) (by decide)) (w30 hw) (w31 hw) P0 (w32 hw) (w4 hw) (rm_next_1 hw (o0 := o0) (o1 := o1) (i2 := i2) (kc3 := kc3) (x4 := x4) (x5 := x5) O P0 P1 P2 P3 P4 P5 G0 G1 N0_1) (W := 1) (by decide) (by decide) (k' := 0) rfl (n' := 0) rfl (by decide) (by decide) rfl pd_40 (argsL := [(.int (0 : Int32))]) rfl (rest := [(.ref o0)]) rfl rfl rfl d8_11 (q := 14) rfl ?_
  rintro _ T5 _ X6 ⟨rfl, rfl⟩
  refine g_putF C X6 (host := "") (Or.inl (w25 hw)) Via.refl P3 P0 (Or.inl (w26 hw)) (w3 hw) (ty := .int) (by decide) rfl rfl d8_14 (q := 17) rfl G0 ?_
  intro T7 h9 X8 W10
  have FW10 := Fld.same W10 P3
  have O11 := O.wr W10 G0
  refine g_aloadN C X8 d8_17 (q := 18) rfl rfl rfl ?_
  refine g_dup C X8 d8_18 (q := 19) rfl rfl ?_
  have f12 := (P2.other W10 (Or.inr (slot_ne (Or.inl (w20 hw)) (Or.inl (w26 hw)) (by decide) (t := .int) (t' := .int) (by decide) (by decide))))
  refine g_getF C X8 (host := "") (Or.inl (w19 hw)) Via.refl f12 d8_19 (q := 22) rfl ?_
  intro T13 X14
  refine g_iconst C X14 d8_22 (q := 23) rfl (z := (1 : Int32)) rfl ?_
  refine g_isub C X14 d8_23 (q := 24) rfl (z := (1 : Int32)) (by decide) ?_
  have f15 := (P0.wr W10)
  refine g_putF C X14 (host := "") (Or.inl (w19 hw)) Via.refl f12 f15 (Or.inl (w20 hw)) (w3 hw) (ty := .int) (by decide) rfl rfl d8_24 (q := 27) rfl G0 ?_
  intro T16 h18 X17 W19
  have FW19 := Fld.same W19 f12
  have O20 := O11.wr W19 G0
  refine g_aloadN C X17 d8_27 (q := 28) rfl rfl rfl ?_
  refine g_dup C X17 d8_28 (q := 29) rfl rfl ?_
  have f21 := ((P4.other W10 (Or.inr (slot_ne (Or.inl (w28 hw)) (Or.inl (w26 hw)) (by decide) (t := .int) (t' := .int) (by decide) (by decide)))).other W19 (Or.inr (slot_ne (Or.inl (w28 hw)) (Or.inl (w20 hw)) (by decide) (t := .int) (t' := .int) (by decide) (by decide))))
  refine g_getF C X17 (host := "") (Or.inl (w27 hw)) Via.refl f21 d8_29 (q := 32) rfl ?_
  intro T22 X23
  refine g_iconst C X23 d8_32 (q := 33) rfl (z := (1 : Int32)) rfl ?_
  refine g_iadd C X23 d8_33 (q := 34) rfl (z := (i2 + (1 : Int32))) rfl ?_
  have f24 := (f15.wr W19)
  refine g_putF C X23 (host := "") (Or.inl (w27 hw)) Via.refl f21 f24 (Or.inl (w28 hw)) (w3 hw) (ty := .int) (by decide) rfl rfl d8_34 (q := 37) rfl G0 ?_
  intro T25 h27 X26 W28
  have FW28 := Fld.same W28 f21
  have O29 := O20.wr W28 G0
  refine g_dloadN C X26 d8_37 (q := 38) rfl rfl ?_
  exact g_retD C X26 d8_38 (by decide) (by decide) ⟨_, rfl, rfl, ((((Keep.refl h0 [o0]).wr W10 (Or.inl (List.mem_of_getElem? (i := 0) rfl))).wr W19 (Or.inl (List.mem_of_getElem? (i := 0) rfl))).wr W28 (Or.inl (List.mem_of_getElem? (i := 0) rfl))), (f24.wr W28), (((P1.other W10 (Or.inr (slot_ne (Or.inr (w13 hw)) (Or.inl (w26 hw)) (by decide) (t := (.array .double)) (t' := .int) (by decide) (by decide)))).other W19 (Or.inr (slot_ne (Or.inr (w13 hw)) (Or.inl (w20 hw)) (by decide) (t := (.array .double)) (t' := .int) (by decide) (by decide)))).other W28 (Or.inr (slot_ne (Or.inr (w13 hw)) (Or.inl (w28 hw)) (by decide) (t := (.array .double)) (t' := .int) (by decide) (by decide)))), (FW19.other W28 (Or.inr (slot_ne (Or.inl (w20 hw)) (Or.inl (w28 hw)) (by decide) (t := .int) (t' := .int) (by decide) (by decide)))), ((FW10.other W19 (Or.inr (slot_ne (Or.inl (w26 hw)) (Or.inl (w20 hw)) (by decide) (t := .int) (t' := .int) (by decide) (by decide)))).other W28 (Or.inr (slot_ne (Or.inl (w26 hw)) (Or.inl (w28 hw)) (by decide) (t := .int) (t' := .int) (by decide) (by decide)))), FW28⟩
set_option maxRecDepth 65536 in
set_option maxHeartbeats 40000000 in
theorem rm_isFull_5 {l : Launch} {Z : State} {a0 : Array Value} (hw : ∀ d ∈ tables_1, d.before a0 Z = true) {o0 : Addr} {o1 : Addr} {i2 : Int32} {kc3 : ClassId} {x4 : UInt64} {x5 : UInt64} {h0 : Heap} {n0 : Nat} (O : Old Z n0 h0)  (P0 : Exa Z h0 o0 "com/example/rondel/rondel/primitive/DoubleRingBuffer") (P1 : Fld Z h0 o0 "com/example/rondel/rondel/primitive/DoubleRingBuffer" "readings" "[D" (.ref o1)) (P2 : Fld Z h0 o0 "com/example/rondel/rondel/primitive/DoubleRingBuffer" "size" "I" (.int (1 : Int32))) (P3 : Fld Z h0 o0 "com/example/rondel/rondel/primitive/DoubleRingBuffer" "head" "I" (.int (1 : Int32))) (P4 : Fld Z h0 o0 "com/example/rondel/rondel/primitive/DoubleRingBuffer" "modCount" "I" (.int i2)) (P5 : Arv Z h0 o1 kc3 .double (2 : Int32) [(.double x4), (.double x5)] (.double 0)) (G0 : n0 ≤ o0) (G1 : n0 ≤ o1) (N0_1 : o0 ≠ o1) :
    Met1 l Z (⟨"com/example/rondel/rondel/primitive/DoubleRingBuffer", "isFull", "()Z"⟩ : MethodName) prog_11_method_5_code 1 (some .boolean) ({ frames := 0, cells := 0, slots := 0, locals := 0 } : Room) #[(.ref o0)] h0 n0 (fun v h => v = (.int (0 : Int32)) ∧ h0 = h) := by
  refine met_of (L := #[.val (.ref o0)]) (plainFor_of_name pn_10) (fun m => by first | (simp [entryFrame, mkF, argsToLocals, Value.category]; done) | rfl) ?_
  intro p e s m below meth c T C X
  change Cx p s m meth c Z "com/example/rondel/rondel/primitive/DoubleRingBuffer" prog_11_method_5_code 1 (some .boolean) "isFull" at C
  refine g_aloadN C X d7_0 (q := 1) rfl rfl rfl ?_
  refine g_getF C X (host := "") (Or.inl (w19 hw)) Via.refl P2 d7_1 (q := 4) rfl ?_
  intro T1 X2
  refine g_aloadN C X2 d7_4 (q := 5) rfl rfl rfl ?_
  refine g_getF C X2 (host := "") (Or.inl (w12 hw)) Via.refl P1 d7_5 (q := 8) rfl ?_
  intro T3 X4
  refine g_alen C X4 P5 d7_8 (q := 9) rfl ?_
  refine g_icY C X4 d7_9 (by decide) (q := 16) (by decide) (by decide) ?_
  refine g_iconst C X4 d7_16 (q := 17) rfl (z := (0 : Int32)) rfl ?_
  exact g_retN C X4 (Or.inl rfl) (z' := (0 : Int32)) (by decide) d7_17 (by decide) (by decide) ⟨_, rfl, rfl, rfl⟩
set_option maxRecDepth 65536 in
set_option maxHeartbeats 40000000 in
theorem rm_min_8 {l : Launch} {Z : State} {a0 : Array Value} (hw : ∀ d ∈ tables_1, d.before a0 Z = true)  {h0 : Heap} {n0 : Nat} (O : Old Z n0 h0)  :
    Met1 l Z (⟨"java/lang/Math", "min", "(II)I"⟩ : MethodName) jdk_29_method_69_code 2 (some .int) ({ frames := 0, cells := 0, slots := 0, locals := 0 } : Room) #[(.int (3 : Int32)), (.int (2 : Int32))] h0 n0 (fun v h => v = (.int (2 : Int32)) ∧ h0 = h) := by
  refine met_of (L := #[.val (.int (3 : Int32)), .val (.int (2 : Int32))]) (Jvm.Free.JP.mathPlain rfl (by decide +kernel)) (fun m => by first | (simp [entryFrame, mkF, argsToLocals, Value.category]; done) | rfl) ?_
  intro p e s m below meth c T C X
  change Cx p s m meth c Z "java/lang/Math" jdk_29_method_69_code 2 (some .int) "min" at C
  refine g_iloadN C X d6_0 (q := 1) rfl rfl ?_
  refine g_iloadN C X d6_1 (q := 2) rfl rfl ?_
  refine g_icY C X d6_2 (by decide) (q := 9) (by decide) (by decide) ?_
  refine g_iloadN C X d6_9 (q := 10) rfl rfl ?_
  exact g_retI C X d6_10 (by decide) (by decide) ⟨_, rfl, rfl, rfl⟩
set_option maxRecDepth 65536 in
set_option maxHeartbeats 40000000 in
theorem rm_min_9 {l : Launch} {Z : State} {a0 : Array Value} (hw : ∀ d ∈ tables_1, d.before a0 Z = true)  {h0 : Heap} {n0 : Nat} (O : Old Z n0 h0)  :
    Met1 l Z (⟨"java/lang/Math", "min", "(II)I"⟩ : MethodName) jdk_29_method_69_code 2 (some .int) ({ frames := 0, cells := 0, slots := 0, locals := 0 } : Room) #[(.int (2 : Int32)), (.int (2 : Int32))] h0 n0 (fun v h => v = (.int (2 : Int32)) ∧ h0 = h) := by
  refine met_of (L := #[.val (.int (2 : Int32)), .val (.int (2 : Int32))]) (Jvm.Free.JP.mathPlain rfl (by decide +kernel)) (fun m => by first | (simp [entryFrame, mkF, argsToLocals, Value.category]; done) | rfl) ?_
  intro p e s m below meth c T C X
  change Cx p s m meth c Z "java/lang/Math" jdk_29_method_69_code 2 (some .int) "min" at C
  refine g_iloadN C X d6_0 (q := 1) rfl rfl ?_
  refine g_iloadN C X d6_1 (q := 2) rfl rfl ?_
  refine g_icN C X d6_2 (q := 5) rfl (by decide) ?_
  refine g_iloadN C X d6_5 (q := 6) rfl rfl ?_
  refine g_goto C X d6_6 (by decide) (q := 10) (by decide) ?_
  exact g_retI C X d6_10 (by decide) (by decide) ⟨_, rfl, rfl, rfl⟩
set_option maxRecDepth 65536 in
set_option maxHeartbeats 40000000 in
theorem rm_min_10 {l : Launch} {Z : State} {a0 : Array Value} (hw : ∀ d ∈ tables_1, d.before a0 Z = true)  {h0 : Heap} {n0 : Nat} (O : Old Z n0 h0)  :
    Met1 l Z (⟨"java/lang/Math", "min", "(II)I"⟩ : MethodName) jdk_29_method_69_code 2 (some .int) ({ frames := 0, cells := 0, slots := 0, locals := 0 } : Room) #[(.int (1 : Int32)), (.int (2 : Int32))] h0 n0 (fun v h => v = (.int (1 : Int32)) ∧ h0 = h) := by
  refine met_of (L := #[.val (.int (1 : Int32)), .val (.int (2 : Int32))]) (Jvm.Free.JP.mathPlain rfl (by decide +kernel)) (fun m => by first | (simp [entryFrame, mkF, argsToLocals, Value.category]; done) | rfl) ?_
  intro p e s m below meth c T C X
  change Cx p s m meth c Z "java/lang/Math" jdk_29_method_69_code 2 (some .int) "min" at C
  refine g_iloadN C X d6_0 (q := 1) rfl rfl ?_
  refine g_iloadN C X d6_1 (q := 2) rfl rfl ?_
  refine g_icN C X d6_2 (q := 5) rfl (by decide) ?_
  refine g_iloadN C X d6_5 (q := 6) rfl rfl ?_
  refine g_goto C X d6_6 (by decide) (q := 10) (by decide) ?_
  exact g_retI C X d6_10 (by decide) (by decide) ⟨_, rfl, rfl, rfl⟩
set_option maxRecDepth 65536 in
set_option maxHeartbeats 40000000 in
theorem rm_checkNotEmpty_3 {l : Launch} {Z : State} {a0 : Array Value} (hw : ∀ d ∈ tables_1, d.before a0 Z = true) {o0 : Addr} {o1 : Addr} {i2 : Int32} {kc3 : ClassId} {x4 : UInt64} {x5 : UInt64} {h0 : Heap} {n0 : Nat} (O : Old Z n0 h0)  (P0 : Exa Z h0 o0 "com/example/rondel/rondel/primitive/DoubleRingBuffer") (P1 : Fld Z h0 o0 "com/example/rondel/rondel/primitive/DoubleRingBuffer" "readings" "[D" (.ref o1)) (P2 : Fld Z h0 o0 "com/example/rondel/rondel/primitive/DoubleRingBuffer" "size" "I" (.int (1 : Int32))) (P3 : Fld Z h0 o0 "com/example/rondel/rondel/primitive/DoubleRingBuffer" "head" "I" (.int (0 : Int32))) (P4 : Fld Z h0 o0 "com/example/rondel/rondel/primitive/DoubleRingBuffer" "modCount" "I" (.int i2)) (P5 : Arv Z h0 o1 kc3 .double (2 : Int32) [(.double x4), (.double x5)] (.double 0)) (G0 : n0 ≤ o0) (G1 : n0 ≤ o1) (N0_1 : o0 ≠ o1) :
    Met0 l Z (⟨"com/example/rondel/rondel/primitive/DoubleRingBuffer", "checkNotEmpty", "()V"⟩ : MethodName) prog_11_method_17_code 1 none ({ frames := 0, cells := 0, slots := 0, locals := 0 } : Room) #[(.ref o0)] h0 n0 (fun h => h0 = h) := by
  refine met_of (L := #[.val (.ref o0)]) (plainFor_of_name pn_10) (fun m => by first | (simp [entryFrame, mkF, argsToLocals, Value.category]; done) | rfl) ?_
  intro p e s m below meth c T C X
  change Cx p s m meth c Z "com/example/rondel/rondel/primitive/DoubleRingBuffer" prog_11_method_17_code 1 none "checkNotEmpty" at C
  refine g_aloadN C X d10_0 (q := 1) rfl rfl rfl ?_
  refine g_getF C X (host := "") (Or.inl (w19 hw)) Via.refl P2 d10_1 (q := 4) rfl ?_
  intro T1 X2
  refine g_ifY C X2 d10_4 (by decide) (q := 17) (by decide) (by decide) ?_
  exact g_retV C X2 d10_17 (by decide) (by decide) ⟨rfl, rfl⟩
set_option maxRecDepth 65536 in
set_option maxHeartbeats 40000000 in
theorem rm_getFirst_3 {l : Launch} {Z : State} {a0 : Array Value} (hw : ∀ d ∈ tables_1, d.before a0 Z = true) {o0 : Addr} {o1 : Addr} {i2 : Int32} {kc3 : ClassId} {x4 : UInt64} {x5 : UInt64} {h0 : Heap} {n0 : Nat} (O : Old Z n0 h0)  (P0 : Exa Z h0 o0 "com/example/rondel/rondel/primitive/DoubleRingBuffer") (P1 : Fld Z h0 o0 "com/example/rondel/rondel/primitive/DoubleRingBuffer" "readings" "[D" (.ref o1)) (P2 : Fld Z h0 o0 "com/example/rondel/rondel/primitive/DoubleRingBuffer" "size" "I" (.int (1 : Int32))) (P3 : Fld Z h0 o0 "com/example/rondel/rondel/primitive/DoubleRingBuffer" "head" "I" (.int (0 : Int32))) (P4 : Fld Z h0 o0 "com/example/rondel/rondel/primitive/DoubleRingBuffer" "modCount" "I" (.int i2)) (P5 : Arv Z h0 o1 kc3 .double (2 : Int32) [(.double x4), (.double x5)] (.double 0)) (G0 : n0 ≤ o0) (G1 : n0 ≤ o1) (N0_1 : o0 ≠ o1) :
    Met1 l Z (⟨"com/example/rondel/rondel/primitive/DoubleRingBuffer", "getFirst", "()D"⟩ : MethodName) prog_11_method_9_code 1 (some .double) ({ frames := 1, cells := 0, slots := 0, locals := 12 } : Room) #[(.ref o0)] h0 n0 (fun v h => v = (.double x4) ∧ h0 = h) := by
  refine met_of (L := #[.val (.ref o0)]) (plainFor_of_name pn_10) (fun m => by first | (simp [entryFrame, mkF, argsToLocals, Value.category]; done) | rfl) ?_
  intro p e s m below meth c T C X
  change Cx p s m meth c Z "com/example/rondel/rondel/primitive/DoubleRingBuffer" prog_11_method_9_code 1 (some .double) "getFirst" at C
  refine g_aloadN C X d9_0 (q := 1) rfl rfl rfl ?_
  refine g_callP0 C X (y := (⟨"com/example/rondel/rondel/primitive/DoubleRingBuffer", "checkNotEmpty", "()V"⟩ : MethodName)) (a := o0) (by decide) (w52 hw) (sel_priv (w3 hw) (w53 hw) (w54 hw) (by decide)) (w53 hw) (w54 hw) P0 (w55 hw) (w4 hw) (rm_checkNotEmpty_3 hw (o0 := o0) (o1 := o1) (i2 := i2) (kc3 := kc3) (x4 := x4) (x5 := x5) O P0 P1 P2 P3 P4 P5 G0 G1 N0_1) (W := 0) (by decide) (by decide) (k' := 0) rfl (n' := 0) rfl (by decide) (by decide) rfl pd_104 (argsL := []) rfl (rest := []) rfl rfl rfl d9_1 (q := 4) rfl ?_
  rintro T1 _ X2 rfl
  refine g_aloadN C X2 d9_4 (q := 5) rfl rfl rfl ?_
  refine g_getF C X2 (host := "") (Or.inl (w12 hw)) Via.refl P1 d9_5 (q := 8) rfl ?_
  intro T3 X4
  refine g_aloadN C X4 d9_8 (q := 9) rfl rfl rfl ?_
  refine g_getF C X4 (host := "") (Or.inl (w25 hw)) Via.refl P3 d9_9 (q := 12) rfl ?_
  intro T5 X6
  refine g_daload C X6 P5 (by decide) (w := (.double x4)) rfl d9_12 (q := 13) rfl ?_
  exact g_retD C X6 d9_13 (by decide) (by decide) ⟨_, rfl, rfl, rfl⟩
set_option maxRecDepth 65536 in
set_option maxHeartbeats 40000000 in
theorem rm_next_3 {l : Launch} {Z : State} {a0 : Array Value} (hw : ∀ d ∈ tables_1, d.before a0 Z = true) {o0 : Addr} {o1 : Addr} {i2 : Int32} {kc3 : ClassId} {x4 : UInt64} {x5 : UInt64} {h0 : Heap} {n0 : Nat} (O : Old Z n0 h0)  (P0 : Exa Z h0 o0 "com/example/rondel/rondel/primitive/DoubleRingBuffer") (P1 : Fld Z h0 o0 "com/example/rondel/rondel/primitive/DoubleRingBuffer" "readings" "[D" (.ref o1)) (P2 : Fld Z h0 o0 "com/example/rondel/rondel/primitive/DoubleRingBuffer" "size" "I" (.int (1 : Int32))) (P3 : Fld Z h0 o0 "com/example/rondel/rondel/primitive/DoubleRingBuffer" "head" "I" (.int (0 : Int32))) (P4 : Fld Z h0 o0 "com/example/rondel/rondel/primitive/DoubleRingBuffer" "modCount" "I" (.int i2)) (P5 : Arv Z h0 o1 kc3 .double (2 : Int32) [(.double x4), (.double x5)] (.double 0)) (G0 : n0 ≤ o0) (G1 : n0 ≤ o1) (N0_1 : o0 ≠ o1) :
    Met1 l Z (⟨"com/example/rondel/rondel/primitive/DoubleRingBuffer", "next", "(I)I"⟩ : MethodName) prog_11_method_19_code 2 (some .int) ({ frames := 0, cells := 0, slots := 0, locals := 0 } : Room) #[(.ref o0), (.int (0 : Int32))] h0 n0 (fun v h => v = (.int (1 : Int32)) ∧ h0 = h) := by
  refine met_of (L := #[.val (.ref o0), .val (.int (0 : Int32))]) (plainFor_of_name pn_10) (fun m => by first | (simp [entryFrame, mkF, argsToLocals, Value.category]; done) | rfl) ?_
  intro p e s m below meth c T C X
  change Cx p s m meth c Z "com/example/rondel/rondel/primitive/DoubleRingBuffer" prog_11_method_19_code 2 (some .int) "next" at C
  refine g_iloadN C X d5_0 (q := 1) rfl rfl ?_
  refine g_aloadN C X d5_1 (q := 2) rfl rfl rfl ?_
  refine g_getF C X (host := "") (Or.inl (w12 hw)) Via.refl P1 d5_2 (q := 5) rfl ?_
  intro T1 X2
  refine g_alen C X2 P5 d5_5 (q := 6) rfl ?_
  refine g_iconst C X2 d5_6 (q := 7) rfl (z := (1 : Int32)) rfl ?_
  refine g_isub C X2 d5_7 (q := 8) rfl (z := (1 : Int32)) (by decide) ?_
  refine g_icY C X2 d5_8 (by decide) (q := 15) (by decide) (by decide) ?_
  refine g_iloadN C X2 d5_15 (q := 16) rfl rfl ?_
  refine g_iconst C X2 d5_16 (q := 17) rfl (z := (1 : Int32)) rfl ?_
  refine g_iadd C X2 d5_17 (q := 18) rfl (z := (1 : Int32)) (by decide) ?_
  exact g_retI C X2 d5_18 (by decide) (by decide) ⟨_, rfl, rfl, rfl⟩
set_option maxRecDepth 65536 in
set_option maxHeartbeats 40000000 in
theorem rm_removeFirst_3 {l : Launch} {Z : State} {a0 : Array Value} (hw : ∀ d ∈ tables_1, d.before a0 Z = true) {o0 : Addr} {o1 : Addr} {i2 : Int32} {kc3 : ClassId} {x4 : UInt64} {x5 : UInt64} {h0 : Heap} {n0 : Nat} (O : Old Z n0 h0)  (P0 : Exa Z h0 o0 "com/example/rondel/rondel/primitive/DoubleRingBuffer") (P1 : Fld Z h0 o0 "com/example/rondel/rondel/primitive/DoubleRingBuffer" "readings" "[D" (.ref o1)) (P2 : Fld Z h0 o0 "com/example/rondel/rondel/primitive/DoubleRingBuffer" "size" "I" (.int (1 : Int32))) (P3 : Fld Z h0 o0 "com/example/rondel/rondel/primitive/DoubleRingBuffer" "head" "I" (.int (0 : Int32))) (P4 : Fld Z h0 o0 "com/example/rondel/rondel/primitive/DoubleRingBuffer" "modCount" "I" (.int i2)) (P5 : Arv Z h0 o1 kc3 .double (2 : Int32) [(.double x4), (.double x5)] (.double 0)) (G0 : n0 ≤ o0) (G1 : n0 ≤ o1) (N0_1 : o0 ≠ o1) :
    Met1 l Z (⟨"com/example/rondel/rondel/primitive/DoubleRingBuffer", "removeFirst", "()D"⟩ : MethodName) prog_11_method_7_code 3 (some .double) ({ frames := 2, cells := 0, slots := 0, locals := 24 } : Room) #[(.ref o0)] h0 n0 (fun v h => v = (.double x4) ∧ Keep h0 h [o0] ∧ Exa Z h o0 "com/example/rondel/rondel/primitive/DoubleRingBuffer" ∧ Fld Z h o0 "com/example/rondel/rondel/primitive/DoubleRingBuffer" "readings" "[D" (.ref o1) ∧ Fld Z h o0 "com/example/rondel/rondel/primitive/DoubleRingBuffer" "size" "I" (.int (0 : Int32)) ∧ Fld Z h o0 "com/example/rondel/rondel/primitive/DoubleRingBuffer" "head" "I" (.int (1 : Int32)) ∧ Fld Z h o0 "com/example/rondel/rondel/primitive/DoubleRingBuffer" "modCount" "I" (.int (i2 + (1 : Int32)))) := by
  refine met_of (L := #[.val (.ref o0), .unset, .unset]) (plainFor_of_name pn_10) (fun m => by first | (simp [entryFrame, mkF, argsToLocals, Value.category]; done) | rfl) ?_
  intro p e s m below meth c T C X
  change Cx p s m meth c Z "com/example/rondel/rondel/primitive/DoubleRingBuffer" prog_11_method_7_code 3 (some .double) "removeFirst" at C
  refine g_aloadN C X d8_0 (q := 1) rfl rfl rfl ?_
  refine g_callV1 C X (y := (⟨"com/example/rondel/rondel/primitive/DoubleRingBuffer", "getFirst", "()D"⟩ : MethodName)) (z := (⟨"com/example/rondel/rondel/primitive/DoubleRingBuffer", "getFirst", "()D"⟩ : MethodName)) (a := o0) (by decide) (w47 hw) (w48 hw) (w50 hw) (w49 hw) (nf_sel (w50 hw)) P0 (w51 hw) (w4 hw) (rm_getFirst_3 hw (o0 := o0) (o1 := o1) (i2 := i2) (kc3 := kc3) (x4 := x4) (x5 := x5) O P0 P1 P2 P3 P4 P5 G0 G1 N0_1) (W := 0) (by decide) (by decide) (k' := 0) rfl (n' := 0) rfl (by decide) (by decide) rfl pd_111 (argsL := []) rfl (rest := []) rfl rfl rfl d8_1 (q := 4) rfl ?_
  rintro _ T1 _ X2 ⟨rfl, rfl⟩
  refine g_dstoreN C X2 d8_4 (q := 5) rfl (L' := #[.val (.ref o0), .val (.double x4), .second]) rfl ?_
  refine g_aloadN C X2 d8_5 (q := 6) rfl rfl rfl ?_
  refine g_aloadN C X2 d8_6 (q := 7) rfl rfl rfl ?_
  refine g_aloadN C X2 d8_7 (q := 8) rfl rfl rfl ?_
  refine g_getF C X2 (host := "") (Or.inl (w25 hw)) Via.refl P3 d8_8 (q := 11) rfl ?_
  intro T3 X4
  refine g_callP1 C X4 (y := (⟨"com/example/rondel/rondel/primitive/DoubleRingBuffer", "next", "(I)I"⟩ : MethodName)) (a := o0) (by decide) (w29 hw) (sel_priv (w3 hw) (w30 hw) (w31 hw) (by decide)) (w30 hw) (w31 hw) P0 (w32 hw) (w4 hw) (rm_next_3 hw (o0 := o0) (o1 := o1) (i2 := i2) (kc3 := kc3) (x4 := x4) (x5 := x5) O P0 P1 P2 P3 P4 P5 G0 G1 N0_1) (W := 1) (by decide) (by decide) (k' := 0) rfl (n' := 0) rfl (by decide) (by decide) rfl pd_40 (argsL := [(.int (0 : Int32))]) rfl (rest := [(.ref o0)]) rfl rfl rfl d8_11 (q := 14) rfl ?_
  rintro _ T5 _ X6 ⟨rfl, rfl⟩
  refine g_putF C X6 (host := "") (Or.inl (w25 hw)) Via.refl P3 P0 (Or.inl (w26 hw)) (w3 hw) (ty := .int) (by decide) rfl rfl d8_14 (q := 17) rfl G0 ?_
  intro T7 h9 X8 W10
  have FW10 := Fld.same W10 P3
  have O11 := O.wr W10 G0
  refine g_aloadN C X8 d8_17 (q := 18) rfl rfl rfl ?_
  refine g_dup C X8 d8_18 (q := 19) rfl rfl ?_
  have f12 := (P2.other W10 (Or.inr (slot_ne (Or.inl (w20 hw)) (Or.inl (w26 hw)) (by decide) (t := .int) (t' := .int) (by decide) (by decide))))
  refine g_getF C X8 (host := "") (Or.inl (w19 hw)) Via.refl f12 d8_19 (q := 22) rfl ?_
  intro T13 X14
  refine g_iconst C X14 d8_22 (q := 23) rfl (z := (1 : Int32)) rfl ?_
  refine g_isub C X14 d8_23 (q := 24) rfl (z := (0 : Int32)) (by decide) ?_
  have f15 := (P0.wr W10)
  refine g_putF C X14 (host := "") (Or.inl (w19 hw)) Via.refl f12 f15 (Or.inl (w20 hw)) (w3 hw) (ty := .int) (by decide) rfl rfl d8_24 (q := 27) rfl G0 ?_
  intro T16 h18 X17 W19
  have FW19 := Fld.same W19 f12
  have O20 := O11.wr W19 G0
  refine g_aloadN C X17 d8_27 (q := 28) rfl rfl rfl ?_
  refine g_dup C X17 d8_28 (q := 29) rfl rfl ?_
  have f21 := ((P4.other W10 (Or.inr (slot_ne (Or.inl (w28 hw)) (Or.inl (w26 hw)) (by decide) (t := .int) (t' := .int) (by decide) (by decide)))).other W19 (Or.inr (slot_ne (Or.inl (w28 hw)) (Or.inl (w20 hw)) (by decide) (t := .int) (t' := .int) (by decide) (by decide))))
  refine g_getF C X17 (host := "") (Or.inl (w27 hw)) Via.refl f21 d8_29 (q := 32) rfl ?_
  intro T22 X23
  refine g_iconst C X23 d8_32 (q := 33) rfl (z := (1 : Int32)) rfl ?_
  refine g_iadd C X23 d8_33 (q := 34) rfl (z := (i2 + (1 : Int32))) rfl ?_
  have f24 := (f15.wr W19)
  refine g_putF C X23 (host := "") (Or.inl (w27 hw)) Via.refl f21 f24 (Or.inl (w28 hw)) (w3 hw) (ty := .int) (by decide) rfl rfl d8_34 (q := 37) rfl G0 ?_
  intro T25 h27 X26 W28
  have FW28 := Fld.same W28 f21
  have O29 := O20.wr W28 G0
  refine g_dloadN C X26 d8_37 (q := 38) rfl rfl ?_
  exact g_retD C X26 d8_38 (by decide) (by decide) ⟨_, rfl, rfl, ((((Keep.refl h0 [o0]).wr W10 (Or.inl (List.mem_of_getElem? (i := 0) rfl))).wr W19 (Or.inl (List.mem_of_getElem? (i := 0) rfl))).wr W28 (Or.inl (List.mem_of_getElem? (i := 0) rfl))), (f24.wr W28), (((P1.other W10 (Or.inr (slot_ne (Or.inr (w13 hw)) (Or.inl (w26 hw)) (by decide) (t := (.array .double)) (t' := .int) (by decide) (by decide)))).other W19 (Or.inr (slot_ne (Or.inr (w13 hw)) (Or.inl (w20 hw)) (by decide) (t := (.array .double)) (t' := .int) (by decide) (by decide)))).other W28 (Or.inr (slot_ne (Or.inr (w13 hw)) (Or.inl (w28 hw)) (by decide) (t := (.array .double)) (t' := .int) (by decide) (by decide)))), (FW19.other W28 (Or.inr (slot_ne (Or.inl (w20 hw)) (Or.inl (w28 hw)) (by decide) (t := .int) (t' := .int) (by decide) (by decide)))), ((FW10.other W19 (Or.inr (slot_ne (Or.inl (w26 hw)) (Or.inl (w20 hw)) (by decide) (t := .int) (t' := .int) (by decide) (by decide)))).other W28 (Or.inr (slot_ne (Or.inl (w26 hw)) (Or.inl (w28 hw)) (by decide) (t := .int) (t' := .int) (by decide) (by decide)))), FW28⟩
set_option maxRecDepth 65536 in
set_option maxHeartbeats 40000000 in
theorem rm_isFull_6 {l : Launch} {Z : State} {a0 : Array Value} (hw : ∀ d ∈ tables_1, d.before a0 Z = true) {o0 : Addr} {o1 : Addr} {i2 : Int32} {kc3 : ClassId} {x4 : UInt64} {x5 : UInt64} {h0 : Heap} {n0 : Nat} (O : Old Z n0 h0)  (P0 : Exa Z h0 o0 "com/example/rondel/rondel/primitive/DoubleRingBuffer") (P1 : Fld Z h0 o0 "com/example/rondel/rondel/primitive/DoubleRingBuffer" "readings" "[D" (.ref o1)) (P2 : Fld Z h0 o0 "com/example/rondel/rondel/primitive/DoubleRingBuffer" "size" "I" (.int (0 : Int32))) (P3 : Fld Z h0 o0 "com/example/rondel/rondel/primitive/DoubleRingBuffer" "head" "I" (.int (1 : Int32))) (P4 : Fld Z h0 o0 "com/example/rondel/rondel/primitive/DoubleRingBuffer" "modCount" "I" (.int i2)) (P5 : Arv Z h0 o1 kc3 .double (2 : Int32) [(.double x4), (.double x5)] (.double 0)) (G0 : n0 ≤ o0) (G1 : n0 ≤ o1) (N0_1 : o0 ≠ o1) :
    Met1 l Z (⟨"com/example/rondel/rondel/primitive/DoubleRingBuffer", "isFull", "()Z"⟩ : MethodName) prog_11_method_5_code 1 (some .boolean) ({ frames := 0, cells := 0, slots := 0, locals := 0 } : Room) #[(.ref o0)] h0 n0 (fun v h => v = (.int (0 : Int32)) ∧ h0 = h) := by
  refine met_of (L := #[.val (.ref o0)]) (plainFor_of_name pn_10) (fun m => by first | (simp [entryFrame, mkF, argsToLocals, Value.category]; done) | rfl) ?_
  intro p e s m below meth c T C X
  change Cx p s m meth c Z "com/example/rondel/rondel/primitive/DoubleRingBuffer" prog_11_method_5_code 1 (some .boolean) "isFull" at C
  refine g_aloadN C X d7_0 (q := 1) rfl rfl rfl ?_
  refine g_getF C X (host := "") (Or.inl (w19 hw)) Via.refl P2 d7_1 (q := 4) rfl ?_
  intro T1 X2
  refine g_aloadN C X2 d7_4 (q := 5) rfl rfl rfl ?_
  refine g_getF C X2 (host := "") (Or.inl (w12 hw)) Via.refl P1 d7_5 (q := 8) rfl ?_
  intro T3 X4
  refine g_alen C X4 P5 d7_8 (q := 9) rfl ?_
  refine g_icY C X4 d7_9 (by decide) (q := 16) (by decide) (by decide) ?_
  refine g_iconst C X4 d7_16 (q := 17) rfl (z := (0 : Int32)) rfl ?_
  exact g_retN C X4 (Or.inl rfl) (z' := (0 : Int32)) (by decide) d7_17 (by decide) (by decide) ⟨_, rfl, rfl, rfl⟩
set_option maxRecDepth 65536 in
set_option maxHeartbeats 40000000 in
theorem rm_min_11 {l : Launch} {Z : State} {a0 : Array Value} (hw : ∀ d ∈ tables_1, d.before a0 Z = true)  {h0 : Heap} {n0 : Nat} (O : Old Z n0 h0)  :
    Met1 l Z (⟨"java/lang/Math", "min", "(II)I"⟩ : MethodName) jdk_29_method_69_code 2 (some .int) ({ frames := 0, cells := 0, slots := 0, locals := 0 } : Room) #[(.int (0 : Int32)), (.int (2 : Int32))] h0 n0 (fun v h => v = (.int (0 : Int32)) ∧ h0 = h) := by
  refine met_of (L := #[.val (.int (0 : Int32)), .val (.int (2 : Int32))]) (Jvm.Free.JP.mathPlain rfl (by decide +kernel)) (fun m => by first | (simp [entryFrame, mkF, argsToLocals, Value.category]; done) | rfl) ?_
  intro p e s m below meth c T C X
  change Cx p s m meth c Z "java/lang/Math" jdk_29_method_69_code 2 (some .int) "min" at C
  refine g_iloadN C X d6_0 (q := 1) rfl rfl ?_
  refine g_iloadN C X d6_1 (q := 2) rfl rfl ?_
  refine g_icN C X d6_2 (q := 5) rfl (by decide) ?_
  refine g_iloadN C X d6_5 (q := 6) rfl rfl ?_
  refine g_goto C X d6_6 (by decide) (q := 10) (by decide) ?_
  exact g_retI C X d6_10 (by decide) (by decide) ⟨_, rfl, rfl, rfl⟩
set_option maxRecDepth 65536 in
set_option maxHeartbeats 40000000 in
theorem rm_isFull_7 {l : Launch} {Z : State} {a0 : Array Value} (hw : ∀ d ∈ tables_1, d.before a0 Z = true) {o0 : Addr} {o1 : Addr} {i2 : Int32} {kc3 : ClassId} {x4 : UInt64} {x5 : UInt64} {h0 : Heap} {n0 : Nat} (O : Old Z n0 h0)  (P0 : Exa Z h0 o0 "com/example/rondel/rondel/primitive/DoubleRingBuffer") (P1 : Fld Z h0 o0 "com/example/rondel/rondel/primitive/DoubleRingBuffer" "readings" "[D" (.ref o1)) (P2 : Fld Z h0 o0 "com/example/rondel/rondel/primitive/DoubleRingBuffer" "size" "I" (.int (0 : Int32))) (P3 : Fld Z h0 o0 "com/example/rondel/rondel/primitive/DoubleRingBuffer" "head" "I" (.int (0 : Int32))) (P4 : Fld Z h0 o0 "com/example/rondel/rondel/primitive/DoubleRingBuffer" "modCount" "I" (.int i2)) (P5 : Arv Z h0 o1 kc3 .double (2 : Int32) [(.double x4), (.double x5)] (.double 0)) (G0 : n0 ≤ o0) (G1 : n0 ≤ o1) (N0_1 : o0 ≠ o1) :
    Met1 l Z (⟨"com/example/rondel/rondel/primitive/DoubleRingBuffer", "isFull", "()Z"⟩ : MethodName) prog_11_method_5_code 1 (some .boolean) ({ frames := 0, cells := 0, slots := 0, locals := 0 } : Room) #[(.ref o0)] h0 n0 (fun v h => v = (.int (0 : Int32)) ∧ h0 = h) := by
  refine met_of (L := #[.val (.ref o0)]) (plainFor_of_name pn_10) (fun m => by first | (simp [entryFrame, mkF, argsToLocals, Value.category]; done) | rfl) ?_
  intro p e s m below meth c T C X
  change Cx p s m meth c Z "com/example/rondel/rondel/primitive/DoubleRingBuffer" prog_11_method_5_code 1 (some .boolean) "isFull" at C
  refine g_aloadN C X d7_0 (q := 1) rfl rfl rfl ?_
  refine g_getF C X (host := "") (Or.inl (w19 hw)) Via.refl P2 d7_1 (q := 4) rfl ?_
  intro T1 X2
  refine g_aloadN C X2 d7_4 (q := 5) rfl rfl rfl ?_
  refine g_getF C X2 (host := "") (Or.inl (w12 hw)) Via.refl P1 d7_5 (q := 8) rfl ?_
  intro T3 X4
  refine g_alen C X4 P5 d7_8 (q := 9) rfl ?_
  refine g_icY C X4 d7_9 (by decide) (q := 16) (by decide) (by decide) ?_
  refine g_iconst C X4 d7_16 (q := 17) rfl (z := (0 : Int32)) rfl ?_
  exact g_retN C X4 (Or.inl rfl) (z' := (0 : Int32)) (by decide) d7_17 (by decide) (by decide) ⟨_, rfl, rfl, rfl⟩
set_option maxRecDepth 65536 in
set_option maxHeartbeats 40000000 in
theorem rm_init_2 {l : Launch} {Z : State} {a0 : Array Value} (hw : ∀ d ∈ tables_1, d.before a0 Z = true) {o0 : Addr} {i1 : Int32} {h0 : Heap} {n0 : Nat} (O : Old Z n0 h0)  (P0 : Exa Z h0 o0 "com/example/rondel/rondel/primitive/DoubleRingBuffer") (P1 : Fld Z h0 o0 "com/example/rondel/rondel/primitive/DoubleRingBuffer" "readings" "[D" .null) (P2 : Fld Z h0 o0 "com/example/rondel/rondel/primitive/DoubleRingBuffer" "size" "I" (.int (0 : Int32))) (P3 : Fld Z h0 o0 "com/example/rondel/rondel/primitive/DoubleRingBuffer" "head" "I" (.int (0 : Int32))) (P4 : Fld Z h0 o0 "com/example/rondel/rondel/primitive/DoubleRingBuffer" "modCount" "I" (.int i1)) (G0 : n0 ≤ o0) :
    Met0 l Z (⟨"com/example/rondel/rondel/primitive/DoubleRingBuffer", "<init>", "(I)V"⟩ : MethodName) prog_11_method_1_code 2 none ({ frames := 1, cells := 1, slots := 3, locals := 12 } : Room) #[(.ref o0), (.int (3 : Int32))] h0 n0 (fun h => ∃ b3 : Addr, ∃ kA6 : ClassId, Keep h0 h [o0] ∧ n0 ≤ b3 ∧ h0.size ≤ b3 ∧ Exa Z h o0 "com/example/rondel/rondel/primitive/DoubleRingBuffer" ∧ Fld Z h o0 "com/example/rondel/rondel/primitive/DoubleRingBuffer" "readings" "[D" (.ref b3) ∧ Fld Z h o0 "com/example/rondel/rondel/primitive/DoubleRingBuffer" "size" "I" (.int (0 : Int32)) ∧ Fld Z h o0 "com/example/rondel/rondel/primitive/DoubleRingBuffer" "head" "I" (.int (0 : Int32)) ∧ Fld Z h o0 "com/example/rondel/rondel/primitive/DoubleRingBuffer" "modCount" "I" (.int i1) ∧ Arv Z h b3 kA6 .double (3 : Int32) [(.double 0), (.double 0), (.double 0)] (.double 0)) := by
  refine met_of (L := #[.val (.ref o0), .val (.int (3 : Int32))]) (plainFor_of_name pn_10) (fun m => by first | (simp [entryFrame, mkF, argsToLocals, Value.category]; done) | rfl) ?_
  intro p e s m below meth c T C X
  change Cx p s m meth c Z "com/example/rondel/rondel/primitive/DoubleRingBuffer" prog_11_method_1_code 2 none "<init>" at C
  refine g_aloadN C X d1_0 (q := 1) rfl rfl rfl ?_
  refine g_initO C X (w8 hw) (w9 hw) (w10 hw) rfl d1_1 (q := 4) rfl (by decide) (by decide) ?_
  intro T1 X2
  refine g_iloadN C X2 d1_4 (q := 5) rfl rfl ?_
  refine g_iconst C X2 d1_5 (q := 6) rfl (z := (1 : Int32)) rfl ?_
  refine g_icY C X2 d1_6 (by decide) (q := 23) (by decide) (by decide) ?_
  refine g_aloadN C X2 d1_23 (q := 24) rfl rfl rfl ?_
  refine g_iloadN C X2 d1_24 (q := 25) rfl rfl ?_
  refine g_newP C X2 (w11 hw) rfl d1_25 (q := 27) rfl (by decide) (cap := 3) (by decide) (by decide) (k' := 1) rfl (n' := 3) rfl (by decide) (by decide) ?_
  intro T4 h5 kA6 b3 g8 X7 E9 V10
  have ge11 : n0 ≤ b3 := own_ge O g8
  have O12 := O.ext E9
  have V13 : Arv Z h5 b3 kA6 .double (3 : Int32) [(.double 0), (.double 0), (.double 0)] (.double 0) := Arv.pad V10 (pad_rep [] _ 3)
  have f14 := (P1.ext E9)
  have f15 := (P0.ext E9)
  refine g_putF C X7 (host := "") (Or.inl (w12 hw)) Via.refl f14 f15 (Or.inr ⟨(w13 hw), rfl, rfl⟩) (w3 hw) (ty := (.array .double)) (by decide) rfl rfl d1_27 (q := 30) rfl G0 ?_
  intro T16 h18 X17 W19
  have FW19 := Fld.same W19 f14
  have O20 := O12.wr W19 G0
  exact g_retV C X17 d1_30 (by decide) (by decide) ⟨rfl, b3, kA6, (((Keep.refl h0 [o0]).ext E9).wr W19 (Or.inl (List.mem_of_getElem? (i := 0) rfl))), ge11, (own_sz (Keep.refl h0 [o0]).1 g8), (f15.wr W19), FW19, ((P2.ext E9).other W19 (Or.inr (slot_ne (Or.inl (w20 hw)) (Or.inr (w13 hw)) (by decide) (t := .int) (t' := (.array .double)) (by decide) (by decide)))), ((P3.ext E9).other W19 (Or.inr (slot_ne (Or.inl (w26 hw)) (Or.inr (w13 hw)) (by decide) (t := .int) (t' := (.array .double)) (by decide) (by decide)))), ((P4.ext E9).other W19 (Or.inr (slot_ne (Or.inl (w28 hw)) (Or.inr (w13 hw)) (by decide) (t := .int) (t' := (.array .double)) (by decide) (by decide)))), (V13.other W19 (Ne.symm (own_ne P0.lt g8)))⟩
set_option maxRecDepth 65536 in
set_option maxHeartbeats 40000000 in
theorem rm_slot_3 {l : Launch} {Z : State} {a0 : Array Value} (hw : ∀ d ∈ tables_1, d.before a0 Z = true) {o0 : Addr} {o1 : Addr} {i2 : Int32} {kc3 : ClassId} {x4 : UInt64} {x5 : UInt64} {x6 : UInt64} {h0 : Heap} {n0 : Nat} (O : Old Z n0 h0)  (P0 : Exa Z h0 o0 "com/example/rondel/rondel/primitive/DoubleRingBuffer") (P1 : Fld Z h0 o0 "com/example/rondel/rondel/primitive/DoubleRingBuffer" "readings" "[D" (.ref o1)) (P2 : Fld Z h0 o0 "com/example/rondel/rondel/primitive/DoubleRingBuffer" "size" "I" (.int (0 : Int32))) (P3 : Fld Z h0 o0 "com/example/rondel/rondel/primitive/DoubleRingBuffer" "head" "I" (.int (0 : Int32))) (P4 : Fld Z h0 o0 "com/example/rondel/rondel/primitive/DoubleRingBuffer" "modCount" "I" (.int i2)) (P5 : Arv Z h0 o1 kc3 .double (3 : Int32) [(.double x4), (.double x5), (.double x6)] (.double 0)) (G0 : n0 ≤ o0) (G1 : n0 ≤ o1) (N0_1 : o0 ≠ o1) :
    Met1 l Z (⟨"com/example/rondel/rondel/primitive/DoubleRingBuffer", "slot", "(I)I"⟩ : MethodName) prog_11_method_18_code 3 (some .int) ({ frames := 0, cells := 0, slots := 0, locals := 0 } : Room) #[(.ref o0), (.int (0 : Int32))] h0 n0 (fun v h => v = (.int (0 : Int32)) ∧ h0 = h) := by
  refine met_of (L := #[.val (.ref o0), .val (.int (0 : Int32)), .unset]) (plainFor_of_name pn_10) (fun m => by first | (simp [entryFrame, mkF, argsToLocals, Value.category]; done) | rfl) ?_
  intro p e s m below meth c T C X
  change Cx p s m meth c Z "com/example/rondel/rondel/primitive/DoubleRingBuffer" prog_11_method_18_code 3 (some .int) "slot" at C
  refine g_aloadN C X d4_0 (q := 1) rfl rfl rfl ?_
  refine g_getF C X (host := "") (Or.inl (w12 hw)) Via.refl P1 d4_1 (q := 4) rfl ?_
  intro T1 X2
  refine g_alen C X2 P5 d4_4 (q := 5) rfl ?_
  refine g_aloadN C X2 d4_5 (q := 6) rfl rfl rfl ?_
  refine g_getF C X2 (host := "") (Or.inl (w25 hw)) Via.refl P3 d4_6 (q := 9) rfl ?_
  intro T3 X4
  refine g_isub C X4 d4_9 (q := 10) rfl (z := (3 : Int32)) (by decide) ?_
  refine g_istoreN C X4 d4_10 (q := 11) rfl (L' := #[.val (.ref o0), .val (.int (0 : Int32)), .val (.int (3 : Int32))]) rfl ?_
  refine g_iloadN C X4 d4_11 (q := 12) rfl rfl ?_
  refine g_iloadN C X4 d4_12 (q := 13) rfl rfl ?_
  refine g_icN C X4 d4_13 (q := 16) rfl (by decide) ?_
  refine g_aloadN C X4 d4_16 (q := 17) rfl rfl rfl ?_
  refine g_getF C X4 (host := "") (Or.inl (w25 hw)) Via.refl P3 d4_17 (q := 20) rfl ?_
  intro T5 X6
  refine g_iloadN C X6 d4_20 (q := 21) rfl rfl ?_
  refine g_iadd C X6 d4_21 (q := 22) rfl (z := (0 : Int32)) (by decide) ?_
  refine g_goto C X6 d4_22 (by decide) (q := 28) (by decide) ?_
  exact g_retI C X6 d4_28 (by decide) (by decide) ⟨_, rfl, rfl, rfl⟩
set_option maxRecDepth 65536 in
set_option maxHeartbeats 40000000 in
theorem rm_add_6 {l : Launch} {Z : State} {a0 : Array Value} (hw : ∀ d ∈ tables_1, d.before a0 Z = true) {o0 : Addr} {o1 : Addr} {i2 : Int32} {kc3 : ClassId} {x4 : UInt64} {x5 : UInt64} {x6 : UInt64} {x7 : UInt64} {h0 : Heap} {n0 : Nat} (O : Old Z n0 h0)  (P0 : Exa Z h0 o0 "com/example/rondel/rondel/primitive/DoubleRingBuffer") (P1 : Fld Z h0 o0 "com/example/rondel/rondel/primitive/DoubleRingBuffer" "readings" "[D" (.ref o1)) (P2 : Fld Z h0 o0 "com/example/rondel/rondel/primitive/DoubleRingBuffer" "size" "I" (.int (0 : Int32))) (P3 : Fld Z h0 o0 "com/example/rondel/rondel/primitive/DoubleRingBuffer" "head" "I" (.int (0 : Int32))) (P4 : Fld Z h0 o0 "com/example/rondel/rondel/primitive/DoubleRingBuffer" "modCount" "I" (.int i2)) (P5 : Arv Z h0 o1 kc3 .double (3 : Int32) [(.double x4), (.double x5), (.double x6)] (.double 0)) (G0 : n0 ≤ o0) (G1 : n0 ≤ o1) (N0_1 : o0 ≠ o1) :
    Met0 l Z (⟨"com/example/rondel/rondel/primitive/DoubleRingBuffer", "add", "(D)V"⟩ : MethodName) prog_11_method_6_code 3 none ({ frames := 1, cells := 0, slots := 0, locals := 15 } : Room) #[(.ref o0), (.double x7)] h0 n0 (fun h => Keep h0 h [o1, o0] ∧ Exa Z h o0 "com/example/rondel/rondel/primitive/DoubleRingBuffer" ∧ Fld Z h o0 "com/example/rondel/rondel/primitive/DoubleRingBuffer" "readings" "[D" (.ref o1) ∧ Fld Z h o0 "com/example/rondel/rondel/primitive/DoubleRingBuffer" "size" "I" (.int (1 : Int32)) ∧ Fld Z h o0 "com/example/rondel/rondel/primitive/DoubleRingBuffer" "head" "I" (.int (0 : Int32)) ∧ Fld Z h o0 "com/example/rondel/rondel/primitive/DoubleRingBuffer" "modCount" "I" (.int (i2 + (1 : Int32))) ∧ Arv Z h o1 kc3 .double (3 : Int32) [(.double x7), (.double x5), (.double x6)] (.double 0)) := by
  refine met_of (L := #[.val (.ref o0), .val (.double x7), .second]) (plainFor_of_name pn_10) (fun m => by first | (simp [entryFrame, mkF, argsToLocals, Value.category]; done) | rfl) ?_
  intro p e s m below meth c T C X
  change Cx p s m meth c Z "com/example/rondel/rondel/primitive/DoubleRingBuffer" prog_11_method_6_code 3 none "add" at C
  refine g_aloadN C X d3_0 (q := 1) rfl rfl rfl ?_
  refine g_getF C X (host := "") (Or.inl (w19 hw)) Via.refl P2 d3_1 (q := 4) rfl ?_
  intro T1 X2
  refine g_aloadN C X2 d3_4 (q := 5) rfl rfl rfl ?_
  refine g_getF C X2 (host := "") (Or.inl (w12 hw)) Via.refl P1 d3_5 (q := 8) rfl ?_
  intro T3 X4
  refine g_alen C X4 P5 d3_8 (q := 9) rfl ?_
  refine g_icY C X4 d3_9 (by decide) (q := 37) (by decide) (by decide) ?_
  refine g_aloadN C X4 d3_37 (q := 38) rfl rfl rfl ?_
  refine g_getF C X4 (host := "") (Or.inl (w12 hw)) Via.refl P1 d3_38 (q := 41) rfl ?_
  intro T5 X6
  refine g_aloadN C X6 d3_41 (q := 42) rfl rfl rfl ?_
  refine g_aloadN C X6 d3_42 (q := 43) rfl rfl rfl ?_
  refine g_getF C X6 (host := "") (Or.inl (w19 hw)) Via.refl P2 d3_43 (q := 46) rfl ?_
  intro T7 X8
  refine g_callP1 C X8 (y := (⟨"com/example/rondel/rondel/primitive/DoubleRingBuffer", "slot", "(I)I"⟩ : MethodName)) (a := o0) (by decide) (w21 hw) (sel_priv (w3 hw) (w22 hw) (w23 hw) (by decide)) (w22 hw) (w23 hw) P0 (w24 hw) (w4 hw) (rm_slot_3 hw (o0 := o0) (o1 := o1) (i2 := i2) (kc3 := kc3) (x4 := x4) (x5 := x5) (x6 := x6) O P0 P1 P2 P3 P4 P5 G0 G1 N0_1) (W := 1) (by decide) (by decide) (k' := 0) rfl (n' := 0) rfl (by decide) (by decide) rfl pd_40 (argsL := [(.int (0 : Int32))]) rfl (rest := [(.ref o1)]) rfl rfl rfl d3_46 (q := 49) rfl ?_
  rintro _ T9 _ X10 ⟨rfl, rfl⟩
  refine g_dloadN C X10 d3_49 (q := 50) rfl rfl ?_
  refine g_dastore C X10 P5 (by decide) (i := 0) (by decide) (Nat.le_of_ble_eq_true rfl) (vs' := [(.double x7), (.double x5), (.double x6)]) rfl G1 d3_50 (q := 51) rfl ?_
  intro T11 h12 X13 W14 V15
  have O16 := O.wr W14 G1
  refine g_aloadN C X13 d3_51 (q := 52) rfl rfl rfl ?_
  refine g_dup C X13 d3_52 (q := 53) rfl rfl ?_
  have f17 := (P2.other W14 (Or.inl N0_1))
  refine g_getF C X13 (host := "") (Or.inl (w19 hw)) Via.refl f17 d3_53 (q := 56) rfl ?_
  intro T18 X19
  refine g_iconst C X19 d3_56 (q := 57) rfl (z := (1 : Int32)) rfl ?_
  refine g_iadd C X19 d3_57 (q := 58) rfl (z := (1 : Int32)) (by decide) ?_
  have f20 := (P0.wr W14)
  refine g_putF C X19 (host := "") (Or.inl (w19 hw)) Via.refl f17 f20 (Or.inl (w20 hw)) (w3 hw) (ty := .int) (by decide) rfl rfl d3_58 (q := 61) rfl G0 ?_
  intro T21 h23 X22 W24
  have FW24 := Fld.same W24 f17
  have O25 := O16.wr W24 G0
  refine g_aloadN C X22 d3_61 (q := 62) rfl rfl rfl ?_
  refine g_dup C X22 d3_62 (q := 63) rfl rfl ?_
  have f26 := ((P4.other W14 (Or.inl N0_1)).other W24 (Or.inr (slot_ne (Or.inl (w28 hw)) (Or.inl (w20 hw)) (by decide) (t := .int) (t' := .int) (by decide) (by decide))))
  refine g_getF C X22 (host := "") (Or.inl (w27 hw)) Via.refl f26 d3_63 (q := 66) rfl ?_
  intro T27 X28
  refine g_iconst C X28 d3_66 (q := 67) rfl (z := (1 : Int32)) rfl ?_
  refine g_iadd C X28 d3_67 (q := 68) rfl (z := (i2 + (1 : Int32))) rfl ?_
  have f29 := (f20.wr W24)
  refine g_putF C X28 (host := "") (Or.inl (w27 hw)) Via.refl f26 f29 (Or.inl (w28 hw)) (w3 hw) (ty := .int) (by decide) rfl rfl d3_68 (q := 71) rfl G0 ?_
  intro T30 h32 X31 W33
  have FW33 := Fld.same W33 f26
  have O34 := O25.wr W33 G0
  exact g_retV C X31 d3_71 (by decide) (by decide) ⟨rfl, ((((Keep.refl h0 [o1, o0]).wr W14 (Or.inl (List.mem_of_getElem? (i := 0) rfl))).wr W24 (Or.inl (List.mem_of_getElem? (i := 1) rfl))).wr W33 (Or.inl (List.mem_of_getElem? (i := 1) rfl))), (f29.wr W33), (((P1.other W14 (Or.inl N0_1)).other W24 (Or.inr (slot_ne (Or.inr (w13 hw)) (Or.inl (w20 hw)) (by decide) (t := (.array .double)) (t' := .int) (by decide) (by decide)))).other W33 (Or.inr (slot_ne (Or.inr (w13 hw)) (Or.inl (w28 hw)) (by decide) (t := (.array .double)) (t' := .int) (by decide) (by decide)))), (FW24.other W33 (Or.inr (slot_ne (Or.inl (w20 hw)) (Or.inl (w28 hw)) (by decide) (t := .int) (t' := .int) (by decide) (by decide)))), (((P3.other W14 (Or.inl N0_1)).other W24 (Or.inr (slot_ne (Or.inl (w26 hw)) (Or.inl (w20 hw)) (by decide) (t := .int) (t' := .int) (by decide) (by decide)))).other W33 (Or.inr (slot_ne (Or.inl (w26 hw)) (Or.inl (w28 hw)) (by decide) (t := .int) (t' := .int) (by decide) (by decide)))), FW33, ((V15.other W24 (Ne.symm N0_1)).other W33 (Ne.symm N0_1))⟩
set_option maxRecDepth 65536 in
set_option maxHeartbeats 40000000 in
theorem rm_slot_4 {l : Launch} {Z : State} {a0 : Array Value} (hw : ∀ d ∈ tables_1, d.before a0 Z = true) {o0 : Addr} {o1 : Addr} {i2 : Int32} {kc3 : ClassId} {x4 : UInt64} {x5 : UInt64} {x6 : UInt64} {h0 : Heap} {n0 : Nat} (O : Old Z n0 h0)  (P0 : Exa Z h0 o0 "com/example/rondel/rondel/primitive/DoubleRingBuffer") (P1 : Fld Z h0 o0 "com/example/rondel/rondel/primitive/DoubleRingBuffer" "readings" "[D" (.ref o1)) (P2 : Fld Z h0 o0 "com/example/rondel/rondel/primitive/DoubleRingBuffer" "size" "I" (.int (1 : Int32))) (P3 : Fld Z h0 o0 "com/example/rondel/rondel/primitive/DoubleRingBuffer" "head" "I" (.int (0 : Int32))) (P4 : Fld Z h0 o0 "com/example/rondel/rondel/primitive/DoubleRingBuffer" "modCount" "I" (.int i2)) (P5 : Arv Z h0 o1 kc3 .double (3 : Int32) [(.double x4), (.double x5), (.double x6)] (.double 0)) (G0 : n0 ≤ o0) (G1 : n0 ≤ o1) (N0_1 : o0 ≠ o1) :
    Met1 l Z (⟨"com/example/rondel/rondel/primitive/DoubleRingBuffer", "slot", "(I)I"⟩ : MethodName) prog_11_method_18_code 3 (some .int) ({ frames := 0, cells := 0, slots := 0, locals := 0 } : Room) #[(.ref o0), (.int (1 : Int32))] h0 n0 (fun v h => v = (.int (1 : Int32)) ∧ h0 = h) := by
  refine met_of (L := #[.val (.ref o0), .val (.int (1 : Int32)), .unset]) (plainFor_of_name pn_10) (fun m => by first | (simp [entryFrame, mkF, argsToLocals, Value.category]; done) | rfl) ?_
  intro p e s m below meth c T C X
  change Cx p s m meth c Z "com/example/rondel/rondel/primitive/DoubleRingBuffer" prog_11_method_18_code 3 (some .int) "slot" at C
  refine g_aloadN C X d4_0 (q := 1) rfl rfl rfl ?_
  refine g_getF C X (host := "") (Or.inl (w12 hw)) Via.refl P1 d4_1 (q := 4) rfl ?_
  intro T1 X2
  refine g_alen C X2 P5 d4_4 (q := 5) rfl ?_
  refine g_aloadN C X2 d4_5 (q := 6) rfl rfl rfl ?_
  refine g_getF C X2 (host := "") (Or.inl (w25 hw)) Via.refl P3 d4_6 (q := 9) rfl ?_
  intro T3 X4
  refine g_isub C X4 d4_9 (q := 10) rfl (z := (3 : Int32)) (by decide) ?_
  refine g_istoreN C X4 d4_10 (q := 11) rfl (L' := #[.val (.ref o0), .val (.int (1 : Int32)), .val (.int (3 : Int32))]) rfl ?_
  refine g_iloadN C X4 d4_11 (q := 12) rfl rfl ?_
  refine g_iloadN C X4 d4_12 (q := 13) rfl rfl ?_
  refine g_icN C X4 d4_13 (q := 16) rfl (by decide) ?_
  refine g_aloadN C X4 d4_16 (q := 17) rfl rfl rfl ?_
  refine g_getF C X4 (host := "") (Or.inl (w25 hw)) Via.refl P3 d4_17 (q := 20) rfl ?_
  intro T5 X6
  refine g_iloadN C X6 d4_20 (q := 21) rfl rfl ?_
  refine g_iadd C X6 d4_21 (q := 22) rfl (z := (1 : Int32)) (by decide) ?_
  refine g_goto C X6 d4_22 (by decide) (q := 28) (by decide) ?_
  exact g_retI C X6 d4_28 (by decide) (by decide) ⟨_, rfl, rfl, rfl⟩
set_option maxRecDepth 65536 in
set_option maxHeartbeats 40000000 in
theorem rm_add_7 {l : Launch} {Z : State} {a0 : Array Value} (hw : ∀ d ∈ tables_1, d.before a0 Z = true) {o0 : Addr} {o1 : Addr} {i2 : Int32} {kc3 : ClassId} {x4 : UInt64} {x5 : UInt64} {x6 : UInt64} {x7 : UInt64} {h0 : Heap} {n0 : Nat} (O : Old Z n0 h0)  (P0 : Exa Z h0 o0 "com/example/rondel/rondel/primitive/DoubleRingBuffer") (P1 : Fld Z h0 o0 "com/example/rondel/rondel/primitive/DoubleRingBuffer" "readings" "[D" (.ref o1)) (P2 : Fld Z h0 o0 "com/example/rondel/rondel/primitive/DoubleRingBuffer" "size" "I" (.int (1 : Int32))) (P3 : Fld Z h0 o0 "com/example/rondel/rondel/primitive/DoubleRingBuffer" "head" "I" (.int (0 : Int32))) (P4 : Fld Z h0 o0 "com/example/rondel/rondel/primitive/DoubleRingBuffer" "modCount" "I" (.int i2)) (P5 : Arv Z h0 o1 kc3 .double (3 : Int32) [(.double x4), (.double x5), (.double x6)] (.double 0)) (G0 : n0 ≤ o0) (G1 : n0 ≤ o1) (N0_1 : o0 ≠ o1) :
    Met0 l Z (⟨"com/example/rondel/rondel/primitive/DoubleRingBuffer", "add", "(D)V"⟩ : MethodName) prog_11_method_6_code 3 none ({ frames := 1, cells := 0, slots := 0, locals := 15 } : Room) #[(.ref o0), (.double x7)] h0 n0 (fun h => Keep h0 h [o1, o0] ∧ Exa Z h o0 "com/example/rondel/rondel/primitive/DoubleRingBuffer" ∧ Fld Z h o0 "com/example/rondel/rondel/primitive/DoubleRingBuffer" "readings" "[D" (.ref o1) ∧ Fld Z h o0 "com/example/rondel/rondel/primitive/DoubleRingBuffer" "size" "I" (.int (2 : Int32)) ∧ Fld Z h o0 "com/example/rondel/rondel/primitive/DoubleRingBuffer" "head" "I" (.int (0 : Int32)) ∧ Fld Z h o0 "com/example/rondel/rondel/primitive/DoubleRingBuffer" "modCount" "I" (.int (i2 + (1 : Int32))) ∧ Arv Z h o1 kc3 .double (3 : Int32) [(.double x4), (.double x7), (.double x6)] (.double 0)) := by
  refine met_of (L := #[.val (.ref o0), .val (.double x7), .second]) (plainFor_of_name pn_10) (fun m => by first | (simp [entryFrame, mkF, argsToLocals, Value.category]; done) | rfl) ?_
  intro p e s m below meth c T C X
  change Cx p s m meth c Z "com/example/rondel/rondel/primitive/DoubleRingBuffer" prog_11_method_6_code 3 none "add" at C
  refine g_aloadN C X d3_0 (q := 1) rfl rfl rfl ?_
  refine g_getF C X (host := "") (Or.inl (w19 hw)) Via.refl P2 d3_1 (q := 4) rfl ?_
  intro T1 X2
  refine g_aloadN C X2 d3_4 (q := 5) rfl rfl rfl ?_
  refine g_getF C X2 (host := "") (Or.inl (w12 hw)) Via.refl P1 d3_5 (q := 8) rfl ?_
  intro T3 X4
  refine g_alen C X4 P5 d3_8 (q := 9) rfl ?_
  refine g_icY C X4 d3_9 (by decide) (q := 37) (by decide) (by decide) ?_
  refine g_aloadN C X4 d3_37 (q := 38) rfl rfl rfl ?_
  refine g_getF C X4 (host := "") (Or.inl (w12 hw)) Via.refl P1 d3_38 (q := 41) rfl ?_
  intro T5 X6
  refine g_aloadN C X6 d3_41 (q := 42) rfl rfl rfl ?_
  refine g_aloadN C X6 d3_42 (q := 43) rfl rfl rfl ?_
  refine g_getF C X6 (host := "") (Or.inl (w19 hw)) Via.refl P2 d3_43 (q := 46) rfl ?_
  intro T7 X8
  refine g_callP1 C X8 (y := (⟨"com/example/rondel/rondel/primitive/DoubleRingBuffer", "slot", "(I)I"⟩ : MethodName)) (a := o0) (by decide) (w21 hw) (sel_priv (w3 hw) (w22 hw) (w23 hw) (by decide)) (w22 hw) (w23 hw) P0 (w24 hw) (w4 hw) (rm_slot_4 hw (o0 := o0) (o1 := o1) (i2 := i2) (kc3 := kc3) (x4 := x4) (x5 := x5) (x6 := x6) O P0 P1 P2 P3 P4 P5 G0 G1 N0_1) (W := 1) (by decide) (by decide) (k' := 0) rfl (n' := 0) rfl (by decide) (by decide) rfl pd_40 (argsL := [(.int (1 : Int32))]) rfl (rest := [(.ref o1)]) rfl rfl rfl d3_46 (q := 49) rfl ?_
  rintro _ T9 _ X10 ⟨rfl, rfl⟩
  refine g_dloadN C X10 d3_49 (q := 50) rfl rfl ?_
  refine g_dastore C X10 P5 (by decide) (i := 1) (by decide) (Nat.le_of_ble_eq_true rfl) (vs' := [(.double x4), (.double x7), (.double x6)]) rfl G1 d3_50 (q := 51) rfl ?_
  intro T11 h12 X13 W14 V15
  have O16 := O.wr W14 G1
  refine g_aloadN C X13 d3_51 (q := 52) rfl rfl rfl ?_
  refine g_dup C X13 d3_52 (q := 53) rfl rfl ?_
  have f17 := (P2.other W14 (Or.inl N0_1))
  refine g_getF C X13 (host := "") (Or.inl (w19 hw)) Via.refl f17 d3_53 (q := 56) rfl ?_
  intro T18 X19
  refine g_iconst C X19 d3_56 (q := 57) rfl (z := (1 : Int32)) rfl ?_
  refine g_iadd C X19 d3_57 (q := 58) rfl (z := (2 : Int32)) (by decide) ?_
  have f20 := (P0.wr W14)
  refine g_putF C X19 (host := "") (Or.inl (w19 hw)) Via.refl f17 f20 (Or.inl (w20 hw)) (w3 hw) (ty := .int) (by decide) rfl rfl d3_58 (q := 61) rfl G0 ?_
  intro T21 h23 X22 W24
  have FW24 := Fld.same W24 f17
  have O25 := O16.wr W24 G0
  refine g_aloadN C X22 d3_61 (q := 62) rfl rfl rfl ?_
  refine g_dup C X22 d3_62 (q := 63) rfl rfl ?_
  have f26 := ((P4.other W14 (Or.inl N0_1)).other W24 (Or.inr (slot_ne (Or.inl (w28 hw)) (Or.inl (w20 hw)) (by decide) (t := .int) (t' := .int) (by decide) (by decide))))
  refine g_getF C X22 (host := "") (Or.inl (w27 hw)) Via.refl f26 d3_63 (q := 66) rfl ?_
  intro T27 X28
  refine g_iconst C X28 d3_66 (q := 67) rfl (z := (1 : Int32)) rfl ?_
  refine g_iadd C X28 d3_67 (q := 68) rfl (z := (i2 + (1 : Int32))) rfl ?_
  have f29 := (f20.wr W24)
  refine g_putF C X28 (host := "") (Or.inl (w27 hw)) Via.refl f26 f29 (Or.inl (w28 hw)) (w3 hw) (ty := .int) (by decide) rfl rfl d3_68 (q := 71) rfl G0 ?_
  intro T30 h32 X31 W33
  have FW33 := Fld.same W33 f26
  have O34 := O25.wr W33 G0
  exact g_retV C X31 d3_71 (by decide) (by decide) ⟨rfl, ((((Keep.refl h0 [o1, o0]).wr W14 (Or.inl (List.mem_of_getElem? (i := 0) rfl))).wr W24 (Or.inl (List.mem_of_getElem? (i := 1) rfl))).wr W33 (Or.inl (List.mem_of_getElem? (i := 1) rfl))), (f29.wr W33), (((P1.other W14 (Or.inl N0_1)).other W24 (Or.inr (slot_ne (Or.inr (w13 hw)) (Or.inl (w20 hw)) (by decide) (t := (.array .double)) (t' := .int) (by decide) (by decide)))).other W33 (Or.inr (slot_ne (Or.inr (w13 hw)) (Or.inl (w28 hw)) (by decide) (t := (.array .double)) (t' := .int) (by decide) (by decide)))), (FW24.other W33 (Or.inr (slot_ne (Or.inl (w20 hw)) (Or.inl (w28 hw)) (by decide) (t := .int) (t' := .int) (by decide) (by decide)))), (((P3.other W14 (Or.inl N0_1)).other W24 (Or.inr (slot_ne (Or.inl (w26 hw)) (Or.inl (w20 hw)) (by decide) (t := .int) (t' := .int) (by decide) (by decide)))).other W33 (Or.inr (slot_ne (Or.inl (w26 hw)) (Or.inl (w28 hw)) (by decide) (t := .int) (t' := .int) (by decide) (by decide)))), FW33, ((V15.other W24 (Ne.symm N0_1)).other W33 (Ne.symm N0_1))⟩
set_option maxRecDepth 65536 in
set_option maxHeartbeats 40000000 in
theorem rm_slot_5 {l : Launch} {Z : State} {a0 : Array Value} (hw : ∀ d ∈ tables_1, d.before a0 Z = true) {o0 : Addr} {o1 : Addr} {i2 : Int32} {kc3 : ClassId} {x4 : UInt64} {x5 : UInt64} {x6 : UInt64} {h0 : Heap} {n0 : Nat} (O : Old Z n0 h0)  (P0 : Exa Z h0 o0 "com/example/rondel/rondel/primitive/DoubleRingBuffer") (P1 : Fld Z h0 o0 "com/example/rondel/rondel/primitive/DoubleRingBuffer" "readings" "[D" (.ref o1)) (P2 : Fld Z h0 o0 "com/example/rondel/rondel/primitive/DoubleRingBuffer" "size" "I" (.int (2 : Int32))) (P3 : Fld Z h0 o0 "com/example/rondel/rondel/primitive/DoubleRingBuffer" "head" "I" (.int (0 : Int32))) (P4 : Fld Z h0 o0 "com/example/rondel/rondel/primitive/DoubleRingBuffer" "modCount" "I" (.int i2)) (P5 : Arv Z h0 o1 kc3 .double (3 : Int32) [(.double x4), (.double x5), (.double x6)] (.double 0)) (G0 : n0 ≤ o0) (G1 : n0 ≤ o1) (N0_1 : o0 ≠ o1) :
    Met1 l Z (⟨"com/example/rondel/rondel/primitive/DoubleRingBuffer", "slot", "(I)I"⟩ : MethodName) prog_11_method_18_code 3 (some .int) ({ frames := 0, cells := 0, slots := 0, locals := 0 } : Room) #[(.ref o0), (.int (2 : Int32))] h0 n0 (fun v h => v = (.int (2 : Int32)) ∧ h0 = h) := by
  refine met_of (L := #[.val (.ref o0), .val (.int (2 : Int32)), .unset]) (plainFor_of_name pn_10) (fun m => by first | (simp [entryFrame, mkF, argsToLocals, Value.category]; done) | rfl) ?_
  intro p e s m below meth c T C X
  change Cx p s m meth c Z "com/example/rondel/rondel/primitive/DoubleRingBuffer" prog_11_method_18_code 3 (some .int) "slot" at C
  refine g_aloadN C X d4_0 (q := 1) rfl rfl rfl ?_
  refine g_getF C X (host := "") (Or.inl (w12 hw)) Via.refl P1 d4_1 (q := 4) rfl ?_
  intro T1 X2
  refine g_alen C X2 P5 d4_4 (q := 5) rfl ?_
  refine g_aloadN C X2 d4_5 (q := 6) rfl rfl rfl ?_
  refine g_getF C X2 (host := "") (Or.inl (w25 hw)) Via.refl P3 d4_6 (q := 9) rfl ?_
  intro T3 X4
  refine g_isub C X4 d4_9 (q := 10) rfl (z := (3 : Int32)) (by decide) ?_
  refine g_istoreN C X4 d4_10 (q := 11) rfl (L' := #[.val (.ref o0), .val (.int (2 : Int32)), .val (.int (3 : Int32))]) rfl ?_
  refine g_iloadN C X4 d4_11 (q := 12) rfl rfl ?_
  refine g_iloadN C X4 d4_12 (q := 13) rfl rfl ?_
  refine g_icN C X4 d4_13 (q := 16) rfl (by decide) ?_
  refine g_aloadN C X4 d4_16 (q := 17) rfl rfl rfl ?_
  refine g_getF C X4 (host := "") (Or.inl (w25 hw)) Via.refl P3 d4_17 (q := 20) rfl ?_
  intro T5 X6
  refine g_iloadN C X6 d4_20 (q := 21) rfl rfl ?_
  refine g_iadd C X6 d4_21 (q := 22) rfl (z := (2 : Int32)) (by decide) ?_
  refine g_goto C X6 d4_22 (by decide) (q := 28) (by decide) ?_
  exact g_retI C X6 d4_28 (by decide) (by decide) ⟨_, rfl, rfl, rfl⟩
set_option maxRecDepth 65536 in
set_option maxHeartbeats 40000000 in
theorem rm_add_8 {l : Launch} {Z : State} {a0 : Array Value} (hw : ∀ d ∈ tables_1, d.before a0 Z = true) {o0 : Addr} {o1 : Addr} {i2 : Int32} {kc3 : ClassId} {x4 : UInt64} {x5 : UInt64} {x6 : UInt64} {x7 : UInt64} {h0 : Heap} {n0 : Nat} (O : Old Z n0 h0)  (P0 : Exa Z h0 o0 "com/example/rondel/rondel/primitive/DoubleRingBuffer") (P1 : Fld Z h0 o0 "com/example/rondel/rondel/primitive/DoubleRingBuffer" "readings" "[D" (.ref o1)) (P2 : Fld Z h0 o0 "com/example/rondel/rondel/primitive/DoubleRingBuffer" "size" "I" (.int (2 : Int32))) (P3 : Fld Z h0 o0 "com/example/rondel/rondel/primitive/DoubleRingBuffer" "head" "I" (.int (0 : Int32))) (P4 : Fld Z h0 o0 "com/example/rondel/rondel/primitive/DoubleRingBuffer" "modCount" "I" (.int i2)) (P5 : Arv Z h0 o1 kc3 .double (3 : Int32) [(.double x4), (.double x5), (.double x6)] (.double 0)) (G0 : n0 ≤ o0) (G1 : n0 ≤ o1) (N0_1 : o0 ≠ o1) :
    Met0 l Z (⟨"com/example/rondel/rondel/primitive/DoubleRingBuffer", "add", "(D)V"⟩ : MethodName) prog_11_method_6_code 3 none ({ frames := 1, cells := 0, slots := 0, locals := 15 } : Room) #[(.ref o0), (.double x7)] h0 n0 (fun h => Keep h0 h [o1, o0] ∧ Exa Z h o0 "com/example/rondel/rondel/primitive/DoubleRingBuffer" ∧ Fld Z h o0 "com/example/rondel/rondel/primitive/DoubleRingBuffer" "readings" "[D" (.ref o1) ∧ Fld Z h o0 "com/example/rondel/rondel/primitive/DoubleRingBuffer" "size" "I" (.int (3 : Int32)) ∧ Fld Z h o0 "com/example/rondel/rondel/primitive/DoubleRingBuffer" "head" "I" (.int (0 : Int32)) ∧ Fld Z h o0 "com/example/rondel/rondel/primitive/DoubleRingBuffer" "modCount" "I" (.int (i2 + (1 : Int32))) ∧ Arv Z h o1 kc3 .double (3 : Int32) [(.double x4), (.double x5), (.double x7)] (.double 0)) := by
  refine met_of (L := #[.val (.ref o0), .val (.double x7), .second]) (plainFor_of_name pn_10) (fun m => by first | (simp [entryFrame, mkF, argsToLocals, Value.category]; done) | rfl) ?_
  intro p e s m below meth c T C X
  change Cx p s m meth c Z "com/example/rondel/rondel/primitive/DoubleRingBuffer" prog_11_method_6_code 3 none "add" at C
  refine g_aloadN C X d3_0 (q := 1) rfl rfl rfl ?_
  refine g_getF C X (host := "") (Or.inl (w19 hw)) Via.refl P2 d3_1 (q := 4) rfl ?_
  intro T1 X2
  refine g_aloadN C X2 d3_4 (q := 5) rfl rfl rfl ?_
  refine g_getF C X2 (host := "") (Or.inl (w12 hw)) Via.refl P1 d3_5 (q := 8) rfl ?_
  intro T3 X4
  refine g_alen C X4 P5 d3_8 (q := 9) rfl ?_
  refine g_icY C X4 d3_9 (by decide) (q := 37) (by decide) (by decide) ?_
  refine g_aloadN C X4 d3_37 (q := 38) rfl rfl rfl ?_
  refine g_getF C X4 (host := "") (Or.inl (w12 hw)) Via.refl P1 d3_38 (q := 41) rfl ?_
  intro T5 X6
  refine g_aloadN C X6 d3_41 (q := 42) rfl rfl rfl ?_
  refine g_aloadN C X6 d3_42 (q := 43) rfl rfl rfl ?_
  refine g_getF C X6 (host := "") (Or.inl (w19 hw)) Via.refl P2 d3_43 (q := 46) rfl ?_
  intro T7 X8
  refine g_callP1 C X8 (y := (⟨"com/example/rondel/rondel/primitive/DoubleRingBuffer", "slot", "(I)I"⟩ : MethodName)) (a := o0) (by decide) (w21 hw) (sel_priv (w3 hw) (w22 hw) (w23 hw) (by decide)) (w22 hw) (w23 hw) P0 (w24 hw) (w4 hw) (rm_slot_5 hw (o0 := o0) (o1 := o1) (i2 := i2) (kc3 := kc3) (x4 := x4) (x5 := x5) (x6 := x6) O P0 P1 P2 P3 P4 P5 G0 G1 N0_1) (W := 1) (by decide) (by decide) (k' := 0) rfl (n' := 0) rfl (by decide) (by decide) rfl pd_40 (argsL := [(.int (2 : Int32))]) rfl (rest := [(.ref o1)]) rfl rfl rfl d3_46 (q := 49) rfl ?_
  rintro _ T9 _ X10 ⟨rfl, rfl⟩
  refine g_dloadN C X10 d3_49 (q := 50) rfl rfl ?_
  refine g_dastore C X10 P5 (by decide) (i := 2) (by decide) (Nat.le_of_ble_eq_true rfl) (vs' := [(.double x4), (.double x5), (.double x7)]) rfl G1 d3_50 (q := 51) rfl ?_
  intro T11 h12 X13 W14 V15
  have O16 := O.wr W14 G1
  refine g_aloadN C X13 d3_51 (q := 52) rfl rfl rfl ?_
  refine g_dup C X13 d3_52 (q := 53) rfl rfl ?_
  have f17 := (P2.other W14 (Or.inl N0_1))
  refine g_getF C X13 (host := "") (Or.inl (w19 hw)) Via.refl f17 d3_53 (q := 56) rfl ?_
  intro T18 X19
  refine g_iconst C X19 d3_56 (q := 57) rfl (z := (1 : Int32)) rfl ?_
  refine g_iadd C X19 d3_57 (q := 58) rfl (z := (3 : Int32)) (by decide) ?_
  have f20 := (P0.wr W14)
  refine g_putF C X19 (host := "") (Or.inl (w19 hw)) Via.refl f17 f20 (Or.inl (w20 hw)) (w3 hw) (ty := .int) (by decide) rfl rfl d3_58 (q := 61) rfl G0 ?_
  intro T21 h23 X22 W24
  have FW24 := Fld.same W24 f17
  have O25 := O16.wr W24 G0
  refine g_aloadN C X22 d3_61 (q := 62) rfl rfl rfl ?_
  refine g_dup C X22 d3_62 (q := 63) rfl rfl ?_
  have f26 := ((P4.other W14 (Or.inl N0_1)).other W24 (Or.inr (slot_ne (Or.inl (w28 hw)) (Or.inl (w20 hw)) (by decide) (t := .int) (t' := .int) (by decide) (by decide))))
  refine g_getF C X22 (host := "") (Or.inl (w27 hw)) Via.refl f26 d3_63 (q := 66) rfl ?_
  intro T27 X28
  refine g_iconst C X28 d3_66 (q := 67) rfl (z := (1 : Int32)) rfl ?_
  refine g_iadd C X28 d3_67 (q := 68) rfl (z := (i2 + (1 : Int32))) rfl ?_
  have f29 := (f20.wr W24)
  refine g_putF C X28 (host := "") (Or.inl (w27 hw)) Via.refl f26 f29 (Or.inl (w28 hw)) (w3 hw) (ty := .int) (by decide) rfl rfl d3_68 (q := 71) rfl G0 ?_
  intro T30 h32 X31 W33
  have FW33 := Fld.same W33 f26
  have O34 := O25.wr W33 G0
  exact g_retV C X31 d3_71 (by decide) (by decide) ⟨rfl, ((((Keep.refl h0 [o1, o0]).wr W14 (Or.inl (List.mem_of_getElem? (i := 0) rfl))).wr W24 (Or.inl (List.mem_of_getElem? (i := 1) rfl))).wr W33 (Or.inl (List.mem_of_getElem? (i := 1) rfl))), (f29.wr W33), (((P1.other W14 (Or.inl N0_1)).other W24 (Or.inr (slot_ne (Or.inr (w13 hw)) (Or.inl (w20 hw)) (by decide) (t := (.array .double)) (t' := .int) (by decide) (by decide)))).other W33 (Or.inr (slot_ne (Or.inr (w13 hw)) (Or.inl (w28 hw)) (by decide) (t := (.array .double)) (t' := .int) (by decide) (by decide)))), (FW24.other W33 (Or.inr (slot_ne (Or.inl (w20 hw)) (Or.inl (w28 hw)) (by decide) (t := .int) (t' := .int) (by decide) (by decide)))), (((P3.other W14 (Or.inl N0_1)).other W24 (Or.inr (slot_ne (Or.inl (w26 hw)) (Or.inl (w20 hw)) (by decide) (t := .int) (t' := .int) (by decide) (by decide)))).other W33 (Or.inr (slot_ne (Or.inl (w26 hw)) (Or.inl (w28 hw)) (by decide) (t := .int) (t' := .int) (by decide) (by decide)))), FW33, ((V15.other W24 (Ne.symm N0_1)).other W33 (Ne.symm N0_1))⟩
set_option maxRecDepth 65536 in
set_option maxHeartbeats 40000000 in
theorem rm_next_4 {l : Launch} {Z : State} {a0 : Array Value} (hw : ∀ d ∈ tables_1, d.before a0 Z = true) {o0 : Addr} {o1 : Addr} {i2 : Int32} {kc3 : ClassId} {x4 : UInt64} {x5 : UInt64} {x6 : UInt64} {h0 : Heap} {n0 : Nat} (O : Old Z n0 h0)  (P0 : Exa Z h0 o0 "com/example/rondel/rondel/primitive/DoubleRingBuffer") (P1 : Fld Z h0 o0 "com/example/rondel/rondel/primitive/DoubleRingBuffer" "readings" "[D" (.ref o1)) (P2 : Fld Z h0 o0 "com/example/rondel/rondel/primitive/DoubleRingBuffer" "size" "I" (.int (3 : Int32))) (P3 : Fld Z h0 o0 "com/example/rondel/rondel/primitive/DoubleRingBuffer" "head" "I" (.int (0 : Int32))) (P4 : Fld Z h0 o0 "com/example/rondel/rondel/primitive/DoubleRingBuffer" "modCount" "I" (.int i2)) (P5 : Arv Z h0 o1 kc3 .double (3 : Int32) [(.double x4), (.double x5), (.double x6)] (.double 0)) (G0 : n0 ≤ o0) (G1 : n0 ≤ o1) (N0_1 : o0 ≠ o1) :
    Met1 l Z (⟨"com/example/rondel/rondel/primitive/DoubleRingBuffer", "next", "(I)I"⟩ : MethodName) prog_11_method_19_code 2 (some .int) ({ frames := 0, cells := 0, slots := 0, locals := 0 } : Room) #[(.ref o0), (.int (0 : Int32))] h0 n0 (fun v h => v = (.int (1 : Int32)) ∧ h0 = h) := by
  refine met_of (L := #[.val (.ref o0), .val (.int (0 : Int32))]) (plainFor_of_name pn_10) (fun m => by first | (simp [entryFrame, mkF, argsToLocals, Value.category]; done) | rfl) ?_
  intro p e s m below meth c T C X
  change Cx p s m meth c Z "com/example/rondel/rondel/primitive/DoubleRingBuffer" prog_11_method_19_code 2 (some .int) "next" at C
  refine g_iloadN C X d5_0 (q := 1) rfl rfl ?_
  refine g_aloadN C X d5_1 (q := 2) rfl rfl rfl ?_
  refine g_getF C X (host := "") (Or.inl (w12 hw)) Via.refl P1 d5_2 (q := 5) rfl ?_
  intro T1 X2
  refine g_alen C X2 P5 d5_5 (q := 6) rfl ?_
  refine g_iconst C X2 d5_6 (q := 7) rfl (z := (1 : Int32)) rfl ?_
  refine g_isub C X2 d5_7 (q := 8) rfl (z := (2 : Int32)) (by decide) ?_
  refine g_icY C X2 d5_8 (by decide) (q := 15) (by decide) (by decide) ?_
  refine g_iloadN C X2 d5_15 (q := 16) rfl rfl ?_
  refine g_iconst C X2 d5_16 (q := 17) rfl (z := (1 : Int32)) rfl ?_
  refine g_iadd C X2 d5_17 (q := 18) rfl (z := (1 : Int32)) (by decide) ?_
  exact g_retI C X2 d5_18 (by decide) (by decide) ⟨_, rfl, rfl, rfl⟩
set_option maxRecDepth 65536 in
set_option maxHeartbeats 40000000 in
theorem rm_add_9 {l : Launch} {Z : State} {a0 : Array Value} (hw : ∀ d ∈ tables_1, d.before a0 Z = true) {o0 : Addr} {o1 : Addr} {i2 : Int32} {kc3 : ClassId} {x4 : UInt64} {x5 : UInt64} {x6 : UInt64} {x7 : UInt64} {h0 : Heap} {n0 : Nat} (O : Old Z n0 h0)  (P0 : Exa Z h0 o0 "com/example/rondel/rondel/primitive/DoubleRingBuffer") (P1 : Fld Z h0 o0 "com/example/rondel/rondel/primitive/DoubleRingBuffer" "readings" "[D" (.ref o1)) (P2 : Fld Z h0 o0 "com/example/rondel/rondel/primitive/DoubleRingBuffer" "size" "I" (.int (3 : Int32))) (P3 : Fld Z h0 o0 "com/example/rondel/rondel/primitive/DoubleRingBuffer" "head" "I" (.int (0 : Int32))) (P4 : Fld Z h0 o0 "com/example/rondel/rondel/primitive/DoubleRingBuffer" "modCount" "I" (.int i2)) (P5 : Arv Z h0 o1 kc3 .double (3 : Int32) [(.double x4), (.double x5), (.double x6)] (.double 0)) (G0 : n0 ≤ o0) (G1 : n0 ≤ o1) (N0_1 : o0 ≠ o1) :
    Met0 l Z (⟨"com/example/rondel/rondel/primitive/DoubleRingBuffer", "add", "(D)V"⟩ : MethodName) prog_11_method_6_code 3 none ({ frames := 1, cells := 0, slots := 0, locals := 14 } : Room) #[(.ref o0), (.double x7)] h0 n0 (fun h => Keep h0 h [o1, o0] ∧ Exa Z h o0 "com/example/rondel/rondel/primitive/DoubleRingBuffer" ∧ Fld Z h o0 "com/example/rondel/rondel/primitive/DoubleRingBuffer" "readings" "[D" (.ref o1) ∧ Fld Z h o0 "com/example/rondel/rondel/primitive/DoubleRingBuffer" "size" "I" (.int (3 : Int32)) ∧ Fld Z h o0 "com/example/rondel/rondel/primitive/DoubleRingBuffer" "head" "I" (.int (1 : Int32)) ∧ Fld Z h o0 "com/example/rondel/rondel/primitive/DoubleRingBuffer" "modCount" "I" (.int (i2 + (1 : Int32))) ∧ Arv Z h o1 kc3 .double (3 : Int32) [(.double x7), (.double x5), (.double x6)] (.double 0)) := by
  refine met_of (L := #[.val (.ref o0), .val (.double x7), .second]) (plainFor_of_name pn_10) (fun m => by first | (simp [entryFrame, mkF, argsToLocals, Value.category]; done) | rfl) ?_
  intro p e s m below meth c T C X
  change Cx p s m meth c Z "com/example/rondel/rondel/primitive/DoubleRingBuffer" prog_11_method_6_code 3 none "add" at C
  refine g_aloadN C X d3_0 (q := 1) rfl rfl rfl ?_
  refine g_getF C X (host := "") (Or.inl (w19 hw)) Via.refl P2 d3_1 (q := 4) rfl ?_
  intro T1 X2
  refine g_aloadN C X2 d3_4 (q := 5) rfl rfl rfl ?_
  refine g_getF C X2 (host := "") (Or.inl (w12 hw)) Via.refl P1 d3_5 (q := 8) rfl ?_
  intro T3 X4
  refine g_alen C X4 P5 d3_8 (q := 9) rfl ?_
  refine g_icN C X4 d3_9 (q := 12) rfl (by decide) ?_
  refine g_aloadN C X4 d3_12 (q := 13) rfl rfl rfl ?_
  refine g_getF C X4 (host := "") (Or.inl (w12 hw)) Via.refl P1 d3_13 (q := 16) rfl ?_
  intro T5 X6
  refine g_aloadN C X6 d3_16 (q := 17) rfl rfl rfl ?_
  refine g_getF C X6 (host := "") (Or.inl (w25 hw)) Via.refl P3 d3_17 (q := 20) rfl ?_
  intro T7 X8
  refine g_dloadN C X8 d3_20 (q := 21) rfl rfl ?_
  refine g_dastore C X8 P5 (by decide) (i := 0) (by decide) (Nat.le_of_ble_eq_true rfl) (vs' := [(.double x7), (.double x5), (.double x6)]) rfl G1 d3_21 (q := 22) rfl ?_
  intro T9 h10 X11 W12 V13
  have O14 := O.wr W12 G1
  refine g_aloadN C X11 d3_22 (q := 23) rfl rfl rfl ?_
  refine g_aloadN C X11 d3_23 (q := 24) rfl rfl rfl ?_
  refine g_aloadN C X11 d3_24 (q := 25) rfl rfl rfl ?_
  have f15 := (P3.other W12 (Or.inl N0_1))
  refine g_getF C X11 (host := "") (Or.inl (w25 hw)) Via.refl f15 d3_25 (q := 28) rfl ?_
  intro T16 X17
  have f18 := (P0.wr W12)
  have f19 := (P1.other W12 (Or.inl N0_1))
  have f20 := (P2.other W12 (Or.inl N0_1))
  have f21 := (P4.other W12 (Or.inl N0_1))
  refine g_callP1 C X17 (y := (⟨"com/example/rondel/rondel/primitive/DoubleRingBuffer", "next", "(I)I"⟩ : MethodName)) (a := o0) (by decide) (w29 hw) (sel_priv (w3 hw) (w30 hw) (w31 hw) (by decide)) (w30 hw) (w31 hw) f18 (w32 hw) (w4 hw) (rm_next_4 hw (o0 := o0) (o1 := o1) (i2 := i2) (kc3 := kc3) (x4 := x7) (x5 := x5) (x6 := x6) O14 f18 f19 f20 f15 f21 V13 G0 G1 N0_1) (W := 1) (by decide) (by decide) (k' := 0) rfl (n' := 0) rfl (by decide) (by decide) rfl pd_40 (argsL := [(.int (0 : Int32))]) rfl (rest := [(.ref o0)]) rfl rfl rfl d3_28 (q := 31) rfl ?_
  rintro _ T22 _ X23 ⟨rfl, rfl⟩
  refine g_putF C X23 (host := "") (Or.inl (w25 hw)) Via.refl f15 f18 (Or.inl (w26 hw)) (w3 hw) (ty := .int) (by decide) rfl rfl d3_31 (q := 34) rfl G0 ?_
  intro T24 h26 X25 W27
  have FW27 := Fld.same W27 f15
  have O28 := O14.wr W27 G0
  refine g_goto C X25 d3_34 (by decide) (q := 61) (by decide) ?_
  refine g_aloadN C X25 d3_61 (q := 62) rfl rfl rfl ?_
  refine g_dup C X25 d3_62 (q := 63) rfl rfl ?_
  have f29 := (f21.other W27 (Or.inr (slot_ne (Or.inl (w28 hw)) (Or.inl (w26 hw)) (by decide) (t := .int) (t' := .int) (by decide) (by decide))))
  refine g_getF C X25 (host := "") (Or.inl (w27 hw)) Via.refl f29 d3_63 (q := 66) rfl ?_
  intro T30 X31
  refine g_iconst C X31 d3_66 (q := 67) rfl (z := (1 : Int32)) rfl ?_
  refine g_iadd C X31 d3_67 (q := 68) rfl (z := (i2 + (1 : Int32))) rfl ?_
  have f32 := (f18.wr W27)
  refine g_putF C X31 (host := "") (Or.inl (w27 hw)) Via.refl f29 f32 (Or.inl (w28 hw)) (w3 hw) (ty := .int) (by decide) rfl rfl d3_68 (q := 71) rfl G0 ?_
  intro T33 h35 X34 W36
  have FW36 := Fld.same W36 f29
  have O37 := O28.wr W36 G0
  exact g_retV C X34 d3_71 (by decide) (by decide) ⟨rfl, ((((Keep.refl h0 [o1, o0]).wr W12 (Or.inl (List.mem_of_getElem? (i := 0) rfl))).wr W27 (Or.inl (List.mem_of_getElem? (i := 1) rfl))).wr W36 (Or.inl (List.mem_of_getElem? (i := 1) rfl))), (f32.wr W36), ((f19.other W27 (Or.inr (slot_ne (Or.inr (w13 hw)) (Or.inl (w26 hw)) (by decide) (t := (.array .double)) (t' := .int) (by decide) (by decide)))).other W36 (Or.inr (slot_ne (Or.inr (w13 hw)) (Or.inl (w28 hw)) (by decide) (t := (.array .double)) (t' := .int) (by decide) (by decide)))), ((f20.other W27 (Or.inr (slot_ne (Or.inl (w20 hw)) (Or.inl (w26 hw)) (by decide) (t := .int) (t' := .int) (by decide) (by decide)))).other W36 (Or.inr (slot_ne (Or.inl (w20 hw)) (Or.inl (w28 hw)) (by decide) (t := .int) (t' := .int) (by decide) (by decide)))), (FW27.other W36 (Or.inr (slot_ne (Or.inl (w26 hw)) (Or.inl (w28 hw)) (by decide) (t := .int) (t' := .int) (by decide) (by decide)))), FW36, ((V13.other W27 (Ne.symm N0_1)).other W36 (Ne.symm N0_1))⟩
set_option maxRecDepth 65536 in
set_option maxHeartbeats 40000000 in
theorem rm_next_5 {l : Launch} {Z : State} {a0 : Array Value} (hw : ∀ d ∈ tables_1, d.before a0 Z = true) {o0 : Addr} {o1 : Addr} {i2 : Int32} {kc3 : ClassId} {x4 : UInt64} {x5 : UInt64} {x6 : UInt64} {h0 : Heap} {n0 : Nat} (O : Old Z n0 h0)  (P0 : Exa Z h0 o0 "com/example/rondel/rondel/primitive/DoubleRingBuffer") (P1 : Fld Z h0 o0 "com/example/rondel/rondel/primitive/DoubleRingBuffer" "readings" "[D" (.ref o1)) (P2 : Fld Z h0 o0 "com/example/rondel/rondel/primitive/DoubleRingBuffer" "size" "I" (.int (3 : Int32))) (P3 : Fld Z h0 o0 "com/example/rondel/rondel/primitive/DoubleRingBuffer" "head" "I" (.int (1 : Int32))) (P4 : Fld Z h0 o0 "com/example/rondel/rondel/primitive/DoubleRingBuffer" "modCount" "I" (.int i2)) (P5 : Arv Z h0 o1 kc3 .double (3 : Int32) [(.double x4), (.double x5), (.double x6)] (.double 0)) (G0 : n0 ≤ o0) (G1 : n0 ≤ o1) (N0_1 : o0 ≠ o1) :
    Met1 l Z (⟨"com/example/rondel/rondel/primitive/DoubleRingBuffer", "next", "(I)I"⟩ : MethodName) prog_11_method_19_code 2 (some .int) ({ frames := 0, cells := 0, slots := 0, locals := 0 } : Room) #[(.ref o0), (.int (1 : Int32))] h0 n0 (fun v h => v = (.int (2 : Int32)) ∧ h0 = h) := by
  refine met_of (L := #[.val (.ref o0), .val (.int (1 : Int32))]) (plainFor_of_name pn_10) (fun m => by first | (simp [entryFrame, mkF, argsToLocals, Value.category]; done) | rfl) ?_
  intro p e s m below meth c T C X
  change Cx p s m meth c Z "com/example/rondel/rondel/primitive/DoubleRingBuffer" prog_11_method_19_code 2 (some .int) "next" at C
  refine g_iloadN C X d5_0 (q := 1) rfl rfl ?_
  refine g_aloadN C X d5_1 (q := 2) rfl rfl rfl ?_
  refine g_getF C X (host := "") (Or.inl (w12 hw)) Via.refl P1 d5_2 (q := 5) rfl ?_
  intro T1 X2
  refine g_alen C X2 P5 d5_5 (q := 6) rfl ?_
  refine g_iconst C X2 d5_6 (q := 7) rfl (z := (1 : Int32)) rfl ?_
  refine g_isub C X2 d5_7 (q := 8) rfl (z := (2 : Int32)) (by decide) ?_
  refine g_icY C X2 d5_8 (by decide) (q := 15) (by decide) (by decide) ?_
  refine g_iloadN C X2 d5_15 (q := 16) rfl rfl ?_
  refine g_iconst C X2 d5_16 (q := 17) rfl (z := (1 : Int32)) rfl ?_
  refine g_iadd C X2 d5_17 (q := 18) rfl (z := (2 : Int32)) (by decide) ?_
  exact g_retI C X2 d5_18 (by decide) (by decide) ⟨_, rfl, rfl, rfl⟩
set_option maxRecDepth 65536 in
set_option maxHeartbeats 40000000 in
theorem rm_add_10 {l : Launch} {Z : State} {a0 : Array Value} (hw : ∀ d ∈ tables_1, d.before a0 Z = true) {o0 : Addr} {o1 : Addr} {i2 : Int32} {kc3 : ClassId} {x4 : UInt64} {x5 : UInt64} {x6 : UInt64} {x7 : UInt64} {h0 : Heap} {n0 : Nat} (O : Old Z n0 h0)  (P0 : Exa Z h0 o0 "com/example/rondel/rondel/primitive/DoubleRingBuffer") (P1 : Fld Z h0 o0 "com/example/rondel/rondel/primitive/DoubleRingBuffer" "readings" "[D" (.ref o1)) (P2 : Fld Z h0 o0 "com/example/rondel/rondel/primitive/DoubleRingBuffer" "size" "I" (.int (3 : Int32))) (P3 : Fld Z h0 o0 "com/example/rondel/rondel/primitive/DoubleRingBuffer" "head" "I" (.int (1 : Int32))) (P4 : Fld Z h0 o0 "com/example/rondel/rondel/primitive/DoubleRingBuffer" "modCount" "I" (.int i2)) (P5 : Arv Z h0 o1 kc3 .double (3 : Int32) [(.double x4), (.double x5), (.double x6)] (.double 0)) (G0 : n0 ≤ o0) (G1 : n0 ≤ o1) (N0_1 : o0 ≠ o1) :
    Met0 l Z (⟨"com/example/rondel/rondel/primitive/DoubleRingBuffer", "add", "(D)V"⟩ : MethodName) prog_11_method_6_code 3 none ({ frames := 1, cells := 0, slots := 0, locals := 14 } : Room) #[(.ref o0), (.double x7)] h0 n0 (fun h => Keep h0 h [o1, o0] ∧ Exa Z h o0 "com/example/rondel/rondel/primitive/DoubleRingBuffer" ∧ Fld Z h o0 "com/example/rondel/rondel/primitive/DoubleRingBuffer" "readings" "[D" (.ref o1) ∧ Fld Z h o0 "com/example/rondel/rondel/primitive/DoubleRingBuffer" "size" "I" (.int (3 : Int32)) ∧ Fld Z h o0 "com/example/rondel/rondel/primitive/DoubleRingBuffer" "head" "I" (.int (2 : Int32)) ∧ Fld Z h o0 "com/example/rondel/rondel/primitive/DoubleRingBuffer" "modCount" "I" (.int (i2 + (1 : Int32))) ∧ Arv Z h o1 kc3 .double (3 : Int32) [(.double x4), (.double x7), (.double x6)] (.double 0)) := by
  refine met_of (L := #[.val (.ref o0), .val (.double x7), .second]) (plainFor_of_name pn_10) (fun m => by first | (simp [entryFrame, mkF, argsToLocals, Value.category]; done) | rfl) ?_
  intro p e s m below meth c T C X
  change Cx p s m meth c Z "com/example/rondel/rondel/primitive/DoubleRingBuffer" prog_11_method_6_code 3 none "add" at C
  refine g_aloadN C X d3_0 (q := 1) rfl rfl rfl ?_
  refine g_getF C X (host := "") (Or.inl (w19 hw)) Via.refl P2 d3_1 (q := 4) rfl ?_
  intro T1 X2
  refine g_aloadN C X2 d3_4 (q := 5) rfl rfl rfl ?_
  refine g_getF C X2 (host := "") (Or.inl (w12 hw)) Via.refl P1 d3_5 (q := 8) rfl ?_
  intro T3 X4
  refine g_alen C X4 P5 d3_8 (q := 9) rfl ?_
  refine g_icN C X4 d3_9 (q := 12) rfl (by decide) ?_
  refine g_aloadN C X4 d3_12 (q := 13) rfl rfl rfl ?_
  refine g_getF C X4 (host := "") (Or.inl (w12 hw)) Via.refl P1 d3_13 (q := 16) rfl ?_
  intro T5 X6
  refine g_aloadN C X6 d3_16 (q := 17) rfl rfl rfl ?_
  refine g_getF C X6 (host := "") (Or.inl (w25 hw)) Via.refl P3 d3_17 (q := 20) rfl ?_
  intro T7 X8
  refine g_dloadN C X8 d3_20 (q := 21) rfl rfl ?_
  refine g_dastore C X8 P5 (by decide) (i := 1) (by decide) (Nat.le_of_ble_eq_true rfl) (vs' := [(.double x4), (.double x7), (.double x6)]) rfl G1 d3_21 (q := 22) rfl ?_
  intro T9 h10 X11 W12 V13
  have O14 := O.wr W12 G1
  refine g_aloadN C X11 d3_22 (q := 23) rfl rfl rfl ?_
  refine g_aloadN C X11 d3_23 (q := 24) rfl rfl rfl ?_
  refine g_aloadN C X11 d3_24 (q := 25) rfl rfl rfl ?_
  have f15 := (P3.other W12 (Or.inl N0_1))
  refine g_getF C X11 (host := "") (Or.inl (w25 hw)) Via.refl f15 d3_25 (q := 28) rfl ?_
  intro T16 X17
  have f18 := (P0.wr W12)
  have f19 := (P1.other W12 (Or.inl N0_1))
  have f20 := (P2.other W12 (Or.inl N0_1))
  have f21 := (P4.other W12 (Or.inl N0_1))
  refine g_callP1 C X17 (y := (⟨"com/example/rondel/rondel/primitive/DoubleRingBuffer", "next", "(I)I"⟩ : MethodName)) (a := o0) (by decide) (w29 hw) (sel_priv (w3 hw) (w30 hw) (w31 hw) (by decide)) (w30 hw) (w31 hw) f18 (w32 hw) (w4 hw) (rm_next_5 hw (o0 := o0) (o1 := o1) (i2 := i2) (kc3 := kc3) (x4 := x4) (x5 := x7) (x6 := x6) O14 f18 f19 f20 f15 f21 V13 G0 G1 N0_1) (W := 1) (by decide) (by decide) (k' := 0) rfl (n' := 0) rfl (by decide) (by decide) rfl pd_40 (argsL := [(.int (1 : Int32))]) rfl (rest := [(.ref o0)]) rfl rfl rfl d3_28 (q := 31) rfl ?_
  rintro _ T22 _ X23 ⟨rfl, rfl⟩
  refine g_putF C X23 (host := "") (Or.inl (w25 hw)) Via.refl f15 f18 (Or.inl (w26 hw)) (w3 hw) (ty := .int) (by decide) rfl rfl d3_31 (q := 34) rfl G0 ?_
  intro T24 h26 X25 W27
  have FW27 := Fld.same W27 f15
  have O28 := O14.wr W27 G0
  refine g_goto C X25 d3_34 (by decide) (q := 61) (by decide) ?_
  refine g_aloadN C X25 d3_61 (q := 62) rfl rfl rfl ?_
  refine g_dup C X25 d3_62 (q := 63) rfl rfl ?_
  have f29 := (f21.other W27 (Or.inr (slot_ne (Or.inl (w28 hw)) (Or.inl (w26 hw)) (by decide) (t := .int) (t' := .int) (by decide) (by decide))))
  refine g_getF C X25 (host := "") (Or.inl (w27 hw)) Via.refl f29 d3_63 (q := 66) rfl ?_
  intro T30 X31
  refine g_iconst C X31 d3_66 (q := 67) rfl (z := (1 : Int32)) rfl ?_
  refine g_iadd C X31 d3_67 (q := 68) rfl (z := (i2 + (1 : Int32))) rfl ?_
  have f32 := (f18.wr W27)
  refine g_putF C X31 (host := "") (Or.inl (w27 hw)) Via.refl f29 f32 (Or.inl (w28 hw)) (w3 hw) (ty := .int) (by decide) rfl rfl d3_68 (q := 71) rfl G0 ?_
  intro T33 h35 X34 W36
  have FW36 := Fld.same W36 f29
  have O37 := O28.wr W36 G0
  exact g_retV C X34 d3_71 (by decide) (by decide) ⟨rfl, ((((Keep.refl h0 [o1, o0]).wr W12 (Or.inl (List.mem_of_getElem? (i := 0) rfl))).wr W27 (Or.inl (List.mem_of_getElem? (i := 1) rfl))).wr W36 (Or.inl (List.mem_of_getElem? (i := 1) rfl))), (f32.wr W36), ((f19.other W27 (Or.inr (slot_ne (Or.inr (w13 hw)) (Or.inl (w26 hw)) (by decide) (t := (.array .double)) (t' := .int) (by decide) (by decide)))).other W36 (Or.inr (slot_ne (Or.inr (w13 hw)) (Or.inl (w28 hw)) (by decide) (t := (.array .double)) (t' := .int) (by decide) (by decide)))), ((f20.other W27 (Or.inr (slot_ne (Or.inl (w20 hw)) (Or.inl (w26 hw)) (by decide) (t := .int) (t' := .int) (by decide) (by decide)))).other W36 (Or.inr (slot_ne (Or.inl (w20 hw)) (Or.inl (w28 hw)) (by decide) (t := .int) (t' := .int) (by decide) (by decide)))), (FW27.other W36 (Or.inr (slot_ne (Or.inl (w26 hw)) (Or.inl (w28 hw)) (by decide) (t := .int) (t' := .int) (by decide) (by decide)))), FW36, ((V13.other W27 (Ne.symm N0_1)).other W36 (Ne.symm N0_1))⟩
set_option maxRecDepth 65536 in
set_option maxHeartbeats 40000000 in
theorem rm_min_12 {l : Launch} {Z : State} {a0 : Array Value} (hw : ∀ d ∈ tables_1, d.before a0 Z = true)  {h0 : Heap} {n0 : Nat} (O : Old Z n0 h0)  :
    Met1 l Z (⟨"java/lang/Math", "min", "(II)I"⟩ : MethodName) jdk_29_method_69_code 2 (some .int) ({ frames := 0, cells := 0, slots := 0, locals := 0 } : Room) #[(.int (5 : Int32)), (.int (3 : Int32))] h0 n0 (fun v h => v = (.int (3 : Int32)) ∧ h0 = h) := by
  refine met_of (L := #[.val (.int (5 : Int32)), .val (.int (3 : Int32))]) (Jvm.Free.JP.mathPlain rfl (by decide +kernel)) (fun m => by first | (simp [entryFrame, mkF, argsToLocals, Value.category]; done) | rfl) ?_
  intro p e s m below meth c T C X
  change Cx p s m meth c Z "java/lang/Math" jdk_29_method_69_code 2 (some .int) "min" at C
  refine g_iloadN C X d6_0 (q := 1) rfl rfl ?_
  refine g_iloadN C X d6_1 (q := 2) rfl rfl ?_
  refine g_icY C X d6_2 (by decide) (q := 9) (by decide) (by decide) ?_
  refine g_iloadN C X d6_9 (q := 10) rfl rfl ?_
  exact g_retI C X d6_10 (by decide) (by decide) ⟨_, rfl, rfl, rfl⟩
set_option maxRecDepth 65536 in
set_option maxHeartbeats 40000000 in
theorem rm_isFull_8 {l : Launch} {Z : State} {a0 : Array Value} (hw : ∀ d ∈ tables_1, d.before a0 Z = true) {o0 : Addr} {o1 : Addr} {i2 : Int32} {kc3 : ClassId} {x4 : UInt64} {x5 : UInt64} {x6 : UInt64} {h0 : Heap} {n0 : Nat} (O : Old Z n0 h0)  (P0 : Exa Z h0 o0 "com/example/rondel/rondel/primitive/DoubleRingBuffer") (P1 : Fld Z h0 o0 "com/example/rondel/rondel/primitive/DoubleRingBuffer" "readings" "[D" (.ref o1)) (P2 : Fld Z h0 o0 "com/example/rondel/rondel/primitive/DoubleRingBuffer" "size" "I" (.int (3 : Int32))) (P3 : Fld Z h0 o0 "com/example/rondel/rondel/primitive/DoubleRingBuffer" "head" "I" (.int (2 : Int32))) (P4 : Fld Z h0 o0 "com/example/rondel/rondel/primitive/DoubleRingBuffer" "modCount" "I" (.int i2)) (P5 : Arv Z h0 o1 kc3 .double (3 : Int32) [(.double x4), (.double x5), (.double x6)] (.double 0)) (G0 : n0 ≤ o0) (G1 : n0 ≤ o1) (N0_1 : o0 ≠ o1) :
    Met1 l Z (⟨"com/example/rondel/rondel/primitive/DoubleRingBuffer", "isFull", "()Z"⟩ : MethodName) prog_11_method_5_code 1 (some .boolean) ({ frames := 0, cells := 0, slots := 0, locals := 0 } : Room) #[(.ref o0)] h0 n0 (fun v h => v = (.int (1 : Int32)) ∧ h0 = h) := by
  refine met_of (L := #[.val (.ref o0)]) (plainFor_of_name pn_10) (fun m => by first | (simp [entryFrame, mkF, argsToLocals, Value.category]; done) | rfl) ?_
  intro p e s m below meth c T C X
  change Cx p s m meth c Z "com/example/rondel/rondel/primitive/DoubleRingBuffer" prog_11_method_5_code 1 (some .boolean) "isFull" at C
  refine g_aloadN C X d7_0 (q := 1) rfl rfl rfl ?_
  refine g_getF C X (host := "") (Or.inl (w19 hw)) Via.refl P2 d7_1 (q := 4) rfl ?_
  intro T1 X2
  refine g_aloadN C X2 d7_4 (q := 5) rfl rfl rfl ?_
  refine g_getF C X2 (host := "") (Or.inl (w12 hw)) Via.refl P1 d7_5 (q := 8) rfl ?_
  intro T3 X4
  refine g_alen C X4 P5 d7_8 (q := 9) rfl ?_
  refine g_icN C X4 d7_9 (q := 12) rfl (by decide) ?_
  refine g_iconst C X4 d7_12 (q := 13) rfl (z := (1 : Int32)) rfl ?_
  refine g_goto C X4 d7_13 (by decide) (q := 17) (by decide) ?_
  exact g_retN C X4 (Or.inl rfl) (z' := (1 : Int32)) (by decide) d7_17 (by decide) (by decide) ⟨_, rfl, rfl, rfl⟩
set_option maxRecDepth 65536 in
set_option maxHeartbeats 40000000 in
theorem rm_checkNotEmpty_4 {l : Launch} {Z : State} {a0 : Array Value} (hw : ∀ d ∈ tables_1, d.before a0 Z = true) {o0 : Addr} {o1 : Addr} {i2 : Int32} {kc3 : ClassId} {x4 : UInt64} {x5 : UInt64} {x6 : UInt64} {h0 : Heap} {n0 : Nat} (O : Old Z n0 h0)  (P0 : Exa Z h0 o0 "com/example/rondel/rondel/primitive/DoubleRingBuffer") (P1 : Fld Z h0 o0 "com/example/rondel/rondel/primitive/DoubleRingBuffer" "readings" "[D" (.ref o1)) (P2 : Fld Z h0 o0 "com/example/rondel/rondel/primitive/DoubleRingBuffer" "size" "I" (.int (3 : Int32))) (P3 : Fld Z h0 o0 "com/example/rondel/rondel/primitive/DoubleRingBuffer" "head" "I" (.int (2 : Int32))) (P4 : Fld Z h0 o0 "com/example/rondel/rondel/primitive/DoubleRingBuffer" "modCount" "I" (.int i2)) (P5 : Arv Z h0 o1 kc3 .double (3 : Int32) [(.double x4), (.double x5), (.double x6)] (.double 0)) (G0 : n0 ≤ o0) (G1 : n0 ≤ o1) (N0_1 : o0 ≠ o1) :
    Met0 l Z (⟨"com/example/rondel/rondel/primitive/DoubleRingBuffer", "checkNotEmpty", "()V"⟩ : MethodName) prog_11_method_17_code 1 none ({ frames := 0, cells := 0, slots := 0, locals := 0 } : Room) #[(.ref o0)] h0 n0 (fun h => h0 = h) := by
  refine met_of (L := #[.val (.ref o0)]) (plainFor_of_name pn_10) (fun m => by first | (simp [entryFrame, mkF, argsToLocals, Value.category]; done) | rfl) ?_
  intro p e s m below meth c T C X
  change Cx p s m meth c Z "com/example/rondel/rondel/primitive/DoubleRingBuffer" prog_11_method_17_code 1 none "checkNotEmpty" at C
  refine g_aloadN C X d10_0 (q := 1) rfl rfl rfl ?_
  refine g_getF C X (host := "") (Or.inl (w19 hw)) Via.refl P2 d10_1 (q := 4) rfl ?_
  intro T1 X2
  refine g_ifY C X2 d10_4 (by decide) (q := 17) (by decide) (by decide) ?_
  exact g_retV C X2 d10_17 (by decide) (by decide) ⟨rfl, rfl⟩
set_option maxRecDepth 65536 in
set_option maxHeartbeats 40000000 in
theorem rm_getFirst_4 {l : Launch} {Z : State} {a0 : Array Value} (hw : ∀ d ∈ tables_1, d.before a0 Z = true) {o0 : Addr} {o1 : Addr} {i2 : Int32} {kc3 : ClassId} {x4 : UInt64} {x5 : UInt64} {x6 : UInt64} {h0 : Heap} {n0 : Nat} (O : Old Z n0 h0)  (P0 : Exa Z h0 o0 "com/example/rondel/rondel/primitive/DoubleRingBuffer") (P1 : Fld Z h0 o0 "com/example/rondel/rondel/primitive/DoubleRingBuffer" "readings" "[D" (.ref o1)) (P2 : Fld Z h0 o0 "com/example/rondel/rondel/primitive/DoubleRingBuffer" "size" "I" (.int (3 : Int32))) (P3 : Fld Z h0 o0 "com/example/rondel/rondel/primitive/DoubleRingBuffer" "head" "I" (.int (2 : Int32))) (P4 : Fld Z h0 o0 "com/example/rondel/rondel/primitive/DoubleRingBuffer" "modCount" "I" (.int i2)) (P5 : Arv Z h0 o1 kc3 .double (3 : Int32) [(.double x4), (.double x5), (.double x6)] (.double 0)) (G0 : n0 ≤ o0) (G1 : n0 ≤ o1) (N0_1 : o0 ≠ o1) :
    Met1 l Z (⟨"com/example/rondel/rondel/primitive/DoubleRingBuffer", "getFirst", "()D"⟩ : MethodName) prog_11_method_9_code 1 (some .double) ({ frames := 1, cells := 0, slots := 0, locals := 12 } : Room) #[(.ref o0)] h0 n0 (fun v h => v = (.double x6) ∧ h0 = h) := by
  refine met_of (L := #[.val (.ref o0)]) (plainFor_of_name pn_10) (fun m => by first | (simp [entryFrame, mkF, argsToLocals, Value.category]; done) | rfl) ?_
  intro p e s m below meth c T C X
  change Cx p s m meth c Z "com/example/rondel/rondel/primitive/DoubleRingBuffer" prog_11_method_9_code 1 (some .double) "getFirst" at C
  refine g_aloadN C X d9_0 (q := 1) rfl rfl rfl ?_
  refine g_callP0 C X (y := (⟨"com/example/rondel/rondel/primitive/DoubleRingBuffer", "checkNotEmpty", "()V"⟩ : MethodName)) (a := o0) (by decide) (w52 hw) (sel_priv (w3 hw) (w53 hw) (w54 hw) (by decide)) (w53 hw) (w54 hw) P0 (w55 hw) (w4 hw) (rm_checkNotEmpty_4 hw (o0 := o0) (o1 := o1) (i2 := i2) (kc3 := kc3) (x4 := x4) (x5 := x5) (x6 := x6) O P0 P1 P2 P3 P4 P5 G0 G1 N0_1) (W := 0) (by decide) (by decide) (k' := 0) rfl (n' := 0) rfl (by decide) (by decide) rfl pd_104 (argsL := []) rfl (rest := []) rfl rfl rfl d9_1 (q := 4) rfl ?_
  rintro T1 _ X2 rfl
  refine g_aloadN C X2 d9_4 (q := 5) rfl rfl rfl ?_
  refine g_getF C X2 (host := "") (Or.inl (w12 hw)) Via.refl P1 d9_5 (q := 8) rfl ?_
  intro T3 X4
  refine g_aloadN C X4 d9_8 (q := 9) rfl rfl rfl ?_
  refine g_getF C X4 (host := "") (Or.inl (w25 hw)) Via.refl P3 d9_9 (q := 12) rfl ?_
  intro T5 X6
  refine g_daload C X6 P5 (by decide) (w := (.double x6)) rfl d9_12 (q := 13) rfl ?_
  exact g_retD C X6 d9_13 (by decide) (by decide) ⟨_, rfl, rfl, rfl⟩
set_option maxRecDepth 65536 in
set_option maxHeartbeats 40000000 in
theorem rm_next_6 {l : Launch} {Z : State} {a0 : Array Value} (hw : ∀ d ∈ tables_1, d.before a0 Z = true) {o0 : Addr} {o1 : Addr} {i2 : Int32} {kc3 : ClassId} {x4 : UInt64} {x5 : UInt64} {x6 : UInt64} {h0 : Heap} {n0 : Nat} (O : Old Z n0 h0)  (P0 : Exa Z h0 o0 "com/example/rondel/rondel/primitive/DoubleRingBuffer") (P1 : Fld Z h0 o0 "com/example/rondel/rondel/primitive/DoubleRingBuffer" "readings" "[D" (.ref o1)) (P2 : Fld Z h0 o0 "com/example/rondel/rondel/primitive/DoubleRingBuffer" "size" "I" (.int (3 : Int32))) (P3 : Fld Z h0 o0 "com/example/rondel/rondel/primitive/DoubleRingBuffer" "head" "I" (.int (2 : Int32))) (P4 : Fld Z h0 o0 "com/example/rondel/rondel/primitive/DoubleRingBuffer" "modCount" "I" (.int i2)) (P5 : Arv Z h0 o1 kc3 .double (3 : Int32) [(.double x4), (.double x5), (.double x6)] (.double 0)) (G0 : n0 ≤ o0) (G1 : n0 ≤ o1) (N0_1 : o0 ≠ o1) :
    Met1 l Z (⟨"com/example/rondel/rondel/primitive/DoubleRingBuffer", "next", "(I)I"⟩ : MethodName) prog_11_method_19_code 2 (some .int) ({ frames := 0, cells := 0, slots := 0, locals := 0 } : Room) #[(.ref o0), (.int (2 : Int32))] h0 n0 (fun v h => v = (.int (0 : Int32)) ∧ h0 = h) := by
  refine met_of (L := #[.val (.ref o0), .val (.int (2 : Int32))]) (plainFor_of_name pn_10) (fun m => by first | (simp [entryFrame, mkF, argsToLocals, Value.category]; done) | rfl) ?_
  intro p e s m below meth c T C X
  change Cx p s m meth c Z "com/example/rondel/rondel/primitive/DoubleRingBuffer" prog_11_method_19_code 2 (some .int) "next" at C
  refine g_iloadN C X d5_0 (q := 1) rfl rfl ?_
  refine g_aloadN C X d5_1 (q := 2) rfl rfl rfl ?_
  refine g_getF C X (host := "") (Or.inl (w12 hw)) Via.refl P1 d5_2 (q := 5) rfl ?_
  intro T1 X2
  refine g_alen C X2 P5 d5_5 (q := 6) rfl ?_
  refine g_iconst C X2 d5_6 (q := 7) rfl (z := (1 : Int32)) rfl ?_
  refine g_isub C X2 d5_7 (q := 8) rfl (z := (2 : Int32)) (by decide) ?_
  refine g_icN C X2 d5_8 (q := 11) rfl (by decide) ?_
  refine g_iconst C X2 d5_11 (q := 12) rfl (z := (0 : Int32)) rfl ?_
  refine g_goto C X2 d5_12 (by decide) (q := 18) (by decide) ?_
  exact g_retI C X2 d5_18 (by decide) (by decide) ⟨_, rfl, rfl, rfl⟩
set_option maxRecDepth 65536 in
set_option maxHeartbeats 40000000 in
theorem rm_removeFirst_4 {l : Launch} {Z : State} {a0 : Array Value} (hw : ∀ d ∈ tables_1, d.before a0 Z = true) {o0 : Addr} {o1 : Addr} {i2 : Int32} {kc3 : ClassId} {x4 : UInt64} {x5 : UInt64} {x6 : UInt64} {h0 : Heap} {n0 : Nat} (O : Old Z n0 h0)  (P0 : Exa Z h0 o0 "com/example/rondel/rondel/primitive/DoubleRingBuffer") (P1 : Fld Z h0 o0 "com/example/rondel/rondel/primitive/DoubleRingBuffer" "readings" "[D" (.ref o1)) (P2 : Fld Z h0 o0 "com/example/rondel/rondel/primitive/DoubleRingBuffer" "size" "I" (.int (3 : Int32))) (P3 : Fld Z h0 o0 "com/example/rondel/rondel/primitive/DoubleRingBuffer" "head" "I" (.int (2 : Int32))) (P4 : Fld Z h0 o0 "com/example/rondel/rondel/primitive/DoubleRingBuffer" "modCount" "I" (.int i2)) (P5 : Arv Z h0 o1 kc3 .double (3 : Int32) [(.double x4), (.double x5), (.double x6)] (.double 0)) (G0 : n0 ≤ o0) (G1 : n0 ≤ o1) (N0_1 : o0 ≠ o1) :
    Met1 l Z (⟨"com/example/rondel/rondel/primitive/DoubleRingBuffer", "removeFirst", "()D"⟩ : MethodName) prog_11_method_7_code 3 (some .double) ({ frames := 2, cells := 0, slots := 0, locals := 24 } : Room) #[(.ref o0)] h0 n0 (fun v h => v = (.double x6) ∧ Keep h0 h [o0] ∧ Exa Z h o0 "com/example/rondel/rondel/primitive/DoubleRingBuffer" ∧ Fld Z h o0 "com/example/rondel/rondel/primitive/DoubleRingBuffer" "readings" "[D" (.ref o1) ∧ Fld Z h o0 "com/example/rondel/rondel/primitive/DoubleRingBuffer" "size" "I" (.int (2 : Int32)) ∧ Fld Z h o0 "com/example/rondel/rondel/primitive/DoubleRingBuffer" "head" "I" (.int (0 : Int32)) ∧ Fld Z h o0 "com/example/rondel/rondel/primitive/DoubleRingBuffer" "modCount" "I" (.int (i2 + (1 : Int32)))) := by
  refine met_of (L := #[.val (.ref o0), .unset, .unset]) (plainFor_of_name pn_10) (fun m => by first | (simp [entryFrame, mkF, argsToLocals, Value.category]; done) | rfl) ?_
  intro p e s m below meth c T C X
  change Cx p s m meth c Z "com/example/rondel/rondel/primitive/DoubleRingBuffer" prog_11_method_7_code 3 (some .double) "removeFirst" at C
  refine g_aloadN C X d8_0 (q := 1) rfl rfl rfl ?_
  refine g_callV1 C X (y := (⟨"com/example/rondel/rondel/primitive/DoubleRingBuffer", "getFirst", "()D"⟩ : MethodName)) (z := (⟨"com/example/rondel/rondel/primitive/DoubleRingBuffer", "getFirst", "()D"⟩ : MethodName)) (a := o0) (by decide) (w47 hw) (w48 hw) (w50 hw) (w49 hw) (nf_sel (w50 hw)) P0 (w51 hw) (w4 hw) (rm_getFirst_4 hw (o0 := o0) (o1 := o1) (i2 := i2) (kc3 := kc3) (x4 := x4) (x5 := x5) (x6 := x6) O P0 P1 P2 P3 P4 P5 G0 G1 N0_1) (W := 0) (by decide) (by decide) (k' := 0) rfl (n' := 0) rfl (by decide) (by decide) rfl pd_111 (argsL := []) rfl (rest := []) rfl rfl rfl d8_1 (q := 4) rfl ?_
  rintro _ T1 _ X2 ⟨rfl, rfl⟩
  refine g_dstoreN C X2 d8_4 (q := 5) rfl (L' := #[.val (.ref o0), .val (.double x6), .second]) rfl ?_
  refine g_aloadN C X2 d8_5 (q := 6) rfl rfl rfl ?_
  refine g_aloadN C X2 d8_6 (q := 7) rfl rfl rfl ?_
  refine g_aloadN C X2 d8_7 (q := 8) rfl rfl rfl ?_
  refine g_getF C X2 (host := "") (Or.inl (w25 hw)) Via.refl P3 d8_8 (q := 11) rfl ?_
  intro T3 X4
  refine g_callP1 C X4 (y := (⟨"com/example/rondel/rondel/primitive/DoubleRingBuffer", "next", "(I)I"⟩ : MethodName)) (a := o0) (by decide) (w29 hw) (sel_priv (w3 hw) (w30 hw) (w31 hw) (by decide)) (w30 hw) (w31 hw) P0 (w32 hw) (w4 hw) (rm_next_6 hw (o0 := o0) (o1 := o1) (i2 := i2) (kc3 := kc3) (x4 := x4) (x5 := x5) (x6 := x6) O P0 P1 P2 P3 P4 P5 G0 G1 N0_1) (W := 1) (by decide) (by decide) (k' := 0) rfl (n' := 0) rfl (by decide) (by decide) rfl pd_40 (argsL := [(.int (2 : Int32))]) rfl (rest := [(.ref o0)]) rfl rfl rfl d8_11 (q := 14) rfl ?_
  rintro _ T5 _ X6 ⟨rfl, rfl⟩
  refine g_putF C X6 (host := "") (Or.inl (w25 hw)) Via.refl P3 P0 (Or.inl (w26 hw)) (w3 hw) (ty := .int) (by decide) rfl rfl d8_14 (q := 17) rfl G0 ?_
  intro T7 h9 X8 W10
  have FW10 := Fld.same W10 P3
  have O11 := O.wr W10 G0
  refine g_aloadN C X8 d8_17 (q := 18) rfl rfl rfl ?_
  refine g_dup C X8 d8_18 (q := 19) rfl rfl ?_
  have f12 := (P2.other W10 (Or.inr (slot_ne (Or.inl (w20 hw)) (Or.inl (w26 hw)) (by decide) (t := .int) (t' := .int) (by decide) (by decide))))
  refine g_getF C X8 (host := "") (Or.inl (w19 hw)) Via.refl f12 d8_19 (q := 22) rfl ?_
  intro T13 X14
  refine g_iconst C X14 d8_22 (q := 23) rfl (z := (1 : Int32)) rfl ?_
  refine g_isub C X14 d8_23 (q := 24) rfl (z := (2 : Int32)) (by decide) ?_
  have f15 := (P0.wr W10)
  refine g_putF C X14 (host := "") (Or.inl (w19 hw)) Via.refl f12 f15 (Or.inl (w20 hw)) (w3 hw) (ty := .int) (by decide) rfl rfl d8_24 (q := 27) rfl G0 ?_
  intro T16 h18 X17 W19
  have FW19 := Fld.same W19 f12
  have O20 := O11.wr W19 G0
  refine g_aloadN C X17 d8_27 (q := 28) rfl rfl rfl ?_
  refine g_dup C X17 d8_28 (q := 29) rfl rfl ?_
  have f21 := ((P4.other W10 (Or.inr (slot_ne (Or.inl (w28 hw)) (Or.inl (w26 hw)) (by decide) (t := .int) (t' := .int) (by decide) (by decide)))).other W19 (Or.inr (slot_ne (Or.inl (w28 hw)) (Or.inl (w20 hw)) (by decide) (t := .int) (t' := .int) (by decide) (by decide))))
  refine g_getF C X17 (host := "") (Or.inl (w27 hw)) Via.refl f21 d8_29 (q := 32) rfl ?_
  intro T22 X23
  refine g_iconst C X23 d8_32 (q := 33) rfl (z := (1 : Int32)) rfl ?_
  refine g_iadd C X23 d8_33 (q := 34) rfl (z := (i2 + (1 : Int32))) rfl ?_
  have f24 := (f15.wr W19)
  refine g_putF C X23 (host := "") (Or.inl (w27 hw)) Via.refl f21 f24 (Or.inl (w28 hw)) (w3 hw) (ty := .int) (by decide) rfl rfl d8_34 (q := 37) rfl G0 ?_
  intro T25 h27 X26 W28
  have FW28 := Fld.same W28 f21
  have O29 := O20.wr W28 G0
  refine g_dloadN C X26 d8_37 (q := 38) rfl rfl ?_
  exact g_retD C X26 d8_38 (by decide) (by decide) ⟨_, rfl, rfl, ((((Keep.refl h0 [o0]).wr W10 (Or.inl (List.mem_of_getElem? (i := 0) rfl))).wr W19 (Or.inl (List.mem_of_getElem? (i := 0) rfl))).wr W28 (Or.inl (List.mem_of_getElem? (i := 0) rfl))), (f24.wr W28), (((P1.other W10 (Or.inr (slot_ne (Or.inr (w13 hw)) (Or.inl (w26 hw)) (by decide) (t := (.array .double)) (t' := .int) (by decide) (by decide)))).other W19 (Or.inr (slot_ne (Or.inr (w13 hw)) (Or.inl (w20 hw)) (by decide) (t := (.array .double)) (t' := .int) (by decide) (by decide)))).other W28 (Or.inr (slot_ne (Or.inr (w13 hw)) (Or.inl (w28 hw)) (by decide) (t := (.array .double)) (t' := .int) (by decide) (by decide)))), (FW19.other W28 (Or.inr (slot_ne (Or.inl (w20 hw)) (Or.inl (w28 hw)) (by decide) (t := .int) (t' := .int) (by decide) (by decide)))), ((FW10.other W19 (Or.inr (slot_ne (Or.inl (w26 hw)) (Or.inl (w20 hw)) (by decide) (t := .int) (t' := .int) (by decide) (by decide)))).other W28 (Or.inr (slot_ne (Or.inl (w26 hw)) (Or.inl (w28 hw)) (by decide) (t := .int) (t' := .int) (by decide) (by decide)))), FW28⟩
set_option maxRecDepth 65536 in
set_option maxHeartbeats 40000000 in
theorem rm_isFull_9 {l : Launch} {Z : State} {a0 : Array Value} (hw : ∀ d ∈ tables_1, d.before a0 Z = true) {o0 : Addr} {o1 : Addr} {i2 : Int32} {kc3 : ClassId} {x4 : UInt64} {x5 : UInt64} {x6 : UInt64} {h0 : Heap} {n0 : Nat} (O : Old Z n0 h0)  (P0 : Exa Z h0 o0 "com/example/rondel/rondel/primitive/DoubleRingBuffer") (P1 : Fld Z h0 o0 "com/example/rondel/rondel/primitive/DoubleRingBuffer" "readings" "[D" (.ref o1)) (P2 : Fld Z h0 o0 "com/example/rondel/rondel/primitive/DoubleRingBuffer" "size" "I" (.int (2 : Int32))) (P3 : Fld Z h0 o0 "com/example/rondel/rondel/primitive/DoubleRingBuffer" "head" "I" (.int (0 : Int32))) (P4 : Fld Z h0 o0 "com/example/rondel/rondel/primitive/DoubleRingBuffer" "modCount" "I" (.int i2)) (P5 : Arv Z h0 o1 kc3 .double (3 : Int32) [(.double x4), (.double x5), (.double x6)] (.double 0)) (G0 : n0 ≤ o0) (G1 : n0 ≤ o1) (N0_1 : o0 ≠ o1) :
    Met1 l Z (⟨"com/example/rondel/rondel/primitive/DoubleRingBuffer", "isFull", "()Z"⟩ : MethodName) prog_11_method_5_code 1 (some .boolean) ({ frames := 0, cells := 0, slots := 0, locals := 0 } : Room) #[(.ref o0)] h0 n0 (fun v h => v = (.int (0 : Int32)) ∧ h0 = h) := by
  refine met_of (L := #[.val (.ref o0)]) (plainFor_of_name pn_10) (fun m => by first | (simp [entryFrame, mkF, argsToLocals, Value.category]; done) | rfl) ?_
  intro p e s m below meth c T C X
  change Cx p s m meth c Z "com/example/rondel/rondel/primitive/DoubleRingBuffer" prog_11_method_5_code 1 (some .boolean) "isFull" at C
  refine g_aloadN C X d7_0 (q := 1) rfl rfl rfl ?_
  refine g_getF C X (host := "") (Or.inl (w19 hw)) Via.refl P2 d7_1 (q := 4) rfl ?_
  intro T1 X2
  refine g_aloadN C X2 d7_4 (q := 5) rfl rfl rfl ?_
  refine g_getF C X2 (host := "") (Or.inl (w12 hw)) Via.refl P1 d7_5 (q := 8) rfl ?_
  intro T3 X4
  refine g_alen C X4 P5 d7_8 (q := 9) rfl ?_
  refine g_icY C X4 d7_9 (by decide) (q := 16) (by decide) (by decide) ?_
  refine g_iconst C X4 d7_16 (q := 17) rfl (z := (0 : Int32)) rfl ?_
  exact g_retN C X4 (Or.inl rfl) (z' := (0 : Int32)) (by decide) d7_17 (by decide) (by decide) ⟨_, rfl, rfl, rfl⟩
set_option maxRecDepth 65536 in
set_option maxHeartbeats 40000000 in
theorem rm_min_13 {l : Launch} {Z : State} {a0 : Array Value} (hw : ∀ d ∈ tables_1, d.before a0 Z = true)  {h0 : Heap} {n0 : Nat} (O : Old Z n0 h0)  :
    Met1 l Z (⟨"java/lang/Math", "min", "(II)I"⟩ : MethodName) jdk_29_method_69_code 2 (some .int) ({ frames := 0, cells := 0, slots := 0, locals := 0 } : Room) #[(.int (4 : Int32)), (.int (3 : Int32))] h0 n0 (fun v h => v = (.int (3 : Int32)) ∧ h0 = h) := by
  refine met_of (L := #[.val (.int (4 : Int32)), .val (.int (3 : Int32))]) (Jvm.Free.JP.mathPlain rfl (by decide +kernel)) (fun m => by first | (simp [entryFrame, mkF, argsToLocals, Value.category]; done) | rfl) ?_
  intro p e s m below meth c T C X
  change Cx p s m meth c Z "java/lang/Math" jdk_29_method_69_code 2 (some .int) "min" at C
  refine g_iloadN C X d6_0 (q := 1) rfl rfl ?_
  refine g_iloadN C X d6_1 (q := 2) rfl rfl ?_
  refine g_icY C X d6_2 (by decide) (q := 9) (by decide) (by decide) ?_
  refine g_iloadN C X d6_9 (q := 10) rfl rfl ?_
  exact g_retI C X d6_10 (by decide) (by decide) ⟨_, rfl, rfl, rfl⟩
set_option maxRecDepth 65536 in
set_option maxHeartbeats 40000000 in
theorem rm_isFull_10 {l : Launch} {Z : State} {a0 : Array Value} (hw : ∀ d ∈ tables_1, d.before a0 Z = true) {o0 : Addr} {o1 : Addr} {i2 : Int32} {kc3 : ClassId} {x4 : UInt64} {x5 : UInt64} {x6 : UInt64} {h0 : Heap} {n0 : Nat} (O : Old Z n0 h0)  (P0 : Exa Z h0 o0 "com/example/rondel/rondel/primitive/DoubleRingBuffer") (P1 : Fld Z h0 o0 "com/example/rondel/rondel/primitive/DoubleRingBuffer" "readings" "[D" (.ref o1)) (P2 : Fld Z h0 o0 "com/example/rondel/rondel/primitive/DoubleRingBuffer" "size" "I" (.int (3 : Int32))) (P3 : Fld Z h0 o0 "com/example/rondel/rondel/primitive/DoubleRingBuffer" "head" "I" (.int (1 : Int32))) (P4 : Fld Z h0 o0 "com/example/rondel/rondel/primitive/DoubleRingBuffer" "modCount" "I" (.int i2)) (P5 : Arv Z h0 o1 kc3 .double (3 : Int32) [(.double x4), (.double x5), (.double x6)] (.double 0)) (G0 : n0 ≤ o0) (G1 : n0 ≤ o1) (N0_1 : o0 ≠ o1) :
    Met1 l Z (⟨"com/example/rondel/rondel/primitive/DoubleRingBuffer", "isFull", "()Z"⟩ : MethodName) prog_11_method_5_code 1 (some .boolean) ({ frames := 0, cells := 0, slots := 0, locals := 0 } : Room) #[(.ref o0)] h0 n0 (fun v h => v = (.int (1 : Int32)) ∧ h0 = h) := by
  refine met_of (L := #[.val (.ref o0)]) (plainFor_of_name pn_10) (fun m => by first | (simp [entryFrame, mkF, argsToLocals, Value.category]; done) | rfl) ?_
  intro p e s m below meth c T C X
  change Cx p s m meth c Z "com/example/rondel/rondel/primitive/DoubleRingBuffer" prog_11_method_5_code 1 (some .boolean) "isFull" at C
  refine g_aloadN C X d7_0 (q := 1) rfl rfl rfl ?_
  refine g_getF C X (host := "") (Or.inl (w19 hw)) Via.refl P2 d7_1 (q := 4) rfl ?_
  intro T1 X2
  refine g_aloadN C X2 d7_4 (q := 5) rfl rfl rfl ?_
  refine g_getF C X2 (host := "") (Or.inl (w12 hw)) Via.refl P1 d7_5 (q := 8) rfl ?_
  intro T3 X4
  refine g_alen C X4 P5 d7_8 (q := 9) rfl ?_
  refine g_icN C X4 d7_9 (q := 12) rfl (by decide) ?_
  refine g_iconst C X4 d7_12 (q := 13) rfl (z := (1 : Int32)) rfl ?_
  refine g_goto C X4 d7_13 (by decide) (q := 17) (by decide) ?_
  exact g_retN C X4 (Or.inl rfl) (z' := (1 : Int32)) (by decide) d7_17 (by decide) (by decide) ⟨_, rfl, rfl, rfl⟩
set_option maxRecDepth 65536 in
set_option maxHeartbeats 40000000 in
theorem rm_checkNotEmpty_5 {l : Launch} {Z : State} {a0 : Array Value} (hw : ∀ d ∈ tables_1, d.before a0 Z = true) {o0 : Addr} {o1 : Addr} {i2 : Int32} {kc3 : ClassId} {x4 : UInt64} {x5 : UInt64} {x6 : UInt64} {h0 : Heap} {n0 : Nat} (O : Old Z n0 h0)  (P0 : Exa Z h0 o0 "com/example/rondel/rondel/primitive/DoubleRingBuffer") (P1 : Fld Z h0 o0 "com/example/rondel/rondel/primitive/DoubleRingBuffer" "readings" "[D" (.ref o1)) (P2 : Fld Z h0 o0 "com/example/rondel/rondel/primitive/DoubleRingBuffer" "size" "I" (.int (3 : Int32))) (P3 : Fld Z h0 o0 "com/example/rondel/rondel/primitive/DoubleRingBuffer" "head" "I" (.int (1 : Int32))) (P4 : Fld Z h0 o0 "com/example/rondel/rondel/primitive/DoubleRingBuffer" "modCount" "I" (.int i2)) (P5 : Arv Z h0 o1 kc3 .double (3 : Int32) [(.double x4), (.double x5), (.double x6)] (.double 0)) (G0 : n0 ≤ o0) (G1 : n0 ≤ o1) (N0_1 : o0 ≠ o1) :
    Met0 l Z (⟨"com/example/rondel/rondel/primitive/DoubleRingBuffer", "checkNotEmpty", "()V"⟩ : MethodName) prog_11_method_17_code 1 none ({ frames := 0, cells := 0, slots := 0, locals := 0 } : Room) #[(.ref o0)] h0 n0 (fun h => h0 = h) := by
  refine met_of (L := #[.val (.ref o0)]) (plainFor_of_name pn_10) (fun m => by first | (simp [entryFrame, mkF, argsToLocals, Value.category]; done) | rfl) ?_
  intro p e s m below meth c T C X
  change Cx p s m meth c Z "com/example/rondel/rondel/primitive/DoubleRingBuffer" prog_11_method_17_code 1 none "checkNotEmpty" at C
  refine g_aloadN C X d10_0 (q := 1) rfl rfl rfl ?_
  refine g_getF C X (host := "") (Or.inl (w19 hw)) Via.refl P2 d10_1 (q := 4) rfl ?_
  intro T1 X2
  refine g_ifY C X2 d10_4 (by decide) (q := 17) (by decide) (by decide) ?_
  exact g_retV C X2 d10_17 (by decide) (by decide) ⟨rfl, rfl⟩
set_option maxRecDepth 65536 in
set_option maxHeartbeats 40000000 in
theorem rm_getFirst_5 {l : Launch} {Z : State} {a0 : Array Value} (hw : ∀ d ∈ tables_1, d.before a0 Z = true) {o0 : Addr} {o1 : Addr} {i2 : Int32} {kc3 : ClassId} {x4 : UInt64} {x5 : UInt64} {x6 : UInt64} {h0 : Heap} {n0 : Nat} (O : Old Z n0 h0)  (P0 : Exa Z h0 o0 "com/example/rondel/rondel/primitive/DoubleRingBuffer") (P1 : Fld Z h0 o0 "com/example/rondel/rondel/primitive/DoubleRingBuffer" "readings" "[D" (.ref o1)) (P2 : Fld Z h0 o0 "com/example/rondel/rondel/primitive/DoubleRingBuffer" "size" "I" (.int (3 : Int32))) (P3 : Fld Z h0 o0 "com/example/rondel/rondel/primitive/DoubleRingBuffer" "head" "I" (.int (1 : Int32))) (P4 : Fld Z h0 o0 "com/example/rondel/rondel/primitive/DoubleRingBuffer" "modCount" "I" (.int i2)) (P5 : Arv Z h0 o1 kc3 .double (3 : Int32) [(.double x4), (.double x5), (.double x6)] (.double 0)) (G0 : n0 ≤ o0) (G1 : n0 ≤ o1) (N0_1 : o0 ≠ o1) :
    Met1 l Z (⟨"com/example/rondel/rondel/primitive/DoubleRingBuffer", "getFirst", "()D"⟩ : MethodName) prog_11_method_9_code 1 (some .double) ({ frames := 1, cells := 0, slots := 0, locals := 12 } : Room) #[(.ref o0)] h0 n0 (fun v h => v = (.double x5) ∧ h0 = h) := by
  refine met_of (L := #[.val (.ref o0)]) (plainFor_of_name pn_10) (fun m => by first | (simp [entryFrame, mkF, argsToLocals, Value.category]; done) | rfl) ?_
  intro p e s m below meth c T C X
  change Cx p s m meth c Z "com/example/rondel/rondel/primitive/DoubleRingBuffer" prog_11_method_9_code 1 (some .double) "getFirst" at C
  refine g_aloadN C X d9_0 (q := 1) rfl rfl rfl ?_
  refine g_callP0 C X (y := (⟨"com/example/rondel/rondel/primitive/DoubleRingBuffer", "checkNotEmpty", "()V"⟩ : MethodName)) (a := o0) (by decide) (w52 hw) (sel_priv (w3 hw) (w53 hw) (w54 hw) (by decide)) (w53 hw) (w54 hw) P0 (w55 hw) (w4 hw) (rm_checkNotEmpty_5 hw (o0 := o0) (o1 := o1) (i2 := i2) (kc3 := kc3) (x4 := x4) (x5 := x5) (x6 := x6) O P0 P1 P2 P3 P4 P5 G0 G1 N0_1) (W := 0) (by decide) (by decide) (k' := 0) rfl (n' := 0) rfl (by decide) (by decide) rfl pd_104 (argsL := []) rfl (rest := []) rfl rfl rfl d9_1 (q := 4) rfl ?_
  rintro T1 _ X2 rfl
  refine g_aloadN C X2 d9_4 (q := 5) rfl rfl rfl ?_
  refine g_getF C X2 (host := "") (Or.inl (w12 hw)) Via.refl P1 d9_5 (q := 8) rfl ?_
  intro T3 X4
  refine g_aloadN C X4 d9_8 (q := 9) rfl rfl rfl ?_
  refine g_getF C X4 (host := "") (Or.inl (w25 hw)) Via.refl P3 d9_9 (q := 12) rfl ?_
  intro T5 X6
  refine g_daload C X6 P5 (by decide) (w := (.double x5)) rfl d9_12 (q := 13) rfl ?_
  exact g_retD C X6 d9_13 (by decide) (by decide) ⟨_, rfl, rfl, rfl⟩
set_option maxRecDepth 65536 in
set_option maxHeartbeats 40000000 in
theorem rm_removeFirst_5 {l : Launch} {Z : State} {a0 : Array Value} (hw : ∀ d ∈ tables_1, d.before a0 Z = true) {o0 : Addr} {o1 : Addr} {i2 : Int32} {kc3 : ClassId} {x4 : UInt64} {x5 : UInt64} {x6 : UInt64} {h0 : Heap} {n0 : Nat} (O : Old Z n0 h0)  (P0 : Exa Z h0 o0 "com/example/rondel/rondel/primitive/DoubleRingBuffer") (P1 : Fld Z h0 o0 "com/example/rondel/rondel/primitive/DoubleRingBuffer" "readings" "[D" (.ref o1)) (P2 : Fld Z h0 o0 "com/example/rondel/rondel/primitive/DoubleRingBuffer" "size" "I" (.int (3 : Int32))) (P3 : Fld Z h0 o0 "com/example/rondel/rondel/primitive/DoubleRingBuffer" "head" "I" (.int (1 : Int32))) (P4 : Fld Z h0 o0 "com/example/rondel/rondel/primitive/DoubleRingBuffer" "modCount" "I" (.int i2)) (P5 : Arv Z h0 o1 kc3 .double (3 : Int32) [(.double x4), (.double x5), (.double x6)] (.double 0)) (G0 : n0 ≤ o0) (G1 : n0 ≤ o1) (N0_1 : o0 ≠ o1) :
    Met1 l Z (⟨"com/example/rondel/rondel/primitive/DoubleRingBuffer", "removeFirst", "()D"⟩ : MethodName) prog_11_method_7_code 3 (some .double) ({ frames := 2, cells := 0, slots := 0, locals := 24 } : Room) #[(.ref o0)] h0 n0 (fun v h => v = (.double x5) ∧ Keep h0 h [o0] ∧ Exa Z h o0 "com/example/rondel/rondel/primitive/DoubleRingBuffer" ∧ Fld Z h o0 "com/example/rondel/rondel/primitive/DoubleRingBuffer" "readings" "[D" (.ref o1) ∧ Fld Z h o0 "com/example/rondel/rondel/primitive/DoubleRingBuffer" "size" "I" (.int (2 : Int32)) ∧ Fld Z h o0 "com/example/rondel/rondel/primitive/DoubleRingBuffer" "head" "I" (.int (2 : Int32)) ∧ Fld Z h o0 "com/example/rondel/rondel/primitive/DoubleRingBuffer" "modCount" "I" (.int (i2 + (1 : Int32)))) := by
  refine met_of (L := #[.val (.ref o0), .unset, .unset]) (plainFor_of_name pn_10) (fun m => by first | (simp [entryFrame, mkF, argsToLocals, Value.category]; done) | rfl) ?_
  intro p e s m below meth c T C X
  change Cx p s m meth c Z "com/example/rondel/rondel/primitive/DoubleRingBuffer" prog_11_method_7_code 3 (some .double) "removeFirst" at C
  refine g_aloadN C X d8_0 (q := 1) rfl rfl rfl ?_
  refine g_callV1 C X (y := (⟨"com/example/rondel/rondel/primitive/DoubleRingBuffer", "getFirst", "()D"⟩ : MethodName)) (z := (⟨"com/example/rondel/rondel/primitive/DoubleRingBuffer", "getFirst", "()D"⟩ : MethodName)) (a := o0) (by decide) (w47 hw) (w48 hw) (w50 hw) (w49 hw) (nf_sel (w50 hw)) P0 (w51 hw) (w4 hw) (rm_getFirst_5 hw (o0 := o0) (o1 := o1) (i2 := i2) (kc3 := kc3) (x4 := x4) (x5 := x5) (x6 := x6) O P0 P1 P2 P3 P4 P5 G0 G1 N0_1) (W := 0) (by decide) (by decide) (k' := 0) rfl (n' := 0) rfl (by decide) (by decide) rfl pd_111 (argsL := []) rfl (rest := []) rfl rfl rfl d8_1 (q := 4) rfl ?_
  rintro _ T1 _ X2 ⟨rfl, rfl⟩
  refine g_dstoreN C X2 d8_4 (q := 5) rfl (L' := #[.val (.ref o0), .val (.double x5), .second]) rfl ?_
  refine g_aloadN C X2 d8_5 (q := 6) rfl rfl rfl ?_
  refine g_aloadN C X2 d8_6 (q := 7) rfl rfl rfl ?_
  refine g_aloadN C X2 d8_7 (q := 8) rfl rfl rfl ?_
  refine g_getF C X2 (host := "") (Or.inl (w25 hw)) Via.refl P3 d8_8 (q := 11) rfl ?_
  intro T3 X4
  refine g_callP1 C X4 (y := (⟨"com/example/rondel/rondel/primitive/DoubleRingBuffer", "next", "(I)I"⟩ : MethodName)) (a := o0) (by decide) (w29 hw) (sel_priv (w3 hw) (w30 hw) (w31 hw) (by decide)) (w30 hw) (w31 hw) P0 (w32 hw) (w4 hw) (rm_next_5 hw (o0 := o0) (o1 := o1) (i2 := i2) (kc3 := kc3) (x4 := x4) (x5 := x5) (x6 := x6) O P0 P1 P2 P3 P4 P5 G0 G1 N0_1) (W := 1) (by decide) (by decide) (k' := 0) rfl (n' := 0) rfl (by decide) (by decide) rfl pd_40 (argsL := [(.int (1 : Int32))]) rfl (rest := [(.ref o0)]) rfl rfl rfl d8_11 (q := 14) rfl ?_
  rintro _ T5 _ X6 ⟨rfl, rfl⟩
  refine g_putF C X6 (host := "") (Or.inl (w25 hw)) Via.refl P3 P0 (Or.inl (w26 hw)) (w3 hw) (ty := .int) (by decide) rfl rfl d8_14 (q := 17) rfl G0 ?_
  intro T7 h9 X8 W10
  have FW10 := Fld.same W10 P3
  have O11 := O.wr W10 G0
  refine g_aloadN C X8 d8_17 (q := 18) rfl rfl rfl ?_
  refine g_dup C X8 d8_18 (q := 19) rfl rfl ?_
  have f12 := (P2.other W10 (Or.inr (slot_ne (Or.inl (w20 hw)) (Or.inl (w26 hw)) (by decide) (t := .int) (t' := .int) (by decide) (by decide))))
  refine g_getF C X8 (host := "") (Or.inl (w19 hw)) Via.refl f12 d8_19 (q := 22) rfl ?_
  intro T13 X14
  refine g_iconst C X14 d8_22 (q := 23) rfl (z := (1 : Int32)) rfl ?_
  refine g_isub C X14 d8_23 (q := 24) rfl (z := (2 : Int32)) (by decide) ?_
  have f15 := (P0.wr W10)
  refine g_putF C X14 (host := "") (Or.inl (w19 hw)) Via.refl f12 f15 (Or.inl (w20 hw)) (w3 hw) (ty := .int) (by decide) rfl rfl d8_24 (q := 27) rfl G0 ?_
  intro T16 h18 X17 W19
  have FW19 := Fld.same W19 f12
  have O20 := O11.wr W19 G0
  refine g_aloadN C X17 d8_27 (q := 28) rfl rfl rfl ?_
  refine g_dup C X17 d8_28 (q := 29) rfl rfl ?_
  have f21 := ((P4.other W10 (Or.inr (slot_ne (Or.inl (w28 hw)) (Or.inl (w26 hw)) (by decide) (t := .int) (t' := .int) (by decide) (by decide)))).other W19 (Or.inr (slot_ne (Or.inl (w28 hw)) (Or.inl (w20 hw)) (by decide) (t := .int) (t' := .int) (by decide) (by decide))))
  refine g_getF C X17 (host := "") (Or.inl (w27 hw)) Via.refl f21 d8_29 (q := 32) rfl ?_
  intro T22 X23
  refine g_iconst C X23 d8_32 (q := 33) rfl (z := (1 : Int32)) rfl ?_
  refine g_iadd C X23 d8_33 (q := 34) rfl (z := (i2 + (1 : Int32))) rfl ?_
  have f24 := (f15.wr W19)
  refine g_putF C X23 (host := "") (Or.inl (w27 hw)) Via.refl f21 f24 (Or.inl (w28 hw)) (w3 hw) (ty := .int) (by decide) rfl rfl d8_34 (q := 37) rfl G0 ?_
  intro T25 h27 X26 W28
  have FW28 := Fld.same W28 f21
  have O29 := O20.wr W28 G0
  refine g_dloadN C X26 d8_37 (q := 38) rfl rfl ?_
  exact g_retD C X26 d8_38 (by decide) (by decide) ⟨_, rfl, rfl, ((((Keep.refl h0 [o0]).wr W10 (Or.inl (List.mem_of_getElem? (i := 0) rfl))).wr W19 (Or.inl (List.mem_of_getElem? (i := 0) rfl))).wr W28 (Or.inl (List.mem_of_getElem? (i := 0) rfl))), (f24.wr W28), (((P1.other W10 (Or.inr (slot_ne (Or.inr (w13 hw)) (Or.inl (w26 hw)) (by decide) (t := (.array .double)) (t' := .int) (by decide) (by decide)))).other W19 (Or.inr (slot_ne (Or.inr (w13 hw)) (Or.inl (w20 hw)) (by decide) (t := (.array .double)) (t' := .int) (by decide) (by decide)))).other W28 (Or.inr (slot_ne (Or.inr (w13 hw)) (Or.inl (w28 hw)) (by decide) (t := (.array .double)) (t' := .int) (by decide) (by decide)))), (FW19.other W28 (Or.inr (slot_ne (Or.inl (w20 hw)) (Or.inl (w28 hw)) (by decide) (t := .int) (t' := .int) (by decide) (by decide)))), ((FW10.other W19 (Or.inr (slot_ne (Or.inl (w26 hw)) (Or.inl (w20 hw)) (by decide) (t := .int) (t' := .int) (by decide) (by decide)))).other W28 (Or.inr (slot_ne (Or.inl (w26 hw)) (Or.inl (w28 hw)) (by decide) (t := .int) (t' := .int) (by decide) (by decide)))), FW28⟩
set_option maxRecDepth 65536 in
set_option maxHeartbeats 40000000 in
theorem rm_isFull_11 {l : Launch} {Z : State} {a0 : Array Value} (hw : ∀ d ∈ tables_1, d.before a0 Z = true) {o0 : Addr} {o1 : Addr} {i2 : Int32} {kc3 : ClassId} {x4 : UInt64} {x5 : UInt64} {x6 : UInt64} {h0 : Heap} {n0 : Nat} (O : Old Z n0 h0)  (P0 : Exa Z h0 o0 "com/example/rondel/rondel/primitive/DoubleRingBuffer") (P1 : Fld Z h0 o0 "com/example/rondel/rondel/primitive/DoubleRingBuffer" "readings" "[D" (.ref o1)) (P2 : Fld Z h0 o0 "com/example/rondel/rondel/primitive/DoubleRingBuffer" "size" "I" (.int (2 : Int32))) (P3 : Fld Z h0 o0 "com/example/rondel/rondel/primitive/DoubleRingBuffer" "head" "I" (.int (2 : Int32))) (P4 : Fld Z h0 o0 "com/example/rondel/rondel/primitive/DoubleRingBuffer" "modCount" "I" (.int i2)) (P5 : Arv Z h0 o1 kc3 .double (3 : Int32) [(.double x4), (.double x5), (.double x6)] (.double 0)) (G0 : n0 ≤ o0) (G1 : n0 ≤ o1) (N0_1 : o0 ≠ o1) :
    Met1 l Z (⟨"com/example/rondel/rondel/primitive/DoubleRingBuffer", "isFull", "()Z"⟩ : MethodName) prog_11_method_5_code 1 (some .boolean) ({ frames := 0, cells := 0, slots := 0, locals := 0 } : Room) #[(.ref o0)] h0 n0 (fun v h => v = (.int (0 : Int32)) ∧ h0 = h) := by
  refine met_of (L := #[.val (.ref o0)]) (plainFor_of_name pn_10) (fun m => by first | (simp [entryFrame, mkF, argsToLocals, Value.category]; done) | rfl) ?_
  intro p e s m below meth c T C X
  change Cx p s m meth c Z "com/example/rondel/rondel/primitive/DoubleRingBuffer" prog_11_method_5_code 1 (some .boolean) "isFull" at C
  refine g_aloadN C X d7_0 (q := 1) rfl rfl rfl ?_
  refine g_getF C X (host := "") (Or.inl (w19 hw)) Via.refl P2 d7_1 (q := 4) rfl ?_
  intro T1 X2
  refine g_aloadN C X2 d7_4 (q := 5) rfl rfl rfl ?_
  refine g_getF C X2 (host := "") (Or.inl (w12 hw)) Via.refl P1 d7_5 (q := 8) rfl ?_
  intro T3 X4
  refine g_alen C X4 P5 d7_8 (q := 9) rfl ?_
  refine g_icY C X4 d7_9 (by decide) (q := 16) (by decide) (by decide) ?_
  refine g_iconst C X4 d7_16 (q := 17) rfl (z := (0 : Int32)) rfl ?_
  exact g_retN C X4 (Or.inl rfl) (z' := (0 : Int32)) (by decide) d7_17 (by decide) (by decide) ⟨_, rfl, rfl, rfl⟩
set_option maxRecDepth 65536 in
set_option maxHeartbeats 40000000 in
theorem rm_min_14 {l : Launch} {Z : State} {a0 : Array Value} (hw : ∀ d ∈ tables_1, d.before a0 Z = true)  {h0 : Heap} {n0 : Nat} (O : Old Z n0 h0)  :
    Met1 l Z (⟨"java/lang/Math", "min", "(II)I"⟩ : MethodName) jdk_29_method_69_code 2 (some .int) ({ frames := 0, cells := 0, slots := 0, locals := 0 } : Room) #[(.int (3 : Int32)), (.int (3 : Int32))] h0 n0 (fun v h => v = (.int (3 : Int32)) ∧ h0 = h) := by
  refine met_of (L := #[.val (.int (3 : Int32)), .val (.int (3 : Int32))]) (Jvm.Free.JP.mathPlain rfl (by decide +kernel)) (fun m => by first | (simp [entryFrame, mkF, argsToLocals, Value.category]; done) | rfl) ?_
  intro p e s m below meth c T C X
  change Cx p s m meth c Z "java/lang/Math" jdk_29_method_69_code 2 (some .int) "min" at C
  refine g_iloadN C X d6_0 (q := 1) rfl rfl ?_
  refine g_iloadN C X d6_1 (q := 2) rfl rfl ?_
  refine g_icN C X d6_2 (q := 5) rfl (by decide) ?_
  refine g_iloadN C X d6_5 (q := 6) rfl rfl ?_
  refine g_goto C X d6_6 (by decide) (q := 10) (by decide) ?_
  exact g_retI C X d6_10 (by decide) (by decide) ⟨_, rfl, rfl, rfl⟩
set_option maxRecDepth 65536 in
set_option maxHeartbeats 40000000 in
theorem rm_isFull_12 {l : Launch} {Z : State} {a0 : Array Value} (hw : ∀ d ∈ tables_1, d.before a0 Z = true) {o0 : Addr} {o1 : Addr} {i2 : Int32} {kc3 : ClassId} {x4 : UInt64} {x5 : UInt64} {x6 : UInt64} {h0 : Heap} {n0 : Nat} (O : Old Z n0 h0)  (P0 : Exa Z h0 o0 "com/example/rondel/rondel/primitive/DoubleRingBuffer") (P1 : Fld Z h0 o0 "com/example/rondel/rondel/primitive/DoubleRingBuffer" "readings" "[D" (.ref o1)) (P2 : Fld Z h0 o0 "com/example/rondel/rondel/primitive/DoubleRingBuffer" "size" "I" (.int (3 : Int32))) (P3 : Fld Z h0 o0 "com/example/rondel/rondel/primitive/DoubleRingBuffer" "head" "I" (.int (0 : Int32))) (P4 : Fld Z h0 o0 "com/example/rondel/rondel/primitive/DoubleRingBuffer" "modCount" "I" (.int i2)) (P5 : Arv Z h0 o1 kc3 .double (3 : Int32) [(.double x4), (.double x5), (.double x6)] (.double 0)) (G0 : n0 ≤ o0) (G1 : n0 ≤ o1) (N0_1 : o0 ≠ o1) :
    Met1 l Z (⟨"com/example/rondel/rondel/primitive/DoubleRingBuffer", "isFull", "()Z"⟩ : MethodName) prog_11_method_5_code 1 (some .boolean) ({ frames := 0, cells := 0, slots := 0, locals := 0 } : Room) #[(.ref o0)] h0 n0 (fun v h => v = (.int (1 : Int32)) ∧ h0 = h) := by
  refine met_of (L := #[.val (.ref o0)]) (plainFor_of_name pn_10) (fun m => by first | (simp [entryFrame, mkF, argsToLocals, Value.category]; done) | rfl) ?_
  intro p e s m below meth c T C X
  change Cx p s m meth c Z "com/example/rondel/rondel/primitive/DoubleRingBuffer" prog_11_method_5_code 1 (some .boolean) "isFull" at C
  refine g_aloadN C X d7_0 (q := 1) rfl rfl rfl ?_
  refine g_getF C X (host := "") (Or.inl (w19 hw)) Via.refl P2 d7_1 (q := 4) rfl ?_
  intro T1 X2
  refine g_aloadN C X2 d7_4 (q := 5) rfl rfl rfl ?_
  refine g_getF C X2 (host := "") (Or.inl (w12 hw)) Via.refl P1 d7_5 (q := 8) rfl ?_
  intro T3 X4
  refine g_alen C X4 P5 d7_8 (q := 9) rfl ?_
  refine g_icN C X4 d7_9 (q := 12) rfl (by decide) ?_
  refine g_iconst C X4 d7_12 (q := 13) rfl (z := (1 : Int32)) rfl ?_
  refine g_goto C X4 d7_13 (by decide) (q := 17) (by decide) ?_
  exact g_retN C X4 (Or.inl rfl) (z' := (1 : Int32)) (by decide) d7_17 (by decide) (by decide) ⟨_, rfl, rfl, rfl⟩
set_option maxRecDepth 65536 in
set_option maxHeartbeats 40000000 in
theorem rm_checkNotEmpty_6 {l : Launch} {Z : State} {a0 : Array Value} (hw : ∀ d ∈ tables_1, d.before a0 Z = true) {o0 : Addr} {o1 : Addr} {i2 : Int32} {kc3 : ClassId} {x4 : UInt64} {x5 : UInt64} {x6 : UInt64} {h0 : Heap} {n0 : Nat} (O : Old Z n0 h0)  (P0 : Exa Z h0 o0 "com/example/rondel/rondel/primitive/DoubleRingBuffer") (P1 : Fld Z h0 o0 "com/example/rondel/rondel/primitive/DoubleRingBuffer" "readings" "[D" (.ref o1)) (P2 : Fld Z h0 o0 "com/example/rondel/rondel/primitive/DoubleRingBuffer" "size" "I" (.int (3 : Int32))) (P3 : Fld Z h0 o0 "com/example/rondel/rondel/primitive/DoubleRingBuffer" "head" "I" (.int (0 : Int32))) (P4 : Fld Z h0 o0 "com/example/rondel/rondel/primitive/DoubleRingBuffer" "modCount" "I" (.int i2)) (P5 : Arv Z h0 o1 kc3 .double (3 : Int32) [(.double x4), (.double x5), (.double x6)] (.double 0)) (G0 : n0 ≤ o0) (G1 : n0 ≤ o1) (N0_1 : o0 ≠ o1) :
    Met0 l Z (⟨"com/example/rondel/rondel/primitive/DoubleRingBuffer", "checkNotEmpty", "()V"⟩ : MethodName) prog_11_method_17_code 1 none ({ frames := 0, cells := 0, slots := 0, locals := 0 } : Room) #[(.ref o0)] h0 n0 (fun h => h0 = h) := by
  refine met_of (L := #[.val (.ref o0)]) (plainFor_of_name pn_10) (fun m => by first | (simp [entryFrame, mkF, argsToLocals, Value.category]; done) | rfl) ?_
  intro p e s m below meth c T C X
  change Cx p s m meth c Z "com/example/rondel/rondel/primitive/DoubleRingBuffer" prog_11_method_17_code 1 none "checkNotEmpty" at C
  refine g_aloadN C X d10_0 (q := 1) rfl rfl rfl ?_
  refine g_getF C X (host := "") (Or.inl (w19 hw)) Via.refl P2 d10_1 (q := 4) rfl ?_
  intro T1 X2
  refine g_ifY C X2 d10_4 (by decide) (q := 17) (by decide) (by decide) ?_
  exact g_retV C X2 d10_17 (by decide) (by decide) ⟨rfl, rfl⟩
set_option maxRecDepth 65536 in
set_option maxHeartbeats 40000000 in
theorem rm_getFirst_6 {l : Launch} {Z : State} {a0 : Array Value} (hw : ∀ d ∈ tables_1, d.before a0 Z = true) {o0 : Addr} {o1 : Addr} {i2 : Int32} {kc3 : ClassId} {x4 : UInt64} {x5 : UInt64} {x6 : UInt64} {h0 : Heap} {n0 : Nat} (O : Old Z n0 h0)  (P0 : Exa Z h0 o0 "com/example/rondel/rondel/primitive/DoubleRingBuffer") (P1 : Fld Z h0 o0 "com/example/rondel/rondel/primitive/DoubleRingBuffer" "readings" "[D" (.ref o1)) (P2 : Fld Z h0 o0 "com/example/rondel/rondel/primitive/DoubleRingBuffer" "size" "I" (.int (3 : Int32))) (P3 : Fld Z h0 o0 "com/example/rondel/rondel/primitive/DoubleRingBuffer" "head" "I" (.int (0 : Int32))) (P4 : Fld Z h0 o0 "com/example/rondel/rondel/primitive/DoubleRingBuffer" "modCount" "I" (.int i2)) (P5 : Arv Z h0 o1 kc3 .double (3 : Int32) [(.double x4), (.double x5), (.double x6)] (.double 0)) (G0 : n0 ≤ o0) (G1 : n0 ≤ o1) (N0_1 : o0 ≠ o1) :
    Met1 l Z (⟨"com/example/rondel/rondel/primitive/DoubleRingBuffer", "getFirst", "()D"⟩ : MethodName) prog_11_method_9_code 1 (some .double) ({ frames := 1, cells := 0, slots := 0, locals := 12 } : Room) #[(.ref o0)] h0 n0 (fun v h => v = (.double x4) ∧ h0 = h) := by
  refine met_of (L := #[.val (.ref o0)]) (plainFor_of_name pn_10) (fun m => by first | (simp [entryFrame, mkF, argsToLocals, Value.category]; done) | rfl) ?_
  intro p e s m below meth c T C X
  change Cx p s m meth c Z "com/example/rondel/rondel/primitive/DoubleRingBuffer" prog_11_method_9_code 1 (some .double) "getFirst" at C
  refine g_aloadN C X d9_0 (q := 1) rfl rfl rfl ?_
  refine g_callP0 C X (y := (⟨"com/example/rondel/rondel/primitive/DoubleRingBuffer", "checkNotEmpty", "()V"⟩ : MethodName)) (a := o0) (by decide) (w52 hw) (sel_priv (w3 hw) (w53 hw) (w54 hw) (by decide)) (w53 hw) (w54 hw) P0 (w55 hw) (w4 hw) (rm_checkNotEmpty_6 hw (o0 := o0) (o1 := o1) (i2 := i2) (kc3 := kc3) (x4 := x4) (x5 := x5) (x6 := x6) O P0 P1 P2 P3 P4 P5 G0 G1 N0_1) (W := 0) (by decide) (by decide) (k' := 0) rfl (n' := 0) rfl (by decide) (by decide) rfl pd_104 (argsL := []) rfl (rest := []) rfl rfl rfl d9_1 (q := 4) rfl ?_
  rintro T1 _ X2 rfl
  refine g_aloadN C X2 d9_4 (q := 5) rfl rfl rfl ?_
  refine g_getF C X2 (host := "") (Or.inl (w12 hw)) Via.refl P1 d9_5 (q := 8) rfl ?_
  intro T3 X4
  refine g_aloadN C X4 d9_8 (q := 9) rfl rfl rfl ?_
  refine g_getF C X4 (host := "") (Or.inl (w25 hw)) Via.refl P3 d9_9 (q := 12) rfl ?_
  intro T5 X6
  refine g_daload C X6 P5 (by decide) (w := (.double x4)) rfl d9_12 (q := 13) rfl ?_
  exact g_retD C X6 d9_13 (by decide) (by decide) ⟨_, rfl, rfl, rfl⟩
set_option maxRecDepth 65536 in
set_option maxHeartbeats 40000000 in
theorem rm_removeFirst_6 {l : Launch} {Z : State} {a0 : Array Value} (hw : ∀ d ∈ tables_1, d.before a0 Z = true) {o0 : Addr} {o1 : Addr} {i2 : Int32} {kc3 : ClassId} {x4 : UInt64} {x5 : UInt64} {x6 : UInt64} {h0 : Heap} {n0 : Nat} (O : Old Z n0 h0)  (P0 : Exa Z h0 o0 "com/example/rondel/rondel/primitive/DoubleRingBuffer") (P1 : Fld Z h0 o0 "com/example/rondel/rondel/primitive/DoubleRingBuffer" "readings" "[D" (.ref o1)) (P2 : Fld Z h0 o0 "com/example/rondel/rondel/primitive/DoubleRingBuffer" "size" "I" (.int (3 : Int32))) (P3 : Fld Z h0 o0 "com/example/rondel/rondel/primitive/DoubleRingBuffer" "head" "I" (.int (0 : Int32))) (P4 : Fld Z h0 o0 "com/example/rondel/rondel/primitive/DoubleRingBuffer" "modCount" "I" (.int i2)) (P5 : Arv Z h0 o1 kc3 .double (3 : Int32) [(.double x4), (.double x5), (.double x6)] (.double 0)) (G0 : n0 ≤ o0) (G1 : n0 ≤ o1) (N0_1 : o0 ≠ o1) :
    Met1 l Z (⟨"com/example/rondel/rondel/primitive/DoubleRingBuffer", "removeFirst", "()D"⟩ : MethodName) prog_11_method_7_code 3 (some .double) ({ frames := 2, cells := 0, slots := 0, locals := 24 } : Room) #[(.ref o0)] h0 n0 (fun v h => v = (.double x4) ∧ Keep h0 h [o0] ∧ Exa Z h o0 "com/example/rondel/rondel/primitive/DoubleRingBuffer" ∧ Fld Z h o0 "com/example/rondel/rondel/primitive/DoubleRingBuffer" "readings" "[D" (.ref o1) ∧ Fld Z h o0 "com/example/rondel/rondel/primitive/DoubleRingBuffer" "size" "I" (.int (2 : Int32)) ∧ Fld Z h o0 "com/example/rondel/rondel/primitive/DoubleRingBuffer" "head" "I" (.int (1 : Int32)) ∧ Fld Z h o0 "com/example/rondel/rondel/primitive/DoubleRingBuffer" "modCount" "I" (.int (i2 + (1 : Int32)))) := by
  refine met_of (L := #[.val (.ref o0), .unset, .unset]) (plainFor_of_name pn_10) (fun m => by first | (simp [entryFrame, mkF, argsToLocals, Value.category]; done) | rfl) ?_
  intro p e s m below meth c T C X
  change Cx p s m meth c Z "com/example/rondel/rondel/primitive/DoubleRingBuffer" prog_11_method_7_code 3 (some .double) "removeFirst" at C
  refine g_aloadN C X d8_0 (q := 1) rfl rfl rfl ?_
  refine g_callV1 C X (y := (⟨"com/example/rondel/rondel/primitive/DoubleRingBuffer", "getFirst", "()D"⟩ : MethodName)) (z := (⟨"com/example/rondel/rondel/primitive/DoubleRingBuffer", "getFirst", "()D"⟩ : MethodName)) (a := o0) (by decide) (w47 hw) (w48 hw) (w50 hw) (w49 hw) (nf_sel (w50 hw)) P0 (w51 hw) (w4 hw) (rm_getFirst_6 hw (o0 := o0) (o1 := o1) (i2 := i2) (kc3 := kc3) (x4 := x4) (x5 := x5) (x6 := x6) O P0 P1 P2 P3 P4 P5 G0 G1 N0_1) (W := 0) (by decide) (by decide) (k' := 0) rfl (n' := 0) rfl (by decide) (by decide) rfl pd_111 (argsL := []) rfl (rest := []) rfl rfl rfl d8_1 (q := 4) rfl ?_
  rintro _ T1 _ X2 ⟨rfl, rfl⟩
  refine g_dstoreN C X2 d8_4 (q := 5) rfl (L' := #[.val (.ref o0), .val (.double x4), .second]) rfl ?_
  refine g_aloadN C X2 d8_5 (q := 6) rfl rfl rfl ?_
  refine g_aloadN C X2 d8_6 (q := 7) rfl rfl rfl ?_
  refine g_aloadN C X2 d8_7 (q := 8) rfl rfl rfl ?_
  refine g_getF C X2 (host := "") (Or.inl (w25 hw)) Via.refl P3 d8_8 (q := 11) rfl ?_
  intro T3 X4
  refine g_callP1 C X4 (y := (⟨"com/example/rondel/rondel/primitive/DoubleRingBuffer", "next", "(I)I"⟩ : MethodName)) (a := o0) (by decide) (w29 hw) (sel_priv (w3 hw) (w30 hw) (w31 hw) (by decide)) (w30 hw) (w31 hw) P0 (w32 hw) (w4 hw) (rm_next_4 hw (o0 := o0) (o1 := o1) (i2 := i2) (kc3 := kc3) (x4 := x4) (x5 := x5) (x6 := x6) O P0 P1 P2 P3 P4 P5 G0 G1 N0_1) (W := 1) (by decide) (by decide) (k' := 0) rfl (n' := 0) rfl (by decide) (by decide) rfl pd_40 (argsL := [(.int (0 : Int32))]) rfl (rest := [(.ref o0)]) rfl rfl rfl d8_11 (q := 14) rfl ?_
  rintro _ T5 _ X6 ⟨rfl, rfl⟩
  refine g_putF C X6 (host := "") (Or.inl (w25 hw)) Via.refl P3 P0 (Or.inl (w26 hw)) (w3 hw) (ty := .int) (by decide) rfl rfl d8_14 (q := 17) rfl G0 ?_
  intro T7 h9 X8 W10
  have FW10 := Fld.same W10 P3
  have O11 := O.wr W10 G0
  refine g_aloadN C X8 d8_17 (q := 18) rfl rfl rfl ?_
  refine g_dup C X8 d8_18 (q := 19) rfl rfl ?_
  have f12 := (P2.other W10 (Or.inr (slot_ne (Or.inl (w20 hw)) (Or.inl (w26 hw)) (by decide) (t := .int) (t' := .int) (by decide) (by decide))))
  refine g_getF C X8 (host := "") (Or.inl (w19 hw)) Via.refl f12 d8_19 (q := 22) rfl ?_
  intro T13 X14
  refine g_iconst C X14 d8_22 (q := 23) rfl (z := (1 : Int32)) rfl ?_
  refine g_isub C X14 d8_23 (q := 24) rfl (z := (2 : Int32)) (by decide) ?_
  have f15 := (P0.wr W10)
  refine g_putF C X14 (host := "") (Or.inl (w19 hw)) Via.refl f12 f15 (Or.inl (w20 hw)) (w3 hw) (ty := .int) (by decide) rfl rfl d8_24 (q := 27) rfl G0 ?_
  intro T16 h18 X17 W19
  have FW19 := Fld.same W19 f12
  have O20 := O11.wr W19 G0
  refine g_aloadN C X17 d8_27 (q := 28) rfl rfl rfl ?_
  refine g_dup C X17 d8_28 (q := 29) rfl rfl ?_
  have f21 := ((P4.other W10 (Or.inr (slot_ne (Or.inl (w28 hw)) (Or.inl (w26 hw)) (by decide) (t := .int) (t' := .int) (by decide) (by decide)))).other W19 (Or.inr (slot_ne (Or.inl (w28 hw)) (Or.inl (w20 hw)) (by decide) (t := .int) (t' := .int) (by decide) (by decide))))
  refine g_getF C X17 (host := "") (Or.inl (w27 hw)) Via.refl f21 d8_29 (q := 32) rfl ?_
  intro T22 X23
  refine g_iconst C X23 d8_32 (q := 33) rfl (z := (1 : Int32)) rfl ?_
  refine g_iadd C X23 d8_33 (q := 34) rfl (z := (i2 + (1 : Int32))) rfl ?_
  have f24 := (f15.wr W19)
  refine g_putF C X23 (host := "") (Or.inl (w27 hw)) Via.refl f21 f24 (Or.inl (w28 hw)) (w3 hw) (ty := .int) (by decide) rfl rfl d8_34 (q := 37) rfl G0 ?_
  intro T25 h27 X26 W28
  have FW28 := Fld.same W28 f21
  have O29 := O20.wr W28 G0
  refine g_dloadN C X26 d8_37 (q := 38) rfl rfl ?_
  exact g_retD C X26 d8_38 (by decide) (by decide) ⟨_, rfl, rfl, ((((Keep.refl h0 [o0]).wr W10 (Or.inl (List.mem_of_getElem? (i := 0) rfl))).wr W19 (Or.inl (List.mem_of_getElem? (i := 0) rfl))).wr W28 (Or.inl (List.mem_of_getElem? (i := 0) rfl))), (f24.wr W28), (((P1.other W10 (Or.inr (slot_ne (Or.inr (w13 hw)) (Or.inl (w26 hw)) (by decide) (t := (.array .double)) (t' := .int) (by decide) (by decide)))).other W19 (Or.inr (slot_ne (Or.inr (w13 hw)) (Or.inl (w20 hw)) (by decide) (t := (.array .double)) (t' := .int) (by decide) (by decide)))).other W28 (Or.inr (slot_ne (Or.inr (w13 hw)) (Or.inl (w28 hw)) (by decide) (t := (.array .double)) (t' := .int) (by decide) (by decide)))), (FW19.other W28 (Or.inr (slot_ne (Or.inl (w20 hw)) (Or.inl (w28 hw)) (by decide) (t := .int) (t' := .int) (by decide) (by decide)))), ((FW10.other W19 (Or.inr (slot_ne (Or.inl (w26 hw)) (Or.inl (w20 hw)) (by decide) (t := .int) (t' := .int) (by decide) (by decide)))).other W28 (Or.inr (slot_ne (Or.inl (w26 hw)) (Or.inl (w28 hw)) (by decide) (t := .int) (t' := .int) (by decide) (by decide)))), FW28⟩
set_option maxRecDepth 65536 in
set_option maxHeartbeats 40000000 in
theorem rm_isFull_13 {l : Launch} {Z : State} {a0 : Array Value} (hw : ∀ d ∈ tables_1, d.before a0 Z = true) {o0 : Addr} {o1 : Addr} {i2 : Int32} {kc3 : ClassId} {x4 : UInt64} {x5 : UInt64} {x6 : UInt64} {h0 : Heap} {n0 : Nat} (O : Old Z n0 h0)  (P0 : Exa Z h0 o0 "com/example/rondel/rondel/primitive/DoubleRingBuffer") (P1 : Fld Z h0 o0 "com/example/rondel/rondel/primitive/DoubleRingBuffer" "readings" "[D" (.ref o1)) (P2 : Fld Z h0 o0 "com/example/rondel/rondel/primitive/DoubleRingBuffer" "size" "I" (.int (2 : Int32))) (P3 : Fld Z h0 o0 "com/example/rondel/rondel/primitive/DoubleRingBuffer" "head" "I" (.int (1 : Int32))) (P4 : Fld Z h0 o0 "com/example/rondel/rondel/primitive/DoubleRingBuffer" "modCount" "I" (.int i2)) (P5 : Arv Z h0 o1 kc3 .double (3 : Int32) [(.double x4), (.double x5), (.double x6)] (.double 0)) (G0 : n0 ≤ o0) (G1 : n0 ≤ o1) (N0_1 : o0 ≠ o1) :
    Met1 l Z (⟨"com/example/rondel/rondel/primitive/DoubleRingBuffer", "isFull", "()Z"⟩ : MethodName) prog_11_method_5_code 1 (some .boolean) ({ frames := 0, cells := 0, slots := 0, locals := 0 } : Room) #[(.ref o0)] h0 n0 (fun v h => v = (.int (0 : Int32)) ∧ h0 = h) := by
  refine met_of (L := #[.val (.ref o0)]) (plainFor_of_name pn_10) (fun m => by first | (simp [entryFrame, mkF, argsToLocals, Value.category]; done) | rfl) ?_
  intro p e s m below meth c T C X
  change Cx p s m meth c Z "com/example/rondel/rondel/primitive/DoubleRingBuffer" prog_11_method_5_code 1 (some .boolean) "isFull" at C
  refine g_aloadN C X d7_0 (q := 1) rfl rfl rfl ?_
  refine g_getF C X (host := "") (Or.inl (w19 hw)) Via.refl P2 d7_1 (q := 4) rfl ?_
  intro T1 X2
  refine g_aloadN C X2 d7_4 (q := 5) rfl rfl rfl ?_
  refine g_getF C X2 (host := "") (Or.inl (w12 hw)) Via.refl P1 d7_5 (q := 8) rfl ?_
  intro T3 X4
  refine g_alen C X4 P5 d7_8 (q := 9) rfl ?_
  refine g_icY C X4 d7_9 (by decide) (q := 16) (by decide) (by decide) ?_
  refine g_iconst C X4 d7_16 (q := 17) rfl (z := (0 : Int32)) rfl ?_
  exact g_retN C X4 (Or.inl rfl) (z' := (0 : Int32)) (by decide) d7_17 (by decide) (by decide) ⟨_, rfl, rfl, rfl⟩
set_option maxRecDepth 65536 in
set_option maxHeartbeats 40000000 in
theorem rm_min_15 {l : Launch} {Z : State} {a0 : Array Value} (hw : ∀ d ∈ tables_1, d.before a0 Z = true)  {h0 : Heap} {n0 : Nat} (O : Old Z n0 h0)  :
    Met1 l Z (⟨"java/lang/Math", "min", "(II)I"⟩ : MethodName) jdk_29_method_69_code 2 (some .int) ({ frames := 0, cells := 0, slots := 0, locals := 0 } : Room) #[(.int (2 : Int32)), (.int (3 : Int32))] h0 n0 (fun v h => v = (.int (2 : Int32)) ∧ h0 = h) := by
  refine met_of (L := #[.val (.int (2 : Int32)), .val (.int (3 : Int32))]) (Jvm.Free.JP.mathPlain rfl (by decide +kernel)) (fun m => by first | (simp [entryFrame, mkF, argsToLocals, Value.category]; done) | rfl) ?_
  intro p e s m below meth c T C X
  change Cx p s m meth c Z "java/lang/Math" jdk_29_method_69_code 2 (some .int) "min" at C
  refine g_iloadN C X d6_0 (q := 1) rfl rfl ?_
  refine g_iloadN C X d6_1 (q := 2) rfl rfl ?_
  refine g_icN C X d6_2 (q := 5) rfl (by decide) ?_
  refine g_iloadN C X d6_5 (q := 6) rfl rfl ?_
  refine g_goto C X d6_6 (by decide) (q := 10) (by decide) ?_
  exact g_retI C X d6_10 (by decide) (by decide) ⟨_, rfl, rfl, rfl⟩
set_option maxRecDepth 65536 in
set_option maxHeartbeats 40000000 in
theorem rm_checkNotEmpty_7 {l : Launch} {Z : State} {a0 : Array Value} (hw : ∀ d ∈ tables_1, d.before a0 Z = true) {o0 : Addr} {o1 : Addr} {i2 : Int32} {kc3 : ClassId} {x4 : UInt64} {x5 : UInt64} {x6 : UInt64} {h0 : Heap} {n0 : Nat} (O : Old Z n0 h0)  (P0 : Exa Z h0 o0 "com/example/rondel/rondel/primitive/DoubleRingBuffer") (P1 : Fld Z h0 o0 "com/example/rondel/rondel/primitive/DoubleRingBuffer" "readings" "[D" (.ref o1)) (P2 : Fld Z h0 o0 "com/example/rondel/rondel/primitive/DoubleRingBuffer" "size" "I" (.int (2 : Int32))) (P3 : Fld Z h0 o0 "com/example/rondel/rondel/primitive/DoubleRingBuffer" "head" "I" (.int (0 : Int32))) (P4 : Fld Z h0 o0 "com/example/rondel/rondel/primitive/DoubleRingBuffer" "modCount" "I" (.int i2)) (P5 : Arv Z h0 o1 kc3 .double (3 : Int32) [(.double x4), (.double x5), (.double x6)] (.double 0)) (G0 : n0 ≤ o0) (G1 : n0 ≤ o1) (N0_1 : o0 ≠ o1) :
    Met0 l Z (⟨"com/example/rondel/rondel/primitive/DoubleRingBuffer", "checkNotEmpty", "()V"⟩ : MethodName) prog_11_method_17_code 1 none ({ frames := 0, cells := 0, slots := 0, locals := 0 } : Room) #[(.ref o0)] h0 n0 (fun h => h0 = h) := by
  refine met_of (L := #[.val (.ref o0)]) (plainFor_of_name pn_10) (fun m => by first | (simp [entryFrame, mkF, argsToLocals, Value.category]; done) | rfl) ?_
  intro p e s m below meth c T C X
  change Cx p s m meth c Z "com/example/rondel/rondel/primitive/DoubleRingBuffer" prog_11_method_17_code 1 none "checkNotEmpty" at C
  refine g_aloadN C X d10_0 (q := 1) rfl rfl rfl ?_
  refine g_getF C X (host := "") (Or.inl (w19 hw)) Via.refl P2 d10_1 (q := 4) rfl ?_
  intro T1 X2
  refine g_ifY C X2 d10_4 (by decide) (q := 17) (by decide) (by decide) ?_
  exact g_retV C X2 d10_17 (by decide) (by decide) ⟨rfl, rfl⟩
set_option maxRecDepth 65536 in
set_option maxHeartbeats 40000000 in
theorem rm_getFirst_7 {l : Launch} {Z : State} {a0 : Array Value} (hw : ∀ d ∈ tables_1, d.before a0 Z = true) {o0 : Addr} {o1 : Addr} {i2 : Int32} {kc3 : ClassId} {x4 : UInt64} {x5 : UInt64} {x6 : UInt64} {h0 : Heap} {n0 : Nat} (O : Old Z n0 h0)  (P0 : Exa Z h0 o0 "com/example/rondel/rondel/primitive/DoubleRingBuffer") (P1 : Fld Z h0 o0 "com/example/rondel/rondel/primitive/DoubleRingBuffer" "readings" "[D" (.ref o1)) (P2 : Fld Z h0 o0 "com/example/rondel/rondel/primitive/DoubleRingBuffer" "size" "I" (.int (2 : Int32))) (P3 : Fld Z h0 o0 "com/example/rondel/rondel/primitive/DoubleRingBuffer" "head" "I" (.int (0 : Int32))) (P4 : Fld Z h0 o0 "com/example/rondel/rondel/primitive/DoubleRingBuffer" "modCount" "I" (.int i2)) (P5 : Arv Z h0 o1 kc3 .double (3 : Int32) [(.double x4), (.double x5), (.double x6)] (.double 0)) (G0 : n0 ≤ o0) (G1 : n0 ≤ o1) (N0_1 : o0 ≠ o1) :
    Met1 l Z (⟨"com/example/rondel/rondel/primitive/DoubleRingBuffer", "getFirst", "()D"⟩ : MethodName) prog_11_method_9_code 1 (some .double) ({ frames := 1, cells := 0, slots := 0, locals := 12 } : Room) #[(.ref o0)] h0 n0 (fun v h => v = (.double x4) ∧ h0 = h) := by
  refine met_of (L := #[.val (.ref o0)]) (plainFor_of_name pn_10) (fun m => by first | (simp [entryFrame, mkF, argsToLocals, Value.category]; done) | rfl) ?_
  intro p e s m below meth c T C X
  change Cx p s m meth c Z "com/example/rondel/rondel/primitive/DoubleRingBuffer" prog_11_method_9_code 1 (some .double) "getFirst" at C
  refine g_aloadN C X d9_0 (q := 1) rfl rfl rfl ?_
  refine g_callP0 C X (y := (⟨"com/example/rondel/rondel/primitive/DoubleRingBuffer", "checkNotEmpty", "()V"⟩ : MethodName)) (a := o0) (by decide) (w52 hw) (sel_priv (w3 hw) (w53 hw) (w54 hw) (by decide)) (w53 hw) (w54 hw) P0 (w55 hw) (w4 hw) (rm_checkNotEmpty_7 hw (o0 := o0) (o1 := o1) (i2 := i2) (kc3 := kc3) (x4 := x4) (x5 := x5) (x6 := x6) O P0 P1 P2 P3 P4 P5 G0 G1 N0_1) (W := 0) (by decide) (by decide) (k' := 0) rfl (n' := 0) rfl (by decide) (by decide) rfl pd_104 (argsL := []) rfl (rest := []) rfl rfl rfl d9_1 (q := 4) rfl ?_
  rintro T1 _ X2 rfl
  refine g_aloadN C X2 d9_4 (q := 5) rfl rfl rfl ?_
  refine g_getF C X2 (host := "") (Or.inl (w12 hw)) Via.refl P1 d9_5 (q := 8) rfl ?_
  intro T3 X4
  refine g_aloadN C X4 d9_8 (q := 9) rfl rfl rfl ?_
  refine g_getF C X4 (host := "") (Or.inl (w25 hw)) Via.refl P3 d9_9 (q := 12) rfl ?_
  intro T5 X6
  refine g_daload C X6 P5 (by decide) (w := (.double x4)) rfl d9_12 (q := 13) rfl ?_
  exact g_retD C X6 d9_13 (by decide) (by decide) ⟨_, rfl, rfl, rfl⟩
set_option maxRecDepth 65536 in
set_option maxHeartbeats 40000000 in
theorem rm_next_7 {l : Launch} {Z : State} {a0 : Array Value} (hw : ∀ d ∈ tables_1, d.before a0 Z = true) {o0 : Addr} {o1 : Addr} {i2 : Int32} {kc3 : ClassId} {x4 : UInt64} {x5 : UInt64} {x6 : UInt64} {h0 : Heap} {n0 : Nat} (O : Old Z n0 h0)  (P0 : Exa Z h0 o0 "com/example/rondel/rondel/primitive/DoubleRingBuffer") (P1 : Fld Z h0 o0 "com/example/rondel/rondel/primitive/DoubleRingBuffer" "readings" "[D" (.ref o1)) (P2 : Fld Z h0 o0 "com/example/rondel/rondel/primitive/DoubleRingBuffer" "size" "I" (.int (2 : Int32))) (P3 : Fld Z h0 o0 "com/example/rondel/rondel/primitive/DoubleRingBuffer" "head" "I" (.int (0 : Int32))) (P4 : Fld Z h0 o0 "com/example/rondel/rondel/primitive/DoubleRingBuffer" "modCount" "I" (.int i2)) (P5 : Arv Z h0 o1 kc3 .double (3 : Int32) [(.double x4), (.double x5), (.double x6)] (.double 0)) (G0 : n0 ≤ o0) (G1 : n0 ≤ o1) (N0_1 : o0 ≠ o1) :
    Met1 l Z (⟨"com/example/rondel/rondel/primitive/DoubleRingBuffer", "next", "(I)I"⟩ : MethodName) prog_11_method_19_code 2 (some .int) ({ frames := 0, cells := 0, slots := 0, locals := 0 } : Room) #[(.ref o0), (.int (0 : Int32))] h0 n0 (fun v h => v = (.int (1 : Int32)) ∧ h0 = h) := by
  refine met_of (L := #[.val (.ref o0), .val (.int (0 : Int32))]) (plainFor_of_name pn_10) (fun m => by first | (simp [entryFrame, mkF, argsToLocals, Value.category]; done) | rfl) ?_
  intro p e s m below meth c T C X
  change Cx p s m meth c Z "com/example/rondel/rondel/primitive/DoubleRingBuffer" prog_11_method_19_code 2 (some .int) "next" at C
  refine g_iloadN C X d5_0 (q := 1) rfl rfl ?_
  refine g_aloadN C X d5_1 (q := 2) rfl rfl rfl ?_
  refine g_getF C X (host := "") (Or.inl (w12 hw)) Via.refl P1 d5_2 (q := 5) rfl ?_
  intro T1 X2
  refine g_alen C X2 P5 d5_5 (q := 6) rfl ?_
  refine g_iconst C X2 d5_6 (q := 7) rfl (z := (1 : Int32)) rfl ?_
  refine g_isub C X2 d5_7 (q := 8) rfl (z := (2 : Int32)) (by decide) ?_
  refine g_icY C X2 d5_8 (by decide) (q := 15) (by decide) (by decide) ?_
  refine g_iloadN C X2 d5_15 (q := 16) rfl rfl ?_
  refine g_iconst C X2 d5_16 (q := 17) rfl (z := (1 : Int32)) rfl ?_
  refine g_iadd C X2 d5_17 (q := 18) rfl (z := (1 : Int32)) (by decide) ?_
  exact g_retI C X2 d5_18 (by decide) (by decide) ⟨_, rfl, rfl, rfl⟩
set_option maxRecDepth 65536 in
set_option maxHeartbeats 40000000 in
theorem rm_removeFirst_7 {l : Launch} {Z : State} {a0 : Array Value} (hw : ∀ d ∈ tables_1, d.before a0 Z = true) {o0 : Addr} {o1 : Addr} {i2 : Int32} {kc3 : ClassId} {x4 : UInt64} {x5 : UInt64} {x6 : UInt64} {h0 : Heap} {n0 : Nat} (O : Old Z n0 h0)  (P0 : Exa Z h0 o0 "com/example/rondel/rondel/primitive/DoubleRingBuffer") (P1 : Fld Z h0 o0 "com/example/rondel/rondel/primitive/DoubleRingBuffer" "readings" "[D" (.ref o1)) (P2 : Fld Z h0 o0 "com/example/rondel/rondel/primitive/DoubleRingBuffer" "size" "I" (.int (2 : Int32))) (P3 : Fld Z h0 o0 "com/example/rondel/rondel/primitive/DoubleRingBuffer" "head" "I" (.int (0 : Int32))) (P4 : Fld Z h0 o0 "com/example/rondel/rondel/primitive/DoubleRingBuffer" "modCount" "I" (.int i2)) (P5 : Arv Z h0 o1 kc3 .double (3 : Int32) [(.double x4), (.double x5), (.double x6)] (.double 0)) (G0 : n0 ≤ o0) (G1 : n0 ≤ o1) (N0_1 : o0 ≠ o1) :
    Met1 l Z (⟨"com/example/rondel/rondel/primitive/DoubleRingBuffer", "removeFirst", "()D"⟩ : MethodName) prog_11_method_7_code 3 (some .double) ({ frames := 2, cells := 0, slots := 0, locals := 24 } : Room) #[(.ref o0)] h0 n0 (fun v h => v = (.double x4) ∧ Keep h0 h [o0] ∧ Exa Z h o0 "com/example/rondel/rondel/primitive/DoubleRingBuffer" ∧ Fld Z h o0 "com/example/rondel/rondel/primitive/DoubleRingBuffer" "readings" "[D" (.ref o1) ∧ Fld Z h o0 "com/example/rondel/rondel/primitive/DoubleRingBuffer" "size" "I" (.int (1 : Int32)) ∧ Fld Z h o0 "com/example/rondel/rondel/primitive/DoubleRingBuffer" "head" "I" (.int (1 : Int32)) ∧ Fld Z h o0 "com/example/rondel/rondel/primitive/DoubleRingBuffer" "modCount" "I" (.int (i2 + (1 : Int32)))) := by
  refine met_of (L := #[.val (.ref o0), .unset, .unset]) (plainFor_of_name pn_10) (fun m => by first | (simp [entryFrame, mkF, argsToLocals, Value.category]; done) | rfl) ?_
  intro p e s m below meth c T C X
  change Cx p s m meth c Z "com/example/rondel/rondel/primitive/DoubleRingBuffer" prog_11_method_7_code 3 (some .double) "removeFirst" at C
  refine g_aloadN C X d8_0 (q := 1) rfl rfl rfl ?_
  refine g_callV1 C X (y := (⟨"com/example/rondel/rondel/primitive/DoubleRingBuffer", "getFirst", "()D"⟩ : MethodName)) (z := (⟨"com/example/rondel/rondel/primitive/DoubleRingBuffer", "getFirst", "()D"⟩ : MethodName)) (a := o0) (by decide) (w47 hw) (w48 hw) (w50 hw) (w49 hw) (nf_sel (w50 hw)) P0 (w51 hw) (w4 hw) (rm_getFirst_7 hw (o0 := o0) (o1 := o1) (i2 := i2) (kc3 := kc3) (x4 := x4) (x5 := x5) (x6 := x6) O P0 P1 P2 P3 P4 P5 G0 G1 N0_1) (W := 0) (by decide) (by decide) (k' := 0) rfl (n' := 0) rfl (by decide) (by decide) rfl pd_111 (argsL := []) rfl (rest := []) rfl rfl rfl d8_1 (q := 4) rfl ?_
  rintro _ T1 _ X2 ⟨rfl, rfl⟩
  refine g_dstoreN C X2 d8_4 (q := 5) rfl (L' := #[.val (.ref o0), .val (.double x4), .second]) rfl ?_
  refine g_aloadN C X2 d8_5 (q := 6) rfl rfl rfl ?_
  refine g_aloadN C X2 d8_6 (q := 7) rfl rfl rfl ?_
  refine g_aloadN C X2 d8_7 (q := 8) rfl rfl rfl ?_
  refine g_getF C X2 (host := "") (Or.inl (w25 hw)) Via.refl P3 d8_8 (q := 11) rfl ?_
  intro T3 X4
  refine g_callP1 C X4 (y := (⟨"com/example/rondel/rondel/primitive/DoubleRingBuffer", "next", "(I)I"⟩ : MethodName)) (a := o0) (by decide) (w29 hw) (sel_priv (w3 hw) (w30 hw) (w31 hw) (by decide)) (w30 hw) (w31 hw) P0 (w32 hw) (w4 hw) (rm_next_7 hw (o0 := o0) (o1 := o1) (i2 := i2) (kc3 := kc3) (x4 := x4) (x5 := x5) (x6 := x6) O P0 P1 P2 P3 P4 P5 G0 G1 N0_1) (W := 1) (by decide) (by decide) (k' := 0) rfl (n' := 0) rfl (by decide) (by decide) rfl pd_40 (argsL := [(.int (0 : Int32))]) rfl (rest := [(.ref o0)]) rfl rfl rfl d8_11 (q := 14) rfl ?_
  rintro _ T5 _ X6 ⟨rfl, rfl⟩
  refine g_putF C X6 (host := "") (Or.inl (w25 hw)) Via.refl P3 P0 (Or.inl (w26 hw)) (w3 hw) (ty := .int) (by decide) rfl rfl d8_14 (q := 17) rfl G0 ?_
  intro T7 h9 X8 W10
  have FW10 := Fld.same W10 P3
  have O11 := O.wr W10 G0
  refine g_aloadN C X8 d8_17 (q := 18) rfl rfl rfl ?_
  refine g_dup C X8 d8_18 (q := 19) rfl rfl ?_
  have f12 := (P2.other W10 (Or.inr (slot_ne (Or.inl (w20 hw)) (Or.inl (w26 hw)) (by decide) (t := .int) (t' := .int) (by decide) (by decide))))
  refine g_getF C X8 (host := "") (Or.inl (w19 hw)) Via.refl f12 d8_19 (q := 22) rfl ?_
  intro T13 X14
  refine g_iconst C X14 d8_22 (q := 23) rfl (z := (1 : Int32)) rfl ?_
  refine g_isub C X14 d8_23 (q := 24) rfl (z := (1 : Int32)) (by decide) ?_
  have f15 := (P0.wr W10)
  refine g_putF C X14 (host := "") (Or.inl (w19 hw)) Via.refl f12 f15 (Or.inl (w20 hw)) (w3 hw) (ty := .int) (by decide) rfl rfl d8_24 (q := 27) rfl G0 ?_
  intro T16 h18 X17 W19
  have FW19 := Fld.same W19 f12
  have O20 := O11.wr W19 G0
  refine g_aloadN C X17 d8_27 (q := 28) rfl rfl rfl ?_
  refine g_dup C X17 d8_28 (q := 29) rfl rfl ?_
  have f21 := ((P4.other W10 (Or.inr (slot_ne (Or.inl (w28 hw)) (Or.inl (w26 hw)) (by decide) (t := .int) (t' := .int) (by decide) (by decide)))).other W19 (Or.inr (slot_ne (Or.inl (w28 hw)) (Or.inl (w20 hw)) (by decide) (t := .int) (t' := .int) (by decide) (by decide))))
  refine g_getF C X17 (host := "") (Or.inl (w27 hw)) Via.refl f21 d8_29 (q := 32) rfl ?_
  intro T22 X23
  refine g_iconst C X23 d8_32 (q := 33) rfl (z := (1 : Int32)) rfl ?_
  refine g_iadd C X23 d8_33 (q := 34) rfl (z := (i2 + (1 : Int32))) rfl ?_
  have f24 := (f15.wr W19)
  refine g_putF C X23 (host := "") (Or.inl (w27 hw)) Via.refl f21 f24 (Or.inl (w28 hw)) (w3 hw) (ty := .int) (by decide) rfl rfl d8_34 (q := 37) rfl G0 ?_
  intro T25 h27 X26 W28
  have FW28 := Fld.same W28 f21
  have O29 := O20.wr W28 G0
  refine g_dloadN C X26 d8_37 (q := 38) rfl rfl ?_
  exact g_retD C X26 d8_38 (by decide) (by decide) ⟨_, rfl, rfl, ((((Keep.refl h0 [o0]).wr W10 (Or.inl (List.mem_of_getElem? (i := 0) rfl))).wr W19 (Or.inl (List.mem_of_getElem? (i := 0) rfl))).wr W28 (Or.inl (List.mem_of_getElem? (i := 0) rfl))), (f24.wr W28), (((P1.other W10 (Or.inr (slot_ne (Or.inr (w13 hw)) (Or.inl (w26 hw)) (by decide) (t := (.array .double)) (t' := .int) (by decide) (by decide)))).other W19 (Or.inr (slot_ne (Or.inr (w13 hw)) (Or.inl (w20 hw)) (by decide) (t := (.array .double)) (t' := .int) (by decide) (by decide)))).other W28 (Or.inr (slot_ne (Or.inr (w13 hw)) (Or.inl (w28 hw)) (by decide) (t := (.array .double)) (t' := .int) (by decide) (by decide)))), (FW19.other W28 (Or.inr (slot_ne (Or.inl (w20 hw)) (Or.inl (w28 hw)) (by decide) (t := .int) (t' := .int) (by decide) (by decide)))), ((FW10.other W19 (Or.inr (slot_ne (Or.inl (w26 hw)) (Or.inl (w20 hw)) (by decide) (t := .int) (t' := .int) (by decide) (by decide)))).other W28 (Or.inr (slot_ne (Or.inl (w26 hw)) (Or.inl (w28 hw)) (by decide) (t := .int) (t' := .int) (by decide) (by decide)))), FW28⟩
set_option maxRecDepth 65536 in
set_option maxHeartbeats 40000000 in
theorem rm_isFull_14 {l : Launch} {Z : State} {a0 : Array Value} (hw : ∀ d ∈ tables_1, d.before a0 Z = true) {o0 : Addr} {o1 : Addr} {i2 : Int32} {kc3 : ClassId} {x4 : UInt64} {x5 : UInt64} {x6 : UInt64} {h0 : Heap} {n0 : Nat} (O : Old Z n0 h0)  (P0 : Exa Z h0 o0 "com/example/rondel/rondel/primitive/DoubleRingBuffer") (P1 : Fld Z h0 o0 "com/example/rondel/rondel/primitive/DoubleRingBuffer" "readings" "[D" (.ref o1)) (P2 : Fld Z h0 o0 "com/example/rondel/rondel/primitive/DoubleRingBuffer" "size" "I" (.int (1 : Int32))) (P3 : Fld Z h0 o0 "com/example/rondel/rondel/primitive/DoubleRingBuffer" "head" "I" (.int (1 : Int32))) (P4 : Fld Z h0 o0 "com/example/rondel/rondel/primitive/DoubleRingBuffer" "modCount" "I" (.int i2)) (P5 : Arv Z h0 o1 kc3 .double (3 : Int32) [(.double x4), (.double x5), (.double x6)] (.double 0)) (G0 : n0 ≤ o0) (G1 : n0 ≤ o1) (N0_1 : o0 ≠ o1) :
    Met1 l Z (⟨"com/example/rondel/rondel/primitive/DoubleRingBuffer", "isFull", "()Z"⟩ : MethodName) prog_11_method_5_code 1 (some .boolean) ({ frames := 0, cells := 0, slots := 0, locals := 0 } : Room) #[(.ref o0)] h0 n0 (fun v h => v = (.int (0 : Int32)) ∧ h0 = h) := by
  refine met_of (L := #[.val (.ref o0)]) (plainFor_of_name pn_10) (fun m => by first | (simp [entryFrame, mkF, argsToLocals, Value.category]; done) | rfl) ?_
  intro p e s m below meth c T C X
  change Cx p s m meth c Z "com/example/rondel/rondel/primitive/DoubleRingBuffer" prog_11_method_5_code 1 (some .boolean) "isFull" at C
  refine g_aloadN C X d7_0 (q := 1) rfl rfl rfl ?_
  refine g_getF C X (host := "") (Or.inl (w19 hw)) Via.refl P2 d7_1 (q := 4) rfl ?_
  intro T1 X2
  refine g_aloadN C X2 d7_4 (q := 5) rfl rfl rfl ?_
  refine g_getF C X2 (host := "") (Or.inl (w12 hw)) Via.refl P1 d7_5 (q := 8) rfl ?_
  intro T3 X4
  refine g_alen C X4 P5 d7_8 (q := 9) rfl ?_
  refine g_icY C X4 d7_9 (by decide) (q := 16) (by decide) (by decide) ?_
  refine g_iconst C X4 d7_16 (q := 17) rfl (z := (0 : Int32)) rfl ?_
  exact g_retN C X4 (Or.inl rfl) (z' := (0 : Int32)) (by decide) d7_17 (by decide) (by decide) ⟨_, rfl, rfl, rfl⟩
set_option maxRecDepth 65536 in
set_option maxHeartbeats 40000000 in
theorem rm_min_16 {l : Launch} {Z : State} {a0 : Array Value} (hw : ∀ d ∈ tables_1, d.before a0 Z = true)  {h0 : Heap} {n0 : Nat} (O : Old Z n0 h0)  :
    Met1 l Z (⟨"java/lang/Math", "min", "(II)I"⟩ : MethodName) jdk_29_method_69_code 2 (some .int) ({ frames := 0, cells := 0, slots := 0, locals := 0 } : Room) #[(.int (1 : Int32)), (.int (3 : Int32))] h0 n0 (fun v h => v = (.int (1 : Int32)) ∧ h0 = h) := by
  refine met_of (L := #[.val (.int (1 : Int32)), .val (.int (3 : Int32))]) (Jvm.Free.JP.mathPlain rfl (by decide +kernel)) (fun m => by first | (simp [entryFrame, mkF, argsToLocals, Value.category]; done) | rfl) ?_
  intro p e s m below meth c T C X
  change Cx p s m meth c Z "java/lang/Math" jdk_29_method_69_code 2 (some .int) "min" at C
  refine g_iloadN C X d6_0 (q := 1) rfl rfl ?_
  refine g_iloadN C X d6_1 (q := 2) rfl rfl ?_
  refine g_icN C X d6_2 (q := 5) rfl (by decide) ?_
  refine g_iloadN C X d6_5 (q := 6) rfl rfl ?_
  refine g_goto C X d6_6 (by decide) (q := 10) (by decide) ?_
  exact g_retI C X d6_10 (by decide) (by decide) ⟨_, rfl, rfl, rfl⟩
set_option maxRecDepth 65536 in
set_option maxHeartbeats 40000000 in
theorem rm_isFull_15 {l : Launch} {Z : State} {a0 : Array Value} (hw : ∀ d ∈ tables_1, d.before a0 Z = true) {o0 : Addr} {o1 : Addr} {i2 : Int32} {kc3 : ClassId} {x4 : UInt64} {x5 : UInt64} {x6 : UInt64} {h0 : Heap} {n0 : Nat} (O : Old Z n0 h0)  (P0 : Exa Z h0 o0 "com/example/rondel/rondel/primitive/DoubleRingBuffer") (P1 : Fld Z h0 o0 "com/example/rondel/rondel/primitive/DoubleRingBuffer" "readings" "[D" (.ref o1)) (P2 : Fld Z h0 o0 "com/example/rondel/rondel/primitive/DoubleRingBuffer" "size" "I" (.int (1 : Int32))) (P3 : Fld Z h0 o0 "com/example/rondel/rondel/primitive/DoubleRingBuffer" "head" "I" (.int (0 : Int32))) (P4 : Fld Z h0 o0 "com/example/rondel/rondel/primitive/DoubleRingBuffer" "modCount" "I" (.int i2)) (P5 : Arv Z h0 o1 kc3 .double (3 : Int32) [(.double x4), (.double x5), (.double x6)] (.double 0)) (G0 : n0 ≤ o0) (G1 : n0 ≤ o1) (N0_1 : o0 ≠ o1) :
    Met1 l Z (⟨"com/example/rondel/rondel/primitive/DoubleRingBuffer", "isFull", "()Z"⟩ : MethodName) prog_11_method_5_code 1 (some .boolean) ({ frames := 0, cells := 0, slots := 0, locals := 0 } : Room) #[(.ref o0)] h0 n0 (fun v h => v = (.int (0 : Int32)) ∧ h0 = h) := by
  refine met_of (L := #[.val (.ref o0)]) (plainFor_of_name pn_10) (fun m => by first | (simp [entryFrame, mkF, argsToLocals, Value.category]; done) | rfl) ?_
  intro p e s m below meth c T C X
  change Cx p s m meth c Z "com/example/rondel/rondel/primitive/DoubleRingBuffer" prog_11_method_5_code 1 (some .boolean) "isFull" at C
  refine g_aloadN C X d7_0 (q := 1) rfl rfl rfl ?_
  refine g_getF C X (host := "") (Or.inl (w19 hw)) Via.refl P2 d7_1 (q := 4) rfl ?_
  intro T1 X2
  refine g_aloadN C X2 d7_4 (q := 5) rfl rfl rfl ?_
  refine g_getF C X2 (host := "") (Or.inl (w12 hw)) Via.refl P1 d7_5 (q := 8) rfl ?_
  intro T3 X4
  refine g_alen C X4 P5 d7_8 (q := 9) rfl ?_
  refine g_icY C X4 d7_9 (by decide) (q := 16) (by decide) (by decide) ?_
  refine g_iconst C X4 d7_16 (q := 17) rfl (z := (0 : Int32)) rfl ?_
  exact g_retN C X4 (Or.inl rfl) (z' := (0 : Int32)) (by decide) d7_17 (by decide) (by decide) ⟨_, rfl, rfl, rfl⟩
set_option maxRecDepth 65536 in
set_option maxHeartbeats 40000000 in
theorem rm_checkNotEmpty_8 {l : Launch} {Z : State} {a0 : Array Value} (hw : ∀ d ∈ tables_1, d.before a0 Z = true) {o0 : Addr} {o1 : Addr} {i2 : Int32} {kc3 : ClassId} {x4 : UInt64} {x5 : UInt64} {x6 : UInt64} {h0 : Heap} {n0 : Nat} (O : Old Z n0 h0)  (P0 : Exa Z h0 o0 "com/example/rondel/rondel/primitive/DoubleRingBuffer") (P1 : Fld Z h0 o0 "com/example/rondel/rondel/primitive/DoubleRingBuffer" "readings" "[D" (.ref o1)) (P2 : Fld Z h0 o0 "com/example/rondel/rondel/primitive/DoubleRingBuffer" "size" "I" (.int (1 : Int32))) (P3 : Fld Z h0 o0 "com/example/rondel/rondel/primitive/DoubleRingBuffer" "head" "I" (.int (0 : Int32))) (P4 : Fld Z h0 o0 "com/example/rondel/rondel/primitive/DoubleRingBuffer" "modCount" "I" (.int i2)) (P5 : Arv Z h0 o1 kc3 .double (3 : Int32) [(.double x4), (.double x5), (.double x6)] (.double 0)) (G0 : n0 ≤ o0) (G1 : n0 ≤ o1) (N0_1 : o0 ≠ o1) :
    Met0 l Z (⟨"com/example/rondel/rondel/primitive/DoubleRingBuffer", "checkNotEmpty", "()V"⟩ : MethodName) prog_11_method_17_code 1 none ({ frames := 0, cells := 0, slots := 0, locals := 0 } : Room) #[(.ref o0)] h0 n0 (fun h => h0 = h) := by
  refine met_of (L := #[.val (.ref o0)]) (plainFor_of_name pn_10) (fun m => by first | (simp [entryFrame, mkF, argsToLocals, Value.category]; done) | rfl) ?_
  intro p e s m below meth c T C X
  change Cx p s m meth c Z "com/example/rondel/rondel/primitive/DoubleRingBuffer" prog_11_method_17_code 1 none "checkNotEmpty" at C
  refine g_aloadN C X d10_0 (q := 1) rfl rfl rfl ?_
  refine g_getF C X (host := "") (Or.inl (w19 hw)) Via.refl P2 d10_1 (q := 4) rfl ?_
  intro T1 X2
  refine g_ifY C X2 d10_4 (by decide) (q := 17) (by decide) (by decide) ?_
  exact g_retV C X2 d10_17 (by decide) (by decide) ⟨rfl, rfl⟩
set_option maxRecDepth 65536 in
set_option maxHeartbeats 40000000 in
theorem rm_getFirst_8 {l : Launch} {Z : State} {a0 : Array Value} (hw : ∀ d ∈ tables_1, d.before a0 Z = true) {o0 : Addr} {o1 : Addr} {i2 : Int32} {kc3 : ClassId} {x4 : UInt64} {x5 : UInt64} {x6 : UInt64} {h0 : Heap} {n0 : Nat} (O : Old Z n0 h0)  (P0 : Exa Z h0 o0 "com/example/rondel/rondel/primitive/DoubleRingBuffer") (P1 : Fld Z h0 o0 "com/example/rondel/rondel/primitive/DoubleRingBuffer" "readings" "[D" (.ref o1)) (P2 : Fld Z h0 o0 "com/example/rondel/rondel/primitive/DoubleRingBuffer" "size" "I" (.int (1 : Int32))) (P3 : Fld Z h0 o0 "com/example/rondel/rondel/primitive/DoubleRingBuffer" "head" "I" (.int (0 : Int32))) (P4 : Fld Z h0 o0 "com/example/rondel/rondel/primitive/DoubleRingBuffer" "modCount" "I" (.int i2)) (P5 : Arv Z h0 o1 kc3 .double (3 : Int32) [(.double x4), (.double x5), (.double x6)] (.double 0)) (G0 : n0 ≤ o0) (G1 : n0 ≤ o1) (N0_1 : o0 ≠ o1) :
    Met1 l Z (⟨"com/example/rondel/rondel/primitive/DoubleRingBuffer", "getFirst", "()D"⟩ : MethodName) prog_11_method_9_code 1 (some .double) ({ frames := 1, cells := 0, slots := 0, locals := 12 } : Room) #[(.ref o0)] h0 n0 (fun v h => v = (.double x4) ∧ h0 = h) := by
  refine met_of (L := #[.val (.ref o0)]) (plainFor_of_name pn_10) (fun m => by first | (simp [entryFrame, mkF, argsToLocals, Value.category]; done) | rfl) ?_
  intro p e s m below meth c T C X
  change Cx p s m meth c Z "com/example/rondel/rondel/primitive/DoubleRingBuffer" prog_11_method_9_code 1 (some .double) "getFirst" at C
  refine g_aloadN C X d9_0 (q := 1) rfl rfl rfl ?_
  refine g_callP0 C X (y := (⟨"com/example/rondel/rondel/primitive/DoubleRingBuffer", "checkNotEmpty", "()V"⟩ : MethodName)) (a := o0) (by decide) (w52 hw) (sel_priv (w3 hw) (w53 hw) (w54 hw) (by decide)) (w53 hw) (w54 hw) P0 (w55 hw) (w4 hw) (rm_checkNotEmpty_8 hw (o0 := o0) (o1 := o1) (i2 := i2) (kc3 := kc3) (x4 := x4) (x5 := x5) (x6 := x6) O P0 P1 P2 P3 P4 P5 G0 G1 N0_1) (W := 0) (by decide) (by decide) (k' := 0) rfl (n' := 0) rfl (by decide) (by decide) rfl pd_104 (argsL := []) rfl (rest := []) rfl rfl rfl d9_1 (q := 4) rfl ?_
  rintro T1 _ X2 rfl
  refine g_aloadN C X2 d9_4 (q := 5) rfl rfl rfl ?_
  refine g_getF C X2 (host := "") (Or.inl (w12 hw)) Via.refl P1 d9_5 (q := 8) rfl ?_
  intro T3 X4
  refine g_aloadN C X4 d9_8 (q := 9) rfl rfl rfl ?_
  refine g_getF C X4 (host := "") (Or.inl (w25 hw)) Via.refl P3 d9_9 (q := 12) rfl ?_
  intro T5 X6
  refine g_daload C X6 P5 (by decide) (w := (.double x4)) rfl d9_12 (q := 13) rfl ?_
  exact g_retD C X6 d9_13 (by decide) (by decide) ⟨_, rfl, rfl, rfl⟩
set_option maxRecDepth 65536 in
set_option maxHeartbeats 40000000 in
theorem rm_next_8 {l : Launch} {Z : State} {a0 : Array Value} (hw : ∀ d ∈ tables_1, d.before a0 Z = true) {o0 : Addr} {o1 : Addr} {i2 : Int32} {kc3 : ClassId} {x4 : UInt64} {x5 : UInt64} {x6 : UInt64} {h0 : Heap} {n0 : Nat} (O : Old Z n0 h0)  (P0 : Exa Z h0 o0 "com/example/rondel/rondel/primitive/DoubleRingBuffer") (P1 : Fld Z h0 o0 "com/example/rondel/rondel/primitive/DoubleRingBuffer" "readings" "[D" (.ref o1)) (P2 : Fld Z h0 o0 "com/example/rondel/rondel/primitive/DoubleRingBuffer" "size" "I" (.int (1 : Int32))) (P3 : Fld Z h0 o0 "com/example/rondel/rondel/primitive/DoubleRingBuffer" "head" "I" (.int (0 : Int32))) (P4 : Fld Z h0 o0 "com/example/rondel/rondel/primitive/DoubleRingBuffer" "modCount" "I" (.int i2)) (P5 : Arv Z h0 o1 kc3 .double (3 : Int32) [(.double x4), (.double x5), (.double x6)] (.double 0)) (G0 : n0 ≤ o0) (G1 : n0 ≤ o1) (N0_1 : o0 ≠ o1) :
    Met1 l Z (⟨"com/example/rondel/rondel/primitive/DoubleRingBuffer", "next", "(I)I"⟩ : MethodName) prog_11_method_19_code 2 (some .int) ({ frames := 0, cells := 0, slots := 0, locals := 0 } : Room) #[(.ref o0), (.int (0 : Int32))] h0 n0 (fun v h => v = (.int (1 : Int32)) ∧ h0 = h) := by
  refine met_of (L := #[.val (.ref o0), .val (.int (0 : Int32))]) (plainFor_of_name pn_10) (fun m => by first | (simp [entryFrame, mkF, argsToLocals, Value.category]; done) | rfl) ?_
  intro p e s m below meth c T C X
  change Cx p s m meth c Z "com/example/rondel/rondel/primitive/DoubleRingBuffer" prog_11_method_19_code 2 (some .int) "next" at C
  refine g_iloadN C X d5_0 (q := 1) rfl rfl ?_
  refine g_aloadN C X d5_1 (q := 2) rfl rfl rfl ?_
  refine g_getF C X (host := "") (Or.inl (w12 hw)) Via.refl P1 d5_2 (q := 5) rfl ?_
  intro T1 X2
  refine g_alen C X2 P5 d5_5 (q := 6) rfl ?_
  refine g_iconst C X2 d5_6 (q := 7) rfl (z := (1 : Int32)) rfl ?_
  refine g_isub C X2 d5_7 (q := 8) rfl (z := (2 : Int32)) (by decide) ?_
  refine g_icY C X2 d5_8 (by decide) (q := 15) (by decide) (by decide) ?_
  refine g_iloadN C X2 d5_15 (q := 16) rfl rfl ?_
  refine g_iconst C X2 d5_16 (q := 17) rfl (z := (1 : Int32)) rfl ?_
  refine g_iadd C X2 d5_17 (q := 18) rfl (z := (1 : Int32)) (by decide) ?_
  exact g_retI C X2 d5_18 (by decide) (by decide) ⟨_, rfl, rfl, rfl⟩
set_option maxRecDepth 65536 in
set_option maxHeartbeats 40000000 in
theorem rm_removeFirst_8 {l : Launch} {Z : State} {a0 : Array Value} (hw : ∀ d ∈ tables_1, d.before a0 Z = true) {o0 : Addr} {o1 : Addr} {i2 : Int32} {kc3 : ClassId} {x4 : UInt64} {x5 : UInt64} {x6 : UInt64} {h0 : Heap} {n0 : Nat} (O : Old Z n0 h0)  (P0 : Exa Z h0 o0 "com/example/rondel/rondel/primitive/DoubleRingBuffer") (P1 : Fld Z h0 o0 "com/example/rondel/rondel/primitive/DoubleRingBuffer" "readings" "[D" (.ref o1)) (P2 : Fld Z h0 o0 "com/example/rondel/rondel/primitive/DoubleRingBuffer" "size" "I" (.int (1 : Int32))) (P3 : Fld Z h0 o0 "com/example/rondel/rondel/primitive/DoubleRingBuffer" "head" "I" (.int (0 : Int32))) (P4 : Fld Z h0 o0 "com/example/rondel/rondel/primitive/DoubleRingBuffer" "modCount" "I" (.int i2)) (P5 : Arv Z h0 o1 kc3 .double (3 : Int32) [(.double x4), (.double x5), (.double x6)] (.double 0)) (G0 : n0 ≤ o0) (G1 : n0 ≤ o1) (N0_1 : o0 ≠ o1) :
    Met1 l Z (⟨"com/example/rondel/rondel/primitive/DoubleRingBuffer", "removeFirst", "()D"⟩ : MethodName) prog_11_method_7_code 3 (some .double) ({ frames := 2, cells := 0, slots := 0, locals := 24 } : Room) #[(.ref o0)] h0 n0 (fun v h => v = (.double x4) ∧ Keep h0 h [o0] ∧ Exa Z h o0 "com/example/rondel/rondel/primitive/DoubleRingBuffer" ∧ Fld Z h o0 "com/example/rondel/rondel/primitive/DoubleRingBuffer" "readings" "[D" (.ref o1) ∧ Fld Z h o0 "com/example/rondel/rondel/primitive/DoubleRingBuffer" "size" "I" (.int (0 : Int32)) ∧ Fld Z h o0 "com/example/rondel/rondel/primitive/DoubleRingBuffer" "head" "I" (.int (1 : Int32)) ∧ Fld Z h o0 "com/example/rondel/rondel/primitive/DoubleRingBuffer" "modCount" "I" (.int (i2 + (1 : Int32)))) := by
  refine met_of (L := #[.val (.ref o0), .unset, .unset]) (plainFor_of_name pn_10) (fun m => by first | (simp [entryFrame, mkF, argsToLocals, Value.category]; done) | rfl) ?_
  intro p e s m below meth c T C X
  change Cx p s m meth c Z "com/example/rondel/rondel/primitive/DoubleRingBuffer" prog_11_method_7_code 3 (some .double) "removeFirst" at C
  refine g_aloadN C X d8_0 (q := 1) rfl rfl rfl ?_
  refine g_callV1 C X (y := (⟨"com/example/rondel/rondel/primitive/DoubleRingBuffer", "getFirst", "()D"⟩ : MethodName)) (z := (⟨"com/example/rondel/rondel/primitive/DoubleRingBuffer", "getFirst", "()D"⟩ : MethodName)) (a := o0) (by decide) (w47 hw) (w48 hw) (w50 hw) (w49 hw) (nf_sel (w50 hw)) P0 (w51 hw) (w4 hw) (rm_getFirst_8 hw (o0 := o0) (o1 := o1) (i2 := i2) (kc3 := kc3) (x4 := x4) (x5 := x5) (x6 := x6) O P0 P1 P2 P3 P4 P5 G0 G1 N0_1) (W := 0) (by decide) (by decide) (k' := 0) rfl (n' := 0) rfl (by decide) (by decide) rfl pd_111 (argsL := []) rfl (rest := []) rfl rfl rfl d8_1 (q := 4) rfl ?_
  rintro _ T1 _ X2 ⟨rfl, rfl⟩
  refine g_dstoreN C X2 d8_4 (q := 5) rfl (L' := #[.val (.ref o0), .val (.double x4), .second]) rfl ?_
  refine g_aloadN C X2 d8_5 (q := 6) rfl rfl rfl ?_
  refine g_aloadN C X2 d8_6 (q := 7) rfl rfl rfl ?_
  refine g_aloadN C X2 d8_7 (q := 8) rfl rfl rfl ?_
  refine g_getF C X2 (host := "") (Or.inl (w25 hw)) Via.refl P3 d8_8 (q := 11) rfl ?_
  intro T3 X4
  refine g_callP1 C X4 (y := (⟨"com/example/rondel/rondel/primitive/DoubleRingBuffer", "next", "(I)I"⟩ : MethodName)) (a := o0) (by decide) (w29 hw) (sel_priv (w3 hw) (w30 hw) (w31 hw) (by decide)) (w30 hw) (w31 hw) P0 (w32 hw) (w4 hw) (rm_next_8 hw (o0 := o0) (o1 := o1) (i2 := i2) (kc3 := kc3) (x4 := x4) (x5 := x5) (x6 := x6) O P0 P1 P2 P3 P4 P5 G0 G1 N0_1) (W := 1) (by decide) (by decide) (k' := 0) rfl (n' := 0) rfl (by decide) (by decide) rfl pd_40 (argsL := [(.int (0 : Int32))]) rfl (rest := [(.ref o0)]) rfl rfl rfl d8_11 (q := 14) rfl ?_
  rintro _ T5 _ X6 ⟨rfl, rfl⟩
  refine g_putF C X6 (host := "") (Or.inl (w25 hw)) Via.refl P3 P0 (Or.inl (w26 hw)) (w3 hw) (ty := .int) (by decide) rfl rfl d8_14 (q := 17) rfl G0 ?_
  intro T7 h9 X8 W10
  have FW10 := Fld.same W10 P3
  have O11 := O.wr W10 G0
  refine g_aloadN C X8 d8_17 (q := 18) rfl rfl rfl ?_
  refine g_dup C X8 d8_18 (q := 19) rfl rfl ?_
  have f12 := (P2.other W10 (Or.inr (slot_ne (Or.inl (w20 hw)) (Or.inl (w26 hw)) (by decide) (t := .int) (t' := .int) (by decide) (by decide))))
  refine g_getF C X8 (host := "") (Or.inl (w19 hw)) Via.refl f12 d8_19 (q := 22) rfl ?_
  intro T13 X14
  refine g_iconst C X14 d8_22 (q := 23) rfl (z := (1 : Int32)) rfl ?_
  refine g_isub C X14 d8_23 (q := 24) rfl (z := (0 : Int32)) (by decide) ?_
  have f15 := (P0.wr W10)
  refine g_putF C X14 (host := "") (Or.inl (w19 hw)) Via.refl f12 f15 (Or.inl (w20 hw)) (w3 hw) (ty := .int) (by decide) rfl rfl d8_24 (q := 27) rfl G0 ?_
  intro T16 h18 X17 W19
  have FW19 := Fld.same W19 f12
  have O20 := O11.wr W19 G0
  refine g_aloadN C X17 d8_27 (q := 28) rfl rfl rfl ?_
  refine g_dup C X17 d8_28 (q := 29) rfl rfl ?_
  have f21 := ((P4.other W10 (Or.inr (slot_ne (Or.inl (w28 hw)) (Or.inl (w26 hw)) (by decide) (t := .int) (t' := .int) (by decide) (by decide)))).other W19 (Or.inr (slot_ne (Or.inl (w28 hw)) (Or.inl (w20 hw)) (by decide) (t := .int) (t' := .int) (by decide) (by decide))))
  refine g_getF C X17 (host := "") (Or.inl (w27 hw)) Via.refl f21 d8_29 (q := 32) rfl ?_
  intro T22 X23
  refine g_iconst C X23 d8_32 (q := 33) rfl (z := (1 : Int32)) rfl ?_
  refine g_iadd C X23 d8_33 (q := 34) rfl (z := (i2 + (1 : Int32))) rfl ?_
  have f24 := (f15.wr W19)
  refine g_putF C X23 (host := "") (Or.inl (w27 hw)) Via.refl f21 f24 (Or.inl (w28 hw)) (w3 hw) (ty := .int) (by decide) rfl rfl d8_34 (q := 37) rfl G0 ?_
  intro T25 h27 X26 W28
  have FW28 := Fld.same W28 f21
  have O29 := O20.wr W28 G0
  refine g_dloadN C X26 d8_37 (q := 38) rfl rfl ?_
  exact g_retD C X26 d8_38 (by decide) (by decide) ⟨_, rfl, rfl, ((((Keep.refl h0 [o0]).wr W10 (Or.inl (List.mem_of_getElem? (i := 0) rfl))).wr W19 (Or.inl (List.mem_of_getElem? (i := 0) rfl))).wr W28 (Or.inl (List.mem_of_getElem? (i := 0) rfl))), (f24.wr W28), (((P1.other W10 (Or.inr (slot_ne (Or.inr (w13 hw)) (Or.inl (w26 hw)) (by decide) (t := (.array .double)) (t' := .int) (by decide) (by decide)))).other W19 (Or.inr (slot_ne (Or.inr (w13 hw)) (Or.inl (w20 hw)) (by decide) (t := (.array .double)) (t' := .int) (by decide) (by decide)))).other W28 (Or.inr (slot_ne (Or.inr (w13 hw)) (Or.inl (w28 hw)) (by decide) (t := (.array .double)) (t' := .int) (by decide) (by decide)))), (FW19.other W28 (Or.inr (slot_ne (Or.inl (w20 hw)) (Or.inl (w28 hw)) (by decide) (t := .int) (t' := .int) (by decide) (by decide)))), ((FW10.other W19 (Or.inr (slot_ne (Or.inl (w26 hw)) (Or.inl (w20 hw)) (by decide) (t := .int) (t' := .int) (by decide) (by decide)))).other W28 (Or.inr (slot_ne (Or.inl (w26 hw)) (Or.inl (w28 hw)) (by decide) (t := .int) (t' := .int) (by decide) (by decide)))), FW28⟩
set_option maxRecDepth 65536 in
set_option maxHeartbeats 40000000 in
theorem rm_isFull_16 {l : Launch} {Z : State} {a0 : Array Value} (hw : ∀ d ∈ tables_1, d.before a0 Z = true) {o0 : Addr} {o1 : Addr} {i2 : Int32} {kc3 : ClassId} {x4 : UInt64} {x5 : UInt64} {x6 : UInt64} {h0 : Heap} {n0 : Nat} (O : Old Z n0 h0)  (P0 : Exa Z h0 o0 "com/example/rondel/rondel/primitive/DoubleRingBuffer") (P1 : Fld Z h0 o0 "com/example/rondel/rondel/primitive/DoubleRingBuffer" "readings" "[D" (.ref o1)) (P2 : Fld Z h0 o0 "com/example/rondel/rondel/primitive/DoubleRingBuffer" "size" "I" (.int (0 : Int32))) (P3 : Fld Z h0 o0 "com/example/rondel/rondel/primitive/DoubleRingBuffer" "head" "I" (.int (1 : Int32))) (P4 : Fld Z h0 o0 "com/example/rondel/rondel/primitive/DoubleRingBuffer" "modCount" "I" (.int i2)) (P5 : Arv Z h0 o1 kc3 .double (3 : Int32) [(.double x4), (.double x5), (.double x6)] (.double 0)) (G0 : n0 ≤ o0) (G1 : n0 ≤ o1) (N0_1 : o0 ≠ o1) :
    Met1 l Z (⟨"com/example/rondel/rondel/primitive/DoubleRingBuffer", "isFull", "()Z"⟩ : MethodName) prog_11_method_5_code 1 (some .boolean) ({ frames := 0, cells := 0, slots := 0, locals := 0 } : Room) #[(.ref o0)] h0 n0 (fun v h => v = (.int (0 : Int32)) ∧ h0 = h) := by
  refine met_of (L := #[.val (.ref o0)]) (plainFor_of_name pn_10) (fun m => by first | (simp [entryFrame, mkF, argsToLocals, Value.category]; done) | rfl) ?_
  intro p e s m below meth c T C X
  change Cx p s m meth c Z "com/example/rondel/rondel/primitive/DoubleRingBuffer" prog_11_method_5_code 1 (some .boolean) "isFull" at C
  refine g_aloadN C X d7_0 (q := 1) rfl rfl rfl ?_
  refine g_getF C X (host := "") (Or.inl (w19 hw)) Via.refl P2 d7_1 (q := 4) rfl ?_
  intro T1 X2
  refine g_aloadN C X2 d7_4 (q := 5) rfl rfl rfl ?_
  refine g_getF C X2 (host := "") (Or.inl (w12 hw)) Via.refl P1 d7_5 (q := 8) rfl ?_
  intro T3 X4
  refine g_alen C X4 P5 d7_8 (q := 9) rfl ?_
  refine g_icY C X4 d7_9 (by decide) (q := 16) (by decide) (by decide) ?_
  refine g_iconst C X4 d7_16 (q := 17) rfl (z := (0 : Int32)) rfl ?_
  exact g_retN C X4 (Or.inl rfl) (z' := (0 : Int32)) (by decide) d7_17 (by decide) (by decide) ⟨_, rfl, rfl, rfl⟩
set_option maxRecDepth 65536 in
set_option maxHeartbeats 40000000 in
theorem rm_min_17 {l : Launch} {Z : State} {a0 : Array Value} (hw : ∀ d ∈ tables_1, d.before a0 Z = true)  {h0 : Heap} {n0 : Nat} (O : Old Z n0 h0)  :
    Met1 l Z (⟨"java/lang/Math", "min", "(II)I"⟩ : MethodName) jdk_29_method_69_code 2 (some .int) ({ frames := 0, cells := 0, slots := 0, locals := 0 } : Room) #[(.int (0 : Int32)), (.int (3 : Int32))] h0 n0 (fun v h => v = (.int (0 : Int32)) ∧ h0 = h) := by
  refine met_of (L := #[.val (.int (0 : Int32)), .val (.int (3 : Int32))]) (Jvm.Free.JP.mathPlain rfl (by decide +kernel)) (fun m => by first | (simp [entryFrame, mkF, argsToLocals, Value.category]; done) | rfl) ?_
  intro p e s m below meth c T C X
  change Cx p s m meth c Z "java/lang/Math" jdk_29_method_69_code 2 (some .int) "min" at C
  refine g_iloadN C X d6_0 (q := 1) rfl rfl ?_
  refine g_iloadN C X d6_1 (q := 2) rfl rfl ?_
  refine g_icN C X d6_2 (q := 5) rfl (by decide) ?_
  refine g_iloadN C X d6_5 (q := 6) rfl rfl ?_
  refine g_goto C X d6_6 (by decide) (q := 10) (by decide) ?_
  exact g_retI C X d6_10 (by decide) (by decide) ⟨_, rfl, rfl, rfl⟩
set_option maxRecDepth 65536 in
set_option maxHeartbeats 40000000 in
theorem rm_isFull_17 {l : Launch} {Z : State} {a0 : Array Value} (hw : ∀ d ∈ tables_1, d.before a0 Z = true) {o0 : Addr} {o1 : Addr} {i2 : Int32} {kc3 : ClassId} {x4 : UInt64} {x5 : UInt64} {x6 : UInt64} {h0 : Heap} {n0 : Nat} (O : Old Z n0 h0)  (P0 : Exa Z h0 o0 "com/example/rondel/rondel/primitive/DoubleRingBuffer") (P1 : Fld Z h0 o0 "com/example/rondel/rondel/primitive/DoubleRingBuffer" "readings" "[D" (.ref o1)) (P2 : Fld Z h0 o0 "com/example/rondel/rondel/primitive/DoubleRingBuffer" "size" "I" (.int (0 : Int32))) (P3 : Fld Z h0 o0 "com/example/rondel/rondel/primitive/DoubleRingBuffer" "head" "I" (.int (0 : Int32))) (P4 : Fld Z h0 o0 "com/example/rondel/rondel/primitive/DoubleRingBuffer" "modCount" "I" (.int i2)) (P5 : Arv Z h0 o1 kc3 .double (3 : Int32) [(.double x4), (.double x5), (.double x6)] (.double 0)) (G0 : n0 ≤ o0) (G1 : n0 ≤ o1) (N0_1 : o0 ≠ o1) :
    Met1 l Z (⟨"com/example/rondel/rondel/primitive/DoubleRingBuffer", "isFull", "()Z"⟩ : MethodName) prog_11_method_5_code 1 (some .boolean) ({ frames := 0, cells := 0, slots := 0, locals := 0 } : Room) #[(.ref o0)] h0 n0 (fun v h => v = (.int (0 : Int32)) ∧ h0 = h) := by
  refine met_of (L := #[.val (.ref o0)]) (plainFor_of_name pn_10) (fun m => by first | (simp [entryFrame, mkF, argsToLocals, Value.category]; done) | rfl) ?_
  intro p e s m below meth c T C X
  change Cx p s m meth c Z "com/example/rondel/rondel/primitive/DoubleRingBuffer" prog_11_method_5_code 1 (some .boolean) "isFull" at C
  refine g_aloadN C X d7_0 (q := 1) rfl rfl rfl ?_
  refine g_getF C X (host := "") (Or.inl (w19 hw)) Via.refl P2 d7_1 (q := 4) rfl ?_
  intro T1 X2
  refine g_aloadN C X2 d7_4 (q := 5) rfl rfl rfl ?_
  refine g_getF C X2 (host := "") (Or.inl (w12 hw)) Via.refl P1 d7_5 (q := 8) rfl ?_
  intro T3 X4
  refine g_alen C X4 P5 d7_8 (q := 9) rfl ?_
  refine g_icY C X4 d7_9 (by decide) (q := 16) (by decide) (by decide) ?_
  refine g_iconst C X4 d7_16 (q := 17) rfl (z := (0 : Int32)) rfl ?_
  exact g_retN C X4 (Or.inl rfl) (z' := (0 : Int32)) (by decide) d7_17 (by decide) (by decide) ⟨_, rfl, rfl, rfl⟩
set_option maxRecDepth 65536 in
set_option maxHeartbeats 40000000 in
theorem rm_init_3 {l : Launch} {Z : State} {a0 : Array Value} (hw : ∀ d ∈ tables_1, d.before a0 Z = true) {o0 : Addr} {i1 : Int32} {h0 : Heap} {n0 : Nat} (O : Old Z n0 h0)  (P0 : Exa Z h0 o0 "com/example/rondel/rondel/primitive/DoubleRingBuffer") (P1 : Fld Z h0 o0 "com/example/rondel/rondel/primitive/DoubleRingBuffer" "readings" "[D" .null) (P2 : Fld Z h0 o0 "com/example/rondel/rondel/primitive/DoubleRingBuffer" "size" "I" (.int (0 : Int32))) (P3 : Fld Z h0 o0 "com/example/rondel/rondel/primitive/DoubleRingBuffer" "head" "I" (.int (0 : Int32))) (P4 : Fld Z h0 o0 "com/example/rondel/rondel/primitive/DoubleRingBuffer" "modCount" "I" (.int i1)) (G0 : n0 ≤ o0) :
    Met0 l Z (⟨"com/example/rondel/rondel/primitive/DoubleRingBuffer", "<init>", "(I)V"⟩ : MethodName) prog_11_method_1_code 2 none ({ frames := 1, cells := 1, slots := 4, locals := 12 } : Room) #[(.ref o0), (.int (4 : Int32))] h0 n0 (fun h => ∃ b3 : Addr, ∃ kA6 : ClassId, Keep h0 h [o0] ∧ n0 ≤ b3 ∧ h0.size ≤ b3 ∧ Exa Z h o0 "com/example/rondel/rondel/primitive/DoubleRingBuffer" ∧ Fld Z h o0 "com/example/rondel/rondel/primitive/DoubleRingBuffer" "readings" "[D" (.ref b3) ∧ Fld Z h o0 "com/example/rondel/rondel/primitive/DoubleRingBuffer" "size" "I" (.int (0 : Int32)) ∧ Fld Z h o0 "com/example/rondel/rondel/primitive/DoubleRingBuffer" "head" "I" (.int (0 : Int32)) ∧ Fld Z h o0 "com/example/rondel/rondel/primitive/DoubleRingBuffer" "modCount" "I" (.int i1) ∧ Arv Z h b3 kA6 .double (4 : Int32) [(.double 0), (.double 0), (.double 0), (.double 0)] (.double 0)) := by
  refine met_of (L := #[.val (.ref o0), .val (.int (4 : Int32))]) (plainFor_of_name pn_10) (fun m => by first | (simp [entryFrame, mkF, argsToLocals, Value.category]; done) | rfl) ?_
  intro p e s m below meth c T C X
  change Cx p s m meth c Z "com/example/rondel/rondel/primitive/DoubleRingBuffer" prog_11_method_1_code 2 none "<init>" at C
  refine g_aloadN C X d1_0 (q := 1) rfl rfl rfl ?_
  refine g_initO C X (w8 hw) (w9 hw) (w10 hw) rfl d1_1 (q := 4) rfl (by decide) (by decide) ?_
  intro T1 X2
  refine g_iloadN C X2 d1_4 (q := 5) rfl rfl ?_
  refine g_iconst C X2 d1_5 (q := 6) rfl (z := (1 : Int32)) rfl ?_
  refine g_icY C X2 d1_6 (by decide) (q := 23) (by decide) (by decide) ?_
  refine g_aloadN C X2 d1_23 (q := 24) rfl rfl rfl ?_
  refine g_iloadN C X2 d1_24 (q := 25) rfl rfl ?_
  refine g_newP C X2 (w11 hw) rfl d1_25 (q := 27) rfl (by decide) (cap := 4) (by decide) (by decide) (k' := 1) rfl (n' := 4) rfl (by decide) (by decide) ?_
  intro T4 h5 kA6 b3 g8 X7 E9 V10
  have ge11 : n0 ≤ b3 := own_ge O g8
  have O12 := O.ext E9
  have V13 : Arv Z h5 b3 kA6 .double (4 : Int32) [(.double 0), (.double 0), (.double 0), (.double 0)] (.double 0) := Arv.pad V10 (pad_rep [] _ 4)
  have f14 := (P1.ext E9)
  have f15 := (P0.ext E9)
  refine g_putF C X7 (host := "") (Or.inl (w12 hw)) Via.refl f14 f15 (Or.inr ⟨(w13 hw), rfl, rfl⟩) (w3 hw) (ty := (.array .double)) (by decide) rfl rfl d1_27 (q := 30) rfl G0 ?_
  intro T16 h18 X17 W19
  have FW19 := Fld.same W19 f14
  have O20 := O12.wr W19 G0
  exact g_retV C X17 d1_30 (by decide) (by decide) ⟨rfl, b3, kA6, (((Keep.refl h0 [o0]).ext E9).wr W19 (Or.inl (List.mem_of_getElem? (i := 0) rfl))), ge11, (own_sz (Keep.refl h0 [o0]).1 g8), (f15.wr W19), FW19, ((P2.ext E9).other W19 (Or.inr (slot_ne (Or.inl (w20 hw)) (Or.inr (w13 hw)) (by decide) (t := .int) (t' := (.array .double)) (by decide) (by decide)))), ((P3.ext E9).other W19 (Or.inr (slot_ne (Or.inl (w26 hw)) (Or.inr (w13 hw)) (by decide) (t := .int) (t' := (.array .double)) (by decide) (by decide)))), ((P4.ext E9).other W19 (Or.inr (slot_ne (Or.inl (w28 hw)) (Or.inr (w13 hw)) (by decide) (t := .int) (t' := (.array .double)) (by decide) (by decide)))), (V13.other W19 (Ne.symm (own_ne P0.lt g8)))⟩
set_option maxRecDepth 65536 in
set_option maxHeartbeats 40000000 in
theorem rm_slot_6 {l : Launch} {Z : State} {a0 : Array Value} (hw : ∀ d ∈ tables_1, d.before a0 Z = true) {o0 : Addr} {o1 : Addr} {i2 : Int32} {kc3 : ClassId} {x4 : UInt64} {x5 : UInt64} {x6 : UInt64} {x7 : UInt64} {h0 : Heap} {n0 : Nat} (O : Old Z n0 h0)  (P0 : Exa Z h0 o0 "com/example/rondel/rondel/primitive/DoubleRingBuffer") (P1 : Fld Z h0 o0 "com/example/rondel/rondel/primitive/DoubleRingBuffer" "readings" "[D" (.ref o1)) (P2 : Fld Z h0 o0 "com/example/rondel/rondel/primitive/DoubleRingBuffer" "size" "I" (.int (0 : Int32))) (P3 : Fld Z h0 o0 "com/example/rondel/rondel/primitive/DoubleRingBuffer" "head" "I" (.int (0 : Int32))) (P4 : Fld Z h0 o0 "com/example/rondel/rondel/primitive/DoubleRingBuffer" "modCount" "I" (.int i2)) (P5 : Arv Z h0 o1 kc3 .double (4 : Int32) [(.double x4), (.double x5), (.double x6), (.double x7)] (.double 0)) (G0 : n0 ≤ o0) (G1 : n0 ≤ o1) (N0_1 : o0 ≠ o1) :
    Met1 l Z (⟨"com/example/rondel/rondel/primitive/DoubleRingBuffer", "slot", "(I)I"⟩ : MethodName) prog_11_method_18_code 3 (some .int) ({ frames := 0, cells := 0, slots := 0, locals := 0 } : Room) #[(.ref o0), (.int (0 : Int32))] h0 n0 (fun v h => v = (.int (0 : Int32)) ∧ h0 = h) := by
  refine met_of (L := #[.val (.ref o0), .val (.int (0 : Int32)), .unset]) (plainFor_of_name pn_10) (fun m => by first | (simp [entryFrame, mkF, argsToLocals, Value.category]; done) | rfl) ?_
  intro p e s m below meth c T C X
  change Cx p s m meth c Z "com/example/rondel/rondel/primitive/DoubleRingBuffer" prog_11_method_18_code 3 (some .int) "slot" at C
  refine g_aloadN C X d4_0 (q := 1) rfl rfl rfl ?_
  refine g_getF C X (host := "") (Or.inl (w12 hw)) Via.refl P1 d4_1 (q := 4) rfl ?_
  intro T1 X2
  refine g_alen C X2 P5 d4_4 (q := 5) rfl ?_
  refine g_aloadN C X2 d4_5 (q := 6) rfl rfl rfl ?_
  refine g_getF C X2 (host := "") (Or.inl (w25 hw)) Via.refl P3 d4_6 (q := 9) rfl ?_
  intro T3 X4
  refine g_isub C X4 d4_9 (q := 10) rfl (z := (4 : Int32)) (by decide) ?_
  refine g_istoreN C X4 d4_10 (q := 11) rfl (L' := #[.val (.ref o0), .val (.int (0 : Int32)), .val (.int (4 : Int32))]) rfl ?_
  refine g_iloadN C X4 d4_11 (q := 12) rfl rfl ?_
  refine g_iloadN C X4 d4_12 (q := 13) rfl rfl ?_
  refine g_icN C X4 d4_13 (q := 16) rfl (by decide) ?_
  refine g_aloadN C X4 d4_16 (q := 17) rfl rfl rfl ?_
  refine g_getF C X4 (host := "") (Or.inl (w25 hw)) Via.refl P3 d4_17 (q := 20) rfl ?_
  intro T5 X6
  refine g_iloadN C X6 d4_20 (q := 21) rfl rfl ?_
  refine g_iadd C X6 d4_21 (q := 22) rfl (z := (0 : Int32)) (by decide) ?_
  refine g_goto C X6 d4_22 (by decide) (q := 28) (by decide) ?_
  exact g_retI C X6 d4_28 (by decide) (by decide) ⟨_, rfl, rfl, rfl⟩
set_option maxRecDepth 65536 in
set_option maxHeartbeats 40000000 in
theorem rm_add_11 {l : Launch} {Z : State} {a0 : Array Value} (hw : ∀ d ∈ tables_1, d.before a0 Z = true) {o0 : Addr} {o1 : Addr} {i2 : Int32} {kc3 : ClassId} {x4 : UInt64} {x5 : UInt64} {x6 : UInt64} {x7 : UInt64} {x8 : UInt64} {h0 : Heap} {n0 : Nat} (O : Old Z n0 h0)  (P0 : Exa Z h0 o0 "com/example/rondel/rondel/primitive/DoubleRingBuffer") (P1 : Fld Z h0 o0 "com/example/rondel/rondel/primitive/DoubleRingBuffer" "readings" "[D" (.ref o1)) (P2 : Fld Z h0 o0 "com/example/rondel/rondel/primitive/DoubleRingBuffer" "size" "I" (.int (0 : Int32))) (P3 : Fld Z h0 o0 "com/example/rondel/rondel/primitive/DoubleRingBuffer" "head" "I" (.int (0 : Int32))) (P4 : Fld Z h0 o0 "com/example/rondel/rondel/primitive/DoubleRingBuffer" "modCount" "I" (.int i2)) (P5 : Arv Z h0 o1 kc3 .double (4 : Int32) [(.double x4), (.double x5), (.double x6), (.double x7)] (.double 0)) (G0 : n0 ≤ o0) (G1 : n0 ≤ o1) (N0_1 : o0 ≠ o1) :
    Met0 l Z (⟨"com/example/rondel/rondel/primitive/DoubleRingBuffer", "add", "(D)V"⟩ : MethodName) prog_11_method_6_code 3 none ({ frames := 1, cells := 0, slots := 0, locals := 15 } : Room) #[(.ref o0), (.double x8)] h0 n0 (fun h => Keep h0 h [o1, o0] ∧ Exa Z h o0 "com/example/rondel/rondel/primitive/DoubleRingBuffer" ∧ Fld Z h o0 "com/example/rondel/rondel/primitive/DoubleRingBuffer" "readings" "[D" (.ref o1) ∧ Fld Z h o0 "com/example/rondel/rondel/primitive/DoubleRingBuffer" "size" "I" (.int (1 : Int32)) ∧ Fld Z h o0 "com/example/rondel/rondel/primitive/DoubleRingBuffer" "head" "I" (.int (0 : Int32)) ∧ Fld Z h o0 "com/example/rondel/rondel/primitive/DoubleRingBuffer" "modCount" "I" (.int (i2 + (1 : Int32))) ∧ Arv Z h o1 kc3 .double (4 : Int32) [(.double x8), (.double x5), (.double x6), (.double x7)] (.double 0)) := by
  refine met_of (L := #[.val (.ref o0), .val (.double x8), .second]) (plainFor_of_name pn_10) (fun m => by first | (simp [entryFrame, mkF, argsToLocals, Value.category]; done) | rfl) ?_
  intro p e s m below meth c T C X
  change Cx p s m meth c Z "com/example/rondel/rondel/primitive/DoubleRingBuffer" prog_11_method_6_code 3 none "add" at C
  refine g_aloadN C X d3_0 (q := 1) rfl rfl rfl ?_
  refine g_getF C X (host := "") (Or.inl (w19 hw)) Via.refl P2 d3_1 (q := 4) rfl ?_
  intro T1 X2
  refine g_aloadN C X2 d3_4 (q := 5) rfl rfl rfl ?_
  refine g_getF C X2 (host := "") (Or.inl (w12 hw)) Via.refl P1 d3_5 (q := 8) rfl ?_
  intro T3 X4
  refine g_alen C X4 P5 d3_8 (q := 9) rfl ?_
  refine g_icY C X4 d3_9 (by decide) (q := 37) (by decide) (by decide) ?_
  refine g_aloadN C X4 d3_37 (q := 38) rfl rfl rfl ?_
  refine g_getF C X4 (host := "") (Or.inl (w12 hw)) Via.refl P1 d3_38 (q := 41) rfl ?_
  intro T5 X6
  refine g_aloadN C X6 d3_41 (q := 42) rfl rfl rfl ?_
  refine g_aloadN C X6 d3_42 (q := 43) rfl rfl rfl ?_
  refine g_getF C X6 (host := "") (Or.inl (w19 hw)) Via.refl P2 d3_43 (q := 46) rfl ?_
  intro T7 X8
  refine g_callP1 C X8 (y := (⟨"com/example/rondel/rondel/primitive/DoubleRingBuffer", "slot", "(I)I"⟩ : MethodName)) (a := o0) (by decide) (w21 hw) (sel_priv (w3 hw) (w22 hw) (w23 hw) (by decide)) (w22 hw) (w23 hw) P0 (w24 hw) (w4 hw) (rm_slot_6 hw (o0 := o0) (o1 := o1) (i2 := i2) (kc3 := kc3) (x4 := x4) (x5 := x5) (x6 := x6) (x7 := x7) O P0 P1 P2 P3 P4 P5 G0 G1 N0_1) (W := 1) (by decide) (by decide) (k' := 0) rfl (n' := 0) rfl (by decide) (by decide) rfl pd_40 (argsL := [(.int (0 : Int32))]) rfl (rest := [(.ref o1)]) rfl rfl rfl d3_46 (q := 49) rfl ?_
  rintro _ T9 _ X10 ⟨rfl, rfl⟩
  refine g_dloadN C X10 d3_49 (q := 50) rfl rfl ?_
  refine g_dastore C X10 P5 (by decide) (i := 0) (by decide) (Nat.le_of_ble_eq_true rfl) (vs' := [(.double x8), (.double x5), (.double x6), (.double x7)]) rfl G1 d3_50 (q := 51) rfl ?_
  intro T11 h12 X13 W14 V15
  have O16 := O.wr W14 G1
  refine g_aloadN C X13 d3_51 (q := 52) rfl rfl rfl ?_
  refine g_dup C X13 d3_52 (q := 53) rfl rfl ?_
  have f17 := (P2.other W14 (Or.inl N0_1))
  refine g_getF C X13 (host := "") (Or.inl (w19 hw)) Via.refl f17 d3_53 (q := 56) rfl ?_
  intro T18 X19
  refine g_iconst C X19 d3_56 (q := 57) rfl (z := (1 : Int32)) rfl ?_
  refine g_iadd C X19 d3_57 (q := 58) rfl (z := (1 : Int32)) (by decide) ?_
  have f20 := (P0.wr W14)
  refine g_putF C X19 (host := "") (Or.inl (w19 hw)) Via.refl f17 f20 (Or.inl (w20 hw)) (w3 hw) (ty := .int) (by decide) rfl rfl d3_58 (q := 61) rfl G0 ?_
  intro T21 h23 X22 W24
  have FW24 := Fld.same W24 f17
  have O25 := O16.wr W24 G0
  refine g_aloadN C X22 d3_61 (q := 62) rfl rfl rfl ?_
  refine g_dup C X22 d3_62 (q := 63) rfl rfl ?_
  have f26 := ((P4.other W14 (Or.inl N0_1)).other W24 (Or.inr (slot_ne (Or.inl (w28 hw)) (Or.inl (w20 hw)) (by decide) (t := .int) (t' := .int) (by decide) (by decide))))
  refine g_getF C X22 (host := "") (Or.inl (w27 hw)) Via.refl f26 d3_63 (q := 66) rfl ?_
  intro T27 X28
  refine g_iconst C X28 d3_66 (q := 67) rfl (z := (1 : Int32)) rfl ?_
  refine g_iadd C X28 d3_67 (q := 68) rfl (z := (i2 + (1 : Int32))) rfl ?_
  have f29 := (f20.wr W24)
  refine g_putF C X28 (host := "") (Or.inl (w27 hw)) Via.refl f26 f29 (Or.inl (w28 hw)) (w3 hw) (ty := .int) (by decide) rfl rfl d3_68 (q := 71) rfl G0 ?_
  intro T30 h32 X31 W33
  have FW33 := Fld.same W33 f26
  have O34 := O25.wr W33 G0
  exact g_retV C X31 d3_71 (by decide) (by decide) ⟨rfl, ((((Keep.refl h0 [o1, o0]).wr W14 (Or.inl (List.mem_of_getElem? (i := 0) rfl))).wr W24 (Or.inl (List.mem_of_getElem? (i := 1) rfl))).wr W33 (Or.inl (List.mem_of_getElem? (i := 1) rfl))), (f29.wr W33), (((P1.other W14 (Or.inl N0_1)).other W24 (Or.inr (slot_ne (Or.inr (w13 hw)) (Or.inl (w20 hw)) (by decide) (t := (.array .double)) (t' := .int) (by decide) (by decide)))).other W33 (Or.inr (slot_ne (Or.inr (w13 hw)) (Or.inl (w28 hw)) (by decide) (t := (.array .double)) (t' := .int) (by decide) (by decide)))), (FW24.other W33 (Or.inr (slot_ne (Or.inl (w20 hw)) (Or.inl (w28 hw)) (by decide) (t := .int) (t' := .int) (by decide) (by decide)))), (((P3.other W14 (Or.inl N0_1)).other W24 (Or.inr (slot_ne (Or.inl (w26 hw)) (Or.inl (w20 hw)) (by decide) (t := .int) (t' := .int) (by decide) (by decide)))).other W33 (Or.inr (slot_ne (Or.inl (w26 hw)) (Or.inl (w28 hw)) (by decide) (t := .int) (t' := .int) (by decide) (by decide)))), FW33, ((V15.other W24 (Ne.symm N0_1)).other W33 (Ne.symm N0_1))⟩
set_option maxRecDepth 65536 in
set_option maxHeartbeats 40000000 in
theorem rm_slot_7 {l : Launch} {Z : State} {a0 : Array Value} (hw : ∀ d ∈ tables_1, d.before a0 Z = true) {o0 : Addr} {o1 : Addr} {i2 : Int32} {kc3 : ClassId} {x4 : UInt64} {x5 : UInt64} {x6 : UInt64} {x7 : UInt64} {h0 : Heap} {n0 : Nat} (O : Old Z n0 h0)  (P0 : Exa Z h0 o0 "com/example/rondel/rondel/primitive/DoubleRingBuffer") (P1 : Fld Z h0 o0 "com/example/rondel/rondel/primitive/DoubleRingBuffer" "readings" "[D" (.ref o1)) (P2 : Fld Z h0 o0 "com/example/rondel/rondel/primitive/DoubleRingBuffer" "size" "I" (.int (1 : Int32))) (P3 : Fld Z h0 o0 "com/example/rondel/rondel/primitive/DoubleRingBuffer" "head" "I" (.int (0 : Int32))) (P4 : Fld Z h0 o0 "com/example/rondel/rondel/primitive/DoubleRingBuffer" "modCount" "I" (.int i2)) (P5 : Arv Z h0 o1 kc3 .double (4 : Int32) [(.double x4), (.double x5), (.double x6), (.double x7)] (.double 0)) (G0 : n0 ≤ o0) (G1 : n0 ≤ o1) (N0_1 : o0 ≠ o1) :
    Met1 l Z (⟨"com/example/rondel/rondel/primitive/DoubleRingBuffer", "slot", "(I)I"⟩ : MethodName) prog_11_method_18_code 3 (some .int) ({ frames := 0, cells := 0, slots := 0, locals := 0 } : Room) #[(.ref o0), (.int (1 : Int32))] h0 n0 (fun v h => v = (.int (1 : Int32)) ∧ h0 = h) := by
  refine met_of (L := #[.val (.ref o0), .val (.int (1 : Int32)), .unset]) (plainFor_of_name pn_10) (fun m => by first | (simp [entryFrame, mkF, argsToLocals, Value.category]; done) | rfl) ?_
  intro p e s m below meth c T C X
  change Cx p s m meth c Z "com/example/rondel/rondel/primitive/DoubleRingBuffer" prog_11_method_18_code 3 (some .int) "slot" at C
  refine g_aloadN C X d4_0 (q := 1) rfl rfl rfl ?_
  refine g_getF C X (host := "") (Or.inl (w12 hw)) Via.refl P1 d4_1 (q := 4) rfl ?_
  intro T1 X2
  refine g_alen C X2 P5 d4_4 (q := 5) rfl ?_
  refine g_aloadN C X2 d4_5 (q := 6) rfl rfl rfl ?_
  refine g_getF C X2 (host := "") (Or.inl (w25 hw)) Via.refl P3 d4_6 (q := 9) rfl ?_
  intro T3 X4
  refine g_isub C X4 d4_9 (q := 10) rfl (z := (4 : Int32)) (by decide) ?_
  refine g_istoreN C X4 d4_10 (q := 11) rfl (L' := #[.val (.ref o0), .val (.int (1 : Int32)), .val (.int (4 : Int32))]) rfl ?_
  refine g_iloadN C X4 d4_11 (q := 12) rfl rfl ?_
  refine g_iloadN C X4 d4_12 (q := 13) rfl rfl ?_
  refine g_icN C X4 d4_13 (q := 16) rfl (by decide) ?_
  refine g_aloadN C X4 d4_16 (q := 17) rfl rfl rfl ?_
  refine g_getF C X4 (host := "") (Or.inl (w25 hw)) Via.refl P3 d4_17 (q := 20) rfl ?_
  intro T5 X6
  refine g_iloadN C X6 d4_20 (q := 21) rfl rfl ?_
  refine g_iadd C X6 d4_21 (q := 22) rfl (z := (1 : Int32)) (by decide) ?_
  refine g_goto C X6 d4_22 (by decide) (q := 28) (by decide) ?_
  exact g_retI C X6 d4_28 (by decide) (by decide) ⟨_, rfl, rfl, rfl⟩
set_option maxRecDepth 65536 in
set_option maxHeartbeats 40000000 in
theorem rm_add_12 {l : Launch} {Z : State} {a0 : Array Value} (hw : ∀ d ∈ tables_1, d.before a0 Z = true) {o0 : Addr} {o1 : Addr} {i2 : Int32} {kc3 : ClassId} {x4 : UInt64} {x5 : UInt64} {x6 : UInt64} {x7 : UInt64} {x8 : UInt64} {h0 : Heap} {n0 : Nat} (O : Old Z n0 h0)  (P0 : Exa Z h0 o0 "com/example/rondel/rondel/primitive/DoubleRingBuffer") (P1 : Fld Z h0 o0 "com/example/rondel/rondel/primitive/DoubleRingBuffer" "readings" "[D" (.ref o1)) (P2 : Fld Z h0 o0 "com/example/rondel/rondel/primitive/DoubleRingBuffer" "size" "I" (.int (1 : Int32))) (P3 : Fld Z h0 o0 "com/example/rondel/rondel/primitive/DoubleRingBuffer" "head" "I" (.int (0 : Int32))) (P4 : Fld Z h0 o0 "com/example/rondel/rondel/primitive/DoubleRingBuffer" "modCount" "I" (.int i2)) (P5 : Arv Z h0 o1 kc3 .double (4 : Int32) [(.double x4), (.double x5), (.double x6), (.double x7)] (.double 0)) (G0 : n0 ≤ o0) (G1 : n0 ≤ o1) (N0_1 : o0 ≠ o1) :
    Met0 l Z (⟨"com/example/rondel/rondel/primitive/DoubleRingBuffer", "add", "(D)V"⟩ : MethodName) prog_11_method_6_code 3 none ({ frames := 1, cells := 0, slots := 0, locals := 15 } : Room) #[(.ref o0), (.double x8)] h0 n0 (fun h => Keep h0 h [o1, o0] ∧ Exa Z h o0 "com/example/rondel/rondel/primitive/DoubleRingBuffer" ∧ Fld Z h o0 "com/example/rondel/rondel/primitive/DoubleRingBuffer" "readings" "[D" (.ref o1) ∧ Fld Z h o0 "com/example/rondel/rondel/primitive/DoubleRingBuffer" "size" "I" (.int (2 : Int32)) ∧ Fld Z h o0 "com/example/rondel/rondel/primitive/DoubleRingBuffer" "head" "I" (.int (0 : Int32)) ∧ Fld Z h o0 "com/example/rondel/rondel/primitive/DoubleRingBuffer" "modCount" "I" (.int (i2 + (1 : Int32))) ∧ Arv Z h o1 kc3 .double (4 : Int32) [(.double x4), (.double x8), (.double x6), (.double x7)] (.double 0)) := by
  refine met_of (L := #[.val (.ref o0), .val (.double x8), .second]) (plainFor_of_name pn_10) (fun m => by first | (simp [entryFrame, mkF, argsToLocals, Value.category]; done) | rfl) ?_
  intro p e s m below meth c T C X
  change Cx p s m meth c Z "com/example/rondel/rondel/primitive/DoubleRingBuffer" prog_11_method_6_code 3 none "add" at C
  refine g_aloadN C X d3_0 (q := 1) rfl rfl rfl ?_
  refine g_getF C X (host := "") (Or.inl (w19 hw)) Via.refl P2 d3_1 (q := 4) rfl ?_
  intro T1 X2
  refine g_aloadN C X2 d3_4 (q := 5) rfl rfl rfl ?_
  refine g_getF C X2 (host := "") (Or.inl (w12 hw)) Via.refl P1 d3_5 (q := 8) rfl ?_
  intro T3 X4
  refine g_alen C X4 P5 d3_8 (q := 9) rfl ?_
  refine g_icY C X4 d3_9 (by decide) (q := 37) (by decide) (by decide) ?_
  refine g_aloadN C X4 d3_37 (q := 38) rfl rfl rfl ?_
  refine g_getF C X4 (host := "") (Or.inl (w12 hw)) Via.refl P1 d3_38 (q := 41) rfl ?_
  intro T5 X6
  refine g_aloadN C X6 d3_41 (q := 42) rfl rfl rfl ?_
  refine g_aloadN C X6 d3_42 (q := 43) rfl rfl rfl ?_
  refine g_getF C X6 (host := "") (Or.inl (w19 hw)) Via.refl P2 d3_43 (q := 46) rfl ?_
  intro T7 X8
  refine g_callP1 C X8 (y := (⟨"com/example/rondel/rondel/primitive/DoubleRingBuffer", "slot", "(I)I"⟩ : MethodName)) (a := o0) (by decide) (w21 hw) (sel_priv (w3 hw) (w22 hw) (w23 hw) (by decide)) (w22 hw) (w23 hw) P0 (w24 hw) (w4 hw) (rm_slot_7 hw (o0 := o0) (o1 := o1) (i2 := i2) (kc3 := kc3) (x4 := x4) (x5 := x5) (x6 := x6) (x7 := x7) O P0 P1 P2 P3 P4 P5 G0 G1 N0_1) (W := 1) (by decide) (by decide) (k' := 0) rfl (n' := 0) rfl (by decide) (by decide) rfl pd_40 (argsL := [(.int (1 : Int32))]) rfl (rest := [(.ref o1)]) rfl rfl rfl d3_46 (q := 49) rfl ?_
  rintro _ T9 _ X10 ⟨rfl, rfl⟩
  refine g_dloadN C X10 d3_49 (q := 50) rfl rfl ?_
  refine g_dastore C X10 P5 (by decide) (i := 1) (by decide) (Nat.le_of_ble_eq_true rfl) (vs' := [(.double x4), (.double x8), (.double x6), (.double x7)]) rfl G1 d3_50 (q := 51) rfl ?_
  intro T11 h12 X13 W14 V15
  have O16 := O.wr W14 G1
  refine g_aloadN C X13 d3_51 (q := 52) rfl rfl rfl ?_
  refine g_dup C X13 d3_52 (q := 53) rfl rfl ?_
  have f17 := (P2.other W14 (Or.inl N0_1))
  refine g_getF C X13 (host := "") (Or.inl (w19 hw)) Via.refl f17 d3_53 (q := 56) rfl ?_
  intro T18 X19
  refine g_iconst C X19 d3_56 (q := 57) rfl (z := (1 : Int32)) rfl ?_
  refine g_iadd C X19 d3_57 (q := 58) rfl (z := (2 : Int32)) (by decide) ?_
  have f20 := (P0.wr W14)
  refine g_putF C X19 (host := "") (Or.inl (w19 hw)) Via.refl f17 f20 (Or.inl (w20 hw)) (w3 hw) (ty := .int) (by decide) rfl rfl d3_58 (q := 61) rfl G0 ?_
  intro T21 h23 X22 W24
  have FW24 := Fld.same W24 f17
  have O25 := O16.wr W24 G0
  refine g_aloadN C X22 d3_61 (q := 62) rfl rfl rfl ?_
  refine g_dup C X22 d3_62 (q := 63) rfl rfl ?_
  have f26 := ((P4.other W14 (Or.inl N0_1)).other W24 (Or.inr (slot_ne (Or.inl (w28 hw)) (Or.inl (w20 hw)) (by decide) (t := .int) (t' := .int) (by decide) (by decide))))
  refine g_getF C X22 (host := "") (Or.inl (w27 hw)) Via.refl f26 d3_63 (q := 66) rfl ?_
  intro T27 X28
  refine g_iconst C X28 d3_66 (q := 67) rfl (z := (1 : Int32)) rfl ?_
  refine g_iadd C X28 d3_67 (q := 68) rfl (z := (i2 + (1 : Int32))) rfl ?_
  have f29 := (f20.wr W24)
  refine g_putF C X28 (host := "") (Or.inl (w27 hw)) Via.refl f26 f29 (Or.inl (w28 hw)) (w3 hw) (ty := .int) (by decide) rfl rfl d3_68 (q := 71) rfl G0 ?_
  intro T30 h32 X31 W33
  have FW33 := Fld.same W33 f26
  have O34 := O25.wr W33 G0
  exact g_retV C X31 d3_71 (by decide) (by decide) ⟨rfl, ((((Keep.refl h0 [o1, o0]).wr W14 (Or.inl (List.mem_of_getElem? (i := 0) rfl))).wr W24 (Or.inl (List.mem_of_getElem? (i := 1) rfl))).wr W33 (Or.inl (List.mem_of_getElem? (i := 1) rfl))), (f29.wr W33), (((P1.other W14 (Or.inl N0_1)).other W24 (Or.inr (slot_ne (Or.inr (w13 hw)) (Or.inl (w20 hw)) (by decide) (t := (.array .double)) (t' := .int) (by decide) (by decide)))).other W33 (Or.inr (slot_ne (Or.inr (w13 hw)) (Or.inl (w28 hw)) (by decide) (t := (.array .double)) (t' := .int) (by decide) (by decide)))), (FW24.other W33 (Or.inr (slot_ne (Or.inl (w20 hw)) (Or.inl (w28 hw)) (by decide) (t := .int) (t' := .int) (by decide) (by decide)))), (((P3.other W14 (Or.inl N0_1)).other W24 (Or.inr (slot_ne (Or.inl (w26 hw)) (Or.inl (w20 hw)) (by decide) (t := .int) (t' := .int) (by decide) (by decide)))).other W33 (Or.inr (slot_ne (Or.inl (w26 hw)) (Or.inl (w28 hw)) (by decide) (t := .int) (t' := .int) (by decide) (by decide)))), FW33, ((V15.other W24 (Ne.symm N0_1)).other W33 (Ne.symm N0_1))⟩
set_option maxRecDepth 65536 in
set_option maxHeartbeats 40000000 in
theorem rm_slot_8 {l : Launch} {Z : State} {a0 : Array Value} (hw : ∀ d ∈ tables_1, d.before a0 Z = true) {o0 : Addr} {o1 : Addr} {i2 : Int32} {kc3 : ClassId} {x4 : UInt64} {x5 : UInt64} {x6 : UInt64} {x7 : UInt64} {h0 : Heap} {n0 : Nat} (O : Old Z n0 h0)  (P0 : Exa Z h0 o0 "com/example/rondel/rondel/primitive/DoubleRingBuffer") (P1 : Fld Z h0 o0 "com/example/rondel/rondel/primitive/DoubleRingBuffer" "readings" "[D" (.ref o1)) (P2 : Fld Z h0 o0 "com/example/rondel/rondel/primitive/DoubleRingBuffer" "size" "I" (.int (2 : Int32))) (P3 : Fld Z h0 o0 "com/example/rondel/rondel/primitive/DoubleRingBuffer" "head" "I" (.int (0 : Int32))) (P4 : Fld Z h0 o0 "com/example/rondel/rondel/primitive/DoubleRingBuffer" "modCount" "I" (.int i2)) (P5 : Arv Z h0 o1 kc3 .double (4 : Int32) [(.double x4), (.double x5), (.double x6), (.double x7)] (.double 0)) (G0 : n0 ≤ o0) (G1 : n0 ≤ o1) (N0_1 : o0 ≠ o1) :
    Met1 l Z (⟨"com/example/rondel/rondel/primitive/DoubleRingBuffer", "slot", "(I)I"⟩ : MethodName) prog_11_method_18_code 3 (some .int) ({ frames := 0, cells := 0, slots := 0, locals := 0 } : Room) #[(.ref o0), (.int (2 : Int32))] h0 n0 (fun v h => v = (.int (2 : Int32)) ∧ h0 = h) := by
  refine met_of (L := #[.val (.ref o0), .val (.int (2 : Int32)), .unset]) (plainFor_of_name pn_10) (fun m => by first | (simp [entryFrame, mkF, argsToLocals, Value.category]; done) | rfl) ?_
  intro p e s m below meth c T C X
  change Cx p s m meth c Z "com/example/rondel/rondel/primitive/DoubleRingBuffer" prog_11_method_18_code 3 (some .int) "slot" at C
  refine g_aloadN C X d4_0 (q := 1) rfl rfl rfl ?_
  refine g_getF C X (host := "") (Or.inl (w12 hw)) Via.refl P1 d4_1 (q := 4) rfl ?_
  intro T1 X2
  refine g_alen C X2 P5 d4_4 (q := 5) rfl ?_
  refine g_aloadN C X2 d4_5 (q := 6) rfl rfl rfl ?_
  refine g_getF C X2 (host := "") (Or.inl (w25 hw)) Via.refl P3 d4_6 (q := 9) rfl ?_
  intro T3 X4
  refine g_isub C X4 d4_9 (q := 10) rfl (z := (4 : Int32)) (by decide) ?_
  refine g_istoreN C X4 d4_10 (q := 11) rfl (L' := #[.val (.ref o0), .val (.int (2 : Int32)), .val (.int (4 : Int32))]) rfl ?_
  refine g_iloadN C X4 d4_11 (q := 12) rfl rfl ?_
  refine g_iloadN C X4 d4_12 (q := 13) rfl rfl ?_
  refine g_icN C X4 d4_13 (q := 16) rfl (by decide) ?_
  refine g_aloadN C X4 d4_16 (q := 17) rfl rfl rfl ?_
  refine g_getF C X4 (host := "") (Or.inl (w25 hw)) Via.refl P3 d4_17 (q := 20) rfl ?_
  intro T5 X6
  refine g_iloadN C X6 d4_20 (q := 21) rfl rfl ?_
  refine g_iadd C X6 d4_21 (q := 22) rfl (z := (2 : Int32)) (by decide) ?_
  refine g_goto C X6 d4_22 (by decide) (q := 28) (by decide) ?_
  exact g_retI C X6 d4_28 (by decide) (by decide) ⟨_, rfl, rfl, rfl⟩
set_option maxRecDepth 65536 in
set_option maxHeartbeats 40000000 in
theorem rm_add_13 {l : Launch} {Z : State} {a0 : Array Value} (hw : ∀ d ∈ tables_1, d.before a0 Z = true) {o0 : Addr} {o1 : Addr} {i2 : Int32} {kc3 : ClassId} {x4 : UInt64} {x5 : UInt64} {x6 : UInt64} {x7 : UInt64} {x8 : UInt64} {h0 : Heap} {n0 : Nat} (O : Old Z n0 h0)  (P0 : Exa Z h0 o0 "com/example/rondel/rondel/primitive/DoubleRingBuffer") (P1 : Fld Z h0 o0 "com/example/rondel/rondel/primitive/DoubleRingBuffer" "readings" "[D" (.ref o1)) (P2 : Fld Z h0 o0 "com/example/rondel/rondel/primitive/DoubleRingBuffer" "size" "I" (.int (2 : Int32))) (P3 : Fld Z h0 o0 "com/example/rondel/rondel/primitive/DoubleRingBuffer" "head" "I" (.int (0 : Int32))) (P4 : Fld Z h0 o0 "com/example/rondel/rondel/primitive/DoubleRingBuffer" "modCount" "I" (.int i2)) (P5 : Arv Z h0 o1 kc3 .double (4 : Int32) [(.double x4), (.double x5), (.double x6), (.double x7)] (.double 0)) (G0 : n0 ≤ o0) (G1 : n0 ≤ o1) (N0_1 : o0 ≠ o1) :
    Met0 l Z (⟨"com/example/rondel/rondel/primitive/DoubleRingBuffer", "add", "(D)V"⟩ : MethodName) prog_11_method_6_code 3 none ({ frames := 1, cells := 0, slots := 0, locals := 15 } : Room) #[(.ref o0), (.double x8)] h0 n0 (fun h => Keep h0 h [o1, o0] ∧ Exa Z h o0 "com/example/rondel/rondel/primitive/DoubleRingBuffer" ∧ Fld Z h o0 "com/example/rondel/rondel/primitive/DoubleRingBuffer" "readings" "[D" (.ref o1) ∧ Fld Z h o0 "com/example/rondel/rondel/primitive/DoubleRingBuffer" "size" "I" (.int (3 : Int32)) ∧ Fld Z h o0 "com/example/rondel/rondel/primitive/DoubleRingBuffer" "head" "I" (.int (0 : Int32)) ∧ Fld Z h o0 "com/example/rondel/rondel/primitive/DoubleRingBuffer" "modCount" "I" (.int (i2 + (1 : Int32))) ∧ Arv Z h o1 kc3 .double (4 : Int32) [(.double x4), (.double x5), (.double x8), (.double x7)] (.double 0)) := by
  refine met_of (L := #[.val (.ref o0), .val (.double x8), .second]) (plainFor_of_name pn_10) (fun m => by first | (simp [entryFrame, mkF, argsToLocals, Value.category]; done) | rfl) ?_
  intro p e s m below meth c T C X
  change Cx p s m meth c Z "com/example/rondel/rondel/primitive/DoubleRingBuffer" prog_11_method_6_code 3 none "add" at C
  refine g_aloadN C X d3_0 (q := 1) rfl rfl rfl ?_
  refine g_getF C X (host := "") (Or.inl (w19 hw)) Via.refl P2 d3_1 (q := 4) rfl ?_
  intro T1 X2
  refine g_aloadN C X2 d3_4 (q := 5) rfl rfl rfl ?_
  refine g_getF C X2 (host := "") (Or.inl (w12 hw)) Via.refl P1 d3_5 (q := 8) rfl ?_
  intro T3 X4
  refine g_alen C X4 P5 d3_8 (q := 9) rfl ?_
  refine g_icY C X4 d3_9 (by decide) (q := 37) (by decide) (by decide) ?_
  refine g_aloadN C X4 d3_37 (q := 38) rfl rfl rfl ?_
  refine g_getF C X4 (host := "") (Or.inl (w12 hw)) Via.refl P1 d3_38 (q := 41) rfl ?_
  intro T5 X6
  refine g_aloadN C X6 d3_41 (q := 42) rfl rfl rfl ?_
  refine g_aloadN C X6 d3_42 (q := 43) rfl rfl rfl ?_
  refine g_getF C X6 (host := "") (Or.inl (w19 hw)) Via.refl P2 d3_43 (q := 46) rfl ?_
  intro T7 X8
  refine g_callP1 C X8 (y := (⟨"com/example/rondel/rondel/primitive/DoubleRingBuffer", "slot", "(I)I"⟩ : MethodName)) (a := o0) (by decide) (w21 hw) (sel_priv (w3 hw) (w22 hw) (w23 hw) (by decide)) (w22 hw) (w23 hw) P0 (w24 hw) (w4 hw) (rm_slot_8 hw (o0 := o0) (o1 := o1) (i2 := i2) (kc3 := kc3) (x4 := x4) (x5 := x5) (x6 := x6) (x7 := x7) O P0 P1 P2 P3 P4 P5 G0 G1 N0_1) (W := 1) (by decide) (by decide) (k' := 0) rfl (n' := 0) rfl (by decide) (by decide) rfl pd_40 (argsL := [(.int (2 : Int32))]) rfl (rest := [(.ref o1)]) rfl rfl rfl d3_46 (q := 49) rfl ?_
  rintro _ T9 _ X10 ⟨rfl, rfl⟩
  refine g_dloadN C X10 d3_49 (q := 50) rfl rfl ?_
  refine g_dastore C X10 P5 (by decide) (i := 2) (by decide) (Nat.le_of_ble_eq_true rfl) (vs' := [(.double x4), (.double x5), (.double x8), (.double x7)]) rfl G1 d3_50 (q := 51) rfl ?_
  intro T11 h12 X13 W14 V15
  have O16 := O.wr W14 G1
  refine g_aloadN C X13 d3_51 (q := 52) rfl rfl rfl ?_
  refine g_dup C X13 d3_52 (q := 53) rfl rfl ?_
  have f17 := (P2.other W14 (Or.inl N0_1))
  refine g_getF C X13 (host := "") (Or.inl (w19 hw)) Via.refl f17 d3_53 (q := 56) rfl ?_
  intro T18 X19
  refine g_iconst C X19 d3_56 (q := 57) rfl (z := (1 : Int32)) rfl ?_
  refine g_iadd C X19 d3_57 (q := 58) rfl (z := (3 : Int32)) (by decide) ?_
  have f20 := (P0.wr W14)
  refine g_putF C X19 (host := "") (Or.inl (w19 hw)) Via.refl f17 f20 (Or.inl (w20 hw)) (w3 hw) (ty := .int) (by decide) rfl rfl d3_58 (q := 61) rfl G0 ?_
  intro T21 h23 X22 W24
  have FW24 := Fld.same W24 f17
  have O25 := O16.wr W24 G0
  refine g_aloadN C X22 d3_61 (q := 62) rfl rfl rfl ?_
  refine g_dup C X22 d3_62 (q := 63) rfl rfl ?_
  have f26 := ((P4.other W14 (Or.inl N0_1)).other W24 (Or.inr (slot_ne (Or.inl (w28 hw)) (Or.inl (w20 hw)) (by decide) (t := .int) (t' := .int) (by decide) (by decide))))
  refine g_getF C X22 (host := "") (Or.inl (w27 hw)) Via.refl f26 d3_63 (q := 66) rfl ?_
  intro T27 X28
  refine g_iconst C X28 d3_66 (q := 67) rfl (z := (1 : Int32)) rfl ?_
  refine g_iadd C X28 d3_67 (q := 68) rfl (z := (i2 + (1 : Int32))) rfl ?_
  have f29 := (f20.wr W24)
  refine g_putF C X28 (host := "") (Or.inl (w27 hw)) Via.refl f26 f29 (Or.inl (w28 hw)) (w3 hw) (ty := .int) (by decide) rfl rfl d3_68 (q := 71) rfl G0 ?_
  intro T30 h32 X31 W33
  have FW33 := Fld.same W33 f26
  have O34 := O25.wr W33 G0
  exact g_retV C X31 d3_71 (by decide) (by decide) ⟨rfl, ((((Keep.refl h0 [o1, o0]).wr W14 (Or.inl (List.mem_of_getElem? (i := 0) rfl))).wr W24 (Or.inl (List.mem_of_getElem? (i := 1) rfl))).wr W33 (Or.inl (List.mem_of_getElem? (i := 1) rfl))), (f29.wr W33), (((P1.other W14 (Or.inl N0_1)).other W24 (Or.inr (slot_ne (Or.inr (w13 hw)) (Or.inl (w20 hw)) (by decide) (t := (.array .double)) (t' := .int) (by decide) (by decide)))).other W33 (Or.inr (slot_ne (Or.inr (w13 hw)) (Or.inl (w28 hw)) (by decide) (t := (.array .double)) (t' := .int) (by decide) (by decide)))), (FW24.other W33 (Or.inr (slot_ne (Or.inl (w20 hw)) (Or.inl (w28 hw)) (by decide) (t := .int) (t' := .int) (by decide) (by decide)))), (((P3.other W14 (Or.inl N0_1)).other W24 (Or.inr (slot_ne (Or.inl (w26 hw)) (Or.inl (w20 hw)) (by decide) (t := .int) (t' := .int) (by decide) (by decide)))).other W33 (Or.inr (slot_ne (Or.inl (w26 hw)) (Or.inl (w28 hw)) (by decide) (t := .int) (t' := .int) (by decide) (by decide)))), FW33, ((V15.other W24 (Ne.symm N0_1)).other W33 (Ne.symm N0_1))⟩
set_option maxRecDepth 65536 in
set_option maxHeartbeats 40000000 in
theorem rm_slot_9 {l : Launch} {Z : State} {a0 : Array Value} (hw : ∀ d ∈ tables_1, d.before a0 Z = true) {o0 : Addr} {o1 : Addr} {i2 : Int32} {kc3 : ClassId} {x4 : UInt64} {x5 : UInt64} {x6 : UInt64} {x7 : UInt64} {h0 : Heap} {n0 : Nat} (O : Old Z n0 h0)  (P0 : Exa Z h0 o0 "com/example/rondel/rondel/primitive/DoubleRingBuffer") (P1 : Fld Z h0 o0 "com/example/rondel/rondel/primitive/DoubleRingBuffer" "readings" "[D" (.ref o1)) (P2 : Fld Z h0 o0 "com/example/rondel/rondel/primitive/DoubleRingBuffer" "size" "I" (.int (3 : Int32))) (P3 : Fld Z h0 o0 "com/example/rondel/rondel/primitive/DoubleRingBuffer" "head" "I" (.int (0 : Int32))) (P4 : Fld Z h0 o0 "com/example/rondel/rondel/primitive/DoubleRingBuffer" "modCount" "I" (.int i2)) (P5 : Arv Z h0 o1 kc3 .double (4 : Int32) [(.double x4), (.double x5), (.double x6), (.double x7)] (.double 0)) (G0 : n0 ≤ o0) (G1 : n0 ≤ o1) (N0_1 : o0 ≠ o1) :
    Met1 l Z (⟨"com/example/rondel/rondel/primitive/DoubleRingBuffer", "slot", "(I)I"⟩ : MethodName) prog_11_method_18_code 3 (some .int) ({ frames := 0, cells := 0, slots := 0, locals := 0 } : Room) #[(.ref o0), (.int (3 : Int32))] h0 n0 (fun v h => v = (.int (3 : Int32)) ∧ h0 = h) := by
  refine met_of (L := #[.val (.ref o0), .val (.int (3 : Int32)), .unset]) (plainFor_of_name pn_10) (fun m => by first | (simp [entryFrame, mkF, argsToLocals, Value.category]; done) | rfl) ?_
  intro p e s m below meth c T C X
  change Cx p s m meth c Z "com/example/rondel/rondel/primitive/DoubleRingBuffer" prog_11_method_18_code 3 (some .int) "slot" at C
  refine g_aloadN C X d4_0 (q := 1) rfl rfl rfl ?_
  refine g_getF C X (host := "") (Or.inl (w12 hw)) Via.refl P1 d4_1 (q := 4) rfl ?_
  intro T1 X2
  refine g_alen C X2 P5 d4_4 (q := 5) rfl ?_
  refine g_aloadN C X2 d4_5 (q := 6) rfl rfl rfl ?_
  refine g_getF C X2 (host := "") (Or.inl (w25 hw)) Via.refl P3 d4_6 (q := 9) rfl ?_
  intro T3 X4
  refine g_isub C X4 d4_9 (q := 10) rfl (z := (4 : Int32)) (by decide) ?_
  refine g_istoreN C X4 d4_10 (q := 11) rfl (L' := #[.val (.ref o0), .val (.int (3 : Int32)), .val (.int (4 : Int32))]) rfl ?_
  refine g_iloadN C X4 d4_11 (q := 12) rfl rfl ?_
  refine g_iloadN C X4 d4_12 (q := 13) rfl rfl ?_
  refine g_icN C X4 d4_13 (q := 16) rfl (by decide) ?_
  refine g_aloadN C X4 d4_16 (q := 17) rfl rfl rfl ?_
  refine g_getF C X4 (host := "") (Or.inl (w25 hw)) Via.refl P3 d4_17 (q := 20) rfl ?_
  intro T5 X6
  refine g_iloadN C X6 d4_20 (q := 21) rfl rfl ?_
  refine g_iadd C X6 d4_21 (q := 22) rfl (z := (3 : Int32)) (by decide) ?_
  refine g_goto C X6 d4_22 (by decide) (q := 28) (by decide) ?_
  exact g_retI C X6 d4_28 (by decide) (by decide) ⟨_, rfl, rfl, rfl⟩
set_option maxRecDepth 65536 in
set_option maxHeartbeats 40000000 in
theorem rm_add_14 {l : Launch} {Z : State} {a0 : Array Value} (hw : ∀ d ∈ tables_1, d.before a0 Z = true) {o0 : Addr} {o1 : Addr} {i2 : Int32} {kc3 : ClassId} {x4 : UInt64} {x5 : UInt64} {x6 : UInt64} {x7 : UInt64} {x8 : UInt64} {h0 : Heap} {n0 : Nat} (O : Old Z n0 h0)  (P0 : Exa Z h0 o0 "com/example/rondel/rondel/primitive/DoubleRingBuffer") (P1 : Fld Z h0 o0 "com/example/rondel/rondel/primitive/DoubleRingBuffer" "readings" "[D" (.ref o1)) (P2 : Fld Z h0 o0 "com/example/rondel/rondel/primitive/DoubleRingBuffer" "size" "I" (.int (3 : Int32))) (P3 : Fld Z h0 o0 "com/example/rondel/rondel/primitive/DoubleRingBuffer" "head" "I" (.int (0 : Int32))) (P4 : Fld Z h0 o0 "com/example/rondel/rondel/primitive/DoubleRingBuffer" "modCount" "I" (.int i2)) (P5 : Arv Z h0 o1 kc3 .double (4 : Int32) [(.double x4), (.double x5), (.double x6), (.double x7)] (.double 0)) (G0 : n0 ≤ o0) (G1 : n0 ≤ o1) (N0_1 : o0 ≠ o1) :
    Met0 l Z (⟨"com/example/rondel/rondel/primitive/DoubleRingBuffer", "add", "(D)V"⟩ : MethodName) prog_11_method_6_code 3 none ({ frames := 1, cells := 0, slots := 0, locals := 15 } : Room) #[(.ref o0), (.double x8)] h0 n0 (fun h => Keep h0 h [o1, o0] ∧ Exa Z h o0 "com/example/rondel/rondel/primitive/DoubleRingBuffer" ∧ Fld Z h o0 "com/example/rondel/rondel/primitive/DoubleRingBuffer" "readings" "[D" (.ref o1) ∧ Fld Z h o0 "com/example/rondel/rondel/primitive/DoubleRingBuffer" "size" "I" (.int (4 : Int32)) ∧ Fld Z h o0 "com/example/rondel/rondel/primitive/DoubleRingBuffer" "head" "I" (.int (0 : Int32)) ∧ Fld Z h o0 "com/example/rondel/rondel/primitive/DoubleRingBuffer" "modCount" "I" (.int (i2 + (1 : Int32))) ∧ Arv Z h o1 kc3 .double (4 : Int32) [(.double x4), (.double x5), (.double x6), (.double x8)] (.double 0)) := by
  refine met_of (L := #[.val (.ref o0), .val (.double x8), .second]) (plainFor_of_name pn_10) (fun m => by first | (simp [entryFrame, mkF, argsToLocals, Value.category]; done) | rfl) ?_
  intro p e s m below meth c T C X
  change Cx p s m meth c Z "com/example/rondel/rondel/primitive/DoubleRingBuffer" prog_11_method_6_code 3 none "add" at C
  refine g_aloadN C X d3_0 (q := 1) rfl rfl rfl ?_
  refine g_getF C X (host := "") (Or.inl (w19 hw)) Via.refl P2 d3_1 (q := 4) rfl ?_
  intro T1 X2
  refine g_aloadN C X2 d3_4 (q := 5) rfl rfl rfl ?_
  refine g_getF C X2 (host := "") (Or.inl (w12 hw)) Via.refl P1 d3_5 (q := 8) rfl ?_
  intro T3 X4
  refine g_alen C X4 P5 d3_8 (q := 9) rfl ?_
  refine g_icY C X4 d3_9 (by decide) (q := 37) (by decide) (by decide) ?_
  refine g_aloadN C X4 d3_37 (q := 38) rfl rfl rfl ?_
  refine g_getF C X4 (host := "") (Or.inl (w12 hw)) Via.refl P1 d3_38 (q := 41) rfl ?_
  intro T5 X6
  refine g_aloadN C X6 d3_41 (q := 42) rfl rfl rfl ?_
  refine g_aloadN C X6 d3_42 (q := 43) rfl rfl rfl ?_
  refine g_getF C X6 (host := "") (Or.inl (w19 hw)) Via.refl P2 d3_43 (q := 46) rfl ?_
  intro T7 X8
  refine g_callP1 C X8 (y := (⟨"com/example/rondel/rondel/primitive/DoubleRingBuffer", "slot", "(I)I"⟩ : MethodName)) (a := o0) (by decide) (w21 hw) (sel_priv (w3 hw) (w22 hw) (w23 hw) (by decide)) (w22 hw) (w23 hw) P0 (w24 hw) (w4 hw) (rm_slot_9 hw (o0 := o0) (o1 := o1) (i2 := i2) (kc3 := kc3) (x4 := x4) (x5 := x5) (x6 := x6) (x7 := x7) O P0 P1 P2 P3 P4 P5 G0 G1 N0_1) (W := 1) (by decide) (by decide) (k' := 0) rfl (n' := 0) rfl (by decide) (by decide) rfl pd_40 (argsL := [(.int (3 : Int32))]) rfl (rest := [(.ref o1)]) rfl rfl rfl d3_46 (q := 49) rfl ?_
  rintro _ T9 _ X10 ⟨rfl, rfl⟩
  refine g_dloadN C X10 d3_49 (q := 50) rfl rfl ?_
  refine g_dastore C X10 P5 (by decide) (i := 3) (by decide) (Nat.le_of_ble_eq_true rfl) (vs' := [(.double x4), (.double x5), (.double x6), (.double x8)]) rfl G1 d3_50 (q := 51) rfl ?_
  intro T11 h12 X13 W14 V15
  have O16 := O.wr W14 G1
  refine g_aloadN C X13 d3_51 (q := 52) rfl rfl rfl ?_
  refine g_dup C X13 d3_52 (q := 53) rfl rfl ?_
  have f17 := (P2.other W14 (Or.inl N0_1))
  refine g_getF C X13 (host := "") (Or.inl (w19 hw)) Via.refl f17 d3_53 (q := 56) rfl ?_
  intro T18 X19
  refine g_iconst C X19 d3_56 (q := 57) rfl (z := (1 : Int32)) rfl ?_
  refine g_iadd C X19 d3_57 (q := 58) rfl (z := (4 : Int32)) (by decide) ?_
  have f20 := (P0.wr W14)
  refine g_putF C X19 (host := "") (Or.inl (w19 hw)) Via.refl f17 f20 (Or.inl (w20 hw)) (w3 hw) (ty := .int) (by decide) rfl rfl d3_58 (q := 61) rfl G0 ?_
  intro T21 h23 X22 W24
  have FW24 := Fld.same W24 f17
  have O25 := O16.wr W24 G0
  refine g_aloadN C X22 d3_61 (q := 62) rfl rfl rfl ?_
  refine g_dup C X22 d3_62 (q := 63) rfl rfl ?_
  have f26 := ((P4.other W14 (Or.inl N0_1)).other W24 (Or.inr (slot_ne (Or.inl (w28 hw)) (Or.inl (w20 hw)) (by decide) (t := .int) (t' := .int) (by decide) (by decide))))
  refine g_getF C X22 (host := "") (Or.inl (w27 hw)) Via.refl f26 d3_63 (q := 66) rfl ?_
  intro T27 X28
  refine g_iconst C X28 d3_66 (q := 67) rfl (z := (1 : Int32)) rfl ?_
  refine g_iadd C X28 d3_67 (q := 68) rfl (z := (i2 + (1 : Int32))) rfl ?_
  have f29 := (f20.wr W24)
  refine g_putF C X28 (host := "") (Or.inl (w27 hw)) Via.refl f26 f29 (Or.inl (w28 hw)) (w3 hw) (ty := .int) (by decide) rfl rfl d3_68 (q := 71) rfl G0 ?_
  intro T30 h32 X31 W33
  have FW33 := Fld.same W33 f26
  have O34 := O25.wr W33 G0
  exact g_retV C X31 d3_71 (by decide) (by decide) ⟨rfl, ((((Keep.refl h0 [o1, o0]).wr W14 (Or.inl (List.mem_of_getElem? (i := 0) rfl))).wr W24 (Or.inl (List.mem_of_getElem? (i := 1) rfl))).wr W33 (Or.inl (List.mem_of_getElem? (i := 1) rfl))), (f29.wr W33), (((P1.other W14 (Or.inl N0_1)).other W24 (Or.inr (slot_ne (Or.inr (w13 hw)) (Or.inl (w20 hw)) (by decide) (t := (.array .double)) (t' := .int) (by decide) (by decide)))).other W33 (Or.inr (slot_ne (Or.inr (w13 hw)) (Or.inl (w28 hw)) (by decide) (t := (.array .double)) (t' := .int) (by decide) (by decide)))), (FW24.other W33 (Or.inr (slot_ne (Or.inl (w20 hw)) (Or.inl (w28 hw)) (by decide) (t := .int) (t' := .int) (by decide) (by decide)))), (((P3.other W14 (Or.inl N0_1)).other W24 (Or.inr (slot_ne (Or.inl (w26 hw)) (Or.inl (w20 hw)) (by decide) (t := .int) (t' := .int) (by decide) (by decide)))).other W33 (Or.inr (slot_ne (Or.inl (w26 hw)) (Or.inl (w28 hw)) (by decide) (t := .int) (t' := .int) (by decide) (by decide)))), FW33, ((V15.other W24 (Ne.symm N0_1)).other W33 (Ne.symm N0_1))⟩
set_option maxRecDepth 65536 in
set_option maxHeartbeats 40000000 in
theorem rm_next_9 {l : Launch} {Z : State} {a0 : Array Value} (hw : ∀ d ∈ tables_1, d.before a0 Z = true) {o0 : Addr} {o1 : Addr} {i2 : Int32} {kc3 : ClassId} {x4 : UInt64} {x5 : UInt64} {x6 : UInt64} {x7 : UInt64} {h0 : Heap} {n0 : Nat} (O : Old Z n0 h0)  (P0 : Exa Z h0 o0 "com/example/rondel/rondel/primitive/DoubleRingBuffer") (P1 : Fld Z h0 o0 "com/example/rondel/rondel/primitive/DoubleRingBuffer" "readings" "[D" (.ref o1)) (P2 : Fld Z h0 o0 "com/example/rondel/rondel/primitive/DoubleRingBuffer" "size" "I" (.int (4 : Int32))) (P3 : Fld Z h0 o0 "com/example/rondel/rondel/primitive/DoubleRingBuffer" "head" "I" (.int (0 : Int32))) (P4 : Fld Z h0 o0 "com/example/rondel/rondel/primitive/DoubleRingBuffer" "modCount" "I" (.int i2)) (P5 : Arv Z h0 o1 kc3 .double (4 : Int32) [(.double x4), (.double x5), (.double x6), (.double x7)] (.double 0)) (G0 : n0 ≤ o0) (G1 : n0 ≤ o1) (N0_1 : o0 ≠ o1) :
    Met1 l Z (⟨"com/example/rondel/rondel/primitive/DoubleRingBuffer", "next", "(I)I"⟩ : MethodName) prog_11_method_19_code 2 (some .int) ({ frames := 0, cells := 0, slots := 0, locals := 0 } : Room) #[(.ref o0), (.int (0 : Int32))] h0 n0 (fun v h => v = (.int (1 : Int32)) ∧ h0 = h) := by
  refine met_of (L := #[.val (.ref o0), .val (.int (0 : Int32))]) (plainFor_of_name pn_10) (fun m => by first | (simp [entryFrame, mkF, argsToLocals, Value.category]; done) | rfl) ?_
  intro p e s m below meth c T C X
  change Cx p s m meth c Z "com/example/rondel/rondel/primitive/DoubleRingBuffer" prog_11_method_19_code 2 (some .int) "next" at C
  refine g_iloadN C X d5_0 (q := 1) rfl rfl ?_
  refine g_aloadN C X d5_1 (q := 2) rfl rfl rfl ?_
  refine g_getF C X (host := "") (Or.inl (w12 hw)) Via.refl P1 d5_2 (q := 5) rfl ?_
  intro T1 X2
  refine g_alen C X2 P5 d5_5 (q := 6) rfl ?_
  refine g_iconst C X2 d5_6 (q := 7) rfl (z := (1 : Int32)) rfl ?_
  refine g_isub C X2 d5_7 (q := 8) rfl (z := (3 : Int32)) (by decide) ?_
  refine g_icY C X2 d5_8 (by decide) (q := 15) (by decide) (by decide) ?_
  refine g_iloadN C X2 d5_15 (q := 16) rfl rfl ?_
  refine g_iconst C X2 d5_16 (q := 17) rfl (z := (1 : Int32)) rfl ?_
  refine g_iadd C X2 d5_17 (q := 18) rfl (z := (1 : Int32)) (by decide) ?_
  exact g_retI C X2 d5_18 (by decide) (by decide) ⟨_, rfl, rfl, rfl⟩
set_option maxRecDepth 65536 in
set_option maxHeartbeats 40000000 in
theorem rm_add_15 {l : Launch} {Z : State} {a0 : Array Value} (hw : ∀ d ∈ tables_1, d.before a0 Z = true) {o0 : Addr} {o1 : Addr} {i2 : Int32} {kc3 : ClassId} {x4 : UInt64} {x5 : UInt64} {x6 : UInt64} {x7 : UInt64} {x8 : UInt64} {h0 : Heap} {n0 : Nat} (O : Old Z n0 h0)  (P0 : Exa Z h0 o0 "com/example/rondel/rondel/primitive/DoubleRingBuffer") (P1 : Fld Z h0 o0 "com/example/rondel/rondel/primitive/DoubleRingBuffer" "readings" "[D" (.ref o1)) (P2 : Fld Z h0 o0 "com/example/rondel/rondel/primitive/DoubleRingBuffer" "size" "I" (.int (4 : Int32))) (P3 : Fld Z h0 o0 "com/example/rondel/rondel/primitive/DoubleRingBuffer" "head" "I" (.int (0 : Int32))) (P4 : Fld Z h0 o0 "com/example/rondel/rondel/primitive/DoubleRingBuffer" "modCount" "I" (.int i2)) (P5 : Arv Z h0 o1 kc3 .double (4 : Int32) [(.double x4), (.double x5), (.double x6), (.double x7)] (.double 0)) (G0 : n0 ≤ o0) (G1 : n0 ≤ o1) (N0_1 : o0 ≠ o1) :
    Met0 l Z (⟨"com/example/rondel/rondel/primitive/DoubleRingBuffer", "add", "(D)V"⟩ : MethodName) prog_11_method_6_code 3 none ({ frames := 1, cells := 0, slots := 0, locals := 14 } : Room) #[(.ref o0), (.double x8)] h0 n0 (fun h => Keep h0 h [o1, o0] ∧ Exa Z h o0 "com/example/rondel/rondel/primitive/DoubleRingBuffer" ∧ Fld Z h o0 "com/example/rondel/rondel/primitive/DoubleRingBuffer" "readings" "[D" (.ref o1) ∧ Fld Z h o0 "com/example/rondel/rondel/primitive/DoubleRingBuffer" "size" "I" (.int (4 : Int32)) ∧ Fld Z h o0 "com/example/rondel/rondel/primitive/DoubleRingBuffer" "head" "I" (.int (1 : Int32)) ∧ Fld Z h o0 "com/example/rondel/rondel/primitive/DoubleRingBuffer" "modCount" "I" (.int (i2 + (1 : Int32))) ∧ Arv Z h o1 kc3 .double (4 : Int32) [(.double x8), (.double x5), (.double x6), (.double x7)] (.double 0)) := by
  refine met_of (L := #[.val (.ref o0), .val (.double x8), .second]) (plainFor_of_name pn_10) (fun m => by first | (simp [entryFrame, mkF, argsToLocals, Value.category]; done) | rfl) ?_
  intro p e s m below meth c T C X
  change Cx p s m meth c Z "com/example/rondel/rondel/primitive/DoubleRingBuffer" prog_11_method_6_code 3 none "add" at C
  refine g_aloadN C X d3_0 (q := 1) rfl rfl rfl ?_
  refine g_getF C X (host := "") (Or.inl (w19 hw)) Via.refl P2 d3_1 (q := 4) rfl ?_
  intro T1 X2
  refine g_aloadN C X2 d3_4 (q := 5) rfl rfl rfl ?_
  refine g_getF C X2 (host := "") (Or.inl (w12 hw)) Via.refl P1 d3_5 (q := 8) rfl ?_
  intro T3 X4
  refine g_alen C X4 P5 d3_8 (q := 9) rfl ?_
  refine g_icN C X4 d3_9 (q := 12) rfl (by decide) ?_
  refine g_aloadN C X4 d3_12 (q := 13) rfl rfl rfl ?_
  refine g_getF C X4 (host := "") (Or.inl (w12 hw)) Via.refl P1 d3_13 (q := 16) rfl ?_
  intro T5 X6
  refine g_aloadN C X6 d3_16 (q := 17) rfl rfl rfl ?_
  refine g_getF C X6 (host := "") (Or.inl (w25 hw)) Via.refl P3 d3_17 (q := 20) rfl ?_
  intro T7 X8
  refine g_dloadN C X8 d3_20 (q := 21) rfl rfl ?_
  refine g_dastore C X8 P5 (by decide) (i := 0) (by decide) (Nat.le_of_ble_eq_true rfl) (vs' := [(.double x8), (.double x5), (.double x6), (.double x7)]) rfl G1 d3_21 (q := 22) rfl ?_
  intro T9 h10 X11 W12 V13
  have O14 := O.wr W12 G1
  refine g_aloadN C X11 d3_22 (q := 23) rfl rfl rfl ?_
  refine g_aloadN C X11 d3_23 (q := 24) rfl rfl rfl ?_
  refine g_aloadN C X11 d3_24 (q := 25) rfl rfl rfl ?_
  have f15 := (P3.other W12 (Or.inl N0_1))
  refine g_getF C X11 (host := "") (Or.inl (w25 hw)) Via.refl f15 d3_25 (q := 28) rfl ?_
  intro T16 X17
  have f18 := (P0.wr W12)
  have f19 := (P1.other W12 (Or.inl N0_1))
  have f20 := (P2.other W12 (Or.inl N0_1))
  have f21 := (P4.other W12 (Or.inl N0_1))
  refine g_callP1 C X17 (y := (⟨"com/example/rondel/rondel/primitive/DoubleRingBuffer", "next", "(I)I"⟩ : MethodName)) (a := o0) (by decide) (w29 hw) (sel_priv (w3 hw) (w30 hw) (w31 hw) (by decide)) (w30 hw) (w31 hw) f18 (w32 hw) (w4 hw) (rm_next_9 hw (o0 := o0) (o1 := o1) (i2 := i2) (kc3 := kc3) (x4 := x8) (x5 := x5) (x6 := x6) (x7 := x7) O14 f18 f19 f20 f15 f21 V13 G0 G1 N0_1) (W := 1) (by decide) (by decide) (k' := 0) rfl (n' := 0) rfl (by decide) (by decide) rfl pd_40 (argsL := [(.int (0 : Int32))]) rfl (rest := [(.ref o0)]) rfl rfl rfl d3_28 (q := 31) rfl ?_
  rintro _ T22 _ X23 ⟨rfl, rfl⟩
  refine g_putF C X23 (host := "") (Or.inl (w25 hw)) Via.refl f15 f18 (Or.inl (w26 hw)) (w3 hw) (ty := .int) (by decide) rfl rfl d3_31 (q := 34) rfl G0 ?_
  intro T24 h26 X25 W27
  have FW27 := Fld.same W27 f15
  have O28 := O14.wr W27 G0
  refine g_goto C X25 d3_34 (by decide) (q := 61) (by decide) ?_
  refine g_aloadN C X25 d3_61 (q := 62) rfl rfl rfl ?_
  refine g_dup C X25 d3_62 (q := 63) rfl rfl ?_
  have f29 := (f21.other W27 (Or.inr (slot_ne (Or.inl (w28 hw)) (Or.inl (w26 hw)) (by decide) (t := .int) (t' := .int) (by decide) (by decide))))
  refine g_getF C X25 (host := "") (Or.inl (w27 hw)) Via.refl f29 d3_63 (q := 66) rfl ?_
  intro T30 X31
  refine g_iconst C X31 d3_66 (q := 67) rfl (z := (1 : Int32)) rfl ?_
  refine g_iadd C X31 d3_67 (q := 68) rfl (z := (i2 + (1 : Int32))) rfl ?_
  have f32 := (f18.wr W27)
  refine g_putF C X31 (host := "") (Or.inl (w27 hw)) Via.refl f29 f32 (Or.inl (w28 hw)) (w3 hw) (ty := .int) (by decide) rfl rfl d3_68 (q := 71) rfl G0 ?_
  intro T33 h35 X34 W36
  have FW36 := Fld.same W36 f29
  have O37 := O28.wr W36 G0
  exact g_retV C X34 d3_71 (by decide) (by decide) ⟨rfl, ((((Keep.refl h0 [o1, o0]).wr W12 (Or.inl (List.mem_of_getElem? (i := 0) rfl))).wr W27 (Or.inl (List.mem_of_getElem? (i := 1) rfl))).wr W36 (Or.inl (List.mem_of_getElem? (i := 1) rfl))), (f32.wr W36), ((f19.other W27 (Or.inr (slot_ne (Or.inr (w13 hw)) (Or.inl (w26 hw)) (by decide) (t := (.array .double)) (t' := .int) (by decide) (by decide)))).other W36 (Or.inr (slot_ne (Or.inr (w13 hw)) (Or.inl (w28 hw)) (by decide) (t := (.array .double)) (t' := .int) (by decide) (by decide)))), ((f20.other W27 (Or.inr (slot_ne (Or.inl (w20 hw)) (Or.inl (w26 hw)) (by decide) (t := .int) (t' := .int) (by decide) (by decide)))).other W36 (Or.inr (slot_ne (Or.inl (w20 hw)) (Or.inl (w28 hw)) (by decide) (t := .int) (t' := .int) (by decide) (by decide)))), (FW27.other W36 (Or.inr (slot_ne (Or.inl (w26 hw)) (Or.inl (w28 hw)) (by decide) (t := .int) (t' := .int) (by decide) (by decide)))), FW36, ((V13.other W27 (Ne.symm N0_1)).other W36 (Ne.symm N0_1))⟩
set_option maxRecDepth 65536 in
set_option maxHeartbeats 40000000 in
theorem rm_min_18 {l : Launch} {Z : State} {a0 : Array Value} (hw : ∀ d ∈ tables_1, d.before a0 Z = true)  {h0 : Heap} {n0 : Nat} (O : Old Z n0 h0)  :
    Met1 l Z (⟨"java/lang/Math", "min", "(II)I"⟩ : MethodName) jdk_29_method_69_code 2 (some .int) ({ frames := 0, cells := 0, slots := 0, locals := 0 } : Room) #[(.int (5 : Int32)), (.int (4 : Int32))] h0 n0 (fun v h => v = (.int (4 : Int32)) ∧ h0 = h) := by
  refine met_of (L := #[.val (.int (5 : Int32)), .val (.int (4 : Int32))]) (Jvm.Free.JP.mathPlain rfl (by decide +kernel)) (fun m => by first | (simp [entryFrame, mkF, argsToLocals, Value.category]; done) | rfl) ?_
  intro p e s m below meth c T C X
  change Cx p s m meth c Z "java/lang/Math" jdk_29_method_69_code 2 (some .int) "min" at C
  refine g_iloadN C X d6_0 (q := 1) rfl rfl ?_
  refine g_iloadN C X d6_1 (q := 2) rfl rfl ?_
  refine g_icY C X d6_2 (by decide) (q := 9) (by decide) (by decide) ?_
  refine g_iloadN C X d6_9 (q := 10) rfl rfl ?_
  exact g_retI C X d6_10 (by decide) (by decide) ⟨_, rfl, rfl, rfl⟩
set_option maxRecDepth 65536 in
set_option maxHeartbeats 40000000 in
theorem rm_isFull_18 {l : Launch} {Z : State} {a0 : Array Value} (hw : ∀ d ∈ tables_1, d.before a0 Z = true) {o0 : Addr} {o1 : Addr} {i2 : Int32} {kc3 : ClassId} {x4 : UInt64} {x5 : UInt64} {x6 : UInt64} {x7 : UInt64} {h0 : Heap} {n0 : Nat} (O : Old Z n0 h0)  (P0 : Exa Z h0 o0 "com/example/rondel/rondel/primitive/DoubleRingBuffer") (P1 : Fld Z h0 o0 "com/example/rondel/rondel/primitive/DoubleRingBuffer" "readings" "[D" (.ref o1)) (P2 : Fld Z h0 o0 "com/example/rondel/rondel/primitive/DoubleRingBuffer" "size" "I" (.int (4 : Int32))) (P3 : Fld Z h0 o0 "com/example/rondel/rondel/primitive/DoubleRingBuffer" "head" "I" (.int (1 : Int32))) (P4 : Fld Z h0 o0 "com/example/rondel/rondel/primitive/DoubleRingBuffer" "modCount" "I" (.int i2)) (P5 : Arv Z h0 o1 kc3 .double (4 : Int32) [(.double x4), (.double x5), (.double x6), (.double x7)] (.double 0)) (G0 : n0 ≤ o0) (G1 : n0 ≤ o1) (N0_1 : o0 ≠ o1) :
    Met1 l Z (⟨"com/example/rondel/rondel/primitive/DoubleRingBuffer", "isFull", "()Z"⟩ : MethodName) prog_11_method_5_code 1 (some .boolean) ({ frames := 0, cells := 0, slots := 0, locals := 0 } : Room) #[(.ref o0)] h0 n0 (fun v h => v = (.int (1 : Int32)) ∧ h0 = h) := by
  refine met_of (L := #[.val (.ref o0)]) (plainFor_of_name pn_10) (fun m => by first | (simp [entryFrame, mkF, argsToLocals, Value.category]; done) | rfl) ?_
  intro p e s m below meth c T C X
  change Cx p s m meth c Z "com/example/rondel/rondel/primitive/DoubleRingBuffer" prog_11_method_5_code 1 (some .boolean) "isFull" at C
  refine g_aloadN C X d7_0 (q := 1) rfl rfl rfl ?_
  refine g_getF C X (host := "") (Or.inl (w19 hw)) Via.refl P2 d7_1 (q := 4) rfl ?_
  intro T1 X2
  refine g_aloadN C X2 d7_4 (q := 5) rfl rfl rfl ?_
  refine g_getF C X2 (host := "") (Or.inl (w12 hw)) Via.refl P1 d7_5 (q := 8) rfl ?_
  intro T3 X4
  refine g_alen C X4 P5 d7_8 (q := 9) rfl ?_
  refine g_icN C X4 d7_9 (q := 12) rfl (by decide) ?_
  refine g_iconst C X4 d7_12 (q := 13) rfl (z := (1 : Int32)) rfl ?_
  refine g_goto C X4 d7_13 (by decide) (q := 17) (by decide) ?_
  exact g_retN C X4 (Or.inl rfl) (z' := (1 : Int32)) (by decide) d7_17 (by decide) (by decide) ⟨_, rfl, rfl, rfl⟩
set_option maxRecDepth 65536 in
set_option maxHeartbeats 40000000 in
theorem rm_checkNotEmpty_9 {l : Launch} {Z : State} {a0 : Array Value} (hw : ∀ d ∈ tables_1, d.before a0 Z = true) {o0 : Addr} {o1 : Addr} {i2 : Int32} {kc3 : ClassId} {x4 : UInt64} {x5 : UInt64} {x6 : UInt64} {x7 : UInt64} {h0 : Heap} {n0 : Nat} (O : Old Z n0 h0)  (P0 : Exa Z h0 o0 "com/example/rondel/rondel/primitive/DoubleRingBuffer") (P1 : Fld Z h0 o0 "com/example/rondel/rondel/primitive/DoubleRingBuffer" "readings" "[D" (.ref o1)) (P2 : Fld Z h0 o0 "com/example/rondel/rondel/primitive/DoubleRingBuffer" "size" "I" (.int (4 : Int32))) (P3 : Fld Z h0 o0 "com/example/rondel/rondel/primitive/DoubleRingBuffer" "head" "I" (.int (1 : Int32))) (P4 : Fld Z h0 o0 "com/example/rondel/rondel/primitive/DoubleRingBuffer" "modCount" "I" (.int i2)) (P5 : Arv Z h0 o1 kc3 .double (4 : Int32) [(.double x4), (.double x5), (.double x6), (.double x7)] (.double 0)) (G0 : n0 ≤ o0) (G1 : n0 ≤ o1) (N0_1 : o0 ≠ o1) :
    Met0 l Z (⟨"com/example/rondel/rondel/primitive/DoubleRingBuffer", "checkNotEmpty", "()V"⟩ : MethodName) prog_11_method_17_code 1 none ({ frames := 0, cells := 0, slots := 0, locals := 0 } : Room) #[(.ref o0)] h0 n0 (fun h => h0 = h) := by
  refine met_of (L := #[.val (.ref o0)]) (plainFor_of_name pn_10) (fun m => by first | (simp [entryFrame, mkF, argsToLocals, Value.category]; done) | rfl) ?_
  intro p e s m below meth c T C X
  change Cx p s m meth c Z "com/example/rondel/rondel/primitive/DoubleRingBuffer" prog_11_method_17_code 1 none "checkNotEmpty" at C
  refine g_aloadN C X d10_0 (q := 1) rfl rfl rfl ?_
  refine g_getF C X (host := "") (Or.inl (w19 hw)) Via.refl P2 d10_1 (q := 4) rfl ?_
  intro T1 X2
  refine g_ifY C X2 d10_4 (by decide) (q := 17) (by decide) (by decide) ?_
  exact g_retV C X2 d10_17 (by decide) (by decide) ⟨rfl, rfl⟩
set_option maxRecDepth 65536 in
set_option maxHeartbeats 40000000 in
theorem rm_getFirst_9 {l : Launch} {Z : State} {a0 : Array Value} (hw : ∀ d ∈ tables_1, d.before a0 Z = true) {o0 : Addr} {o1 : Addr} {i2 : Int32} {kc3 : ClassId} {x4 : UInt64} {x5 : UInt64} {x6 : UInt64} {x7 : UInt64} {h0 : Heap} {n0 : Nat} (O : Old Z n0 h0)  (P0 : Exa Z h0 o0 "com/example/rondel/rondel/primitive/DoubleRingBuffer") (P1 : Fld Z h0 o0 "com/example/rondel/rondel/primitive/DoubleRingBuffer" "readings" "[D" (.ref o1)) (P2 : Fld Z h0 o0 "com/example/rondel/rondel/primitive/DoubleRingBuffer" "size" "I" (.int (4 : Int32))) (P3 : Fld Z h0 o0 "com/example/rondel/rondel/primitive/DoubleRingBuffer" "head" "I" (.int (1 : Int32))) (P4 : Fld Z h0 o0 "com/example/rondel/rondel/primitive/DoubleRingBuffer" "modCount" "I" (.int i2)) (P5 : Arv Z h0 o1 kc3 .double (4 : Int32) [(.double x4), (.double x5), (.double x6), (.double x7)] (.double 0)) (G0 : n0 ≤ o0) (G1 : n0 ≤ o1) (N0_1 : o0 ≠ o1) :
    Met1 l Z (⟨"com/example/rondel/rondel/primitive/DoubleRingBuffer", "getFirst", "()D"⟩ : MethodName) prog_11_method_9_code 1 (some .double) ({ frames := 1, cells := 0, slots := 0, locals := 12 } : Room) #[(.ref o0)] h0 n0 (fun v h => v = (.double x5) ∧ h0 = h) := by
  refine met_of (L := #[.val (.ref o0)]) (plainFor_of_name pn_10) (fun m => by first | (simp [entryFrame, mkF, argsToLocals, Value.category]; done) | rfl) ?_
  intro p e s m below meth c T C X
  change Cx p s m meth c Z "com/example/rondel/rondel/primitive/DoubleRingBuffer" prog_11_method_9_code 1 (some .double) "getFirst" at C
  refine g_aloadN C X d9_0 (q := 1) rfl rfl rfl ?_
  refine g_callP0 C X (y := (⟨"com/example/rondel/rondel/primitive/DoubleRingBuffer", "checkNotEmpty", "()V"⟩ : MethodName)) (a := o0) (by decide) (w52 hw) (sel_priv (w3 hw) (w53 hw) (w54 hw) (by decide)) (w53 hw) (w54 hw) P0 (w55 hw) (w4 hw) (rm_checkNotEmpty_9 hw (o0 := o0) (o1 := o1) (i2 := i2) (kc3 := kc3) (x4 := x4) (x5 := x5) (x6 := x6) (x7 := x7) O P0 P1 P2 P3 P4 P5 G0 G1 N0_1) (W := 0) (by decide) (by decide) (k' := 0) rfl (n' := 0) rfl (by decide) (by decide) rfl pd_104 (argsL := []) rfl (rest := []) rfl rfl rfl d9_1 (q := 4) rfl ?_
  rintro T1 _ X2 rfl
  refine g_aloadN C X2 d9_4 (q := 5) rfl rfl rfl ?_
  refine g_getF C X2 (host := "") (Or.inl (w12 hw)) Via.refl P1 d9_5 (q := 8) rfl ?_
  intro T3 X4
  refine g_aloadN C X4 d9_8 (q := 9) rfl rfl rfl ?_
  refine g_getF C X4 (host := "") (Or.inl (w25 hw)) Via.refl P3 d9_9 (q := 12) rfl ?_
  intro T5 X6
  refine g_daload C X6 P5 (by decide) (w := (.double x5)) rfl d9_12 (q := 13) rfl ?_
  exact g_retD C X6 d9_13 (by decide) (by decide) ⟨_, rfl, rfl, rfl⟩
set_option maxRecDepth 65536 in
set_option maxHeartbeats 40000000 in
theorem rm_next_10 {l : Launch} {Z : State} {a0 : Array Value} (hw : ∀ d ∈ tables_1, d.before a0 Z = true) {o0 : Addr} {o1 : Addr} {i2 : Int32} {kc3 : ClassId} {x4 : UInt64} {x5 : UInt64} {x6 : UInt64} {x7 : UInt64} {h0 : Heap} {n0 : Nat} (O : Old Z n0 h0)  (P0 : Exa Z h0 o0 "com/example/rondel/rondel/primitive/DoubleRingBuffer") (P1 : Fld Z h0 o0 "com/example/rondel/rondel/primitive/DoubleRingBuffer" "readings" "[D" (.ref o1)) (P2 : Fld Z h0 o0 "com/example/rondel/rondel/primitive/DoubleRingBuffer" "size" "I" (.int (4 : Int32))) (P3 : Fld Z h0 o0 "com/example/rondel/rondel/primitive/DoubleRingBuffer" "head" "I" (.int (1 : Int32))) (P4 : Fld Z h0 o0 "com/example/rondel/rondel/primitive/DoubleRingBuffer" "modCount" "I" (.int i2)) (P5 : Arv Z h0 o1 kc3 .double (4 : Int32) [(.double x4), (.double x5), (.double x6), (.double x7)] (.double 0)) (G0 : n0 ≤ o0) (G1 : n0 ≤ o1) (N0_1 : o0 ≠ o1) :
    Met1 l Z (⟨"com/example/rondel/rondel/primitive/DoubleRingBuffer", "next", "(I)I"⟩ : MethodName) prog_11_method_19_code 2 (some .int) ({ frames := 0, cells := 0, slots := 0, locals := 0 } : Room) #[(.ref o0), (.int (1 : Int32))] h0 n0 (fun v h => v = (.int (2 : Int32)) ∧ h0 = h) := by
  refine met_of (L := #[.val (.ref o0), .val (.int (1 : Int32))]) (plainFor_of_name pn_10) (fun m => by first | (simp [entryFrame, mkF, argsToLocals, Value.category]; done) | rfl) ?_
  intro p e s m below meth c T C X
  change Cx p s m meth c Z "com/example/rondel/rondel/primitive/DoubleRingBuffer" prog_11_method_19_code 2 (some .int) "next" at C
  refine g_iloadN C X d5_0 (q := 1) rfl rfl ?_
  refine g_aloadN C X d5_1 (q := 2) rfl rfl rfl ?_
  refine g_getF C X (host := "") (Or.inl (w12 hw)) Via.refl P1 d5_2 (q := 5) rfl ?_
  intro T1 X2
  refine g_alen C X2 P5 d5_5 (q := 6) rfl ?_
  refine g_iconst C X2 d5_6 (q := 7) rfl (z := (1 : Int32)) rfl ?_
  refine g_isub C X2 d5_7 (q := 8) rfl (z := (3 : Int32)) (by decide) ?_
  refine g_icY C X2 d5_8 (by decide) (q := 15) (by decide) (by decide) ?_
  refine g_iloadN C X2 d5_15 (q := 16) rfl rfl ?_
  refine g_iconst C X2 d5_16 (q := 17) rfl (z := (1 : Int32)) rfl ?_
  refine g_iadd C X2 d5_17 (q := 18) rfl (z := (2 : Int32)) (by decide) ?_
  exact g_retI C X2 d5_18 (by decide) (by decide) ⟨_, rfl, rfl, rfl⟩
set_option maxRecDepth 65536 in
set_option maxHeartbeats 40000000 in
theorem rm_removeFirst_9 {l : Launch} {Z : State} {a0 : Array Value} (hw : ∀ d ∈ tables_1, d.before a0 Z = true) {o0 : Addr} {o1 : Addr} {i2 : Int32} {kc3 : ClassId} {x4 : UInt64} {x5 : UInt64} {x6 : UInt64} {x7 : UInt64} {h0 : Heap} {n0 : Nat} (O : Old Z n0 h0)  (P0 : Exa Z h0 o0 "com/example/rondel/rondel/primitive/DoubleRingBuffer") (P1 : Fld Z h0 o0 "com/example/rondel/rondel/primitive/DoubleRingBuffer" "readings" "[D" (.ref o1)) (P2 : Fld Z h0 o0 "com/example/rondel/rondel/primitive/DoubleRingBuffer" "size" "I" (.int (4 : Int32))) (P3 : Fld Z h0 o0 "com/example/rondel/rondel/primitive/DoubleRingBuffer" "head" "I" (.int (1 : Int32))) (P4 : Fld Z h0 o0 "com/example/rondel/rondel/primitive/DoubleRingBuffer" "modCount" "I" (.int i2)) (P5 : Arv Z h0 o1 kc3 .double (4 : Int32) [(.double x4), (.double x5), (.double x6), (.double x7)] (.double 0)) (G0 : n0 ≤ o0) (G1 : n0 ≤ o1) (N0_1 : o0 ≠ o1) :
    Met1 l Z (⟨"com/example/rondel/rondel/primitive/DoubleRingBuffer", "removeFirst", "()D"⟩ : MethodName) prog_11_method_7_code 3 (some .double) ({ frames := 2, cells := 0, slots := 0, locals := 24 } : Room) #[(.ref o0)] h0 n0 (fun v h => v = (.double x5) ∧ Keep h0 h [o0] ∧ Exa Z h o0 "com/example/rondel/rondel/primitive/DoubleRingBuffer" ∧ Fld Z h o0 "com/example/rondel/rondel/primitive/DoubleRingBuffer" "readings" "[D" (.ref o1) ∧ Fld Z h o0 "com/example/rondel/rondel/primitive/DoubleRingBuffer" "size" "I" (.int (3 : Int32)) ∧ Fld Z h o0 "com/example/rondel/rondel/primitive/DoubleRingBuffer" "head" "I" (.int (2 : Int32)) ∧ Fld Z h o0 "com/example/rondel/rondel/primitive/DoubleRingBuffer" "modCount" "I" (.int (i2 + (1 : Int32)))) := by
  refine met_of (L := #[.val (.ref o0), .unset, .unset]) (plainFor_of_name pn_10) (fun m => by first | (simp [entryFrame, mkF, argsToLocals, Value.category]; done) | rfl) ?_
  intro p e s m below meth c T C X
  change Cx p s m meth c Z "com/example/rondel/rondel/primitive/DoubleRingBuffer" prog_11_method_7_code 3 (some .double) "removeFirst" at C
  refine g_aloadN C X d8_0 (q := 1) rfl rfl rfl ?_
  refine g_callV1 C X (y := (⟨"com/example/rondel/rondel/primitive/DoubleRingBuffer", "getFirst", "()D"⟩ : MethodName)) (z := (⟨"com/example/rondel/rondel/primitive/DoubleRingBuffer", "getFirst", "()D"⟩ : MethodName)) (a := o0) (by decide) (w47 hw) (w48 hw) (w50 hw) (w49 hw) (nf_sel (w50 hw)) P0 (w51 hw) (w4 hw) (rm_getFirst_9 hw (o0 := o0) (o1 := o1) (i2 := i2) (kc3 := kc3) (x4 := x4) (x5 := x5) (x6 := x6) (x7 := x7) O P0 P1 P2 P3 P4 P5 G0 G1 N0_1) (W := 0) (by decide) (by decide) (k' := 0) rfl (n' := 0) rfl (by decide) (by decide) rfl pd_111 (argsL := []) rfl (rest := []) rfl rfl rfl d8_1 (q := 4) rfl ?_
  rintro _ T1 _ X2 ⟨rfl, rfl⟩
  refine g_dstoreN C X2 d8_4 (q := 5) rfl (L' := #[.val (.ref o0), .val (.double x5), .second]) rfl ?_
  refine g_aloadN C X2 d8_5 (q := 6) rfl rfl rfl ?_
  refine g_aloadN C X2 d8_6 (q := 7) rfl rfl rfl ?_
  refine g_aloadN C X2 d8_7 (q := 8) rfl rfl rfl ?_
  refine g_getF C X2 (host := "") (Or.inl (w25 hw)) Via.refl P3 d8_8 (q := 11) rfl ?_
  intro T3 X4
  refine g_callP1 C X4 (y := (⟨"com/example/rondel/rondel/primitive/DoubleRingBuffer", "next", "(I)I"⟩ : MethodName)) (a := o0) (by decide) (w29 hw) (sel_priv (w3 hw) (w30 hw) (w31 hw) (by decide)) (w30 hw) (w31 hw) P0 (w32 hw) (w4 hw) (rm_next_10 hw (o0 := o0) (o1 := o1) (i2 := i2) (kc3 := kc3) (x4 := x4) (x5 := x5) (x6 := x6) (x7 := x7) O P0 P1 P2 P3 P4 P5 G0 G1 N0_1) (W := 1) (by decide) (by decide) (k' := 0) rfl (n' := 0) rfl (by decide) (by decide) rfl pd_40 (argsL := [(.int (1 : Int32))]) rfl (rest := [(.ref o0)]) rfl rfl rfl d8_11 (q := 14) rfl ?_
  rintro _ T5 _ X6 ⟨rfl, rfl⟩
  refine g_putF C X6 (host := "") (Or.inl (w25 hw)) Via.refl P3 P0 (Or.inl (w26 hw)) (w3 hw) (ty := .int) (by decide) rfl rfl d8_14 (q := 17) rfl G0 ?_
  intro T7 h9 X8 W10
  have FW10 := Fld.same W10 P3
  have O11 := O.wr W10 G0
  refine g_aloadN C X8 d8_17 (q := 18) rfl rfl rfl ?_
  refine g_dup C X8 d8_18 (q := 19) rfl rfl ?_
  have f12 := (P2.other W10 (Or.inr (slot_ne (Or.inl (w20 hw)) (Or.inl (w26 hw)) (by decide) (t := .int) (t' := .int) (by decide) (by decide))))
  refine g_getF C X8 (host := "") (Or.inl (w19 hw)) Via.refl f12 d8_19 (q := 22) rfl ?_
  intro T13 X14
  refine g_iconst C X14 d8_22 (q := 23) rfl (z := (1 : Int32)) rfl ?_
  refine g_isub C X14 d8_23 (q := 24) rfl (z := (3 : Int32)) (by decide) ?_
  have f15 := (P0.wr W10)
  refine g_putF C X14 (host := "") (Or.inl (w19 hw)) Via.refl f12 f15 (Or.inl (w20 hw)) (w3 hw) (ty := .int) (by decide) rfl rfl d8_24 (q := 27) rfl G0 ?_
  intro T16 h18 X17 W19
  have FW19 := Fld.same W19 f12
  have O20 := O11.wr W19 G0
  refine g_aloadN C X17 d8_27 (q := 28) rfl rfl rfl ?_
  refine g_dup C X17 d8_28 (q := 29) rfl rfl ?_
  have f21 := ((P4.other W10 (Or.inr (slot_ne (Or.inl (w28 hw)) (Or.inl (w26 hw)) (by decide) (t := .int) (t' := .int) (by decide) (by decide)))).other W19 (Or.inr (slot_ne (Or.inl (w28 hw)) (Or.inl (w20 hw)) (by decide) (t := .int) (t' := .int) (by decide) (by decide))))
  refine g_getF C X17 (host := "") (Or.inl (w27 hw)) Via.refl f21 d8_29 (q := 32) rfl ?_
  intro T22 X23
  refine g_iconst C X23 d8_32 (q := 33) rfl (z := (1 : Int32)) rfl ?_
  refine g_iadd C X23 d8_33 (q := 34) rfl (z := (i2 + (1 : Int32))) rfl ?_
  have f24 := (f15.wr W19)
  refine g_putF C X23 (host := "") (Or.inl (w27 hw)) Via.refl f21 f24 (Or.inl (w28 hw)) (w3 hw) (ty := .int) (by decide) rfl rfl d8_34 (q := 37) rfl G0 ?_
  intro T25 h27 X26 W28
  have FW28 := Fld.same W28 f21
  have O29 := O20.wr W28 G0
  refine g_dloadN C X26 d8_37 (q := 38) rfl rfl ?_
  exact g_retD C X26 d8_38 (by decide) (by decide) ⟨_, rfl, rfl, ((((Keep.refl h0 [o0]).wr W10 (Or.inl (List.mem_of_getElem? (i := 0) rfl))).wr W19 (Or.inl (List.mem_of_getElem? (i := 0) rfl))).wr W28 (Or.inl (List.mem_of_getElem? (i := 0) rfl))), (f24.wr W28), (((P1.other W10 (Or.inr (slot_ne (Or.inr (w13 hw)) (Or.inl (w26 hw)) (by decide) (t := (.array .double)) (t' := .int) (by decide) (by decide)))).other W19 (Or.inr (slot_ne (Or.inr (w13 hw)) (Or.inl (w20 hw)) (by decide) (t := (.array .double)) (t' := .int) (by decide) (by decide)))).other W28 (Or.inr (slot_ne (Or.inr (w13 hw)) (Or.inl (w28 hw)) (by decide) (t := (.array .double)) (t' := .int) (by decide) (by decide)))), (FW19.other W28 (Or.inr (slot_ne (Or.inl (w20 hw)) (Or.inl (w28 hw)) (by decide) (t := .int) (t' := .int) (by decide) (by decide)))), ((FW10.other W19 (Or.inr (slot_ne (Or.inl (w26 hw)) (Or.inl (w20 hw)) (by decide) (t := .int) (t' := .int) (by decide) (by decide)))).other W28 (Or.inr (slot_ne (Or.inl (w26 hw)) (Or.inl (w28 hw)) (by decide) (t := .int) (t' := .int) (by decide) (by decide)))), FW28⟩
set_option maxRecDepth 65536 in
set_option maxHeartbeats 40000000 in
theorem rm_isFull_19 {l : Launch} {Z : State} {a0 : Array Value} (hw : ∀ d ∈ tables_1, d.before a0 Z = true) {o0 : Addr} {o1 : Addr} {i2 : Int32} {kc3 : ClassId} {x4 : UInt64} {x5 : UInt64} {x6 : UInt64} {x7 : UInt64} {h0 : Heap} {n0 : Nat} (O : Old Z n0 h0)  (P0 : Exa Z h0 o0 "com/example/rondel/rondel/primitive/DoubleRingBuffer") (P1 : Fld Z h0 o0 "com/example/rondel/rondel/primitive/DoubleRingBuffer" "readings" "[D" (.ref o1)) (P2 : Fld Z h0 o0 "com/example/rondel/rondel/primitive/DoubleRingBuffer" "size" "I" (.int (3 : Int32))) (P3 : Fld Z h0 o0 "com/example/rondel/rondel/primitive/DoubleRingBuffer" "head" "I" (.int (2 : Int32))) (P4 : Fld Z h0 o0 "com/example/rondel/rondel/primitive/DoubleRingBuffer" "modCount" "I" (.int i2)) (P5 : Arv Z h0 o1 kc3 .double (4 : Int32) [(.double x4), (.double x5), (.double x6), (.double x7)] (.double 0)) (G0 : n0 ≤ o0) (G1 : n0 ≤ o1) (N0_1 : o0 ≠ o1) :
    Met1 l Z (⟨"com/example/rondel/rondel/primitive/DoubleRingBuffer", "isFull", "()Z"⟩ : MethodName) prog_11_method_5_code 1 (some .boolean) ({ frames := 0, cells := 0, slots := 0, locals := 0 } : Room) #[(.ref o0)] h0 n0 (fun v h => v = (.int (0 : Int32)) ∧ h0 = h) := by
  refine met_of (L := #[.val (.ref o0)]) (plainFor_of_name pn_10) (fun m => by first | (simp [entryFrame, mkF, argsToLocals, Value.category]; done) | rfl) ?_
  intro p e s m below meth c T C X
  change Cx p s m meth c Z "com/example/rondel/rondel/primitive/DoubleRingBuffer" prog_11_method_5_code 1 (some .boolean) "isFull" at C
  refine g_aloadN C X d7_0 (q := 1) rfl rfl rfl ?_
  refine g_getF C X (host := "") (Or.inl (w19 hw)) Via.refl P2 d7_1 (q := 4) rfl ?_
  intro T1 X2
  refine g_aloadN C X2 d7_4 (q := 5) rfl rfl rfl ?_
  refine g_getF C X2 (host := "") (Or.inl (w12 hw)) Via.refl P1 d7_5 (q := 8) rfl ?_
  intro T3 X4
  refine g_alen C X4 P5 d7_8 (q := 9) rfl ?_
  refine g_icY C X4 d7_9 (by decide) (q := 16) (by decide) (by decide) ?_
  refine g_iconst C X4 d7_16 (q := 17) rfl (z := (0 : Int32)) rfl ?_
  exact g_retN C X4 (Or.inl rfl) (z' := (0 : Int32)) (by decide) d7_17 (by decide) (by decide) ⟨_, rfl, rfl, rfl⟩
set_option maxRecDepth 65536 in
set_option maxHeartbeats 40000000 in
theorem rm_min_19 {l : Launch} {Z : State} {a0 : Array Value} (hw : ∀ d ∈ tables_1, d.before a0 Z = true)  {h0 : Heap} {n0 : Nat} (O : Old Z n0 h0)  :
    Met1 l Z (⟨"java/lang/Math", "min", "(II)I"⟩ : MethodName) jdk_29_method_69_code 2 (some .int) ({ frames := 0, cells := 0, slots := 0, locals := 0 } : Room) #[(.int (4 : Int32)), (.int (4 : Int32))] h0 n0 (fun v h => v = (.int (4 : Int32)) ∧ h0 = h) := by
  refine met_of (L := #[.val (.int (4 : Int32)), .val (.int (4 : Int32))]) (Jvm.Free.JP.mathPlain rfl (by decide +kernel)) (fun m => by first | (simp [entryFrame, mkF, argsToLocals, Value.category]; done) | rfl) ?_
  intro p e s m below meth c T C X
  change Cx p s m meth c Z "java/lang/Math" jdk_29_method_69_code 2 (some .int) "min" at C
  refine g_iloadN C X d6_0 (q := 1) rfl rfl ?_
  refine g_iloadN C X d6_1 (q := 2) rfl rfl ?_
  refine g_icN C X d6_2 (q := 5) rfl (by decide) ?_
  refine g_iloadN C X d6_5 (q := 6) rfl rfl ?_
  refine g_goto C X d6_6 (by decide) (q := 10) (by decide) ?_
  exact g_retI C X d6_10 (by decide) (by decide) ⟨_, rfl, rfl, rfl⟩
set_option maxRecDepth 65536 in
set_option maxHeartbeats 40000000 in
theorem rm_isFull_20 {l : Launch} {Z : State} {a0 : Array Value} (hw : ∀ d ∈ tables_1, d.before a0 Z = true) {o0 : Addr} {o1 : Addr} {i2 : Int32} {kc3 : ClassId} {x4 : UInt64} {x5 : UInt64} {x6 : UInt64} {x7 : UInt64} {h0 : Heap} {n0 : Nat} (O : Old Z n0 h0)  (P0 : Exa Z h0 o0 "com/example/rondel/rondel/primitive/DoubleRingBuffer") (P1 : Fld Z h0 o0 "com/example/rondel/rondel/primitive/DoubleRingBuffer" "readings" "[D" (.ref o1)) (P2 : Fld Z h0 o0 "com/example/rondel/rondel/primitive/DoubleRingBuffer" "size" "I" (.int (4 : Int32))) (P3 : Fld Z h0 o0 "com/example/rondel/rondel/primitive/DoubleRingBuffer" "head" "I" (.int (0 : Int32))) (P4 : Fld Z h0 o0 "com/example/rondel/rondel/primitive/DoubleRingBuffer" "modCount" "I" (.int i2)) (P5 : Arv Z h0 o1 kc3 .double (4 : Int32) [(.double x4), (.double x5), (.double x6), (.double x7)] (.double 0)) (G0 : n0 ≤ o0) (G1 : n0 ≤ o1) (N0_1 : o0 ≠ o1) :
    Met1 l Z (⟨"com/example/rondel/rondel/primitive/DoubleRingBuffer", "isFull", "()Z"⟩ : MethodName) prog_11_method_5_code 1 (some .boolean) ({ frames := 0, cells := 0, slots := 0, locals := 0 } : Room) #[(.ref o0)] h0 n0 (fun v h => v = (.int (1 : Int32)) ∧ h0 = h) := by
  refine met_of (L := #[.val (.ref o0)]) (plainFor_of_name pn_10) (fun m => by first | (simp [entryFrame, mkF, argsToLocals, Value.category]; done) | rfl) ?_
  intro p e s m below meth c T C X
  change Cx p s m meth c Z "com/example/rondel/rondel/primitive/DoubleRingBuffer" prog_11_method_5_code 1 (some .boolean) "isFull" at C
  refine g_aloadN C X d7_0 (q := 1) rfl rfl rfl ?_
  refine g_getF C X (host := "") (Or.inl (w19 hw)) Via.refl P2 d7_1 (q := 4) rfl ?_
  intro T1 X2
  refine g_aloadN C X2 d7_4 (q := 5) rfl rfl rfl ?_
  refine g_getF C X2 (host := "") (Or.inl (w12 hw)) Via.refl P1 d7_5 (q := 8) rfl ?_
  intro T3 X4
  refine g_alen C X4 P5 d7_8 (q := 9) rfl ?_
  refine g_icN C X4 d7_9 (q := 12) rfl (by decide) ?_
  refine g_iconst C X4 d7_12 (q := 13) rfl (z := (1 : Int32)) rfl ?_
  refine g_goto C X4 d7_13 (by decide) (q := 17) (by decide) ?_
  exact g_retN C X4 (Or.inl rfl) (z' := (1 : Int32)) (by decide) d7_17 (by decide) (by decide) ⟨_, rfl, rfl, rfl⟩
set_option maxRecDepth 65536 in
set_option maxHeartbeats 40000000 in
theorem rm_checkNotEmpty_10 {l : Launch} {Z : State} {a0 : Array Value} (hw : ∀ d ∈ tables_1, d.before a0 Z = true) {o0 : Addr} {o1 : Addr} {i2 : Int32} {kc3 : ClassId} {x4 : UInt64} {x5 : UInt64} {x6 : UInt64} {x7 : UInt64} {h0 : Heap} {n0 : Nat} (O : Old Z n0 h0)  (P0 : Exa Z h0 o0 "com/example/rondel/rondel/primitive/DoubleRingBuffer") (P1 : Fld Z h0 o0 "com/example/rondel/rondel/primitive/DoubleRingBuffer" "readings" "[D" (.ref o1)) (P2 : Fld Z h0 o0 "com/example/rondel/rondel/primitive/DoubleRingBuffer" "size" "I" (.int (4 : Int32))) (P3 : Fld Z h0 o0 "com/example/rondel/rondel/primitive/DoubleRingBuffer" "head" "I" (.int (0 : Int32))) (P4 : Fld Z h0 o0 "com/example/rondel/rondel/primitive/DoubleRingBuffer" "modCount" "I" (.int i2)) (P5 : Arv Z h0 o1 kc3 .double (4 : Int32) [(.double x4), (.double x5), (.double x6), (.double x7)] (.double 0)) (G0 : n0 ≤ o0) (G1 : n0 ≤ o1) (N0_1 : o0 ≠ o1) :
    Met0 l Z (⟨"com/example/rondel/rondel/primitive/DoubleRingBuffer", "checkNotEmpty", "()V"⟩ : MethodName) prog_11_method_17_code 1 none ({ frames := 0, cells := 0, slots := 0, locals := 0 } : Room) #[(.ref o0)] h0 n0 (fun h => h0 = h) := by
  refine met_of (L := #[.val (.ref o0)]) (plainFor_of_name pn_10) (fun m => by first | (simp [entryFrame, mkF, argsToLocals, Value.category]; done) | rfl) ?_
  intro p e s m below meth c T C X
  change Cx p s m meth c Z "com/example/rondel/rondel/primitive/DoubleRingBuffer" prog_11_method_17_code 1 none "checkNotEmpty" at C
  refine g_aloadN C X d10_0 (q := 1) rfl rfl rfl ?_
  refine g_getF C X (host := "") (Or.inl (w19 hw)) Via.refl P2 d10_1 (q := 4) rfl ?_
  intro T1 X2
  refine g_ifY C X2 d10_4 (by decide) (q := 17) (by decide) (by decide) ?_
  exact g_retV C X2 d10_17 (by decide) (by decide) ⟨rfl, rfl⟩
set_option maxRecDepth 65536 in
set_option maxHeartbeats 40000000 in
theorem rm_getFirst_10 {l : Launch} {Z : State} {a0 : Array Value} (hw : ∀ d ∈ tables_1, d.before a0 Z = true) {o0 : Addr} {o1 : Addr} {i2 : Int32} {kc3 : ClassId} {x4 : UInt64} {x5 : UInt64} {x6 : UInt64} {x7 : UInt64} {h0 : Heap} {n0 : Nat} (O : Old Z n0 h0)  (P0 : Exa Z h0 o0 "com/example/rondel/rondel/primitive/DoubleRingBuffer") (P1 : Fld Z h0 o0 "com/example/rondel/rondel/primitive/DoubleRingBuffer" "readings" "[D" (.ref o1)) (P2 : Fld Z h0 o0 "com/example/rondel/rondel/primitive/DoubleRingBuffer" "size" "I" (.int (4 : Int32))) (P3 : Fld Z h0 o0 "com/example/rondel/rondel/primitive/DoubleRingBuffer" "head" "I" (.int (0 : Int32))) (P4 : Fld Z h0 o0 "com/example/rondel/rondel/primitive/DoubleRingBuffer" "modCount" "I" (.int i2)) (P5 : Arv Z h0 o1 kc3 .double (4 : Int32) [(.double x4), (.double x5), (.double x6), (.double x7)] (.double 0)) (G0 : n0 ≤ o0) (G1 : n0 ≤ o1) (N0_1 : o0 ≠ o1) :
    Met1 l Z (⟨"com/example/rondel/rondel/primitive/DoubleRingBuffer", "getFirst", "()D"⟩ : MethodName) prog_11_method_9_code 1 (some .double) ({ frames := 1, cells := 0, slots := 0, locals := 12 } : Room) #[(.ref o0)] h0 n0 (fun v h => v = (.double x4) ∧ h0 = h) := by
  refine met_of (L := #[.val (.ref o0)]) (plainFor_of_name pn_10) (fun m => by first | (simp [entryFrame, mkF, argsToLocals, Value.category]; done) | rfl) ?_
  intro p e s m below meth c T C X
  change Cx p s m meth c Z "com/example/rondel/rondel/primitive/DoubleRingBuffer" prog_11_method_9_code 1 (some .double) "getFirst" at C
  refine g_aloadN C X d9_0 (q := 1) rfl rfl rfl ?_
  refine g_callP0 C X (y := (⟨"com/example/rondel/rondel/primitive/DoubleRingBuffer", "checkNotEmpty", "()V"⟩ : MethodName)) (a := o0) (by decide) (w52 hw) (sel_priv (w3 hw) (w53 hw) (w54 hw) (by decide)) (w53 hw) (w54 hw) P0 (w55 hw) (w4 hw) (rm_checkNotEmpty_10 hw (o0 := o0) (o1 := o1) (i2 := i2) (kc3 := kc3) (x4 := x4) (x5 := x5) (x6 := x6) (x7 := x7) O P0 P1 P2 P3 P4 P5 G0 G1 N0_1) (W := 0) (by decide) (by decide) (k' := 0) rfl (n' := 0) rfl (by decide) (by decide) rfl pd_104 (argsL := []) rfl (rest := []) rfl rfl rfl d9_1 (q := 4) rfl ?_
  rintro T1 _ X2 rfl
  refine g_aloadN C X2 d9_4 (q := 5) rfl rfl rfl ?_
  refine g_getF C X2 (host := "") (Or.inl (w12 hw)) Via.refl P1 d9_5 (q := 8) rfl ?_
  intro T3 X4
  refine g_aloadN C X4 d9_8 (q := 9) rfl rfl rfl ?_
  refine g_getF C X4 (host := "") (Or.inl (w25 hw)) Via.refl P3 d9_9 (q := 12) rfl ?_
  intro T5 X6
  refine g_daload C X6 P5 (by decide) (w := (.double x4)) rfl d9_12 (q := 13) rfl ?_
  exact g_retD C X6 d9_13 (by decide) (by decide) ⟨_, rfl, rfl, rfl⟩
set_option maxRecDepth 65536 in
set_option maxHeartbeats 40000000 in
theorem rm_removeFirst_10 {l : Launch} {Z : State} {a0 : Array Value} (hw : ∀ d ∈ tables_1, d.before a0 Z = true) {o0 : Addr} {o1 : Addr} {i2 : Int32} {kc3 : ClassId} {x4 : UInt64} {x5 : UInt64} {x6 : UInt64} {x7 : UInt64} {h0 : Heap} {n0 : Nat} (O : Old Z n0 h0)  (P0 : Exa Z h0 o0 "com/example/rondel/rondel/primitive/DoubleRingBuffer") (P1 : Fld Z h0 o0 "com/example/rondel/rondel/primitive/DoubleRingBuffer" "readings" "[D" (.ref o1)) (P2 : Fld Z h0 o0 "com/example/rondel/rondel/primitive/DoubleRingBuffer" "size" "I" (.int (4 : Int32))) (P3 : Fld Z h0 o0 "com/example/rondel/rondel/primitive/DoubleRingBuffer" "head" "I" (.int (0 : Int32))) (P4 : Fld Z h0 o0 "com/example/rondel/rondel/primitive/DoubleRingBuffer" "modCount" "I" (.int i2)) (P5 : Arv Z h0 o1 kc3 .double (4 : Int32) [(.double x4), (.double x5), (.double x6), (.double x7)] (.double 0)) (G0 : n0 ≤ o0) (G1 : n0 ≤ o1) (N0_1 : o0 ≠ o1) :
    Met1 l Z (⟨"com/example/rondel/rondel/primitive/DoubleRingBuffer", "removeFirst", "()D"⟩ : MethodName) prog_11_method_7_code 3 (some .double) ({ frames := 2, cells := 0, slots := 0, locals := 24 } : Room) #[(.ref o0)] h0 n0 (fun v h => v = (.double x4) ∧ Keep h0 h [o0] ∧ Exa Z h o0 "com/example/rondel/rondel/primitive/DoubleRingBuffer" ∧ Fld Z h o0 "com/example/rondel/rondel/primitive/DoubleRingBuffer" "readings" "[D" (.ref o1) ∧ Fld Z h o0 "com/example/rondel/rondel/primitive/DoubleRingBuffer" "size" "I" (.int (3 : Int32)) ∧ Fld Z h o0 "com/example/rondel/rondel/primitive/DoubleRingBuffer" "head" "I" (.int (1 : Int32)) ∧ Fld Z h o0 "com/example/rondel/rondel/primitive/DoubleRingBuffer" "modCount" "I" (.int (i2 + (1 : Int32)))) := by
  refine met_of (L := #[.val (.ref o0), .unset, .unset]) (plainFor_of_name pn_10) (fun m => by first | (simp [entryFrame, mkF, argsToLocals, Value.category]; done) | rfl) ?_
  intro p e s m below meth c T C X
  change Cx p s m meth c Z "com/example/rondel/rondel/primitive/DoubleRingBuffer" prog_11_method_7_code 3 (some .double) "removeFirst" at C
  refine g_aloadN C X d8_0 (q := 1) rfl rfl rfl ?_
  refine g_callV1 C X (y := (⟨"com/example/rondel/rondel/primitive/DoubleRingBuffer", "getFirst", "()D"⟩ : MethodName)) (z := (⟨"com/example/rondel/rondel/primitive/DoubleRingBuffer", "getFirst", "()D"⟩ : MethodName)) (a := o0) (by decide) (w47 hw) (w48 hw) (w50 hw) (w49 hw) (nf_sel (w50 hw)) P0 (w51 hw) (w4 hw) (rm_getFirst_10 hw (o0 := o0) (o1 := o1) (i2 := i2) (kc3 := kc3) (x4 := x4) (x5 := x5) (x6 := x6) (x7 := x7) O P0 P1 P2 P3 P4 P5 G0 G1 N0_1) (W := 0) (by decide) (by decide) (k' := 0) rfl (n' := 0) rfl (by decide) (by decide) rfl pd_111 (argsL := []) rfl (rest := []) rfl rfl rfl d8_1 (q := 4) rfl ?_
  rintro _ T1 _ X2 ⟨rfl, rfl⟩
  refine g_dstoreN C X2 d8_4 (q := 5) rfl (L' := #[.val (.ref o0), .val (.double x4), .second]) rfl ?_
  refine g_aloadN C X2 d8_5 (q := 6) rfl rfl rfl ?_
  refine g_aloadN C X2 d8_6 (q := 7) rfl rfl rfl ?_
  refine g_aloadN C X2 d8_7 (q := 8) rfl rfl rfl ?_
  refine g_getF C X2 (host := "") (Or.inl (w25 hw)) Via.refl P3 d8_8 (q := 11) rfl ?_
  intro T3 X4
  refine g_callP1 C X4 (y := (⟨"com/example/rondel/rondel/primitive/DoubleRingBuffer", "next", "(I)I"⟩ : MethodName)) (a := o0) (by decide) (w29 hw) (sel_priv (w3 hw) (w30 hw) (w31 hw) (by decide)) (w30 hw) (w31 hw) P0 (w32 hw) (w4 hw) (rm_next_9 hw (o0 := o0) (o1 := o1) (i2 := i2) (kc3 := kc3) (x4 := x4) (x5 := x5) (x6 := x6) (x7 := x7) O P0 P1 P2 P3 P4 P5 G0 G1 N0_1) (W := 1) (by decide) (by decide) (k' := 0) rfl (n' := 0) rfl (by decide) (by decide) rfl pd_40 (argsL := [(.int (0 : Int32))]) rfl (rest := [(.ref o0)]) rfl rfl rfl d8_11 (q := 14) rfl ?_
  rintro _ T5 _ X6 ⟨rfl, rfl⟩
  refine g_putF C X6 (host := "") (Or.inl (w25 hw)) Via.refl P3 P0 (Or.inl (w26 hw)) (w3 hw) (ty := .int) (by decide) rfl rfl d8_14 (q := 17) rfl G0 ?_
  intro T7 h9 X8 W10
  have FW10 := Fld.same W10 P3
  have O11 := O.wr W10 G0
  refine g_aloadN C X8 d8_17 (q := 18) rfl rfl rfl ?_
  refine g_dup C X8 d8_18 (q := 19) rfl rfl ?_
  have f12 := (P2.other W10 (Or.inr (slot_ne (Or.inl (w20 hw)) (Or.inl (w26 hw)) (by decide) (t := .int) (t' := .int) (by decide) (by decide))))
  refine g_getF C X8 (host := "") (Or.inl (w19 hw)) Via.refl f12 d8_19 (q := 22) rfl ?_
  intro T13 X14
  refine g_iconst C X14 d8_22 (q := 23) rfl (z := (1 : Int32)) rfl ?_
  refine g_isub C X14 d8_23 (q := 24) rfl (z := (3 : Int32)) (by decide) ?_
  have f15 := (P0.wr W10)
  refine g_putF C X14 (host := "") (Or.inl (w19 hw)) Via.refl f12 f15 (Or.inl (w20 hw)) (w3 hw) (ty := .int) (by decide) rfl rfl d8_24 (q := 27) rfl G0 ?_
  intro T16 h18 X17 W19
  have FW19 := Fld.same W19 f12
  have O20 := O11.wr W19 G0
  refine g_aloadN C X17 d8_27 (q := 28) rfl rfl rfl ?_
  refine g_dup C X17 d8_28 (q := 29) rfl rfl ?_
  have f21 := ((P4.other W10 (Or.inr (slot_ne (Or.inl (w28 hw)) (Or.inl (w26 hw)) (by decide) (t := .int) (t' := .int) (by decide) (by decide)))).other W19 (Or.inr (slot_ne (Or.inl (w28 hw)) (Or.inl (w20 hw)) (by decide) (t := .int) (t' := .int) (by decide) (by decide))))
  refine g_getF C X17 (host := "") (Or.inl (w27 hw)) Via.refl f21 d8_29 (q := 32) rfl ?_
  intro T22 X23
  refine g_iconst C X23 d8_32 (q := 33) rfl (z := (1 : Int32)) rfl ?_
  refine g_iadd C X23 d8_33 (q := 34) rfl (z := (i2 + (1 : Int32))) rfl ?_
  have f24 := (f15.wr W19)
  refine g_putF C X23 (host := "") (Or.inl (w27 hw)) Via.refl f21 f24 (Or.inl (w28 hw)) (w3 hw) (ty := .int) (by decide) rfl rfl d8_34 (q := 37) rfl G0 ?_
  intro T25 h27 X26 W28
  have FW28 := Fld.same W28 f21
  have O29 := O20.wr W28 G0
  refine g_dloadN C X26 d8_37 (q := 38) rfl rfl ?_
  exact g_retD C X26 d8_38 (by decide) (by decide) ⟨_, rfl, rfl, ((((Keep.refl h0 [o0]).wr W10 (Or.inl (List.mem_of_getElem? (i := 0) rfl))).wr W19 (Or.inl (List.mem_of_getElem? (i := 0) rfl))).wr W28 (Or.inl (List.mem_of_getElem? (i := 0) rfl))), (f24.wr W28), (((P1.other W10 (Or.inr (slot_ne (Or.inr (w13 hw)) (Or.inl (w26 hw)) (by decide) (t := (.array .double)) (t' := .int) (by decide) (by decide)))).other W19 (Or.inr (slot_ne (Or.inr (w13 hw)) (Or.inl (w20 hw)) (by decide) (t := (.array .double)) (t' := .int) (by decide) (by decide)))).other W28 (Or.inr (slot_ne (Or.inr (w13 hw)) (Or.inl (w28 hw)) (by decide) (t := (.array .double)) (t' := .int) (by decide) (by decide)))), (FW19.other W28 (Or.inr (slot_ne (Or.inl (w20 hw)) (Or.inl (w28 hw)) (by decide) (t := .int) (t' := .int) (by decide) (by decide)))), ((FW10.other W19 (Or.inr (slot_ne (Or.inl (w26 hw)) (Or.inl (w20 hw)) (by decide) (t := .int) (t' := .int) (by decide) (by decide)))).other W28 (Or.inr (slot_ne (Or.inl (w26 hw)) (Or.inl (w28 hw)) (by decide) (t := .int) (t' := .int) (by decide) (by decide)))), FW28⟩
set_option maxRecDepth 65536 in
set_option maxHeartbeats 40000000 in
theorem rm_isFull_21 {l : Launch} {Z : State} {a0 : Array Value} (hw : ∀ d ∈ tables_1, d.before a0 Z = true) {o0 : Addr} {o1 : Addr} {i2 : Int32} {kc3 : ClassId} {x4 : UInt64} {x5 : UInt64} {x6 : UInt64} {x7 : UInt64} {h0 : Heap} {n0 : Nat} (O : Old Z n0 h0)  (P0 : Exa Z h0 o0 "com/example/rondel/rondel/primitive/DoubleRingBuffer") (P1 : Fld Z h0 o0 "com/example/rondel/rondel/primitive/DoubleRingBuffer" "readings" "[D" (.ref o1)) (P2 : Fld Z h0 o0 "com/example/rondel/rondel/primitive/DoubleRingBuffer" "size" "I" (.int (3 : Int32))) (P3 : Fld Z h0 o0 "com/example/rondel/rondel/primitive/DoubleRingBuffer" "head" "I" (.int (1 : Int32))) (P4 : Fld Z h0 o0 "com/example/rondel/rondel/primitive/DoubleRingBuffer" "modCount" "I" (.int i2)) (P5 : Arv Z h0 o1 kc3 .double (4 : Int32) [(.double x4), (.double x5), (.double x6), (.double x7)] (.double 0)) (G0 : n0 ≤ o0) (G1 : n0 ≤ o1) (N0_1 : o0 ≠ o1) :
    Met1 l Z (⟨"com/example/rondel/rondel/primitive/DoubleRingBuffer", "isFull", "()Z"⟩ : MethodName) prog_11_method_5_code 1 (some .boolean) ({ frames := 0, cells := 0, slots := 0, locals := 0 } : Room) #[(.ref o0)] h0 n0 (fun v h => v = (.int (0 : Int32)) ∧ h0 = h) := by
  refine met_of (L := #[.val (.ref o0)]) (plainFor_of_name pn_10) (fun m => by first | (simp [entryFrame, mkF, argsToLocals, Value.category]; done) | rfl) ?_
  intro p e s m below meth c T C X
  change Cx p s m meth c Z "com/example/rondel/rondel/primitive/DoubleRingBuffer" prog_11_method_5_code 1 (some .boolean) "isFull" at C
  refine g_aloadN C X d7_0 (q := 1) rfl rfl rfl ?_
  refine g_getF C X (host := "") (Or.inl (w19 hw)) Via.refl P2 d7_1 (q := 4) rfl ?_
  intro T1 X2
  refine g_aloadN C X2 d7_4 (q := 5) rfl rfl rfl ?_
  refine g_getF C X2 (host := "") (Or.inl (w12 hw)) Via.refl P1 d7_5 (q := 8) rfl ?_
  intro T3 X4
  refine g_alen C X4 P5 d7_8 (q := 9) rfl ?_
  refine g_icY C X4 d7_9 (by decide) (q := 16) (by decide) (by decide) ?_
  refine g_iconst C X4 d7_16 (q := 17) rfl (z := (0 : Int32)) rfl ?_
  exact g_retN C X4 (Or.inl rfl) (z' := (0 : Int32)) (by decide) d7_17 (by decide) (by decide) ⟨_, rfl, rfl, rfl⟩
set_option maxRecDepth 65536 in
set_option maxHeartbeats 40000000 in
theorem rm_min_20 {l : Launch} {Z : State} {a0 : Array Value} (hw : ∀ d ∈ tables_1, d.before a0 Z = true)  {h0 : Heap} {n0 : Nat} (O : Old Z n0 h0)  :
    Met1 l Z (⟨"java/lang/Math", "min", "(II)I"⟩ : MethodName) jdk_29_method_69_code 2 (some .int) ({ frames := 0, cells := 0, slots := 0, locals := 0 } : Room) #[(.int (3 : Int32)), (.int (4 : Int32))] h0 n0 (fun v h => v = (.int (3 : Int32)) ∧ h0 = h) := by
  refine met_of (L := #[.val (.int (3 : Int32)), .val (.int (4 : Int32))]) (Jvm.Free.JP.mathPlain rfl (by decide +kernel)) (fun m => by first | (simp [entryFrame, mkF, argsToLocals, Value.category]; done) | rfl) ?_
  intro p e s m below meth c T C X
  change Cx p s m meth c Z "java/lang/Math" jdk_29_method_69_code 2 (some .int) "min" at C
  refine g_iloadN C X d6_0 (q := 1) rfl rfl ?_
  refine g_iloadN C X d6_1 (q := 2) rfl rfl ?_
  refine g_icN C X d6_2 (q := 5) rfl (by decide) ?_
  refine g_iloadN C X d6_5 (q := 6) rfl rfl ?_
  refine g_goto C X d6_6 (by decide) (q := 10) (by decide) ?_
  exact g_retI C X d6_10 (by decide) (by decide) ⟨_, rfl, rfl, rfl⟩
set_option maxRecDepth 65536 in
set_option maxHeartbeats 40000000 in
theorem rm_isFull_22 {l : Launch} {Z : State} {a0 : Array Value} (hw : ∀ d ∈ tables_1, d.before a0 Z = true) {o0 : Addr} {o1 : Addr} {i2 : Int32} {kc3 : ClassId} {x4 : UInt64} {x5 : UInt64} {x6 : UInt64} {x7 : UInt64} {h0 : Heap} {n0 : Nat} (O : Old Z n0 h0)  (P0 : Exa Z h0 o0 "com/example/rondel/rondel/primitive/DoubleRingBuffer") (P1 : Fld Z h0 o0 "com/example/rondel/rondel/primitive/DoubleRingBuffer" "readings" "[D" (.ref o1)) (P2 : Fld Z h0 o0 "com/example/rondel/rondel/primitive/DoubleRingBuffer" "size" "I" (.int (3 : Int32))) (P3 : Fld Z h0 o0 "com/example/rondel/rondel/primitive/DoubleRingBuffer" "head" "I" (.int (0 : Int32))) (P4 : Fld Z h0 o0 "com/example/rondel/rondel/primitive/DoubleRingBuffer" "modCount" "I" (.int i2)) (P5 : Arv Z h0 o1 kc3 .double (4 : Int32) [(.double x4), (.double x5), (.double x6), (.double x7)] (.double 0)) (G0 : n0 ≤ o0) (G1 : n0 ≤ o1) (N0_1 : o0 ≠ o1) :
    Met1 l Z (⟨"com/example/rondel/rondel/primitive/DoubleRingBuffer", "isFull", "()Z"⟩ : MethodName) prog_11_method_5_code 1 (some .boolean) ({ frames := 0, cells := 0, slots := 0, locals := 0 } : Room) #[(.ref o0)] h0 n0 (fun v h => v = (.int (0 : Int32)) ∧ h0 = h) := by
  refine met_of (L := #[.val (.ref o0)]) (plainFor_of_name pn_10) (fun m => by first | (simp [entryFrame, mkF, argsToLocals, Value.category]; done) | rfl) ?_
  intro p e s m below meth c T C X
  change Cx p s m meth c Z "com/example/rondel/rondel/primitive/DoubleRingBuffer" prog_11_method_5_code 1 (some .boolean) "isFull" at C
  refine g_aloadN C X d7_0 (q := 1) rfl rfl rfl ?_
  refine g_getF C X (host := "") (Or.inl (w19 hw)) Via.refl P2 d7_1 (q := 4) rfl ?_
  intro T1 X2
  refine g_aloadN C X2 d7_4 (q := 5) rfl rfl rfl ?_
  refine g_getF C X2 (host := "") (Or.inl (w12 hw)) Via.refl P1 d7_5 (q := 8) rfl ?_
  intro T3 X4
  refine g_alen C X4 P5 d7_8 (q := 9) rfl ?_
  refine g_icY C X4 d7_9 (by decide) (q := 16) (by decide) (by decide) ?_
  refine g_iconst C X4 d7_16 (q := 17) rfl (z := (0 : Int32)) rfl ?_
  exact g_retN C X4 (Or.inl rfl) (z' := (0 : Int32)) (by decide) d7_17 (by decide) (by decide) ⟨_, rfl, rfl, rfl⟩
set_option maxRecDepth 65536 in
set_option maxHeartbeats 40000000 in
theorem rm_checkNotEmpty_11 {l : Launch} {Z : State} {a0 : Array Value} (hw : ∀ d ∈ tables_1, d.before a0 Z = true) {o0 : Addr} {o1 : Addr} {i2 : Int32} {kc3 : ClassId} {x4 : UInt64} {x5 : UInt64} {x6 : UInt64} {x7 : UInt64} {h0 : Heap} {n0 : Nat} (O : Old Z n0 h0)  (P0 : Exa Z h0 o0 "com/example/rondel/rondel/primitive/DoubleRingBuffer") (P1 : Fld Z h0 o0 "com/example/rondel/rondel/primitive/DoubleRingBuffer" "readings" "[D" (.ref o1)) (P2 : Fld Z h0 o0 "com/example/rondel/rondel/primitive/DoubleRingBuffer" "size" "I" (.int (3 : Int32))) (P3 : Fld Z h0 o0 "com/example/rondel/rondel/primitive/DoubleRingBuffer" "head" "I" (.int (0 : Int32))) (P4 : Fld Z h0 o0 "com/example/rondel/rondel/primitive/DoubleRingBuffer" "modCount" "I" (.int i2)) (P5 : Arv Z h0 o1 kc3 .double (4 : Int32) [(.double x4), (.double x5), (.double x6), (.double x7)] (.double 0)) (G0 : n0 ≤ o0) (G1 : n0 ≤ o1) (N0_1 : o0 ≠ o1) :
    Met0 l Z (⟨"com/example/rondel/rondel/primitive/DoubleRingBuffer", "checkNotEmpty", "()V"⟩ : MethodName) prog_11_method_17_code 1 none ({ frames := 0, cells := 0, slots := 0, locals := 0 } : Room) #[(.ref o0)] h0 n0 (fun h => h0 = h) := by
  refine met_of (L := #[.val (.ref o0)]) (plainFor_of_name pn_10) (fun m => by first | (simp [entryFrame, mkF, argsToLocals, Value.category]; done) | rfl) ?_
  intro p e s m below meth c T C X
  change Cx p s m meth c Z "com/example/rondel/rondel/primitive/DoubleRingBuffer" prog_11_method_17_code 1 none "checkNotEmpty" at C
  refine g_aloadN C X d10_0 (q := 1) rfl rfl rfl ?_
  refine g_getF C X (host := "") (Or.inl (w19 hw)) Via.refl P2 d10_1 (q := 4) rfl ?_
  intro T1 X2
  refine g_ifY C X2 d10_4 (by decide) (q := 17) (by decide) (by decide) ?_
  exact g_retV C X2 d10_17 (by decide) (by decide) ⟨rfl, rfl⟩
set_option maxRecDepth 65536 in
set_option maxHeartbeats 40000000 in
theorem rm_getFirst_11 {l : Launch} {Z : State} {a0 : Array Value} (hw : ∀ d ∈ tables_1, d.before a0 Z = true) {o0 : Addr} {o1 : Addr} {i2 : Int32} {kc3 : ClassId} {x4 : UInt64} {x5 : UInt64} {x6 : UInt64} {x7 : UInt64} {h0 : Heap} {n0 : Nat} (O : Old Z n0 h0)  (P0 : Exa Z h0 o0 "com/example/rondel/rondel/primitive/DoubleRingBuffer") (P1 : Fld Z h0 o0 "com/example/rondel/rondel/primitive/DoubleRingBuffer" "readings" "[D" (.ref o1)) (P2 : Fld Z h0 o0 "com/example/rondel/rondel/primitive/DoubleRingBuffer" "size" "I" (.int (3 : Int32))) (P3 : Fld Z h0 o0 "com/example/rondel/rondel/primitive/DoubleRingBuffer" "head" "I" (.int (0 : Int32))) (P4 : Fld Z h0 o0 "com/example/rondel/rondel/primitive/DoubleRingBuffer" "modCount" "I" (.int i2)) (P5 : Arv Z h0 o1 kc3 .double (4 : Int32) [(.double x4), (.double x5), (.double x6), (.double x7)] (.double 0)) (G0 : n0 ≤ o0) (G1 : n0 ≤ o1) (N0_1 : o0 ≠ o1) :
    Met1 l Z (⟨"com/example/rondel/rondel/primitive/DoubleRingBuffer", "getFirst", "()D"⟩ : MethodName) prog_11_method_9_code 1 (some .double) ({ frames := 1, cells := 0, slots := 0, locals := 12 } : Room) #[(.ref o0)] h0 n0 (fun v h => v = (.double x4) ∧ h0 = h) := by
  refine met_of (L := #[.val (.ref o0)]) (plainFor_of_name pn_10) (fun m => by first | (simp [entryFrame, mkF, argsToLocals, Value.category]; done) | rfl) ?_
  intro p e s m below meth c T C X
  change Cx p s m meth c Z "com/example/rondel/rondel/primitive/DoubleRingBuffer" prog_11_method_9_code 1 (some .double) "getFirst" at C
  refine g_aloadN C X d9_0 (q := 1) rfl rfl rfl ?_
  refine g_callP0 C X (y := (⟨"com/example/rondel/rondel/primitive/DoubleRingBuffer", "checkNotEmpty", "()V"⟩ : MethodName)) (a := o0) (by decide) (w52 hw) (sel_priv (w3 hw) (w53 hw) (w54 hw) (by decide)) (w53 hw) (w54 hw) P0 (w55 hw) (w4 hw) (rm_checkNotEmpty_11 hw (o0 := o0) (o1 := o1) (i2 := i2) (kc3 := kc3) (x4 := x4) (x5 := x5) (x6 := x6) (x7 := x7) O P0 P1 P2 P3 P4 P5 G0 G1 N0_1) (W := 0) (by decide) (by decide) (k' := 0) rfl (n' := 0) rfl (by decide) (by decide) rfl pd_104 (argsL := []) rfl (rest := []) rfl rfl rfl d9_1 (q := 4) rfl ?_
  rintro T1 _ X2 rfl
  refine g_aloadN C X2 d9_4 (q := 5) rfl rfl rfl ?_
  refine g_getF C X2 (host := "") (Or.inl (w12 hw)) Via.refl P1 d9_5 (q := 8) rfl ?_
  intro T3 X4
  refine g_aloadN C X4 d9_8 (q := 9) rfl rfl rfl ?_
  refine g_getF C X4 (host := "") (Or.inl (w25 hw)) Via.refl P3 d9_9 (q := 12) rfl ?_
  intro T5 X6
  refine g_daload C X6 P5 (by decide) (w := (.double x4)) rfl d9_12 (q := 13) rfl ?_
  exact g_retD C X6 d9_13 (by decide) (by decide) ⟨_, rfl, rfl, rfl⟩
set_option maxRecDepth 65536 in
set_option maxHeartbeats 40000000 in
theorem rm_next_11 {l : Launch} {Z : State} {a0 : Array Value} (hw : ∀ d ∈ tables_1, d.before a0 Z = true) {o0 : Addr} {o1 : Addr} {i2 : Int32} {kc3 : ClassId} {x4 : UInt64} {x5 : UInt64} {x6 : UInt64} {x7 : UInt64} {h0 : Heap} {n0 : Nat} (O : Old Z n0 h0)  (P0 : Exa Z h0 o0 "com/example/rondel/rondel/primitive/DoubleRingBuffer") (P1 : Fld Z h0 o0 "com/example/rondel/rondel/primitive/DoubleRingBuffer" "readings" "[D" (.ref o1)) (P2 : Fld Z h0 o0 "com/example/rondel/rondel/primitive/DoubleRingBuffer" "size" "I" (.int (3 : Int32))) (P3 : Fld Z h0 o0 "com/example/rondel/rondel/primitive/DoubleRingBuffer" "head" "I" (.int (0 : Int32))) (P4 : Fld Z h0 o0 "com/example/rondel/rondel/primitive/DoubleRingBuffer" "modCount" "I" (.int i2)) (P5 : Arv Z h0 o1 kc3 .double (4 : Int32) [(.double x4), (.double x5), (.double x6), (.double x7)] (.double 0)) (G0 : n0 ≤ o0) (G1 : n0 ≤ o1) (N0_1 : o0 ≠ o1) :
    Met1 l Z (⟨"com/example/rondel/rondel/primitive/DoubleRingBuffer", "next", "(I)I"⟩ : MethodName) prog_11_method_19_code 2 (some .int) ({ frames := 0, cells := 0, slots := 0, locals := 0 } : Room) #[(.ref o0), (.int (0 : Int32))] h0 n0 (fun v h => v = (.int (1 : Int32)) ∧ h0 = h) := by
  refine met_of (L := #[.val (.ref o0), .val (.int (0 : Int32))]) (plainFor_of_name pn_10) (fun m => by first | (simp [entryFrame, mkF, argsToLocals, Value.category]; done) | rfl) ?_
  intro p e s m below meth c T C X
  change Cx p s m meth c Z "com/example/rondel/rondel/primitive/DoubleRingBuffer" prog_11_method_19_code 2 (some .int) "next" at C
  refine g_iloadN C X d5_0 (q := 1) rfl rfl ?_
  refine g_aloadN C X d5_1 (q := 2) rfl rfl rfl ?_
  refine g_getF C X (host := "") (Or.inl (w12 hw)) Via.refl P1 d5_2 (q := 5) rfl ?_
  intro T1 X2
  refine g_alen C X2 P5 d5_5 (q := 6) rfl ?_
  refine g_iconst C X2 d5_6 (q := 7) rfl (z := (1 : Int32)) rfl ?_
  refine g_isub C X2 d5_7 (q := 8) rfl (z := (3 : Int32)) (by decide) ?_
  refine g_icY C X2 d5_8 (by decide) (q := 15) (by decide) (by decide) ?_
  refine g_iloadN C X2 d5_15 (q := 16) rfl rfl ?_
  refine g_iconst C X2 d5_16 (q := 17) rfl (z := (1 : Int32)) rfl ?_
  refine g_iadd C X2 d5_17 (q := 18) rfl (z := (1 : Int32)) (by decide) ?_
  exact g_retI C X2 d5_18 (by decide) (by decide) ⟨_, rfl, rfl, rfl⟩
set_option maxRecDepth 65536 in
set_option maxHeartbeats 40000000 in
theorem rm_removeFirst_11 {l : Launch} {Z : State} {a0 : Array Value} (hw : ∀ d ∈ tables_1, d.before a0 Z = true) {o0 : Addr} {o1 : Addr} {i2 : Int32} {kc3 : ClassId} {x4 : UInt64} {x5 : UInt64} {x6 : UInt64} {x7 : UInt64} {h0 : Heap} {n0 : Nat} (O : Old Z n0 h0)  (P0 : Exa Z h0 o0 "com/example/rondel/rondel/primitive/DoubleRingBuffer") (P1 : Fld Z h0 o0 "com/example/rondel/rondel/primitive/DoubleRingBuffer" "readings" "[D" (.ref o1)) (P2 : Fld Z h0 o0 "com/example/rondel/rondel/primitive/DoubleRingBuffer" "size" "I" (.int (3 : Int32))) (P3 : Fld Z h0 o0 "com/example/rondel/rondel/primitive/DoubleRingBuffer" "head" "I" (.int (0 : Int32))) (P4 : Fld Z h0 o0 "com/example/rondel/rondel/primitive/DoubleRingBuffer" "modCount" "I" (.int i2)) (P5 : Arv Z h0 o1 kc3 .double (4 : Int32) [(.double x4), (.double x5), (.double x6), (.double x7)] (.double 0)) (G0 : n0 ≤ o0) (G1 : n0 ≤ o1) (N0_1 : o0 ≠ o1) :
    Met1 l Z (⟨"com/example/rondel/rondel/primitive/DoubleRingBuffer", "removeFirst", "()D"⟩ : MethodName) prog_11_method_7_code 3 (some .double) ({ frames := 2, cells := 0, slots := 0, locals := 24 } : Room) #[(.ref o0)] h0 n0 (fun v h => v = (.double x4) ∧ Keep h0 h [o0] ∧ Exa Z h o0 "com/example/rondel/rondel/primitive/DoubleRingBuffer" ∧ Fld Z h o0 "com/example/rondel/rondel/primitive/DoubleRingBuffer" "readings" "[D" (.ref o1) ∧ Fld Z h o0 "com/example/rondel/rondel/primitive/DoubleRingBuffer" "size" "I" (.int (2 : Int32)) ∧ Fld Z h o0 "com/example/rondel/rondel/primitive/DoubleRingBuffer" "head" "I" (.int (1 : Int32)) ∧ Fld Z h o0 "com/example/rondel/rondel/primitive/DoubleRingBuffer" "modCount" "I" (.int (i2 + (1 : Int32)))) := by
  refine met_of (L := #[.val (.ref o0), .unset, .unset]) (plainFor_of_name pn_10) (fun m => by first | (simp [entryFrame, mkF, argsToLocals, Value.category]; done) | rfl) ?_
  intro p e s m below meth c T C X
  change Cx p s m meth c Z "com/example/rondel/rondel/primitive/DoubleRingBuffer" prog_11_method_7_code 3 (some .double) "removeFirst" at C
  refine g_aloadN C X d8_0 (q := 1) rfl rfl rfl ?_
  refine g_callV1 C X (y := (⟨"com/example/rondel/rondel/primitive/DoubleRingBuffer", "getFirst", "()D"⟩ : MethodName)) (z := (⟨"com/example/rondel/rondel/primitive/DoubleRingBuffer", "getFirst", "()D"⟩ : MethodName)) (a := o0) (by decide) (w47 hw) (w48 hw) (w50 hw) (w49 hw) (nf_sel (w50 hw)) P0 (w51 hw) (w4 hw) (rm_getFirst_11 hw (o0 := o0) (o1 := o1) (i2 := i2) (kc3 := kc3) (x4 := x4) (x5 := x5) (x6 := x6) (x7 := x7) O P0 P1 P2 P3 P4 P5 G0 G1 N0_1) (W := 0) (by decide) (by decide) (k' := 0) rfl (n' := 0) rfl (by decide) (by decide) rfl pd_111 (argsL := []) rfl (rest := []) rfl rfl rfl d8_1 (q := 4) rfl ?_
  rintro _ T1 _ X2 ⟨rfl, rfl⟩
  refine g_dstoreN C X2 d8_4 (q := 5) rfl (L' := #[.val (.ref o0), .val (.double x4), .second]) rfl ?_
  refine g_aloadN C X2 d8_5 (q := 6) rfl rfl rfl ?_
  refine g_aloadN C X2 d8_6 (q := 7) rfl rfl rfl ?_
  refine g_aloadN C X2 d8_7 (q := 8) rfl rfl rfl ?_
  refine g_getF C X2 (host := "") (Or.inl (w25 hw)) Via.refl P3 d8_8 (q := 11) rfl ?_
  intro T3 X4
  refine g_callP1 C X4 (y := (⟨"com/example/rondel/rondel/primitive/DoubleRingBuffer", "next", "(I)I"⟩ : MethodName)) (a := o0) (by decide) (w29 hw) (sel_priv (w3 hw) (w30 hw) (w31 hw) (by decide)) (w30 hw) (w31 hw) P0 (w32 hw) (w4 hw) (rm_next_11 hw (o0 := o0) (o1 := o1) (i2 := i2) (kc3 := kc3) (x4 := x4) (x5 := x5) (x6 := x6) (x7 := x7) O P0 P1 P2 P3 P4 P5 G0 G1 N0_1) (W := 1) (by decide) (by decide) (k' := 0) rfl (n' := 0) rfl (by decide) (by decide) rfl pd_40 (argsL := [(.int (0 : Int32))]) rfl (rest := [(.ref o0)]) rfl rfl rfl d8_11 (q := 14) rfl ?_
  rintro _ T5 _ X6 ⟨rfl, rfl⟩
  refine g_putF C X6 (host := "") (Or.inl (w25 hw)) Via.refl P3 P0 (Or.inl (w26 hw)) (w3 hw) (ty := .int) (by decide) rfl rfl d8_14 (q := 17) rfl G0 ?_
  intro T7 h9 X8 W10
  have FW10 := Fld.same W10 P3
  have O11 := O.wr W10 G0
  refine g_aloadN C X8 d8_17 (q := 18) rfl rfl rfl ?_
  refine g_dup C X8 d8_18 (q := 19) rfl rfl ?_
  have f12 := (P2.other W10 (Or.inr (slot_ne (Or.inl (w20 hw)) (Or.inl (w26 hw)) (by decide) (t := .int) (t' := .int) (by decide) (by decide))))
  refine g_getF C X8 (host := "") (Or.inl (w19 hw)) Via.refl f12 d8_19 (q := 22) rfl ?_
  intro T13 X14
  refine g_iconst C X14 d8_22 (q := 23) rfl (z := (1 : Int32)) rfl ?_
  refine g_isub C X14 d8_23 (q := 24) rfl (z := (2 : Int32)) (by decide) ?_
  have f15 := (P0.wr W10)
  refine g_putF C X14 (host := "") (Or.inl (w19 hw)) Via.refl f12 f15 (Or.inl (w20 hw)) (w3 hw) (ty := .int) (by decide) rfl rfl d8_24 (q := 27) rfl G0 ?_
  intro T16 h18 X17 W19
  have FW19 := Fld.same W19 f12
  have O20 := O11.wr W19 G0
  refine g_aloadN C X17 d8_27 (q := 28) rfl rfl rfl ?_
  refine g_dup C X17 d8_28 (q := 29) rfl rfl ?_
  have f21 := ((P4.other W10 (Or.inr (slot_ne (Or.inl (w28 hw)) (Or.inl (w26 hw)) (by decide) (t := .int) (t' := .int) (by decide) (by decide)))).other W19 (Or.inr (slot_ne (Or.inl (w28 hw)) (Or.inl (w20 hw)) (by decide) (t := .int) (t' := .int) (by decide) (by decide))))
  refine g_getF C X17 (host := "") (Or.inl (w27 hw)) Via.refl f21 d8_29 (q := 32) rfl ?_
  intro T22 X23
  refine g_iconst C X23 d8_32 (q := 33) rfl (z := (1 : Int32)) rfl ?_
  refine g_iadd C X23 d8_33 (q := 34) rfl (z := (i2 + (1 : Int32))) rfl ?_
  have f24 := (f15.wr W19)
  refine g_putF C X23 (host := "") (Or.inl (w27 hw)) Via.refl f21 f24 (Or.inl (w28 hw)) (w3 hw) (ty := .int) (by decide) rfl rfl d8_34 (q := 37) rfl G0 ?_
  intro T25 h27 X26 W28
  have FW28 := Fld.same W28 f21
  have O29 := O20.wr W28 G0
  refine g_dloadN C X26 d8_37 (q := 38) rfl rfl ?_
  exact g_retD C X26 d8_38 (by decide) (by decide) ⟨_, rfl, rfl, ((((Keep.refl h0 [o0]).wr W10 (Or.inl (List.mem_of_getElem? (i := 0) rfl))).wr W19 (Or.inl (List.mem_of_getElem? (i := 0) rfl))).wr W28 (Or.inl (List.mem_of_getElem? (i := 0) rfl))), (f24.wr W28), (((P1.other W10 (Or.inr (slot_ne (Or.inr (w13 hw)) (Or.inl (w26 hw)) (by decide) (t := (.array .double)) (t' := .int) (by decide) (by decide)))).other W19 (Or.inr (slot_ne (Or.inr (w13 hw)) (Or.inl (w20 hw)) (by decide) (t := (.array .double)) (t' := .int) (by decide) (by decide)))).other W28 (Or.inr (slot_ne (Or.inr (w13 hw)) (Or.inl (w28 hw)) (by decide) (t := (.array .double)) (t' := .int) (by decide) (by decide)))), (FW19.other W28 (Or.inr (slot_ne (Or.inl (w20 hw)) (Or.inl (w28 hw)) (by decide) (t := .int) (t' := .int) (by decide) (by decide)))), ((FW10.other W19 (Or.inr (slot_ne (Or.inl (w26 hw)) (Or.inl (w20 hw)) (by decide) (t := .int) (t' := .int) (by decide) (by decide)))).other W28 (Or.inr (slot_ne (Or.inl (w26 hw)) (Or.inl (w28 hw)) (by decide) (t := .int) (t' := .int) (by decide) (by decide)))), FW28⟩
set_option maxRecDepth 65536 in
set_option maxHeartbeats 40000000 in
theorem rm_isFull_23 {l : Launch} {Z : State} {a0 : Array Value} (hw : ∀ d ∈ tables_1, d.before a0 Z = true) {o0 : Addr} {o1 : Addr} {i2 : Int32} {kc3 : ClassId} {x4 : UInt64} {x5 : UInt64} {x6 : UInt64} {x7 : UInt64} {h0 : Heap} {n0 : Nat} (O : Old Z n0 h0)  (P0 : Exa Z h0 o0 "com/example/rondel/rondel/primitive/DoubleRingBuffer") (P1 : Fld Z h0 o0 "com/example/rondel/rondel/primitive/DoubleRingBuffer" "readings" "[D" (.ref o1)) (P2 : Fld Z h0 o0 "com/example/rondel/rondel/primitive/DoubleRingBuffer" "size" "I" (.int (2 : Int32))) (P3 : Fld Z h0 o0 "com/example/rondel/rondel/primitive/DoubleRingBuffer" "head" "I" (.int (1 : Int32))) (P4 : Fld Z h0 o0 "com/example/rondel/rondel/primitive/DoubleRingBuffer" "modCount" "I" (.int i2)) (P5 : Arv Z h0 o1 kc3 .double (4 : Int32) [(.double x4), (.double x5), (.double x6), (.double x7)] (.double 0)) (G0 : n0 ≤ o0) (G1 : n0 ≤ o1) (N0_1 : o0 ≠ o1) :
    Met1 l Z (⟨"com/example/rondel/rondel/primitive/DoubleRingBuffer", "isFull", "()Z"⟩ : MethodName) prog_11_method_5_code 1 (some .boolean) ({ frames := 0, cells := 0, slots := 0, locals := 0 } : Room) #[(.ref o0)] h0 n0 (fun v h => v = (.int (0 : Int32)) ∧ h0 = h) := by
  refine met_of (L := #[.val (.ref o0)]) (plainFor_of_name pn_10) (fun m => by first | (simp [entryFrame, mkF, argsToLocals, Value.category]; done) | rfl) ?_
  intro p e s m below meth c T C X
  change Cx p s m meth c Z "com/example/rondel/rondel/primitive/DoubleRingBuffer" prog_11_method_5_code 1 (some .boolean) "isFull" at C
  refine g_aloadN C X d7_0 (q := 1) rfl rfl rfl ?_
  refine g_getF C X (host := "") (Or.inl (w19 hw)) Via.refl P2 d7_1 (q := 4) rfl ?_
  intro T1 X2
  refine g_aloadN C X2 d7_4 (q := 5) rfl rfl rfl ?_
  refine g_getF C X2 (host := "") (Or.inl (w12 hw)) Via.refl P1 d7_5 (q := 8) rfl ?_
  intro T3 X4
  refine g_alen C X4 P5 d7_8 (q := 9) rfl ?_
  refine g_icY C X4 d7_9 (by decide) (q := 16) (by decide) (by decide) ?_
  refine g_iconst C X4 d7_16 (q := 17) rfl (z := (0 : Int32)) rfl ?_
  exact g_retN C X4 (Or.inl rfl) (z' := (0 : Int32)) (by decide) d7_17 (by decide) (by decide) ⟨_, rfl, rfl, rfl⟩
set_option maxRecDepth 65536 in
set_option maxHeartbeats 40000000 in
theorem rm_min_21 {l : Launch} {Z : State} {a0 : Array Value} (hw : ∀ d ∈ tables_1, d.before a0 Z = true)  {h0 : Heap} {n0 : Nat} (O : Old Z n0 h0)  :
    Met1 l Z (⟨"java/lang/Math", "min", "(II)I"⟩ : MethodName) jdk_29_method_69_code 2 (some .int) ({ frames := 0, cells := 0, slots := 0, locals := 0 } : Room) #[(.int (2 : Int32)), (.int (4 : Int32))] h0 n0 (fun v h => v = (.int (2 : Int32)) ∧ h0 = h) := by
  refine met_of (L := #[.val (.int (2 : Int32)), .val (.int (4 : Int32))]) (Jvm.Free.JP.mathPlain rfl (by decide +kernel)) (fun m => by first | (simp [entryFrame, mkF, argsToLocals, Value.category]; done) | rfl) ?_
  intro p e s m below meth c T C X
  change Cx p s m meth c Z "java/lang/Math" jdk_29_method_69_code 2 (some .int) "min" at C
  refine g_iloadN C X d6_0 (q := 1) rfl rfl ?_
  refine g_iloadN C X d6_1 (q := 2) rfl rfl ?_
  refine g_icN C X d6_2 (q := 5) rfl (by decide) ?_
  refine g_iloadN C X d6_5 (q := 6) rfl rfl ?_
  refine g_goto C X d6_6 (by decide) (q := 10) (by decide) ?_
  exact g_retI C X d6_10 (by decide) (by decide) ⟨_, rfl, rfl, rfl⟩
set_option maxRecDepth 65536 in
set_option maxHeartbeats 40000000 in
theorem rm_isFull_24 {l : Launch} {Z : State} {a0 : Array Value} (hw : ∀ d ∈ tables_1, d.before a0 Z = true) {o0 : Addr} {o1 : Addr} {i2 : Int32} {kc3 : ClassId} {x4 : UInt64} {x5 : UInt64} {x6 : UInt64} {x7 : UInt64} {h0 : Heap} {n0 : Nat} (O : Old Z n0 h0)  (P0 : Exa Z h0 o0 "com/example/rondel/rondel/primitive/DoubleRingBuffer") (P1 : Fld Z h0 o0 "com/example/rondel/rondel/primitive/DoubleRingBuffer" "readings" "[D" (.ref o1)) (P2 : Fld Z h0 o0 "com/example/rondel/rondel/primitive/DoubleRingBuffer" "size" "I" (.int (2 : Int32))) (P3 : Fld Z h0 o0 "com/example/rondel/rondel/primitive/DoubleRingBuffer" "head" "I" (.int (0 : Int32))) (P4 : Fld Z h0 o0 "com/example/rondel/rondel/primitive/DoubleRingBuffer" "modCount" "I" (.int i2)) (P5 : Arv Z h0 o1 kc3 .double (4 : Int32) [(.double x4), (.double x5), (.double x6), (.double x7)] (.double 0)) (G0 : n0 ≤ o0) (G1 : n0 ≤ o1) (N0_1 : o0 ≠ o1) :
    Met1 l Z (⟨"com/example/rondel/rondel/primitive/DoubleRingBuffer", "isFull", "()Z"⟩ : MethodName) prog_11_method_5_code 1 (some .boolean) ({ frames := 0, cells := 0, slots := 0, locals := 0 } : Room) #[(.ref o0)] h0 n0 (fun v h => v = (.int (0 : Int32)) ∧ h0 = h) := by
  refine met_of (L := #[.val (.ref o0)]) (plainFor_of_name pn_10) (fun m => by first | (simp [entryFrame, mkF, argsToLocals, Value.category]; done) | rfl) ?_
  intro p e s m below meth c T C X
  change Cx p s m meth c Z "com/example/rondel/rondel/primitive/DoubleRingBuffer" prog_11_method_5_code 1 (some .boolean) "isFull" at C
  refine g_aloadN C X d7_0 (q := 1) rfl rfl rfl ?_
  refine g_getF C X (host := "") (Or.inl (w19 hw)) Via.refl P2 d7_1 (q := 4) rfl ?_
  intro T1 X2
  refine g_aloadN C X2 d7_4 (q := 5) rfl rfl rfl ?_
  refine g_getF C X2 (host := "") (Or.inl (w12 hw)) Via.refl P1 d7_5 (q := 8) rfl ?_
  intro T3 X4
  refine g_alen C X4 P5 d7_8 (q := 9) rfl ?_
  refine g_icY C X4 d7_9 (by decide) (q := 16) (by decide) (by decide) ?_
  refine g_iconst C X4 d7_16 (q := 17) rfl (z := (0 : Int32)) rfl ?_
  exact g_retN C X4 (Or.inl rfl) (z' := (0 : Int32)) (by decide) d7_17 (by decide) (by decide) ⟨_, rfl, rfl, rfl⟩
set_option maxRecDepth 65536 in
set_option maxHeartbeats 40000000 in
theorem rm_checkNotEmpty_12 {l : Launch} {Z : State} {a0 : Array Value} (hw : ∀ d ∈ tables_1, d.before a0 Z = true) {o0 : Addr} {o1 : Addr} {i2 : Int32} {kc3 : ClassId} {x4 : UInt64} {x5 : UInt64} {x6 : UInt64} {x7 : UInt64} {h0 : Heap} {n0 : Nat} (O : Old Z n0 h0)  (P0 : Exa Z h0 o0 "com/example/rondel/rondel/primitive/DoubleRingBuffer") (P1 : Fld Z h0 o0 "com/example/rondel/rondel/primitive/DoubleRingBuffer" "readings" "[D" (.ref o1)) (P2 : Fld Z h0 o0 "com/example/rondel/rondel/primitive/DoubleRingBuffer" "size" "I" (.int (2 : Int32))) (P3 : Fld Z h0 o0 "com/example/rondel/rondel/primitive/DoubleRingBuffer" "head" "I" (.int (0 : Int32))) (P4 : Fld Z h0 o0 "com/example/rondel/rondel/primitive/DoubleRingBuffer" "modCount" "I" (.int i2)) (P5 : Arv Z h0 o1 kc3 .double (4 : Int32) [(.double x4), (.double x5), (.double x6), (.double x7)] (.double 0)) (G0 : n0 ≤ o0) (G1 : n0 ≤ o1) (N0_1 : o0 ≠ o1) :
    Met0 l Z (⟨"com/example/rondel/rondel/primitive/DoubleRingBuffer", "checkNotEmpty", "()V"⟩ : MethodName) prog_11_method_17_code 1 none ({ frames := 0, cells := 0, slots := 0, locals := 0 } : Room) #[(.ref o0)] h0 n0 (fun h => h0 = h) := by
  refine met_of (L := #[.val (.ref o0)]) (plainFor_of_name pn_10) (fun m => by first | (simp [entryFrame, mkF, argsToLocals, Value.category]; done) | rfl) ?_
  intro p e s m below meth c T C X
  change Cx p s m meth c Z "com/example/rondel/rondel/primitive/DoubleRingBuffer" prog_11_method_17_code 1 none "checkNotEmpty" at C
  refine g_aloadN C X d10_0 (q := 1) rfl rfl rfl ?_
  refine g_getF C X (host := "") (Or.inl (w19 hw)) Via.refl P2 d10_1 (q := 4) rfl ?_
  intro T1 X2
  refine g_ifY C X2 d10_4 (by decide) (q := 17) (by decide) (by decide) ?_
  exact g_retV C X2 d10_17 (by decide) (by decide) ⟨rfl, rfl⟩
set_option maxRecDepth 65536 in
set_option maxHeartbeats 40000000 in
theorem rm_getFirst_12 {l : Launch} {Z : State} {a0 : Array Value} (hw : ∀ d ∈ tables_1, d.before a0 Z = true) {o0 : Addr} {o1 : Addr} {i2 : Int32} {kc3 : ClassId} {x4 : UInt64} {x5 : UInt64} {x6 : UInt64} {x7 : UInt64} {h0 : Heap} {n0 : Nat} (O : Old Z n0 h0)  (P0 : Exa Z h0 o0 "com/example/rondel/rondel/primitive/DoubleRingBuffer") (P1 : Fld Z h0 o0 "com/example/rondel/rondel/primitive/DoubleRingBuffer" "readings" "[D" (.ref o1)) (P2 : Fld Z h0 o0 "com/example/rondel/rondel/primitive/DoubleRingBuffer" "size" "I" (.int (2 : Int32))) (P3 : Fld Z h0 o0 "com/example/rondel/rondel/primitive/DoubleRingBuffer" "head" "I" (.int (0 : Int32))) (P4 : Fld Z h0 o0 "com/example/rondel/rondel/primitive/DoubleRingBuffer" "modCount" "I" (.int i2)) (P5 : Arv Z h0 o1 kc3 .double (4 : Int32) [(.double x4), (.double x5), (.double x6), (.double x7)] (.double 0)) (G0 : n0 ≤ o0) (G1 : n0 ≤ o1) (N0_1 : o0 ≠ o1) :
    Met1 l Z (⟨"com/example/rondel/rondel/primitive/DoubleRingBuffer", "getFirst", "()D"⟩ : MethodName) prog_11_method_9_code 1 (some .double) ({ frames := 1, cells := 0, slots := 0, locals := 12 } : Room) #[(.ref o0)] h0 n0 (fun v h => v = (.double x4) ∧ h0 = h) := by
  refine met_of (L := #[.val (.ref o0)]) (plainFor_of_name pn_10) (fun m => by first | (simp [entryFrame, mkF, argsToLocals, Value.category]; done) | rfl) ?_
  intro p e s m below meth c T C X
  change Cx p s m meth c Z "com/example/rondel/rondel/primitive/DoubleRingBuffer" prog_11_method_9_code 1 (some .double) "getFirst" at C
  refine g_aloadN C X d9_0 (q := 1) rfl rfl rfl ?_
  refine g_callP0 C X (y := (⟨"com/example/rondel/rondel/primitive/DoubleRingBuffer", "checkNotEmpty", "()V"⟩ : MethodName)) (a := o0) (by decide) (w52 hw) (sel_priv (w3 hw) (w53 hw) (w54 hw) (by decide)) (w53 hw) (w54 hw) P0 (w55 hw) (w4 hw) (rm_checkNotEmpty_12 hw (o0 := o0) (o1 := o1) (i2 := i2) (kc3 := kc3) (x4 := x4) (x5 := x5) (x6 := x6) (x7 := x7) O P0 P1 P2 P3 P4 P5 G0 G1 N0_1) (W := 0) (by decide) (by decide) (k' := 0) rfl (n' := 0) rfl (by decide) (by decide) rfl pd_104 (argsL := []) rfl (rest := []) rfl rfl rfl d9_1 (q := 4) rfl ?_
  rintro T1 _ X2 rfl
  refine g_aloadN C X2 d9_4 (q := 5) rfl rfl rfl ?_
  refine g_getF C X2 (host := "") (Or.inl (w12 hw)) Via.refl P1 d9_5 (q := 8) rfl ?_
  intro T3 X4
  refine g_aloadN C X4 d9_8 (q := 9) rfl rfl rfl ?_
  refine g_getF C X4 (host := "") (Or.inl (w25 hw)) Via.refl P3 d9_9 (q := 12) rfl ?_
  intro T5 X6
  refine g_daload C X6 P5 (by decide) (w := (.double x4)) rfl d9_12 (q := 13) rfl ?_
  exact g_retD C X6 d9_13 (by decide) (by decide) ⟨_, rfl, rfl, rfl⟩
set_option maxRecDepth 65536 in
set_option maxHeartbeats 40000000 in
theorem rm_next_12 {l : Launch} {Z : State} {a0 : Array Value} (hw : ∀ d ∈ tables_1, d.before a0 Z = true) {o0 : Addr} {o1 : Addr} {i2 : Int32} {kc3 : ClassId} {x4 : UInt64} {x5 : UInt64} {x6 : UInt64} {x7 : UInt64} {h0 : Heap} {n0 : Nat} (O : Old Z n0 h0)  (P0 : Exa Z h0 o0 "com/example/rondel/rondel/primitive/DoubleRingBuffer") (P1 : Fld Z h0 o0 "com/example/rondel/rondel/primitive/DoubleRingBuffer" "readings" "[D" (.ref o1)) (P2 : Fld Z h0 o0 "com/example/rondel/rondel/primitive/DoubleRingBuffer" "size" "I" (.int (2 : Int32))) (P3 : Fld Z h0 o0 "com/example/rondel/rondel/primitive/DoubleRingBuffer" "head" "I" (.int (0 : Int32))) (P4 : Fld Z h0 o0 "com/example/rondel/rondel/primitive/DoubleRingBuffer" "modCount" "I" (.int i2)) (P5 : Arv Z h0 o1 kc3 .double (4 : Int32) [(.double x4), (.double x5), (.double x6), (.double x7)] (.double 0)) (G0 : n0 ≤ o0) (G1 : n0 ≤ o1) (N0_1 : o0 ≠ o1) :
    Met1 l Z (⟨"com/example/rondel/rondel/primitive/DoubleRingBuffer", "next", "(I)I"⟩ : MethodName) prog_11_method_19_code 2 (some .int) ({ frames := 0, cells := 0, slots := 0, locals := 0 } : Room) #[(.ref o0), (.int (0 : Int32))] h0 n0 (fun v h => v = (.int (1 : Int32)) ∧ h0 = h) := by
  refine met_of (L := #[.val (.ref o0), .val (.int (0 : Int32))]) (plainFor_of_name pn_10) (fun m => by first | (simp [entryFrame, mkF, argsToLocals, Value.category]; done) | rfl) ?_
  intro p e s m below meth c T C X
  change Cx p s m meth c Z "com/example/rondel/rondel/primitive/DoubleRingBuffer" prog_11_method_19_code 2 (some .int) "next" at C
  refine g_iloadN C X d5_0 (q := 1) rfl rfl ?_
  refine g_aloadN C X d5_1 (q := 2) rfl rfl rfl ?_
  refine g_getF C X (host := "") (Or.inl (w12 hw)) Via.refl P1 d5_2 (q := 5) rfl ?_
  intro T1 X2
  refine g_alen C X2 P5 d5_5 (q := 6) rfl ?_
  refine g_iconst C X2 d5_6 (q := 7) rfl (z := (1 : Int32)) rfl ?_
  refine g_isub C X2 d5_7 (q := 8) rfl (z := (3 : Int32)) (by decide) ?_
  refine g_icY C X2 d5_8 (by decide) (q := 15) (by decide) (by decide) ?_
  refine g_iloadN C X2 d5_15 (q := 16) rfl rfl ?_
  refine g_iconst C X2 d5_16 (q := 17) rfl (z := (1 : Int32)) rfl ?_
  refine g_iadd C X2 d5_17 (q := 18) rfl (z := (1 : Int32)) (by decide) ?_
  exact g_retI C X2 d5_18 (by decide) (by decide) ⟨_, rfl, rfl, rfl⟩
set_option maxRecDepth 65536 in
set_option maxHeartbeats 40000000 in
theorem rm_removeFirst_12 {l : Launch} {Z : State} {a0 : Array Value} (hw : ∀ d ∈ tables_1, d.before a0 Z = true) {o0 : Addr} {o1 : Addr} {i2 : Int32} {kc3 : ClassId} {x4 : UInt64} {x5 : UInt64} {x6 : UInt64} {x7 : UInt64} {h0 : Heap} {n0 : Nat} (O : Old Z n0 h0)  (P0 : Exa Z h0 o0 "com/example/rondel/rondel/primitive/DoubleRingBuffer") (P1 : Fld Z h0 o0 "com/example/rondel/rondel/primitive/DoubleRingBuffer" "readings" "[D" (.ref o1)) (P2 : Fld Z h0 o0 "com/example/rondel/rondel/primitive/DoubleRingBuffer" "size" "I" (.int (2 : Int32))) (P3 : Fld Z h0 o0 "com/example/rondel/rondel/primitive/DoubleRingBuffer" "head" "I" (.int (0 : Int32))) (P4 : Fld Z h0 o0 "com/example/rondel/rondel/primitive/DoubleRingBuffer" "modCount" "I" (.int i2)) (P5 : Arv Z h0 o1 kc3 .double (4 : Int32) [(.double x4), (.double x5), (.double x6), (.double x7)] (.double 0)) (G0 : n0 ≤ o0) (G1 : n0 ≤ o1) (N0_1 : o0 ≠ o1) :
    Met1 l Z (⟨"com/example/rondel/rondel/primitive/DoubleRingBuffer", "removeFirst", "()D"⟩ : MethodName) prog_11_method_7_code 3 (some .double) ({ frames := 2, cells := 0, slots := 0, locals := 24 } : Room) #[(.ref o0)] h0 n0 (fun v h => v = (.double x4) ∧ Keep h0 h [o0] ∧ Exa Z h o0 "com/example/rondel/rondel/primitive/DoubleRingBuffer" ∧ Fld Z h o0 "com/example/rondel/rondel/primitive/DoubleRingBuffer" "readings" "[D" (.ref o1) ∧ Fld Z h o0 "com/example/rondel/rondel/primitive/DoubleRingBuffer" "size" "I" (.int (1 : Int32)) ∧ Fld Z h o0 "com/example/rondel/rondel/primitive/DoubleRingBuffer" "head" "I" (.int (1 : Int32)) ∧ Fld Z h o0 "com/example/rondel/rondel/primitive/DoubleRingBuffer" "modCount" "I" (.int (i2 + (1 : Int32)))) := by
  refine met_of (L := #[.val (.ref o0), .unset, .unset]) (plainFor_of_name pn_10) (fun m => by first | (simp [entryFrame, mkF, argsToLocals, Value.category]; done) | rfl) ?_
  intro p e s m below meth c T C X
  change Cx p s m meth c Z "com/example/rondel/rondel/primitive/DoubleRingBuffer" prog_11_method_7_code 3 (some .double) "removeFirst" at C
  refine g_aloadN C X d8_0 (q := 1) rfl rfl rfl ?_
  refine g_callV1 C X (y := (⟨"com/example/rondel/rondel/primitive/DoubleRingBuffer", "getFirst", "()D"⟩ : MethodName)) (z := (⟨"com/example/rondel/rondel/primitive/DoubleRingBuffer", "getFirst", "()D"⟩ : MethodName)) (a := o0) (by decide) (w47 hw) (w48 hw) (w50 hw) (w49 hw) (nf_sel (w50 hw)) P0 (w51 hw) (w4 hw) (rm_getFirst_12 hw (o0 := o0) (o1 := o1) (i2 := i2) (kc3 := kc3) (x4 := x4) (x5 := x5) (x6 := x6) (x7 := x7) O P0 P1 P2 P3 P4 P5 G0 G1 N0_1) (W := 0) (by decide) (by decide) (k' := 0) rfl (n' := 0) rfl (by decide) (by decide) rfl pd_111 (argsL := []) rfl (rest := []) rfl rfl rfl d8_1 (q := 4) rfl ?_
  rintro _ T1 _ X2 ⟨rfl, rfl⟩
  refine g_dstoreN C X2 d8_4 (q := 5) rfl (L' := #[.val (.ref o0), .val (.double x4), .second]) rfl ?_
  refine g_aloadN C X2 d8_5 (q := 6) rfl rfl rfl ?_
  refine g_aloadN C X2 d8_6 (q := 7) rfl rfl rfl ?_
  refine g_aloadN C X2 d8_7 (q := 8) rfl rfl rfl ?_
  refine g_getF C X2 (host := "") (Or.inl (w25 hw)) Via.refl P3 d8_8 (q := 11) rfl ?_
  intro T3 X4
  refine g_callP1 C X4 (y := (⟨"com/example/rondel/rondel/primitive/DoubleRingBuffer", "next", "(I)I"⟩ : MethodName)) (a := o0) (by decide) (w29 hw) (sel_priv (w3 hw) (w30 hw) (w31 hw) (by decide)) (w30 hw) (w31 hw) P0 (w32 hw) (w4 hw) (rm_next_12 hw (o0 := o0) (o1 := o1) (i2 := i2) (kc3 := kc3) (x4 := x4) (x5 := x5) (x6 := x6) (x7 := x7) O P0 P1 P2 P3 P4 P5 G0 G1 N0_1) (W := 1) (by decide) (by decide) (k' := 0) rfl (n' := 0) rfl (by decide) (by decide) rfl pd_40 (argsL := [(.int (0 : Int32))]) rfl (rest := [(.ref o0)]) rfl rfl rfl d8_11 (q := 14) rfl ?_
  rintro _ T5 _ X6 ⟨rfl, rfl⟩
  refine g_putF C X6 (host := "") (Or.inl (w25 hw)) Via.refl P3 P0 (Or.inl (w26 hw)) (w3 hw) (ty := .int) (by decide) rfl rfl d8_14 (q := 17) rfl G0 ?_
  intro T7 h9 X8 W10
  have FW10 := Fld.same W10 P3
  have O11 := O.wr W10 G0
  refine g_aloadN C X8 d8_17 (q := 18) rfl rfl rfl ?_
  refine g_dup C X8 d8_18 (q := 19) rfl rfl ?_
  have f12 := (P2.other W10 (Or.inr (slot_ne (Or.inl (w20 hw)) (Or.inl (w26 hw)) (by decide) (t := .int) (t' := .int) (by decide) (by decide))))
  refine g_getF C X8 (host := "") (Or.inl (w19 hw)) Via.refl f12 d8_19 (q := 22) rfl ?_
  intro T13 X14
  refine g_iconst C X14 d8_22 (q := 23) rfl (z := (1 : Int32)) rfl ?_
  refine g_isub C X14 d8_23 (q := 24) rfl (z := (1 : Int32)) (by decide) ?_
  have f15 := (P0.wr W10)
  refine g_putF C X14 (host := "") (Or.inl (w19 hw)) Via.refl f12 f15 (Or.inl (w20 hw)) (w3 hw) (ty := .int) (by decide) rfl rfl d8_24 (q := 27) rfl G0 ?_
  intro T16 h18 X17 W19
  have FW19 := Fld.same W19 f12
  have O20 := O11.wr W19 G0
  refine g_aloadN C X17 d8_27 (q := 28) rfl rfl rfl ?_
  refine g_dup C X17 d8_28 (q := 29) rfl rfl ?_
  have f21 := ((P4.other W10 (Or.inr (slot_ne (Or.inl (w28 hw)) (Or.inl (w26 hw)) (by decide) (t := .int) (t' := .int) (by decide) (by decide)))).other W19 (Or.inr (slot_ne (Or.inl (w28 hw)) (Or.inl (w20 hw)) (by decide) (t := .int) (t' := .int) (by decide) (by decide))))
  refine g_getF C X17 (host := "") (Or.inl (w27 hw)) Via.refl f21 d8_29 (q := 32) rfl ?_
  intro T22 X23
  refine g_iconst C X23 d8_32 (q := 33) rfl (z := (1 : Int32)) rfl ?_
  refine g_iadd C X23 d8_33 (q := 34) rfl (z := (i2 + (1 : Int32))) rfl ?_
  have f24 := (f15.wr W19)
  refine g_putF C X23 (host := "") (Or.inl (w27 hw)) Via.refl f21 f24 (Or.inl (w28 hw)) (w3 hw) (ty := .int) (by decide) rfl rfl d8_34 (q := 37) rfl G0 ?_
  intro T25 h27 X26 W28
  have FW28 := Fld.same W28 f21
  have O29 := O20.wr W28 G0
  refine g_dloadN C X26 d8_37 (q := 38) rfl rfl ?_
  exact g_retD C X26 d8_38 (by decide) (by decide) ⟨_, rfl, rfl, ((((Keep.refl h0 [o0]).wr W10 (Or.inl (List.mem_of_getElem? (i := 0) rfl))).wr W19 (Or.inl (List.mem_of_getElem? (i := 0) rfl))).wr W28 (Or.inl (List.mem_of_getElem? (i := 0) rfl))), (f24.wr W28), (((P1.other W10 (Or.inr (slot_ne (Or.inr (w13 hw)) (Or.inl (w26 hw)) (by decide) (t := (.array .double)) (t' := .int) (by decide) (by decide)))).other W19 (Or.inr (slot_ne (Or.inr (w13 hw)) (Or.inl (w20 hw)) (by decide) (t := (.array .double)) (t' := .int) (by decide) (by decide)))).other W28 (Or.inr (slot_ne (Or.inr (w13 hw)) (Or.inl (w28 hw)) (by decide) (t := (.array .double)) (t' := .int) (by decide) (by decide)))), (FW19.other W28 (Or.inr (slot_ne (Or.inl (w20 hw)) (Or.inl (w28 hw)) (by decide) (t := .int) (t' := .int) (by decide) (by decide)))), ((FW10.other W19 (Or.inr (slot_ne (Or.inl (w26 hw)) (Or.inl (w20 hw)) (by decide) (t := .int) (t' := .int) (by decide) (by decide)))).other W28 (Or.inr (slot_ne (Or.inl (w26 hw)) (Or.inl (w28 hw)) (by decide) (t := .int) (t' := .int) (by decide) (by decide)))), FW28⟩
set_option maxRecDepth 65536 in
set_option maxHeartbeats 40000000 in
theorem rm_isFull_25 {l : Launch} {Z : State} {a0 : Array Value} (hw : ∀ d ∈ tables_1, d.before a0 Z = true) {o0 : Addr} {o1 : Addr} {i2 : Int32} {kc3 : ClassId} {x4 : UInt64} {x5 : UInt64} {x6 : UInt64} {x7 : UInt64} {h0 : Heap} {n0 : Nat} (O : Old Z n0 h0)  (P0 : Exa Z h0 o0 "com/example/rondel/rondel/primitive/DoubleRingBuffer") (P1 : Fld Z h0 o0 "com/example/rondel/rondel/primitive/DoubleRingBuffer" "readings" "[D" (.ref o1)) (P2 : Fld Z h0 o0 "com/example/rondel/rondel/primitive/DoubleRingBuffer" "size" "I" (.int (1 : Int32))) (P3 : Fld Z h0 o0 "com/example/rondel/rondel/primitive/DoubleRingBuffer" "head" "I" (.int (1 : Int32))) (P4 : Fld Z h0 o0 "com/example/rondel/rondel/primitive/DoubleRingBuffer" "modCount" "I" (.int i2)) (P5 : Arv Z h0 o1 kc3 .double (4 : Int32) [(.double x4), (.double x5), (.double x6), (.double x7)] (.double 0)) (G0 : n0 ≤ o0) (G1 : n0 ≤ o1) (N0_1 : o0 ≠ o1) :
    Met1 l Z (⟨"com/example/rondel/rondel/primitive/DoubleRingBuffer", "isFull", "()Z"⟩ : MethodName) prog_11_method_5_code 1 (some .boolean) ({ frames := 0, cells := 0, slots := 0, locals := 0 } : Room) #[(.ref o0)] h0 n0 (fun v h => v = (.int (0 : Int32)) ∧ h0 = h) := by
  refine met_of (L := #[.val (.ref o0)]) (plainFor_of_name pn_10) (fun m => by first | (simp [entryFrame, mkF, argsToLocals, Value.category]; done) | rfl) ?_
  intro p e s m below meth c T C X
  change Cx p s m meth c Z "com/example/rondel/rondel/primitive/DoubleRingBuffer" prog_11_method_5_code 1 (some .boolean) "isFull" at C
  refine g_aloadN C X d7_0 (q := 1) rfl rfl rfl ?_
  refine g_getF C X (host := "") (Or.inl (w19 hw)) Via.refl P2 d7_1 (q := 4) rfl ?_
  intro T1 X2
  refine g_aloadN C X2 d7_4 (q := 5) rfl rfl rfl ?_
  refine g_getF C X2 (host := "") (Or.inl (w12 hw)) Via.refl P1 d7_5 (q := 8) rfl ?_
  intro T3 X4
  refine g_alen C X4 P5 d7_8 (q := 9) rfl ?_
  refine g_icY C X4 d7_9 (by decide) (q := 16) (by decide) (by decide) ?_
  refine g_iconst C X4 d7_16 (q := 17) rfl (z := (0 : Int32)) rfl ?_
  exact g_retN C X4 (Or.inl rfl) (z' := (0 : Int32)) (by decide) d7_17 (by decide) (by decide) ⟨_, rfl, rfl, rfl⟩
set_option maxRecDepth 65536 in
set_option maxHeartbeats 40000000 in
theorem rm_min_22 {l : Launch} {Z : State} {a0 : Array Value} (hw : ∀ d ∈ tables_1, d.before a0 Z = true)  {h0 : Heap} {n0 : Nat} (O : Old Z n0 h0)  :
    Met1 l Z (⟨"java/lang/Math", "min", "(II)I"⟩ : MethodName) jdk_29_method_69_code 2 (some .int) ({ frames := 0, cells := 0, slots := 0, locals := 0 } : Room) #[(.int (1 : Int32)), (.int (4 : Int32))] h0 n0 (fun v h => v = (.int (1 : Int32)) ∧ h0 = h) := by
  refine met_of (L := #[.val (.int (1 : Int32)), .val (.int (4 : Int32))]) (Jvm.Free.JP.mathPlain rfl (by decide +kernel)) (fun m => by first | (simp [entryFrame, mkF, argsToLocals, Value.category]; done) | rfl) ?_
  intro p e s m below meth c T C X
  change Cx p s m meth c Z "java/lang/Math" jdk_29_method_69_code 2 (some .int) "min" at C
  refine g_iloadN C X d6_0 (q := 1) rfl rfl ?_
  refine g_iloadN C X d6_1 (q := 2) rfl rfl ?_
  refine g_icN C X d6_2 (q := 5) rfl (by decide) ?_
  refine g_iloadN C X d6_5 (q := 6) rfl rfl ?_
  refine g_goto C X d6_6 (by decide) (q := 10) (by decide) ?_
  exact g_retI C X d6_10 (by decide) (by decide) ⟨_, rfl, rfl, rfl⟩
set_option maxRecDepth 65536 in
set_option maxHeartbeats 40000000 in
theorem rm_isFull_26 {l : Launch} {Z : State} {a0 : Array Value} (hw : ∀ d ∈ tables_1, d.before a0 Z = true) {o0 : Addr} {o1 : Addr} {i2 : Int32} {kc3 : ClassId} {x4 : UInt64} {x5 : UInt64} {x6 : UInt64} {x7 : UInt64} {h0 : Heap} {n0 : Nat} (O : Old Z n0 h0)  (P0 : Exa Z h0 o0 "com/example/rondel/rondel/primitive/DoubleRingBuffer") (P1 : Fld Z h0 o0 "com/example/rondel/rondel/primitive/DoubleRingBuffer" "readings" "[D" (.ref o1)) (P2 : Fld Z h0 o0 "com/example/rondel/rondel/primitive/DoubleRingBuffer" "size" "I" (.int (1 : Int32))) (P3 : Fld Z h0 o0 "com/example/rondel/rondel/primitive/DoubleRingBuffer" "head" "I" (.int (0 : Int32))) (P4 : Fld Z h0 o0 "com/example/rondel/rondel/primitive/DoubleRingBuffer" "modCount" "I" (.int i2)) (P5 : Arv Z h0 o1 kc3 .double (4 : Int32) [(.double x4), (.double x5), (.double x6), (.double x7)] (.double 0)) (G0 : n0 ≤ o0) (G1 : n0 ≤ o1) (N0_1 : o0 ≠ o1) :
    Met1 l Z (⟨"com/example/rondel/rondel/primitive/DoubleRingBuffer", "isFull", "()Z"⟩ : MethodName) prog_11_method_5_code 1 (some .boolean) ({ frames := 0, cells := 0, slots := 0, locals := 0 } : Room) #[(.ref o0)] h0 n0 (fun v h => v = (.int (0 : Int32)) ∧ h0 = h) := by
  refine met_of (L := #[.val (.ref o0)]) (plainFor_of_name pn_10) (fun m => by first | (simp [entryFrame, mkF, argsToLocals, Value.category]; done) | rfl) ?_
  intro p e s m below meth c T C X
  change Cx p s m meth c Z "com/example/rondel/rondel/primitive/DoubleRingBuffer" prog_11_method_5_code 1 (some .boolean) "isFull" at C
  refine g_aloadN C X d7_0 (q := 1) rfl rfl rfl ?_
  refine g_getF C X (host := "") (Or.inl (w19 hw)) Via.refl P2 d7_1 (q := 4) rfl ?_
  intro T1 X2
  refine g_aloadN C X2 d7_4 (q := 5) rfl rfl rfl ?_
  refine g_getF C X2 (host := "") (Or.inl (w12 hw)) Via.refl P1 d7_5 (q := 8) rfl ?_
  intro T3 X4
  refine g_alen C X4 P5 d7_8 (q := 9) rfl ?_
  refine g_icY C X4 d7_9 (by decide) (q := 16) (by decide) (by decide) ?_
  refine g_iconst C X4 d7_16 (q := 17) rfl (z := (0 : Int32)) rfl ?_
  exact g_retN C X4 (Or.inl rfl) (z' := (0 : Int32)) (by decide) d7_17 (by decide) (by decide) ⟨_, rfl, rfl, rfl⟩
set_option maxRecDepth 65536 in
set_option maxHeartbeats 40000000 in
theorem rm_checkNotEmpty_13 {l : Launch} {Z : State} {a0 : Array Value} (hw : ∀ d ∈ tables_1, d.before a0 Z = true) {o0 : Addr} {o1 : Addr} {i2 : Int32} {kc3 : ClassId} {x4 : UInt64} {x5 : UInt64} {x6 : UInt64} {x7 : UInt64} {h0 : Heap} {n0 : Nat} (O : Old Z n0 h0)  (P0 : Exa Z h0 o0 "com/example/rondel/rondel/primitive/DoubleRingBuffer") (P1 : Fld Z h0 o0 "com/example/rondel/rondel/primitive/DoubleRingBuffer" "readings" "[D" (.ref o1)) (P2 : Fld Z h0 o0 "com/example/rondel/rondel/primitive/DoubleRingBuffer" "size" "I" (.int (1 : Int32))) (P3 : Fld Z h0 o0 "com/example/rondel/rondel/primitive/DoubleRingBuffer" "head" "I" (.int (0 : Int32))) (P4 : Fld Z h0 o0 "com/example/rondel/rondel/primitive/DoubleRingBuffer" "modCount" "I" (.int i2)) (P5 : Arv Z h0 o1 kc3 .double (4 : Int32) [(.double x4), (.double x5), (.double x6), (.double x7)] (.double 0)) (G0 : n0 ≤ o0) (G1 : n0 ≤ o1) (N0_1 : o0 ≠ o1) :
    Met0 l Z (⟨"com/example/rondel/rondel/primitive/DoubleRingBuffer", "checkNotEmpty", "()V"⟩ : MethodName) prog_11_method_17_code 1 none ({ frames := 0, cells := 0, slots := 0, locals := 0 } : Room) #[(.ref o0)] h0 n0 (fun h => h0 = h) := by
  refine met_of (L := #[.val (.ref o0)]) (plainFor_of_name pn_10) (fun m => by first | (simp [entryFrame, mkF, argsToLocals, Value.category]; done) | rfl) ?_
  intro p e s m below meth c T C X
  change Cx p s m meth c Z "com/example/rondel/rondel/primitive/DoubleRingBuffer" prog_11_method_17_code 1 none "checkNotEmpty" at C
  refine g_aloadN C X d10_0 (q := 1) rfl rfl rfl ?_
  refine g_getF C X (host := "") (Or.inl (w19 hw)) Via.refl P2 d10_1 (q := 4) rfl ?_
  intro T1 X2
  refine g_ifY C X2 d10_4 (by decide) (q := 17) (by decide) (by decide) ?_
  exact g_retV C X2 d10_17 (by decide) (by decide) ⟨rfl, rfl⟩
set_option maxRecDepth 65536 in
set_option maxHeartbeats 40000000 in
theorem rm_getFirst_13 {l : Launch} {Z : State} {a0 : Array Value} (hw : ∀ d ∈ tables_1, d.before a0 Z = true) {o0 : Addr} {o1 : Addr} {i2 : Int32} {kc3 : ClassId} {x4 : UInt64} {x5 : UInt64} {x6 : UInt64} {x7 : UInt64} {h0 : Heap} {n0 : Nat} (O : Old Z n0 h0)  (P0 : Exa Z h0 o0 "com/example/rondel/rondel/primitive/DoubleRingBuffer") (P1 : Fld Z h0 o0 "com/example/rondel/rondel/primitive/DoubleRingBuffer" "readings" "[D" (.ref o1)) (P2 : Fld Z h0 o0 "com/example/rondel/rondel/primitive/DoubleRingBuffer" "size" "I" (.int (1 : Int32))) (P3 : Fld Z h0 o0 "com/example/rondel/rondel/primitive/DoubleRingBuffer" "head" "I" (.int (0 : Int32))) (P4 : Fld Z h0 o0 "com/example/rondel/rondel/primitive/DoubleRingBuffer" "modCount" "I" (.int i2)) (P5 : Arv Z h0 o1 kc3 .double (4 : Int32) [(.double x4), (.double x5), (.double x6), (.double x7)] (.double 0)) (G0 : n0 ≤ o0) (G1 : n0 ≤ o1) (N0_1 : o0 ≠ o1) :
    Met1 l Z (⟨"com/example/rondel/rondel/primitive/DoubleRingBuffer", "getFirst", "()D"⟩ : MethodName) prog_11_method_9_code 1 (some .double) ({ frames := 1, cells := 0, slots := 0, locals := 12 } : Room) #[(.ref o0)] h0 n0 (fun v h => v = (.double x4) ∧ h0 = h) := by
  refine met_of (L := #[.val (.ref o0)]) (plainFor_of_name pn_10) (fun m => by first | (simp [entryFrame, mkF, argsToLocals, Value.category]; done) | rfl) ?_
  intro p e s m below meth c T C X
  change Cx p s m meth c Z "com/example/rondel/rondel/primitive/DoubleRingBuffer" prog_11_method_9_code 1 (some .double) "getFirst" at C
  refine g_aloadN C X d9_0 (q := 1) rfl rfl rfl ?_
  refine g_callP0 C X (y := (⟨"com/example/rondel/rondel/primitive/DoubleRingBuffer", "checkNotEmpty", "()V"⟩ : MethodName)) (a := o0) (by decide) (w52 hw) (sel_priv (w3 hw) (w53 hw) (w54 hw) (by decide)) (w53 hw) (w54 hw) P0 (w55 hw) (w4 hw) (rm_checkNotEmpty_13 hw (o0 := o0) (o1 := o1) (i2 := i2) (kc3 := kc3) (x4 := x4) (x5 := x5) (x6 := x6) (x7 := x7) O P0 P1 P2 P3 P4 P5 G0 G1 N0_1) (W := 0) (by decide) (by decide) (k' := 0) rfl (n' := 0) rfl (by decide) (by decide) rfl pd_104 (argsL := []) rfl (rest := []) rfl rfl rfl d9_1 (q := 4) rfl ?_
  rintro T1 _ X2 rfl
  refine g_aloadN C X2 d9_4 (q := 5) rfl rfl rfl ?_
  refine g_getF C X2 (host := "") (Or.inl (w12 hw)) Via.refl P1 d9_5 (q := 8) rfl ?_
  intro T3 X4
  refine g_aloadN C X4 d9_8 (q := 9) rfl rfl rfl ?_
  refine g_getF C X4 (host := "") (Or.inl (w25 hw)) Via.refl P3 d9_9 (q := 12) rfl ?_
  intro T5 X6
  refine g_daload C X6 P5 (by decide) (w := (.double x4)) rfl d9_12 (q := 13) rfl ?_
  exact g_retD C X6 d9_13 (by decide) (by decide) ⟨_, rfl, rfl, rfl⟩
set_option maxRecDepth 65536 in
set_option maxHeartbeats 40000000 in
theorem rm_next_13 {l : Launch} {Z : State} {a0 : Array Value} (hw : ∀ d ∈ tables_1, d.before a0 Z = true) {o0 : Addr} {o1 : Addr} {i2 : Int32} {kc3 : ClassId} {x4 : UInt64} {x5 : UInt64} {x6 : UInt64} {x7 : UInt64} {h0 : Heap} {n0 : Nat} (O : Old Z n0 h0)  (P0 : Exa Z h0 o0 "com/example/rondel/rondel/primitive/DoubleRingBuffer") (P1 : Fld Z h0 o0 "com/example/rondel/rondel/primitive/DoubleRingBuffer" "readings" "[D" (.ref o1)) (P2 : Fld Z h0 o0 "com/example/rondel/rondel/primitive/DoubleRingBuffer" "size" "I" (.int (1 : Int32))) (P3 : Fld Z h0 o0 "com/example/rondel/rondel/primitive/DoubleRingBuffer" "head" "I" (.int (0 : Int32))) (P4 : Fld Z h0 o0 "com/example/rondel/rondel/primitive/DoubleRingBuffer" "modCount" "I" (.int i2)) (P5 : Arv Z h0 o1 kc3 .double (4 : Int32) [(.double x4), (.double x5), (.double x6), (.double x7)] (.double 0)) (G0 : n0 ≤ o0) (G1 : n0 ≤ o1) (N0_1 : o0 ≠ o1) :
    Met1 l Z (⟨"com/example/rondel/rondel/primitive/DoubleRingBuffer", "next", "(I)I"⟩ : MethodName) prog_11_method_19_code 2 (some .int) ({ frames := 0, cells := 0, slots := 0, locals := 0 } : Room) #[(.ref o0), (.int (0 : Int32))] h0 n0 (fun v h => v = (.int (1 : Int32)) ∧ h0 = h) := by
  refine met_of (L := #[.val (.ref o0), .val (.int (0 : Int32))]) (plainFor_of_name pn_10) (fun m => by first | (simp [entryFrame, mkF, argsToLocals, Value.category]; done) | rfl) ?_
  intro p e s m below meth c T C X
  change Cx p s m meth c Z "com/example/rondel/rondel/primitive/DoubleRingBuffer" prog_11_method_19_code 2 (some .int) "next" at C
  refine g_iloadN C X d5_0 (q := 1) rfl rfl ?_
  refine g_aloadN C X d5_1 (q := 2) rfl rfl rfl ?_
  refine g_getF C X (host := "") (Or.inl (w12 hw)) Via.refl P1 d5_2 (q := 5) rfl ?_
  intro T1 X2
  refine g_alen C X2 P5 d5_5 (q := 6) rfl ?_
  refine g_iconst C X2 d5_6 (q := 7) rfl (z := (1 : Int32)) rfl ?_
  refine g_isub C X2 d5_7 (q := 8) rfl (z := (3 : Int32)) (by decide) ?_
  refine g_icY C X2 d5_8 (by decide) (q := 15) (by decide) (by decide) ?_
  refine g_iloadN C X2 d5_15 (q := 16) rfl rfl ?_
  refine g_iconst C X2 d5_16 (q := 17) rfl (z := (1 : Int32)) rfl ?_
  refine g_iadd C X2 d5_17 (q := 18) rfl (z := (1 : Int32)) (by decide) ?_
  exact g_retI C X2 d5_18 (by decide) (by decide) ⟨_, rfl, rfl, rfl⟩
set_option maxRecDepth 65536 in
set_option maxHeartbeats 40000000 in
theorem rm_removeFirst_13 {l : Launch} {Z : State} {a0 : Array Value} (hw : ∀ d ∈ tables_1, d.before a0 Z = true) {o0 : Addr} {o1 : Addr} {i2 : Int32} {kc3 : ClassId} {x4 : UInt64} {x5 : UInt64} {x6 : UInt64} {x7 : UInt64} {h0 : Heap} {n0 : Nat} (O : Old Z n0 h0)  (P0 : Exa Z h0 o0 "com/example/rondel/rondel/primitive/DoubleRingBuffer") (P1 : Fld Z h0 o0 "com/example/rondel/rondel/primitive/DoubleRingBuffer" "readings" "[D" (.ref o1)) (P2 : Fld Z h0 o0 "com/example/rondel/rondel/primitive/DoubleRingBuffer" "size" "I" (.int (1 : Int32))) (P3 : Fld Z h0 o0 "com/example/rondel/rondel/primitive/DoubleRingBuffer" "head" "I" (.int (0 : Int32))) (P4 : Fld Z h0 o0 "com/example/rondel/rondel/primitive/DoubleRingBuffer" "modCount" "I" (.int i2)) (P5 : Arv Z h0 o1 kc3 .double (4 : Int32) [(.double x4), (.double x5), (.double x6), (.double x7)] (.double 0)) (G0 : n0 ≤ o0) (G1 : n0 ≤ o1) (N0_1 : o0 ≠ o1) :
    Met1 l Z (⟨"com/example/rondel/rondel/primitive/DoubleRingBuffer", "removeFirst", "()D"⟩ : MethodName) prog_11_method_7_code 3 (some .double) ({ frames := 2, cells := 0, slots := 0, locals := 24 } : Room) #[(.ref o0)] h0 n0 (fun v h => v = (.double x4) ∧ Keep h0 h [o0] ∧ Exa Z h o0 "com/example/rondel/rondel/primitive/DoubleRingBuffer" ∧ Fld Z h o0 "com/example/rondel/rondel/primitive/DoubleRingBuffer" "readings" "[D" (.ref o1) ∧ Fld Z h o0 "com/example/rondel/rondel/primitive/DoubleRingBuffer" "size" "I" (.int (0 : Int32)) ∧ Fld Z h o0 "com/example/rondel/rondel/primitive/DoubleRingBuffer" "head" "I" (.int (1 : Int32)) ∧ Fld Z h o0 "com/example/rondel/rondel/primitive/DoubleRingBuffer" "modCount" "I" (.int (i2 + (1 : Int32)))) := by
  refine met_of (L := #[.val (.ref o0), .unset, .unset]) (plainFor_of_name pn_10) (fun m => by first | (simp [entryFrame, mkF, argsToLocals, Value.category]; done) | rfl) ?_
  intro p e s m below meth c T C X
  change Cx p s m meth c Z "com/example/rondel/rondel/primitive/DoubleRingBuffer" prog_11_method_7_code 3 (some .double) "removeFirst" at C
  refine g_aloadN C X d8_0 (q := 1) rfl rfl rfl ?_
  refine g_callV1 C X (y := (⟨"com/example/rondel/rondel/primitive/DoubleRingBuffer", "getFirst", "()D"⟩ : MethodName)) (z := (⟨"com/example/rondel/rondel/primitive/DoubleRingBuffer", "getFirst", "()D"⟩ : MethodName)) (a := o0) (by decide) (w47 hw) (w48 hw) (w50 hw) (w49 hw) (nf_sel (w50 hw)) P0 (w51 hw) (w4 hw) (rm_getFirst_13 hw (o0 := o0) (o1 := o1) (i2 := i2) (kc3 := kc3) (x4 := x4) (x5 := x5) (x6 := x6) (x7 := x7) O P0 P1 P2 P3 P4 P5 G0 G1 N0_1) (W := 0) (by decide) (by decide) (k' := 0) rfl (n' := 0) rfl (by decide) (by decide) rfl pd_111 (argsL := []) rfl (rest := []) rfl rfl rfl d8_1 (q := 4) rfl ?_
  rintro _ T1 _ X2 ⟨rfl, rfl⟩
  refine g_dstoreN C X2 d8_4 (q := 5) rfl (L' := #[.val (.ref o0), .val (.double x4), .second]) rfl ?_
  refine g_aloadN C X2 d8_5 (q := 6) rfl rfl rfl ?_
  refine g_aloadN C X2 d8_6 (q := 7) rfl rfl rfl ?_
  refine g_aloadN C X2 d8_7 (q := 8) rfl rfl rfl ?_
  refine g_getF C X2 (host := "") (Or.inl (w25 hw)) Via.refl P3 d8_8 (q := 11) rfl ?_
  intro T3 X4
  refine g_callP1 C X4 (y := (⟨"com/example/rondel/rondel/primitive/DoubleRingBuffer", "next", "(I)I"⟩ : MethodName)) (a := o0) (by decide) (w29 hw) (sel_priv (w3 hw) (w30 hw) (w31 hw) (by decide)) (w30 hw) (w31 hw) P0 (w32 hw) (w4 hw) (rm_next_13 hw (o0 := o0) (o1 := o1) (i2 := i2) (kc3 := kc3) (x4 := x4) (x5 := x5) (x6 := x6) (x7 := x7) O P0 P1 P2 P3 P4 P5 G0 G1 N0_1) (W := 1) (by decide) (by decide) (k' := 0) rfl (n' := 0) rfl (by decide) (by decide) rfl pd_40 (argsL := [(.int (0 : Int32))]) rfl (rest := [(.ref o0)]) rfl rfl rfl d8_11 (q := 14) rfl ?_
  rintro _ T5 _ X6 ⟨rfl, rfl⟩
  refine g_putF C X6 (host := "") (Or.inl (w25 hw)) Via.refl P3 P0 (Or.inl (w26 hw)) (w3 hw) (ty := .int) (by decide) rfl rfl d8_14 (q := 17) rfl G0 ?_
  intro T7 h9 X8 W10
  have FW10 := Fld.same W10 P3
  have O11 := O.wr W10 G0
  refine g_aloadN C X8 d8_17 (q := 18) rfl rfl rfl ?_
  refine g_dup C X8 d8_18 (q := 19) rfl rfl ?_
  have f12 := (P2.other W10 (Or.inr (slot_ne (Or.inl (w20 hw)) (Or.inl (w26 hw)) (by decide) (t := .int) (t' := .int) (by decide) (by decide))))
  refine g_getF C X8 (host := "") (Or.inl (w19 hw)) Via.refl f12 d8_19 (q := 22) rfl ?_
  intro T13 X14
  refine g_iconst C X14 d8_22 (q := 23) rfl (z := (1 : Int32)) rfl ?_
  refine g_isub C X14 d8_23 (q := 24) rfl (z := (0 : Int32)) (by decide) ?_
  have f15 := (P0.wr W10)
  refine g_putF C X14 (host := "") (Or.inl (w19 hw)) Via.refl f12 f15 (Or.inl (w20 hw)) (w3 hw) (ty := .int) (by decide) rfl rfl d8_24 (q := 27) rfl G0 ?_
  intro T16 h18 X17 W19
  have FW19 := Fld.same W19 f12
  have O20 := O11.wr W19 G0
  refine g_aloadN C X17 d8_27 (q := 28) rfl rfl rfl ?_
  refine g_dup C X17 d8_28 (q := 29) rfl rfl ?_
  have f21 := ((P4.other W10 (Or.inr (slot_ne (Or.inl (w28 hw)) (Or.inl (w26 hw)) (by decide) (t := .int) (t' := .int) (by decide) (by decide)))).other W19 (Or.inr (slot_ne (Or.inl (w28 hw)) (Or.inl (w20 hw)) (by decide) (t := .int) (t' := .int) (by decide) (by decide))))
  refine g_getF C X17 (host := "") (Or.inl (w27 hw)) Via.refl f21 d8_29 (q := 32) rfl ?_
  intro T22 X23
  refine g_iconst C X23 d8_32 (q := 33) rfl (z := (1 : Int32)) rfl ?_
  refine g_iadd C X23 d8_33 (q := 34) rfl (z := (i2 + (1 : Int32))) rfl ?_
  have f24 := (f15.wr W19)
  refine g_putF C X23 (host := "") (Or.inl (w27 hw)) Via.refl f21 f24 (Or.inl (w28 hw)) (w3 hw) (ty := .int) (by decide) rfl rfl d8_34 (q := 37) rfl G0 ?_
  intro T25 h27 X26 W28
  have FW28 := Fld.same W28 f21
  have O29 := O20.wr W28 G0
  refine g_dloadN C X26 d8_37 (q := 38) rfl rfl ?_
  exact g_retD C X26 d8_38 (by decide) (by decide) ⟨_, rfl, rfl, ((((Keep.refl h0 [o0]).wr W10 (Or.inl (List.mem_of_getElem? (i := 0) rfl))).wr W19 (Or.inl (List.mem_of_getElem? (i := 0) rfl))).wr W28 (Or.inl (List.mem_of_getElem? (i := 0) rfl))), (f24.wr W28), (((P1.other W10 (Or.inr (slot_ne (Or.inr (w13 hw)) (Or.inl (w26 hw)) (by decide) (t := (.array .double)) (t' := .int) (by decide) (by decide)))).other W19 (Or.inr (slot_ne (Or.inr (w13 hw)) (Or.inl (w20 hw)) (by decide) (t := (.array .double)) (t' := .int) (by decide) (by decide)))).other W28 (Or.inr (slot_ne (Or.inr (w13 hw)) (Or.inl (w28 hw)) (by decide) (t := (.array .double)) (t' := .int) (by decide) (by decide)))), (FW19.other W28 (Or.inr (slot_ne (Or.inl (w20 hw)) (Or.inl (w28 hw)) (by decide) (t := .int) (t' := .int) (by decide) (by decide)))), ((FW10.other W19 (Or.inr (slot_ne (Or.inl (w26 hw)) (Or.inl (w20 hw)) (by decide) (t := .int) (t' := .int) (by decide) (by decide)))).other W28 (Or.inr (slot_ne (Or.inl (w26 hw)) (Or.inl (w28 hw)) (by decide) (t := .int) (t' := .int) (by decide) (by decide)))), FW28⟩
set_option maxRecDepth 65536 in
set_option maxHeartbeats 40000000 in
theorem rm_isFull_27 {l : Launch} {Z : State} {a0 : Array Value} (hw : ∀ d ∈ tables_1, d.before a0 Z = true) {o0 : Addr} {o1 : Addr} {i2 : Int32} {kc3 : ClassId} {x4 : UInt64} {x5 : UInt64} {x6 : UInt64} {x7 : UInt64} {h0 : Heap} {n0 : Nat} (O : Old Z n0 h0)  (P0 : Exa Z h0 o0 "com/example/rondel/rondel/primitive/DoubleRingBuffer") (P1 : Fld Z h0 o0 "com/example/rondel/rondel/primitive/DoubleRingBuffer" "readings" "[D" (.ref o1)) (P2 : Fld Z h0 o0 "com/example/rondel/rondel/primitive/DoubleRingBuffer" "size" "I" (.int (0 : Int32))) (P3 : Fld Z h0 o0 "com/example/rondel/rondel/primitive/DoubleRingBuffer" "head" "I" (.int (1 : Int32))) (P4 : Fld Z h0 o0 "com/example/rondel/rondel/primitive/DoubleRingBuffer" "modCount" "I" (.int i2)) (P5 : Arv Z h0 o1 kc3 .double (4 : Int32) [(.double x4), (.double x5), (.double x6), (.double x7)] (.double 0)) (G0 : n0 ≤ o0) (G1 : n0 ≤ o1) (N0_1 : o0 ≠ o1) :
    Met1 l Z (⟨"com/example/rondel/rondel/primitive/DoubleRingBuffer", "isFull", "()Z"⟩ : MethodName) prog_11_method_5_code 1 (some .boolean) ({ frames := 0, cells := 0, slots := 0, locals := 0 } : Room) #[(.ref o0)] h0 n0 (fun v h => v = (.int (0 : Int32)) ∧ h0 = h) := by
  refine met_of (L := #[.val (.ref o0)]) (plainFor_of_name pn_10) (fun m => by first | (simp [entryFrame, mkF, argsToLocals, Value.category]; done) | rfl) ?_
  intro p e s m below meth c T C X
  change Cx p s m meth c Z "com/example/rondel/rondel/primitive/DoubleRingBuffer" prog_11_method_5_code 1 (some .boolean) "isFull" at C
  refine g_aloadN C X d7_0 (q := 1) rfl rfl rfl ?_
  refine g_getF C X (host := "") (Or.inl (w19 hw)) Via.refl P2 d7_1 (q := 4) rfl ?_
  intro T1 X2
  refine g_aloadN C X2 d7_4 (q := 5) rfl rfl rfl ?_
  refine g_getF C X2 (host := "") (Or.inl (w12 hw)) Via.refl P1 d7_5 (q := 8) rfl ?_
  intro T3 X4
  refine g_alen C X4 P5 d7_8 (q := 9) rfl ?_
  refine g_icY C X4 d7_9 (by decide) (q := 16) (by decide) (by decide) ?_
  refine g_iconst C X4 d7_16 (q := 17) rfl (z := (0 : Int32)) rfl ?_
  exact g_retN C X4 (Or.inl rfl) (z' := (0 : Int32)) (by decide) d7_17 (by decide) (by decide) ⟨_, rfl, rfl, rfl⟩
set_option maxRecDepth 65536 in
set_option maxHeartbeats 40000000 in
theorem rm_min_23 {l : Launch} {Z : State} {a0 : Array Value} (hw : ∀ d ∈ tables_1, d.before a0 Z = true)  {h0 : Heap} {n0 : Nat} (O : Old Z n0 h0)  :
    Met1 l Z (⟨"java/lang/Math", "min", "(II)I"⟩ : MethodName) jdk_29_method_69_code 2 (some .int) ({ frames := 0, cells := 0, slots := 0, locals := 0 } : Room) #[(.int (0 : Int32)), (.int (4 : Int32))] h0 n0 (fun v h => v = (.int (0 : Int32)) ∧ h0 = h) := by
  refine met_of (L := #[.val (.int (0 : Int32)), .val (.int (4 : Int32))]) (Jvm.Free.JP.mathPlain rfl (by decide +kernel)) (fun m => by first | (simp [entryFrame, mkF, argsToLocals, Value.category]; done) | rfl) ?_
  intro p e s m below meth c T C X
  change Cx p s m meth c Z "java/lang/Math" jdk_29_method_69_code 2 (some .int) "min" at C
  refine g_iloadN C X d6_0 (q := 1) rfl rfl ?_
  refine g_iloadN C X d6_1 (q := 2) rfl rfl ?_
  refine g_icN C X d6_2 (q := 5) rfl (by decide) ?_
  refine g_iloadN C X d6_5 (q := 6) rfl rfl ?_
  refine g_goto C X d6_6 (by decide) (q := 10) (by decide) ?_
  exact g_retI C X d6_10 (by decide) (by decide) ⟨_, rfl, rfl, rfl⟩
set_option maxRecDepth 65536 in
set_option maxHeartbeats 40000000 in
theorem rm_isFull_28 {l : Launch} {Z : State} {a0 : Array Value} (hw : ∀ d ∈ tables_1, d.before a0 Z = true) {o0 : Addr} {o1 : Addr} {i2 : Int32} {kc3 : ClassId} {x4 : UInt64} {x5 : UInt64} {x6 : UInt64} {x7 : UInt64} {h0 : Heap} {n0 : Nat} (O : Old Z n0 h0)  (P0 : Exa Z h0 o0 "com/example/rondel/rondel/primitive/DoubleRingBuffer") (P1 : Fld Z h0 o0 "com/example/rondel/rondel/primitive/DoubleRingBuffer" "readings" "[D" (.ref o1)) (P2 : Fld Z h0 o0 "com/example/rondel/rondel/primitive/DoubleRingBuffer" "size" "I" (.int (0 : Int32))) (P3 : Fld Z h0 o0 "com/example/rondel/rondel/primitive/DoubleRingBuffer" "head" "I" (.int (0 : Int32))) (P4 : Fld Z h0 o0 "com/example/rondel/rondel/primitive/DoubleRingBuffer" "modCount" "I" (.int i2)) (P5 : Arv Z h0 o1 kc3 .double (4 : Int32) [(.double x4), (.double x5), (.double x6), (.double x7)] (.double 0)) (G0 : n0 ≤ o0) (G1 : n0 ≤ o1) (N0_1 : o0 ≠ o1) :
    Met1 l Z (⟨"com/example/rondel/rondel/primitive/DoubleRingBuffer", "isFull", "()Z"⟩ : MethodName) prog_11_method_5_code 1 (some .boolean) ({ frames := 0, cells := 0, slots := 0, locals := 0 } : Room) #[(.ref o0)] h0 n0 (fun v h => v = (.int (0 : Int32)) ∧ h0 = h) := by
  refine met_of (L := #[.val (.ref o0)]) (plainFor_of_name pn_10) (fun m => by first | (simp [entryFrame, mkF, argsToLocals, Value.category]; done) | rfl) ?_
  intro p e s m below meth c T C X
  change Cx p s m meth c Z "com/example/rondel/rondel/primitive/DoubleRingBuffer" prog_11_method_5_code 1 (some .boolean) "isFull" at C
  refine g_aloadN C X d7_0 (q := 1) rfl rfl rfl ?_
  refine g_getF C X (host := "") (Or.inl (w19 hw)) Via.refl P2 d7_1 (q := 4) rfl ?_
  intro T1 X2
  refine g_aloadN C X2 d7_4 (q := 5) rfl rfl rfl ?_
  refine g_getF C X2 (host := "") (Or.inl (w12 hw)) Via.refl P1 d7_5 (q := 8) rfl ?_
  intro T3 X4
  refine g_alen C X4 P5 d7_8 (q := 9) rfl ?_
  refine g_icY C X4 d7_9 (by decide) (q := 16) (by decide) (by decide) ?_
  refine g_iconst C X4 d7_16 (q := 17) rfl (z := (0 : Int32)) rfl ?_
  exact g_retN C X4 (Or.inl rfl) (z' := (0 : Int32)) (by decide) d7_17 (by decide) (by decide) ⟨_, rfl, rfl, rfl⟩
set_option maxRecDepth 65536 in
set_option maxHeartbeats 40000000 in
theorem rmLaw {l : Launch} {Z : State} {a0 : Array Value} (hw : ∀ d ∈ tables_1, d.before a0 Z = true) {p0 p1 p2 p3 : Int32} {h0 : Heap} {n0 : Nat} (O : Old Z n0 h0)  :
    Met1 l Z x code maxLocals ret room_1 #[(.int p0), (.int p1), (.int p2), (.int p3)] h0 n0 (fun v h => v = .int 1 ∧ True) := by
  refine met_of (L := #[.val (.int p0), .val (.int p1), .val (.int p2), .val (.int p3), .unset, .unset, .unset, .unset, .unset, .unset, .unset]) (plainFor_of_name pn_139) (fun m => by first | (simp [entryFrame, mkF, argsToLocals, Value.category, maxLocals]; done) | rfl) ?_
  intro p e s m below meth c T C X
  change Cx p s m meth c Z "com/example/rondel/rondel/primitive/DoubleRingBufferIsFullPinLaw" code 11 (some .boolean) "law" at C
  change Goes p e below (FinN _ s n0 16 128) _
  rcases own_and3 p0 with hk | hk | hk | hk
  · refine g_iconst C X at_0 (q := 1) rfl (z := (1 : Int32)) rfl ?_
    refine g_iloadN C X at_1 (q := 2) rfl rfl ?_
    refine g_iconst C X at_2 (q := 3) rfl (z := (3 : Int32)) rfl ?_
    refine g_iand C X at_3 (q := 4) rfl (z := (0 : Int32)) hk ?_
    refine g_iadd C X at_4 (q := 5) rfl (z := (1 : Int32)) (by decide) ?_
    refine g_istore C X at_5 (q := 7) rfl (L' := #[.val (.int p0), .val (.int p1), .val (.int p2), .val (.int p3), .val (.int (1 : Int32)), .unset, .unset, .unset, .unset, .unset, .unset]) rfl ?_
    refine g_iloadN C X at_7 (q := 8) rfl rfl ?_
    refine g_ldcI C X (w0 hw) at_8 (q := 10) rfl ?_
    obtain ⟨v1, ev1⟩ : ∃ z, (p1 &&& (2147483647 : Int32)) = z := ⟨_, rfl⟩
    have hl2 : 0 ≤ v1.toInt := by rw [← ev1]; exact (c_and p1 (2147483647 : Int32) (by decide)).1
    have hh3 : v1.toInt ≤ 2147483647 := by rw [← ev1]; exact (c_and p1 (2147483647 : Int32) (by decide)).2
    refine g_iand C X at_10 (q := 11) rfl (z := v1) ev1 ?_
    refine g_bipush C X at_11 (q := 13) rfl (z := (6 : Int32)) rfl ?_
    obtain ⟨v4, ev4⟩ : ∃ z, (v1 % (6 : Int32)) = z := ⟨_, rfl⟩
    have hl5 : 0 ≤ v4.toInt := by rw [← ev4]; exact (own_rem (y := (6 : Int32)) (d := 5) (by decide) (by decide) (Int.le_trans (by decide) hl2)).1
    have hh6 : v4.toInt ≤ 5 := by rw [← ev4]; exact (own_rem (y := (6 : Int32)) (d := 5) (by decide) (by decide) (Int.le_trans (by decide) hl2)).2
    refine g_irem C X at_13 (q := 14) rfl (by decide) (z := v4) ev4 ?_
    refine g_istore C X at_14 (q := 16) rfl (L' := #[.val (.int p0), .val (.int p1), .val (.int p2), .val (.int p3), .val (.int (1 : Int32)), .val (.int v4), .unset, .unset, .unset, .unset, .unset]) rfl ?_
    refine g_iloadN C X at_16 (q := 17) rfl rfl ?_
    refine g_iconst C X at_17 (q := 18) rfl (z := (1 : Int32)) rfl ?_
    obtain ⟨v7, ev7⟩ : ∃ z, (p2 &&& (1 : Int32)) = z := ⟨_, rfl⟩
    have hl8 : 0 ≤ v7.toInt := by rw [← ev7]; exact (c_and p2 (1 : Int32) (by decide)).1
    have hh9 : v7.toInt ≤ 1 := by rw [← ev7]; exact (c_and p2 (1 : Int32) (by decide)).2
    refine g_iand C X at_18 (q := 19) rfl (z := v7) ev7 ?_
    refine g_boolF C X at_19 at_22 at_23 at_26 (q := 27) rfl ?_
    intro bz10 hz11 hz12
    refine g_istore C X at_27 (q := 29) rfl (L' := #[.val (.int p0), .val (.int p1), .val (.int p2), .val (.int p3), .val (.int (1 : Int32)), .val (.int v4), .val (.int bz10), .unset, .unset, .unset, .unset]) rfl ?_
    refine g_iloadN C X at_29 (q := 30) rfl rfl ?_
    refine g_ldcI C X (w1 hw) at_30 (q := 32) rfl ?_
    obtain ⟨v13, ev13⟩ : ∃ z, (p3 &&& (65535 : Int32)) = z := ⟨_, rfl⟩
    have hl14 : 0 ≤ v13.toInt := by rw [← ev13]; exact (c_and p3 (65535 : Int32) (by decide)).1
    have hh15 : v13.toInt ≤ 65535 := by rw [← ev13]; exact (c_and p3 (65535 : Int32) (by decide)).2
    refine g_iand C X at_32 (q := 33) rfl (z := v13) ev13 ?_
    obtain ⟨x16, ex16⟩ : ∃ z, (FP.i2d v13) = z := ⟨_, rfl⟩
    refine g_i2d C X at_33 (q := 34) rfl (z := x16) ex16 ?_
    refine g_dstore C X at_34 (q := 36) rfl (L' := #[.val (.int p0), .val (.int p1), .val (.int p2), .val (.int p3), .val (.int (1 : Int32)), .val (.int v4), .val (.int bz10), .val (.double x16), .second, .unset, .unset]) rfl ?_
    refine g_new C X (w2 hw) (w3 hw) (w4 hw) at_36 (q := 39) rfl (k' := 1) rfl (n' := 4) rfl (by decide) (by decide) ?_
    intro T18 h19 b17 g21 X20 E22 A23 D24
    have ge25 : n0 ≤ b17 := own_ge O g21
    have O26 := O.ext E22
    have f27 : Fld Z h19 b17 "com/example/rondel/rondel/primitive/DoubleRingBuffer" "readings" "[D" .null := D24 (Or.inr (w13 hw)) (ty := (.array .double)) (by decide)
    have f28 : Fld Z h19 b17 "com/example/rondel/rondel/primitive/DoubleRingBuffer" "size" "I" (.int (0 : Int32)) := D24 (Or.inl (w20 hw)) (ty := .int) (by decide)
    have f29 : Fld Z h19 b17 "com/example/rondel/rondel/primitive/DoubleRingBuffer" "head" "I" (.int (0 : Int32)) := D24 (Or.inl (w26 hw)) (ty := .int) (by decide)
    have f30 : Fld Z h19 b17 "com/example/rondel/rondel/primitive/DoubleRingBuffer" "modCount" "I" (.int (0 : Int32)) := D24 (Or.inl (w28 hw)) (ty := .int) (by decide)
    refine g_dup C X20 at_39 (q := 40) rfl rfl ?_
    refine g_iload C X20 at_40 (q := 42) rfl rfl ?_
    refine g_callI0 C X20 (y := (⟨"com/example/rondel/rondel/primitive/DoubleRingBuffer", "<init>", "(I)V"⟩ : MethodName)) (a := b17) (by decide) rfl (w5 hw) (w6 hw) (w7 hw) (w4 hw) (rm_init_0 hw (o0 := b17) (i1 := (0 : Int32)) O26 A23 f27 f28 f29 f30 ge25) (W := 1) (by decide) (by decide) (k' := 2) rfl (n' := 5) rfl (by decide) (by decide) rfl pd_11 (argsL := [(.int (1 : Int32))]) rfl (rest := [(.ref b17)]) rfl rfl rfl at_42 (q := 45) rfl ?_
    rintro T31 h33 X32 ⟨b35, kA38, K34, ge36, sz37, f39, f40, f41, f42, f43, f44⟩
    have O45 := O26.keep K34 (allS ge25 all0)
    refine g_astore C X32 at_45 (q := 47) rfl rfl (L' := #[.val (.int p0), .val (.int p1), .val (.int p2), .val (.int p3), .val (.int (1 : Int32)), .val (.int v4), .val (.int bz10), .val (.double x16), .second, .val (.ref b17), .unset]) rfl ?_
    refine g_iload C X32 at_47 (q := 49) rfl rfl ?_
    by_cases hc46 : (0 : Int32) < v4
    · refine g_ifN C X32 at_49 (q := 52) rfl (tlt hc46).2.2.2 ?_
      have hr47 : 1 ≤ v4.toInt := own_f3 hc46 (by decide)
      refine g_aload C X32 at_52 (q := 54) rfl rfl rfl ?_
      refine g_dload C X32 at_54 (q := 56) rfl rfl ?_
      refine g_callV0 C X32 (y := (⟨"com/example/rondel/rondel/primitive/DoubleRingBuffer", "add", "(D)V"⟩ : MethodName)) (z := (⟨"com/example/rondel/rondel/primitive/DoubleRingBuffer", "add", "(D)V"⟩ : MethodName)) (a := b17) (by decide) (w14 hw) (w15 hw) (w17 hw) (w16 hw) (nf_sel (w17 hw)) f39 (w18 hw) (w4 hw) (rm_add_0 hw (o0 := b17) (o1 := b35) (i2 := (0 : Int32)) (kc3 := kA38) (x4 := 0) (x5 := x16) O45 f39 f40 f41 f42 f43 f44 ge25 ge36 (Nat.ne_of_lt (Nat.lt_of_lt_of_le A23.lt sz37))) (W := 0) (by decide) (by decide) (k' := 2) rfl (n' := 5) rfl (by decide) (by decide) rfl pd_56 (argsL := [(.double x16)]) rfl (rest := []) rfl rfl rfl at_56 (q := 59) rfl ?_
      rintro T48 h50 X49 ⟨K51, f52, f53, f54, f55, f56, f57⟩
      have O58 := O45.keep K51 (allS ge36 (allS ge25 all0))
      refine g_iload C X49 at_59 (q := 61) rfl rfl ?_
      refine g_iconst C X49 at_61 (q := 62) rfl (z := (1 : Int32)) rfl ?_
      by_cases hc59 : (1 : Int32) < v4
      · refine g_icN C X49 at_62 (q := 65) rfl (tlt hc59).2.2.2 ?_
        have hr60 : 2 ≤ v4.toInt := own_f3 hc59 (by decide)
        refine g_aload C X49 at_65 (q := 67) rfl rfl rfl ?_
        refine g_dload C X49 at_67 (q := 69) rfl rfl ?_
        refine g_callV0 C X49 (y := (⟨"com/example/rondel/rondel/primitive/DoubleRingBuffer", "add", "(D)V"⟩ : MethodName)) (z := (⟨"com/example/rondel/rondel/primitive/DoubleRingBuffer", "add", "(D)V"⟩ : MethodName)) (a := b17) (by decide) (w14 hw) (w15 hw) (w17 hw) (w16 hw) (nf_sel (w17 hw)) f52 (w18 hw) (w4 hw) (rm_add_1 hw (o0 := b17) (o1 := b35) (i2 := ((0 : Int32) + (1 : Int32))) (kc3 := kA38) (x4 := x16) (x5 := x16) O58 f52 f53 f54 f55 f56 f57 ge25 ge36 (Nat.ne_of_lt (Nat.lt_of_lt_of_le A23.lt sz37))) (W := 0) (by decide) (by decide) (k' := 2) rfl (n' := 5) rfl (by decide) (by decide) rfl pd_56 (argsL := [(.double x16)]) rfl (rest := []) rfl rfl rfl at_69 (q := 72) rfl ?_
        rintro T61 h63 X62 ⟨K64, f65, f66, f67, f68, f69, f70⟩
        have O71 := O58.keep K64 (allS ge36 (allS ge25 all0))
        refine g_iload C X62 at_72 (q := 74) rfl rfl ?_
        refine g_iconst C X62 at_74 (q := 75) rfl (z := (2 : Int32)) rfl ?_
        by_cases hc72 : (2 : Int32) < v4
        · refine g_icN C X62 at_75 (q := 78) rfl (tlt hc72).2.2.2 ?_
          have hr73 : 3 ≤ v4.toInt := own_f3 hc72 (by decide)
          refine g_aload C X62 at_78 (q := 80) rfl rfl rfl ?_
          refine g_dload C X62 at_80 (q := 82) rfl rfl ?_
          refine g_callV0 C X62 (y := (⟨"com/example/rondel/rondel/primitive/DoubleRingBuffer", "add", "(D)V"⟩ : MethodName)) (z := (⟨"com/example/rondel/rondel/primitive/DoubleRingBuffer", "add", "(D)V"⟩ : MethodName)) (a := b17) (by decide) (w14 hw) (w15 hw) (w17 hw) (w16 hw) (nf_sel (w17 hw)) f65 (w18 hw) (w4 hw) (rm_add_1 hw (o0 := b17) (o1 := b35) (i2 := (((0 : Int32) + (1 : Int32)) + (1 : Int32))) (kc3 := kA38) (x4 := x16) (x5 := x16) O71 f65 f66 f67 f68 f69 f70 ge25 ge36 (Nat.ne_of_lt (Nat.lt_of_lt_of_le A23.lt sz37))) (W := 0) (by decide) (by decide) (k' := 2) rfl (n' := 5) rfl (by decide) (by decide) rfl pd_56 (argsL := [(.double x16)]) rfl (rest := []) rfl rfl rfl at_82 (q := 85) rfl ?_
          rintro T74 h76 X75 ⟨K77, f78, f79, f80, f81, f82, f83⟩
          have O84 := O71.keep K77 (allS ge36 (allS ge25 all0))
          refine g_iload C X75 at_85 (q := 87) rfl rfl ?_
          refine g_iconst C X75 at_87 (q := 88) rfl (z := (3 : Int32)) rfl ?_
          by_cases hc85 : (3 : Int32) < v4
          · refine g_icN C X75 at_88 (q := 91) rfl (tlt hc85).2.2.2 ?_
            have hr86 : 4 ≤ v4.toInt := own_f3 hc85 (by decide)
            refine g_aload C X75 at_91 (q := 93) rfl rfl rfl ?_
            refine g_dload C X75 at_93 (q := 95) rfl rfl ?_
            refine g_callV0 C X75 (y := (⟨"com/example/rondel/rondel/primitive/DoubleRingBuffer", "add", "(D)V"⟩ : MethodName)) (z := (⟨"com/example/rondel/rondel/primitive/DoubleRingBuffer", "add", "(D)V"⟩ : MethodName)) (a := b17) (by decide) (w14 hw) (w15 hw) (w17 hw) (w16 hw) (nf_sel (w17 hw)) f78 (w18 hw) (w4 hw) (rm_add_1 hw (o0 := b17) (o1 := b35) (i2 := ((((0 : Int32) + (1 : Int32)) + (1 : Int32)) + (1 : Int32))) (kc3 := kA38) (x4 := x16) (x5 := x16) O84 f78 f79 f80 f81 f82 f83 ge25 ge36 (Nat.ne_of_lt (Nat.lt_of_lt_of_le A23.lt sz37))) (W := 0) (by decide) (by decide) (k' := 2) rfl (n' := 5) rfl (by decide) (by decide) rfl pd_56 (argsL := [(.double x16)]) rfl (rest := []) rfl rfl rfl at_95 (q := 98) rfl ?_
            rintro T87 h89 X88 ⟨K90, f91, f92, f93, f94, f95, f96⟩
            have O97 := O84.keep K90 (allS ge36 (allS ge25 all0))
            refine g_iload C X88 at_98 (q := 100) rfl rfl ?_
            refine g_iconst C X88 at_100 (q := 101) rfl (z := (4 : Int32)) rfl ?_
            by_cases hc98 : (4 : Int32) < v4
            · refine g_icN C X88 at_101 (q := 104) rfl (tlt hc98).2.2.2 ?_
              have hr99 : 5 ≤ v4.toInt := own_f3 hc98 (by decide)
              obtain rfl : v4 = (5 : Int32) := own_f0 hr99 hh6 (by decide)
              refine g_aload C X88 at_104 (q := 106) rfl rfl rfl ?_
              refine g_dload C X88 at_106 (q := 108) rfl rfl ?_
              refine g_callV0 C X88 (y := (⟨"com/example/rondel/rondel/primitive/DoubleRingBuffer", "add", "(D)V"⟩ : MethodName)) (z := (⟨"com/example/rondel/rondel/primitive/DoubleRingBuffer", "add", "(D)V"⟩ : MethodName)) (a := b17) (by decide) (w14 hw) (w15 hw) (w17 hw) (w16 hw) (nf_sel (w17 hw)) f91 (w18 hw) (w4 hw) (rm_add_1 hw (o0 := b17) (o1 := b35) (i2 := (((((0 : Int32) + (1 : Int32)) + (1 : Int32)) + (1 : Int32)) + (1 : Int32))) (kc3 := kA38) (x4 := x16) (x5 := x16) O97 f91 f92 f93 f94 f95 f96 ge25 ge36 (Nat.ne_of_lt (Nat.lt_of_lt_of_le A23.lt sz37))) (W := 0) (by decide) (by decide) (k' := 2) rfl (n' := 5) rfl (by decide) (by decide) rfl pd_56 (argsL := [(.double x16)]) rfl (rest := []) rfl rfl rfl at_108 (q := 111) rfl ?_
              rintro T100 h102 X101 ⟨K103, f104, f105, f106, f107, f108, f109⟩
              have O110 := O97.keep K103 (allS ge36 (allS ge25 all0))
              refine g_iload C X101 at_111 (q := 113) rfl rfl ?_
              refine g_iload C X101 at_113 (q := 115) rfl rfl ?_
              refine g_callS1 C X101 (y := (⟨"java/lang/Math", "min", "(II)I"⟩ : MethodName)) (by decide) (w33 hw) (w34 hw) (w36 hw) (w35 hw) (rm_min_0 hw  O110 ) (W := 0) (by decide) (by decide) (k' := 2) rfl (n' := 5) rfl (by decide) (by decide) rfl pd_85 (argsL := [(.int (5 : Int32)), (.int (1 : Int32))]) rfl (rest := []) rfl rfl rfl at_115 (q := 118) rfl ?_
              rintro _ T111 _ X112 ⟨rfl, rfl⟩
              refine g_istore C X112 at_118 (q := 120) rfl (L' := #[.val (.int p0), .val (.int p1), .val (.int p2), .val (.int p3), .val (.int (1 : Int32)), .val (.int (5 : Int32)), .val (.int bz10), .val (.double x16), .second, .val (.ref b17), .val (.int (1 : Int32))]) rfl ?_
              refine g_iload C X112 at_120 (q := 122) rfl rfl ?_
              by_cases hc113 : v7 = (0 : Int32)
              · obtain rfl : bz10 = 0 := hz11 (teq hc113).1
                refine g_ifY C X112 at_122 (by decide) (q := 142) (by decide) (by decide) ?_
                refine g_aload C X112 at_142 (q := 144) rfl rfl rfl ?_
                refine g_callV1 C X112 (y := (⟨"com/example/rondel/rondel/primitive/DoubleRingBuffer", "isFull", "()Z"⟩ : MethodName)) (z := (⟨"com/example/rondel/rondel/primitive/DoubleRingBuffer", "isFull", "()Z"⟩ : MethodName)) (a := b17) (by decide) (w37 hw) (w38 hw) (w40 hw) (w39 hw) (nf_sel (w40 hw)) f104 (w41 hw) (w4 hw) (rm_isFull_0 hw (o0 := b17) (o1 := b35) (i2 := ((((((0 : Int32) + (1 : Int32)) + (1 : Int32)) + (1 : Int32)) + (1 : Int32)) + (1 : Int32))) (kc3 := kA38) (x4 := x16) O110 f104 f105 f106 f107 f108 f109 ge25 ge36 (Nat.ne_of_lt (Nat.lt_of_lt_of_le A23.lt sz37))) (W := 0) (by decide) (by decide) (k' := 2) rfl (n' := 5) rfl (by decide) (by decide) rfl pd_95 (argsL := []) rfl (rest := []) rfl rfl rfl at_144 (q := 147) rfl ?_
                rintro _ T114 _ X115 ⟨rfl, rfl⟩
                refine g_iload C X115 at_147 (q := 149) rfl rfl ?_
                refine g_iload C X115 at_149 (q := 151) rfl rfl ?_
                refine g_icN C X115 at_151 (q := 154) rfl (by decide) ?_
                refine g_iconst C X115 at_154 (q := 155) rfl (z := (1 : Int32)) rfl ?_
                refine g_goto C X115 at_155 (by decide) (q := 159) (by decide) ?_
                refine g_icN C X115 at_159 (q := 162) rfl (by decide) ?_
                refine g_iconst C X115 at_162 (q := 163) rfl (z := (1 : Int32)) rfl ?_
                refine g_goto C X115 at_163 (by decide) (q := 167) (by decide) ?_
                exact g_retN C X115 (Or.inl rfl) (z' := 1) (by decide) at_167 (by decide) (by decide) ⟨_, rfl, rfl, trivial⟩
              · obtain rfl : bz10 = 1 := hz12 (feq hc113).1
                refine g_ifN C X112 at_122 (q := 125) rfl (by decide) ?_
                refine g_iload C X112 at_125 (q := 127) rfl rfl ?_
                refine g_ifN C X112 at_127 (q := 130) rfl (by decide) ?_
                refine g_aload C X112 at_130 (q := 132) rfl rfl rfl ?_
                refine g_callV1 C X112 (y := (⟨"com/example/rondel/rondel/primitive/DoubleRingBuffer", "removeFirst", "()D"⟩ : MethodName)) (z := (⟨"com/example/rondel/rondel/primitive/DoubleRingBuffer", "removeFirst", "()D"⟩ : MethodName)) (a := b17) (by decide) (w42 hw) (w43 hw) (w45 hw) (w44 hw) (nf_sel (w45 hw)) f104 (w46 hw) (w4 hw) (rm_removeFirst_0 hw (o0 := b17) (o1 := b35) (i2 := ((((((0 : Int32) + (1 : Int32)) + (1 : Int32)) + (1 : Int32)) + (1 : Int32)) + (1 : Int32))) (kc3 := kA38) (x4 := x16) O110 f104 f105 f106 f107 f108 f109 ge25 ge36 (Nat.ne_of_lt (Nat.lt_of_lt_of_le A23.lt sz37))) (W := 0) (by decide) (by decide) (k' := 2) rfl (n' := 5) rfl (by decide) (by decide) rfl pd_111 (argsL := []) rfl (rest := []) rfl rfl rfl at_132 (q := 135) rfl ?_
                rintro _ T116 h118 X117 ⟨rfl, K119, f120, f121, f122, f123, f124⟩
                have O125 := O110.keep K119 (allS ge25 all0)
                refine g_pop2 C X117 at_135 (q := 136) rfl rfl ?_
                refine g_iload C X117 at_136 (q := 138) rfl rfl ?_
                refine g_iconst C X117 at_138 (q := 139) rfl (z := (1 : Int32)) rfl ?_
                refine g_isub C X117 at_139 (q := 140) rfl (z := (0 : Int32)) (by decide) ?_
                refine g_istore C X117 at_140 (q := 142) rfl (L' := #[.val (.int p0), .val (.int p1), .val (.int p2), .val (.int p3), .val (.int (1 : Int32)), .val (.int (5 : Int32)), .val (.int (1 : Int32)), .val (.double x16), .second, .val (.ref b17), .val (.int (0 : Int32))]) rfl ?_
                refine g_aload C X117 at_142 (q := 144) rfl rfl rfl ?_
                have f126 := (f109.keep K119 (ninS (Ne.symm (Nat.ne_of_lt (Nat.lt_of_lt_of_le A23.lt sz37))) nin0))
                refine g_callV1 C X117 (y := (⟨"com/example/rondel/rondel/primitive/DoubleRingBuffer", "isFull", "()Z"⟩ : MethodName)) (z := (⟨"com/example/rondel/rondel/primitive/DoubleRingBuffer", "isFull", "()Z"⟩ : MethodName)) (a := b17) (by decide) (w37 hw) (w38 hw) (w40 hw) (w39 hw) (nf_sel (w40 hw)) f120 (w41 hw) (w4 hw) (rm_isFull_1 hw (o0 := b17) (o1 := b35) (i2 := (((((((0 : Int32) + (1 : Int32)) + (1 : Int32)) + (1 : Int32)) + (1 : Int32)) + (1 : Int32)) + (1 : Int32))) (kc3 := kA38) (x4 := x16) O125 f120 f121 f122 f123 f124 f126 ge25 ge36 (Nat.ne_of_lt (Nat.lt_of_lt_of_le A23.lt sz37))) (W := 0) (by decide) (by decide) (k' := 2) rfl (n' := 5) rfl (by decide) (by decide) rfl pd_95 (argsL := []) rfl (rest := []) rfl rfl rfl at_144 (q := 147) rfl ?_
                rintro _ T127 _ X128 ⟨rfl, rfl⟩
                refine g_iload C X128 at_147 (q := 149) rfl rfl ?_
                refine g_iload C X128 at_149 (q := 151) rfl rfl ?_
                refine g_icY C X128 at_151 (by decide) (q := 158) (by decide) (by decide) ?_
                refine g_iconst C X128 at_158 (q := 159) rfl (z := (0 : Int32)) rfl ?_
                refine g_icN C X128 at_159 (q := 162) rfl (by decide) ?_
                refine g_iconst C X128 at_162 (q := 163) rfl (z := (1 : Int32)) rfl ?_
                refine g_goto C X128 at_163 (by decide) (q := 167) (by decide) ?_
                exact g_retN C X128 (Or.inl rfl) (z' := 1) (by decide) at_167 (by decide) (by decide) ⟨_, rfl, rfl, trivial⟩
            · refine g_icY C X88 at_101 (by decide) (q := 111) (by decide) (flt hc98).2.2.2 ?_
              have hr129 : v4.toInt ≤ 4 := own_f4 hc98 (by decide)
              obtain rfl : v4 = (4 : Int32) := own_f0 hr86 hr129 (by decide)
              refine g_iload C X88 at_111 (q := 113) rfl rfl ?_
              refine g_iload C X88 at_113 (q := 115) rfl rfl ?_
              refine g_callS1 C X88 (y := (⟨"java/lang/Math", "min", "(II)I"⟩ : MethodName)) (by decide) (w33 hw) (w34 hw) (w36 hw) (w35 hw) (rm_min_1 hw  O97 ) (W := 0) (by decide) (by decide) (k' := 2) rfl (n' := 5) rfl (by decide) (by decide) rfl pd_85 (argsL := [(.int (4 : Int32)), (.int (1 : Int32))]) rfl (rest := []) rfl rfl rfl at_115 (q := 118) rfl ?_
              rintro _ T130 _ X131 ⟨rfl, rfl⟩
              refine g_istore C X131 at_118 (q := 120) rfl (L' := #[.val (.int p0), .val (.int p1), .val (.int p2), .val (.int p3), .val (.int (1 : Int32)), .val (.int (4 : Int32)), .val (.int bz10), .val (.double x16), .second, .val (.ref b17), .val (.int (1 : Int32))]) rfl ?_
              refine g_iload C X131 at_120 (q := 122) rfl rfl ?_
              by_cases hc132 : v7 = (0 : Int32)
              · obtain rfl : bz10 = 0 := hz11 (teq hc132).1
                refine g_ifY C X131 at_122 (by decide) (q := 142) (by decide) (by decide) ?_
                refine g_aload C X131 at_142 (q := 144) rfl rfl rfl ?_
                refine g_callV1 C X131 (y := (⟨"com/example/rondel/rondel/primitive/DoubleRingBuffer", "isFull", "()Z"⟩ : MethodName)) (z := (⟨"com/example/rondel/rondel/primitive/DoubleRingBuffer", "isFull", "()Z"⟩ : MethodName)) (a := b17) (by decide) (w37 hw) (w38 hw) (w40 hw) (w39 hw) (nf_sel (w40 hw)) f91 (w41 hw) (w4 hw) (rm_isFull_0 hw (o0 := b17) (o1 := b35) (i2 := (((((0 : Int32) + (1 : Int32)) + (1 : Int32)) + (1 : Int32)) + (1 : Int32))) (kc3 := kA38) (x4 := x16) O97 f91 f92 f93 f94 f95 f96 ge25 ge36 (Nat.ne_of_lt (Nat.lt_of_lt_of_le A23.lt sz37))) (W := 0) (by decide) (by decide) (k' := 2) rfl (n' := 5) rfl (by decide) (by decide) rfl pd_95 (argsL := []) rfl (rest := []) rfl rfl rfl at_144 (q := 147) rfl ?_
                rintro _ T133 _ X134 ⟨rfl, rfl⟩
                refine g_iload C X134 at_147 (q := 149) rfl rfl ?_
                refine g_iload C X134 at_149 (q := 151) rfl rfl ?_
                refine g_icN C X134 at_151 (q := 154) rfl (by decide) ?_
                refine g_iconst C X134 at_154 (q := 155) rfl (z := (1 : Int32)) rfl ?_
                refine g_goto C X134 at_155 (by decide) (q := 159) (by decide) ?_
                refine g_icN C X134 at_159 (q := 162) rfl (by decide) ?_
                refine g_iconst C X134 at_162 (q := 163) rfl (z := (1 : Int32)) rfl ?_
                refine g_goto C X134 at_163 (by decide) (q := 167) (by decide) ?_
                exact g_retN C X134 (Or.inl rfl) (z' := 1) (by decide) at_167 (by decide) (by decide) ⟨_, rfl, rfl, trivial⟩
              · obtain rfl : bz10 = 1 := hz12 (feq hc132).1
                refine g_ifN C X131 at_122 (q := 125) rfl (by decide) ?_
                refine g_iload C X131 at_125 (q := 127) rfl rfl ?_
                refine g_ifN C X131 at_127 (q := 130) rfl (by decide) ?_
                refine g_aload C X131 at_130 (q := 132) rfl rfl rfl ?_
                refine g_callV1 C X131 (y := (⟨"com/example/rondel/rondel/primitive/DoubleRingBuffer", "removeFirst", "()D"⟩ : MethodName)) (z := (⟨"com/example/rondel/rondel/primitive/DoubleRingBuffer", "removeFirst", "()D"⟩ : MethodName)) (a := b17) (by decide) (w42 hw) (w43 hw) (w45 hw) (w44 hw) (nf_sel (w45 hw)) f91 (w46 hw) (w4 hw) (rm_removeFirst_0 hw (o0 := b17) (o1 := b35) (i2 := (((((0 : Int32) + (1 : Int32)) + (1 : Int32)) + (1 : Int32)) + (1 : Int32))) (kc3 := kA38) (x4 := x16) O97 f91 f92 f93 f94 f95 f96 ge25 ge36 (Nat.ne_of_lt (Nat.lt_of_lt_of_le A23.lt sz37))) (W := 0) (by decide) (by decide) (k' := 2) rfl (n' := 5) rfl (by decide) (by decide) rfl pd_111 (argsL := []) rfl (rest := []) rfl rfl rfl at_132 (q := 135) rfl ?_
                rintro _ T135 h137 X136 ⟨rfl, K138, f139, f140, f141, f142, f143⟩
                have O144 := O97.keep K138 (allS ge25 all0)
                refine g_pop2 C X136 at_135 (q := 136) rfl rfl ?_
                refine g_iload C X136 at_136 (q := 138) rfl rfl ?_
                refine g_iconst C X136 at_138 (q := 139) rfl (z := (1 : Int32)) rfl ?_
                refine g_isub C X136 at_139 (q := 140) rfl (z := (0 : Int32)) (by decide) ?_
                refine g_istore C X136 at_140 (q := 142) rfl (L' := #[.val (.int p0), .val (.int p1), .val (.int p2), .val (.int p3), .val (.int (1 : Int32)), .val (.int (4 : Int32)), .val (.int (1 : Int32)), .val (.double x16), .second, .val (.ref b17), .val (.int (0 : Int32))]) rfl ?_
                refine g_aload C X136 at_142 (q := 144) rfl rfl rfl ?_
                have f145 := (f96.keep K138 (ninS (Ne.symm (Nat.ne_of_lt (Nat.lt_of_lt_of_le A23.lt sz37))) nin0))
                refine g_callV1 C X136 (y := (⟨"com/example/rondel/rondel/primitive/DoubleRingBuffer", "isFull", "()Z"⟩ : MethodName)) (z := (⟨"com/example/rondel/rondel/primitive/DoubleRingBuffer", "isFull", "()Z"⟩ : MethodName)) (a := b17) (by decide) (w37 hw) (w38 hw) (w40 hw) (w39 hw) (nf_sel (w40 hw)) f139 (w41 hw) (w4 hw) (rm_isFull_1 hw (o0 := b17) (o1 := b35) (i2 := ((((((0 : Int32) + (1 : Int32)) + (1 : Int32)) + (1 : Int32)) + (1 : Int32)) + (1 : Int32))) (kc3 := kA38) (x4 := x16) O144 f139 f140 f141 f142 f143 f145 ge25 ge36 (Nat.ne_of_lt (Nat.lt_of_lt_of_le A23.lt sz37))) (W := 0) (by decide) (by decide) (k' := 2) rfl (n' := 5) rfl (by decide) (by decide) rfl pd_95 (argsL := []) rfl (rest := []) rfl rfl rfl at_144 (q := 147) rfl ?_
                rintro _ T146 _ X147 ⟨rfl, rfl⟩
                refine g_iload C X147 at_147 (q := 149) rfl rfl ?_
                refine g_iload C X147 at_149 (q := 151) rfl rfl ?_
                refine g_icY C X147 at_151 (by decide) (q := 158) (by decide) (by decide) ?_
                refine g_iconst C X147 at_158 (q := 159) rfl (z := (0 : Int32)) rfl ?_
                refine g_icN C X147 at_159 (q := 162) rfl (by decide) ?_
                refine g_iconst C X147 at_162 (q := 163) rfl (z := (1 : Int32)) rfl ?_
                refine g_goto C X147 at_163 (by decide) (q := 167) (by decide) ?_
                exact g_retN C X147 (Or.inl rfl) (z' := 1) (by decide) at_167 (by decide) (by decide) ⟨_, rfl, rfl, trivial⟩
          · refine g_icY C X75 at_88 (by decide) (q := 98) (by decide) (flt hc85).2.2.2 ?_
            have hr148 : v4.toInt ≤ 3 := own_f4 hc85 (by decide)
            obtain rfl : v4 = (3 : Int32) := own_f0 hr73 hr148 (by decide)
            refine g_iload C X75 at_98 (q := 100) rfl rfl ?_
            refine g_iconst C X75 at_100 (q := 101) rfl (z := (4 : Int32)) rfl ?_
            refine g_icY C X75 at_101 (by decide) (q := 111) (by decide) (by decide) ?_
            refine g_iload C X75 at_111 (q := 113) rfl rfl ?_
            refine g_iload C X75 at_113 (q := 115) rfl rfl ?_
            refine g_callS1 C X75 (y := (⟨"java/lang/Math", "min", "(II)I"⟩ : MethodName)) (by decide) (w33 hw) (w34 hw) (w36 hw) (w35 hw) (rm_min_2 hw  O84 ) (W := 0) (by decide) (by decide) (k' := 2) rfl (n' := 5) rfl (by decide) (by decide) rfl pd_85 (argsL := [(.int (3 : Int32)), (.int (1 : Int32))]) rfl (rest := []) rfl rfl rfl at_115 (q := 118) rfl ?_
            rintro _ T149 _ X150 ⟨rfl, rfl⟩
            refine g_istore C X150 at_118 (q := 120) rfl (L' := #[.val (.int p0), .val (.int p1), .val (.int p2), .val (.int p3), .val (.int (1 : Int32)), .val (.int (3 : Int32)), .val (.int bz10), .val (.double x16), .second, .val (.ref b17), .val (.int (1 : Int32))]) rfl ?_
            refine g_iload C X150 at_120 (q := 122) rfl rfl ?_
            by_cases hc151 : v7 = (0 : Int32)
            · obtain rfl : bz10 = 0 := hz11 (teq hc151).1
              refine g_ifY C X150 at_122 (by decide) (q := 142) (by decide) (by decide) ?_
              refine g_aload C X150 at_142 (q := 144) rfl rfl rfl ?_
              refine g_callV1 C X150 (y := (⟨"com/example/rondel/rondel/primitive/DoubleRingBuffer", "isFull", "()Z"⟩ : MethodName)) (z := (⟨"com/example/rondel/rondel/primitive/DoubleRingBuffer", "isFull", "()Z"⟩ : MethodName)) (a := b17) (by decide) (w37 hw) (w38 hw) (w40 hw) (w39 hw) (nf_sel (w40 hw)) f78 (w41 hw) (w4 hw) (rm_isFull_0 hw (o0 := b17) (o1 := b35) (i2 := ((((0 : Int32) + (1 : Int32)) + (1 : Int32)) + (1 : Int32))) (kc3 := kA38) (x4 := x16) O84 f78 f79 f80 f81 f82 f83 ge25 ge36 (Nat.ne_of_lt (Nat.lt_of_lt_of_le A23.lt sz37))) (W := 0) (by decide) (by decide) (k' := 2) rfl (n' := 5) rfl (by decide) (by decide) rfl pd_95 (argsL := []) rfl (rest := []) rfl rfl rfl at_144 (q := 147) rfl ?_
              rintro _ T152 _ X153 ⟨rfl, rfl⟩
              refine g_iload C X153 at_147 (q := 149) rfl rfl ?_
              refine g_iload C X153 at_149 (q := 151) rfl rfl ?_
              refine g_icN C X153 at_151 (q := 154) rfl (by decide) ?_
              refine g_iconst C X153 at_154 (q := 155) rfl (z := (1 : Int32)) rfl ?_
              refine g_goto C X153 at_155 (by decide) (q := 159) (by decide) ?_
              refine g_icN C X153 at_159 (q := 162) rfl (by decide) ?_
              refine g_iconst C X153 at_162 (q := 163) rfl (z := (1 : Int32)) rfl ?_
              refine g_goto C X153 at_163 (by decide) (q := 167) (by decide) ?_
              exact g_retN C X153 (Or.inl rfl) (z' := 1) (by decide) at_167 (by decide) (by decide) ⟨_, rfl, rfl, trivial⟩
            · obtain rfl : bz10 = 1 := hz12 (feq hc151).1
              refine g_ifN C X150 at_122 (q := 125) rfl (by decide) ?_
              refine g_iload C X150 at_125 (q := 127) rfl rfl ?_
              refine g_ifN C X150 at_127 (q := 130) rfl (by decide) ?_
              refine g_aload C X150 at_130 (q := 132) rfl rfl rfl ?_
              refine g_callV1 C X150 (y := (⟨"com/example/rondel/rondel/primitive/DoubleRingBuffer", "removeFirst", "()D"⟩ : MethodName)) (z := (⟨"com/example/rondel/rondel/primitive/DoubleRingBuffer", "removeFirst", "()D"⟩ : MethodName)) (a := b17) (by decide) (w42 hw) (w43 hw) (w45 hw) (w44 hw) (nf_sel (w45 hw)) f78 (w46 hw) (w4 hw) (rm_removeFirst_0 hw (o0 := b17) (o1 := b35) (i2 := ((((0 : Int32) + (1 : Int32)) + (1 : Int32)) + (1 : Int32))) (kc3 := kA38) (x4 := x16) O84 f78 f79 f80 f81 f82 f83 ge25 ge36 (Nat.ne_of_lt (Nat.lt_of_lt_of_le A23.lt sz37))) (W := 0) (by decide) (by decide) (k' := 2) rfl (n' := 5) rfl (by decide) (by decide) rfl pd_111 (argsL := []) rfl (rest := []) rfl rfl rfl at_132 (q := 135) rfl ?_
              rintro _ T154 h156 X155 ⟨rfl, K157, f158, f159, f160, f161, f162⟩
              have O163 := O84.keep K157 (allS ge25 all0)
              refine g_pop2 C X155 at_135 (q := 136) rfl rfl ?_
              refine g_iload C X155 at_136 (q := 138) rfl rfl ?_
              refine g_iconst C X155 at_138 (q := 139) rfl (z := (1 : Int32)) rfl ?_
              refine g_isub C X155 at_139 (q := 140) rfl (z := (0 : Int32)) (by decide) ?_
              refine g_istore C X155 at_140 (q := 142) rfl (L' := #[.val (.int p0), .val (.int p1), .val (.int p2), .val (.int p3), .val (.int (1 : Int32)), .val (.int (3 : Int32)), .val (.int (1 : Int32)), .val (.double x16), .second, .val (.ref b17), .val (.int (0 : Int32))]) rfl ?_
              refine g_aload C X155 at_142 (q := 144) rfl rfl rfl ?_
              have f164 := (f83.keep K157 (ninS (Ne.symm (Nat.ne_of_lt (Nat.lt_of_lt_of_le A23.lt sz37))) nin0))
              refine g_callV1 C X155 (y := (⟨"com/example/rondel/rondel/primitive/DoubleRingBuffer", "isFull", "()Z"⟩ : MethodName)) (z := (⟨"com/example/rondel/rondel/primitive/DoubleRingBuffer", "isFull", "()Z"⟩ : MethodName)) (a := b17) (by decide) (w37 hw) (w38 hw) (w40 hw) (w39 hw) (nf_sel (w40 hw)) f158 (w41 hw) (w4 hw) (rm_isFull_1 hw (o0 := b17) (o1 := b35) (i2 := (((((0 : Int32) + (1 : Int32)) + (1 : Int32)) + (1 : Int32)) + (1 : Int32))) (kc3 := kA38) (x4 := x16) O163 f158 f159 f160 f161 f162 f164 ge25 ge36 (Nat.ne_of_lt (Nat.lt_of_lt_of_le A23.lt sz37))) (W := 0) (by decide) (by decide) (k' := 2) rfl (n' := 5) rfl (by decide) (by decide) rfl pd_95 (argsL := []) rfl (rest := []) rfl rfl rfl at_144 (q := 147) rfl ?_
              rintro _ T165 _ X166 ⟨rfl, rfl⟩
              refine g_iload C X166 at_147 (q := 149) rfl rfl ?_
              refine g_iload C X166 at_149 (q := 151) rfl rfl ?_
              refine g_icY C X166 at_151 (by decide) (q := 158) (by decide) (by decide) ?_
              refine g_iconst C X166 at_158 (q := 159) rfl (z := (0 : Int32)) rfl ?_
              refine g_icN C X166 at_159 (q := 162) rfl (by decide) ?_
              refine g_iconst C X166 at_162 (q := 163) rfl (z := (1 : Int32)) rfl ?_
              refine g_goto C X166 at_163 (by decide) (q := 167) (by decide) ?_
              exact g_retN C X166 (Or.inl rfl) (z' := 1) (by decide) at_167 (by decide) (by decide) ⟨_, rfl, rfl, trivial⟩
        · refine g_icY C X62 at_75 (by decide) (q := 85) (by decide) (flt hc72).2.2.2 ?_
          have hr167 : v4.toInt ≤ 2 := own_f4 hc72 (by decide)
          obtain rfl : v4 = (2 : Int32) := own_f0 hr60 hr167 (by decide)
          refine g_iload C X62 at_85 (q := 87) rfl rfl ?_
          refine g_iconst C X62 at_87 (q := 88) rfl (z := (3 : Int32)) rfl ?_
          refine g_icY C X62 at_88 (by decide) (q := 98) (by decide) (by decide) ?_
          refine g_iload C X62 at_98 (q := 100) rfl rfl ?_
          refine g_iconst C X62 at_100 (q := 101) rfl (z := (4 : Int32)) rfl ?_
          refine g_icY C X62 at_101 (by decide) (q := 111) (by decide) (by decide) ?_
          refine g_iload C X62 at_111 (q := 113) rfl rfl ?_
          refine g_iload C X62 at_113 (q := 115) rfl rfl ?_
          refine g_callS1 C X62 (y := (⟨"java/lang/Math", "min", "(II)I"⟩ : MethodName)) (by decide) (w33 hw) (w34 hw) (w36 hw) (w35 hw) (rm_min_3 hw  O71 ) (W := 0) (by decide) (by decide) (k' := 2) rfl (n' := 5) rfl (by decide) (by decide) rfl pd_85 (argsL := [(.int (2 : Int32)), (.int (1 : Int32))]) rfl (rest := []) rfl rfl rfl at_115 (q := 118) rfl ?_
          rintro _ T168 _ X169 ⟨rfl, rfl⟩
          refine g_istore C X169 at_118 (q := 120) rfl (L' := #[.val (.int p0), .val (.int p1), .val (.int p2), .val (.int p3), .val (.int (1 : Int32)), .val (.int (2 : Int32)), .val (.int bz10), .val (.double x16), .second, .val (.ref b17), .val (.int (1 : Int32))]) rfl ?_
          refine g_iload C X169 at_120 (q := 122) rfl rfl ?_
          by_cases hc170 : v7 = (0 : Int32)
          · obtain rfl : bz10 = 0 := hz11 (teq hc170).1
            refine g_ifY C X169 at_122 (by decide) (q := 142) (by decide) (by decide) ?_
            refine g_aload C X169 at_142 (q := 144) rfl rfl rfl ?_
            refine g_callV1 C X169 (y := (⟨"com/example/rondel/rondel/primitive/DoubleRingBuffer", "isFull", "()Z"⟩ : MethodName)) (z := (⟨"com/example/rondel/rondel/primitive/DoubleRingBuffer", "isFull", "()Z"⟩ : MethodName)) (a := b17) (by decide) (w37 hw) (w38 hw) (w40 hw) (w39 hw) (nf_sel (w40 hw)) f65 (w41 hw) (w4 hw) (rm_isFull_0 hw (o0 := b17) (o1 := b35) (i2 := (((0 : Int32) + (1 : Int32)) + (1 : Int32))) (kc3 := kA38) (x4 := x16) O71 f65 f66 f67 f68 f69 f70 ge25 ge36 (Nat.ne_of_lt (Nat.lt_of_lt_of_le A23.lt sz37))) (W := 0) (by decide) (by decide) (k' := 2) rfl (n' := 5) rfl (by decide) (by decide) rfl pd_95 (argsL := []) rfl (rest := []) rfl rfl rfl at_144 (q := 147) rfl ?_
            rintro _ T171 _ X172 ⟨rfl, rfl⟩
            refine g_iload C X172 at_147 (q := 149) rfl rfl ?_
            refine g_iload C X172 at_149 (q := 151) rfl rfl ?_
            refine g_icN C X172 at_151 (q := 154) rfl (by decide) ?_
            refine g_iconst C X172 at_154 (q := 155) rfl (z := (1 : Int32)) rfl ?_
            refine g_goto C X172 at_155 (by decide) (q := 159) (by decide) ?_
            refine g_icN C X172 at_159 (q := 162) rfl (by decide) ?_
            refine g_iconst C X172 at_162 (q := 163) rfl (z := (1 : Int32)) rfl ?_
            refine g_goto C X172 at_163 (by decide) (q := 167) (by decide) ?_
            exact g_retN C X172 (Or.inl rfl) (z' := 1) (by decide) at_167 (by decide) (by decide) ⟨_, rfl, rfl, trivial⟩
          · obtain rfl : bz10 = 1 := hz12 (feq hc170).1
            refine g_ifN C X169 at_122 (q := 125) rfl (by decide) ?_
            refine g_iload C X169 at_125 (q := 127) rfl rfl ?_
            refine g_ifN C X169 at_127 (q := 130) rfl (by decide) ?_
            refine g_aload C X169 at_130 (q := 132) rfl rfl rfl ?_
            refine g_callV1 C X169 (y := (⟨"com/example/rondel/rondel/primitive/DoubleRingBuffer", "removeFirst", "()D"⟩ : MethodName)) (z := (⟨"com/example/rondel/rondel/primitive/DoubleRingBuffer", "removeFirst", "()D"⟩ : MethodName)) (a := b17) (by decide) (w42 hw) (w43 hw) (w45 hw) (w44 hw) (nf_sel (w45 hw)) f65 (w46 hw) (w4 hw) (rm_removeFirst_0 hw (o0 := b17) (o1 := b35) (i2 := (((0 : Int32) + (1 : Int32)) + (1 : Int32))) (kc3 := kA38) (x4 := x16) O71 f65 f66 f67 f68 f69 f70 ge25 ge36 (Nat.ne_of_lt (Nat.lt_of_lt_of_le A23.lt sz37))) (W := 0) (by decide) (by decide) (k' := 2) rfl (n' := 5) rfl (by decide) (by decide) rfl pd_111 (argsL := []) rfl (rest := []) rfl rfl rfl at_132 (q := 135) rfl ?_
            rintro _ T173 h175 X174 ⟨rfl, K176, f177, f178, f179, f180, f181⟩
            have O182 := O71.keep K176 (allS ge25 all0)
            refine g_pop2 C X174 at_135 (q := 136) rfl rfl ?_
            refine g_iload C X174 at_136 (q := 138) rfl rfl ?_
            refine g_iconst C X174 at_138 (q := 139) rfl (z := (1 : Int32)) rfl ?_
            refine g_isub C X174 at_139 (q := 140) rfl (z := (0 : Int32)) (by decide) ?_
            refine g_istore C X174 at_140 (q := 142) rfl (L' := #[.val (.int p0), .val (.int p1), .val (.int p2), .val (.int p3), .val (.int (1 : Int32)), .val (.int (2 : Int32)), .val (.int (1 : Int32)), .val (.double x16), .second, .val (.ref b17), .val (.int (0 : Int32))]) rfl ?_
            refine g_aload C X174 at_142 (q := 144) rfl rfl rfl ?_
            have f183 := (f70.keep K176 (ninS (Ne.symm (Nat.ne_of_lt (Nat.lt_of_lt_of_le A23.lt sz37))) nin0))
            refine g_callV1 C X174 (y := (⟨"com/example/rondel/rondel/primitive/DoubleRingBuffer", "isFull", "()Z"⟩ : MethodName)) (z := (⟨"com/example/rondel/rondel/primitive/DoubleRingBuffer", "isFull", "()Z"⟩ : MethodName)) (a := b17) (by decide) (w37 hw) (w38 hw) (w40 hw) (w39 hw) (nf_sel (w40 hw)) f177 (w41 hw) (w4 hw) (rm_isFull_1 hw (o0 := b17) (o1 := b35) (i2 := ((((0 : Int32) + (1 : Int32)) + (1 : Int32)) + (1 : Int32))) (kc3 := kA38) (x4 := x16) O182 f177 f178 f179 f180 f181 f183 ge25 ge36 (Nat.ne_of_lt (Nat.lt_of_lt_of_le A23.lt sz37))) (W := 0) (by decide) (by decide) (k' := 2) rfl (n' := 5) rfl (by decide) (by decide) rfl pd_95 (argsL := []) rfl (rest := []) rfl rfl rfl at_144 (q := 147) rfl ?_
            rintro _ T184 _ X185 ⟨rfl, rfl⟩
            refine g_iload C X185 at_147 (q := 149) rfl rfl ?_
            refine g_iload C X185 at_149 (q := 151) rfl rfl ?_
            refine g_icY C X185 at_151 (by decide) (q := 158) (by decide) (by decide) ?_
            refine g_iconst C X185 at_158 (q := 159) rfl (z := (0 : Int32)) rfl ?_
            refine g_icN C X185 at_159 (q := 162) rfl (by decide) ?_
            refine g_iconst C X185 at_162 (q := 163) rfl (z := (1 : Int32)) rfl ?_
            refine g_goto C X185 at_163 (by decide) (q := 167) (by decide) ?_
            exact g_retN C X185 (Or.inl rfl) (z' := 1) (by decide) at_167 (by decide) (by decide) ⟨_, rfl, rfl, trivial⟩
      · refine g_icY C X49 at_62 (by decide) (q := 72) (by decide) (flt hc59).2.2.2 ?_
        have hr186 : v4.toInt ≤ 1 := own_f4 hc59 (by decide)
        obtain rfl : v4 = (1 : Int32) := own_f0 hr47 hr186 (by decide)
        refine g_iload C X49 at_72 (q := 74) rfl rfl ?_
        refine g_iconst C X49 at_74 (q := 75) rfl (z := (2 : Int32)) rfl ?_
        refine g_icY C X49 at_75 (by decide) (q := 85) (by decide) (by decide) ?_
        refine g_iload C X49 at_85 (q := 87) rfl rfl ?_
        refine g_iconst C X49 at_87 (q := 88) rfl (z := (3 : Int32)) rfl ?_
        refine g_icY C X49 at_88 (by decide) (q := 98) (by decide) (by decide) ?_
        refine g_iload C X49 at_98 (q := 100) rfl rfl ?_
        refine g_iconst C X49 at_100 (q := 101) rfl (z := (4 : Int32)) rfl ?_
        refine g_icY C X49 at_101 (by decide) (q := 111) (by decide) (by decide) ?_
        refine g_iload C X49 at_111 (q := 113) rfl rfl ?_
        refine g_iload C X49 at_113 (q := 115) rfl rfl ?_
        refine g_callS1 C X49 (y := (⟨"java/lang/Math", "min", "(II)I"⟩ : MethodName)) (by decide) (w33 hw) (w34 hw) (w36 hw) (w35 hw) (rm_min_4 hw  O58 ) (W := 0) (by decide) (by decide) (k' := 2) rfl (n' := 5) rfl (by decide) (by decide) rfl pd_85 (argsL := [(.int (1 : Int32)), (.int (1 : Int32))]) rfl (rest := []) rfl rfl rfl at_115 (q := 118) rfl ?_
        rintro _ T187 _ X188 ⟨rfl, rfl⟩
        refine g_istore C X188 at_118 (q := 120) rfl (L' := #[.val (.int p0), .val (.int p1), .val (.int p2), .val (.int p3), .val (.int (1 : Int32)), .val (.int (1 : Int32)), .val (.int bz10), .val (.double x16), .second, .val (.ref b17), .val (.int (1 : Int32))]) rfl ?_
        refine g_iload C X188 at_120 (q := 122) rfl rfl ?_
        by_cases hc189 : v7 = (0 : Int32)
        · obtain rfl : bz10 = 0 := hz11 (teq hc189).1
          refine g_ifY C X188 at_122 (by decide) (q := 142) (by decide) (by decide) ?_
          refine g_aload C X188 at_142 (q := 144) rfl rfl rfl ?_
          refine g_callV1 C X188 (y := (⟨"com/example/rondel/rondel/primitive/DoubleRingBuffer", "isFull", "()Z"⟩ : MethodName)) (z := (⟨"com/example/rondel/rondel/primitive/DoubleRingBuffer", "isFull", "()Z"⟩ : MethodName)) (a := b17) (by decide) (w37 hw) (w38 hw) (w40 hw) (w39 hw) (nf_sel (w40 hw)) f52 (w41 hw) (w4 hw) (rm_isFull_0 hw (o0 := b17) (o1 := b35) (i2 := ((0 : Int32) + (1 : Int32))) (kc3 := kA38) (x4 := x16) O58 f52 f53 f54 f55 f56 f57 ge25 ge36 (Nat.ne_of_lt (Nat.lt_of_lt_of_le A23.lt sz37))) (W := 0) (by decide) (by decide) (k' := 2) rfl (n' := 5) rfl (by decide) (by decide) rfl pd_95 (argsL := []) rfl (rest := []) rfl rfl rfl at_144 (q := 147) rfl ?_
          rintro _ T190 _ X191 ⟨rfl, rfl⟩
          refine g_iload C X191 at_147 (q := 149) rfl rfl ?_
          refine g_iload C X191 at_149 (q := 151) rfl rfl ?_
          refine g_icN C X191 at_151 (q := 154) rfl (by decide) ?_
          refine g_iconst C X191 at_154 (q := 155) rfl (z := (1 : Int32)) rfl ?_
          refine g_goto C X191 at_155 (by decide) (q := 159) (by decide) ?_
          refine g_icN C X191 at_159 (q := 162) rfl (by decide) ?_
          refine g_iconst C X191 at_162 (q := 163) rfl (z := (1 : Int32)) rfl ?_
          refine g_goto C X191 at_163 (by decide) (q := 167) (by decide) ?_
          exact g_retN C X191 (Or.inl rfl) (z' := 1) (by decide) at_167 (by decide) (by decide) ⟨_, rfl, rfl, trivial⟩
        · obtain rfl : bz10 = 1 := hz12 (feq hc189).1
          refine g_ifN C X188 at_122 (q := 125) rfl (by decide) ?_
          refine g_iload C X188 at_125 (q := 127) rfl rfl ?_
          refine g_ifN C X188 at_127 (q := 130) rfl (by decide) ?_
          refine g_aload C X188 at_130 (q := 132) rfl rfl rfl ?_
          refine g_callV1 C X188 (y := (⟨"com/example/rondel/rondel/primitive/DoubleRingBuffer", "removeFirst", "()D"⟩ : MethodName)) (z := (⟨"com/example/rondel/rondel/primitive/DoubleRingBuffer", "removeFirst", "()D"⟩ : MethodName)) (a := b17) (by decide) (w42 hw) (w43 hw) (w45 hw) (w44 hw) (nf_sel (w45 hw)) f52 (w46 hw) (w4 hw) (rm_removeFirst_0 hw (o0 := b17) (o1 := b35) (i2 := ((0 : Int32) + (1 : Int32))) (kc3 := kA38) (x4 := x16) O58 f52 f53 f54 f55 f56 f57 ge25 ge36 (Nat.ne_of_lt (Nat.lt_of_lt_of_le A23.lt sz37))) (W := 0) (by decide) (by decide) (k' := 2) rfl (n' := 5) rfl (by decide) (by decide) rfl pd_111 (argsL := []) rfl (rest := []) rfl rfl rfl at_132 (q := 135) rfl ?_
          rintro _ T192 h194 X193 ⟨rfl, K195, f196, f197, f198, f199, f200⟩
          have O201 := O58.keep K195 (allS ge25 all0)
          refine g_pop2 C X193 at_135 (q := 136) rfl rfl ?_
          refine g_iload C X193 at_136 (q := 138) rfl rfl ?_
          refine g_iconst C X193 at_138 (q := 139) rfl (z := (1 : Int32)) rfl ?_
          refine g_isub C X193 at_139 (q := 140) rfl (z := (0 : Int32)) (by decide) ?_
          refine g_istore C X193 at_140 (q := 142) rfl (L' := #[.val (.int p0), .val (.int p1), .val (.int p2), .val (.int p3), .val (.int (1 : Int32)), .val (.int (1 : Int32)), .val (.int (1 : Int32)), .val (.double x16), .second, .val (.ref b17), .val (.int (0 : Int32))]) rfl ?_
          refine g_aload C X193 at_142 (q := 144) rfl rfl rfl ?_
          have f202 := (f57.keep K195 (ninS (Ne.symm (Nat.ne_of_lt (Nat.lt_of_lt_of_le A23.lt sz37))) nin0))
          refine g_callV1 C X193 (y := (⟨"com/example/rondel/rondel/primitive/DoubleRingBuffer", "isFull", "()Z"⟩ : MethodName)) (z := (⟨"com/example/rondel/rondel/primitive/DoubleRingBuffer", "isFull", "()Z"⟩ : MethodName)) (a := b17) (by decide) (w37 hw) (w38 hw) (w40 hw) (w39 hw) (nf_sel (w40 hw)) f196 (w41 hw) (w4 hw) (rm_isFull_1 hw (o0 := b17) (o1 := b35) (i2 := (((0 : Int32) + (1 : Int32)) + (1 : Int32))) (kc3 := kA38) (x4 := x16) O201 f196 f197 f198 f199 f200 f202 ge25 ge36 (Nat.ne_of_lt (Nat.lt_of_lt_of_le A23.lt sz37))) (W := 0) (by decide) (by decide) (k' := 2) rfl (n' := 5) rfl (by decide) (by decide) rfl pd_95 (argsL := []) rfl (rest := []) rfl rfl rfl at_144 (q := 147) rfl ?_
          rintro _ T203 _ X204 ⟨rfl, rfl⟩
          refine g_iload C X204 at_147 (q := 149) rfl rfl ?_
          refine g_iload C X204 at_149 (q := 151) rfl rfl ?_
          refine g_icY C X204 at_151 (by decide) (q := 158) (by decide) (by decide) ?_
          refine g_iconst C X204 at_158 (q := 159) rfl (z := (0 : Int32)) rfl ?_
          refine g_icN C X204 at_159 (q := 162) rfl (by decide) ?_
          refine g_iconst C X204 at_162 (q := 163) rfl (z := (1 : Int32)) rfl ?_
          refine g_goto C X204 at_163 (by decide) (q := 167) (by decide) ?_
          exact g_retN C X204 (Or.inl rfl) (z' := 1) (by decide) at_167 (by decide) (by decide) ⟨_, rfl, rfl, trivial⟩
    · refine g_ifY C X32 at_49 (by decide) (q := 59) (by decide) (flt hc46).2.2.2 ?_
      have hr205 : v4.toInt ≤ 0 := own_f4 hc46 (by decide)
      obtain rfl : v4 = (0 : Int32) := own_f0 hl5 hr205 (by decide)
      refine g_iload C X32 at_59 (q := 61) rfl rfl ?_
      refine g_iconst C X32 at_61 (q := 62) rfl (z := (1 : Int32)) rfl ?_
      refine g_icY C X32 at_62 (by decide) (q := 72) (by decide) (by decide) ?_
      refine g_iload C X32 at_72 (q := 74) rfl rfl ?_
      refine g_iconst C X32 at_74 (q := 75) rfl (z := (2 : Int32)) rfl ?_
      refine g_icY C X32 at_75 (by decide) (q := 85) (by decide) (by decide) ?_
      refine g_iload C X32 at_85 (q := 87) rfl rfl ?_
      refine g_iconst C X32 at_87 (q := 88) rfl (z := (3 : Int32)) rfl ?_
      refine g_icY C X32 at_88 (by decide) (q := 98) (by decide) (by decide) ?_
      refine g_iload C X32 at_98 (q := 100) rfl rfl ?_
      refine g_iconst C X32 at_100 (q := 101) rfl (z := (4 : Int32)) rfl ?_
      refine g_icY C X32 at_101 (by decide) (q := 111) (by decide) (by decide) ?_
      refine g_iload C X32 at_111 (q := 113) rfl rfl ?_
      refine g_iload C X32 at_113 (q := 115) rfl rfl ?_
      refine g_callS1 C X32 (y := (⟨"java/lang/Math", "min", "(II)I"⟩ : MethodName)) (by decide) (w33 hw) (w34 hw) (w36 hw) (w35 hw) (rm_min_5 hw  O45 ) (W := 0) (by decide) (by decide) (k' := 2) rfl (n' := 5) rfl (by decide) (by decide) rfl pd_85 (argsL := [(.int (0 : Int32)), (.int (1 : Int32))]) rfl (rest := []) rfl rfl rfl at_115 (q := 118) rfl ?_
      rintro _ T206 _ X207 ⟨rfl, rfl⟩
      refine g_istore C X207 at_118 (q := 120) rfl (L' := #[.val (.int p0), .val (.int p1), .val (.int p2), .val (.int p3), .val (.int (1 : Int32)), .val (.int (0 : Int32)), .val (.int bz10), .val (.double x16), .second, .val (.ref b17), .val (.int (0 : Int32))]) rfl ?_
      refine g_iload C X207 at_120 (q := 122) rfl rfl ?_
      by_cases hc208 : v7 = (0 : Int32)
      · obtain rfl : bz10 = 0 := hz11 (teq hc208).1
        refine g_ifY C X207 at_122 (by decide) (q := 142) (by decide) (by decide) ?_
        refine g_aload C X207 at_142 (q := 144) rfl rfl rfl ?_
        refine g_callV1 C X207 (y := (⟨"com/example/rondel/rondel/primitive/DoubleRingBuffer", "isFull", "()Z"⟩ : MethodName)) (z := (⟨"com/example/rondel/rondel/primitive/DoubleRingBuffer", "isFull", "()Z"⟩ : MethodName)) (a := b17) (by decide) (w37 hw) (w38 hw) (w40 hw) (w39 hw) (nf_sel (w40 hw)) f39 (w41 hw) (w4 hw) (rm_isFull_1 hw (o0 := b17) (o1 := b35) (i2 := (0 : Int32)) (kc3 := kA38) (x4 := 0) O45 f39 f40 f41 f42 f43 f44 ge25 ge36 (Nat.ne_of_lt (Nat.lt_of_lt_of_le A23.lt sz37))) (W := 0) (by decide) (by decide) (k' := 2) rfl (n' := 5) rfl (by decide) (by decide) rfl pd_95 (argsL := []) rfl (rest := []) rfl rfl rfl at_144 (q := 147) rfl ?_
        rintro _ T209 _ X210 ⟨rfl, rfl⟩
        refine g_iload C X210 at_147 (q := 149) rfl rfl ?_
        refine g_iload C X210 at_149 (q := 151) rfl rfl ?_
        refine g_icY C X210 at_151 (by decide) (q := 158) (by decide) (by decide) ?_
        refine g_iconst C X210 at_158 (q := 159) rfl (z := (0 : Int32)) rfl ?_
        refine g_icN C X210 at_159 (q := 162) rfl (by decide) ?_
        refine g_iconst C X210 at_162 (q := 163) rfl (z := (1 : Int32)) rfl ?_
        refine g_goto C X210 at_163 (by decide) (q := 167) (by decide) ?_
        exact g_retN C X210 (Or.inl rfl) (z' := 1) (by decide) at_167 (by decide) (by decide) ⟨_, rfl, rfl, trivial⟩
      · obtain rfl : bz10 = 1 := hz12 (feq hc208).1
        refine g_ifN C X207 at_122 (q := 125) rfl (by decide) ?_
        refine g_iload C X207 at_125 (q := 127) rfl rfl ?_
        refine g_ifY C X207 at_127 (by decide) (q := 142) (by decide) (by decide) ?_
        refine g_aload C X207 at_142 (q := 144) rfl rfl rfl ?_
        refine g_callV1 C X207 (y := (⟨"com/example/rondel/rondel/primitive/DoubleRingBuffer", "isFull", "()Z"⟩ : MethodName)) (z := (⟨"com/example/rondel/rondel/primitive/DoubleRingBuffer", "isFull", "()Z"⟩ : MethodName)) (a := b17) (by decide) (w37 hw) (w38 hw) (w40 hw) (w39 hw) (nf_sel (w40 hw)) f39 (w41 hw) (w4 hw) (rm_isFull_1 hw (o0 := b17) (o1 := b35) (i2 := (0 : Int32)) (kc3 := kA38) (x4 := 0) O45 f39 f40 f41 f42 f43 f44 ge25 ge36 (Nat.ne_of_lt (Nat.lt_of_lt_of_le A23.lt sz37))) (W := 0) (by decide) (by decide) (k' := 2) rfl (n' := 5) rfl (by decide) (by decide) rfl pd_95 (argsL := []) rfl (rest := []) rfl rfl rfl at_144 (q := 147) rfl ?_
        rintro _ T211 _ X212 ⟨rfl, rfl⟩
        refine g_iload C X212 at_147 (q := 149) rfl rfl ?_
        refine g_iload C X212 at_149 (q := 151) rfl rfl ?_
        refine g_icY C X212 at_151 (by decide) (q := 158) (by decide) (by decide) ?_
        refine g_iconst C X212 at_158 (q := 159) rfl (z := (0 : Int32)) rfl ?_
        refine g_icN C X212 at_159 (q := 162) rfl (by decide) ?_
        refine g_iconst C X212 at_162 (q := 163) rfl (z := (1 : Int32)) rfl ?_
        refine g_goto C X212 at_163 (by decide) (q := 167) (by decide) ?_
        exact g_retN C X212 (Or.inl rfl) (z' := 1) (by decide) at_167 (by decide) (by decide) ⟨_, rfl, rfl, trivial⟩
  · refine g_iconst C X at_0 (q := 1) rfl (z := (1 : Int32)) rfl ?_
    refine g_iloadN C X at_1 (q := 2) rfl rfl ?_
    refine g_iconst C X at_2 (q := 3) rfl (z := (3 : Int32)) rfl ?_
    refine g_iand C X at_3 (q := 4) rfl (z := (1 : Int32)) hk ?_
    refine g_iadd C X at_4 (q := 5) rfl (z := (2 : Int32)) (by decide) ?_
    refine g_istore C X at_5 (q := 7) rfl (L' := #[.val (.int p0), .val (.int p1), .val (.int p2), .val (.int p3), .val (.int (2 : Int32)), .unset, .unset, .unset, .unset, .unset, .unset]) rfl ?_
    refine g_iloadN C X at_7 (q := 8) rfl rfl ?_
    refine g_ldcI C X (w0 hw) at_8 (q := 10) rfl ?_
    obtain ⟨v213, ev213⟩ : ∃ z, (p1 &&& (2147483647 : Int32)) = z := ⟨_, rfl⟩
    have hl214 : 0 ≤ v213.toInt := by rw [← ev213]; exact (c_and p1 (2147483647 : Int32) (by decide)).1
    have hh215 : v213.toInt ≤ 2147483647 := by rw [← ev213]; exact (c_and p1 (2147483647 : Int32) (by decide)).2
    refine g_iand C X at_10 (q := 11) rfl (z := v213) ev213 ?_
    refine g_bipush C X at_11 (q := 13) rfl (z := (6 : Int32)) rfl ?_
    obtain ⟨v216, ev216⟩ : ∃ z, (v213 % (6 : Int32)) = z := ⟨_, rfl⟩
    have hl217 : 0 ≤ v216.toInt := by rw [← ev216]; exact (own_rem (y := (6 : Int32)) (d := 5) (by decide) (by decide) (Int.le_trans (by decide) hl214)).1
    have hh218 : v216.toInt ≤ 5 := by rw [← ev216]; exact (own_rem (y := (6 : Int32)) (d := 5) (by decide) (by decide) (Int.le_trans (by decide) hl214)).2
    refine g_irem C X at_13 (q := 14) rfl (by decide) (z := v216) ev216 ?_
    refine g_istore C X at_14 (q := 16) rfl (L' := #[.val (.int p0), .val (.int p1), .val (.int p2), .val (.int p3), .val (.int (2 : Int32)), .val (.int v216), .unset, .unset, .unset, .unset, .unset]) rfl ?_
    refine g_iloadN C X at_16 (q := 17) rfl rfl ?_
    refine g_iconst C X at_17 (q := 18) rfl (z := (1 : Int32)) rfl ?_
    obtain ⟨v219, ev219⟩ : ∃ z, (p2 &&& (1 : Int32)) = z := ⟨_, rfl⟩
    have hl220 : 0 ≤ v219.toInt := by rw [← ev219]; exact (c_and p2 (1 : Int32) (by decide)).1
    have hh221 : v219.toInt ≤ 1 := by rw [← ev219]; exact (c_and p2 (1 : Int32) (by decide)).2
    refine g_iand C X at_18 (q := 19) rfl (z := v219) ev219 ?_
    refine g_boolF C X at_19 at_22 at_23 at_26 (q := 27) rfl ?_
    intro bz222 hz223 hz224
    refine g_istore C X at_27 (q := 29) rfl (L' := #[.val (.int p0), .val (.int p1), .val (.int p2), .val (.int p3), .val (.int (2 : Int32)), .val (.int v216), .val (.int bz222), .unset, .unset, .unset, .unset]) rfl ?_
    refine g_iloadN C X at_29 (q := 30) rfl rfl ?_
    refine g_ldcI C X (w1 hw) at_30 (q := 32) rfl ?_
    obtain ⟨v225, ev225⟩ : ∃ z, (p3 &&& (65535 : Int32)) = z := ⟨_, rfl⟩
    have hl226 : 0 ≤ v225.toInt := by rw [← ev225]; exact (c_and p3 (65535 : Int32) (by decide)).1
    have hh227 : v225.toInt ≤ 65535 := by rw [← ev225]; exact (c_and p3 (65535 : Int32) (by decide)).2
    refine g_iand C X at_32 (q := 33) rfl (z := v225) ev225 ?_
    obtain ⟨x228, ex228⟩ : ∃ z, (FP.i2d v225) = z := ⟨_, rfl⟩
    refine g_i2d C X at_33 (q := 34) rfl (z := x228) ex228 ?_
    refine g_dstore C X at_34 (q := 36) rfl (L' := #[.val (.int p0), .val (.int p1), .val (.int p2), .val (.int p3), .val (.int (2 : Int32)), .val (.int v216), .val (.int bz222), .val (.double x228), .second, .unset, .unset]) rfl ?_
    refine g_new C X (w2 hw) (w3 hw) (w4 hw) at_36 (q := 39) rfl (k' := 1) rfl (n' := 4) rfl (by decide) (by decide) ?_
    intro T230 h231 b229 g233 X232 E234 A235 D236
    have ge237 : n0 ≤ b229 := own_ge O g233
    have O238 := O.ext E234
    have f239 : Fld Z h231 b229 "com/example/rondel/rondel/primitive/DoubleRingBuffer" "readings" "[D" .null := D236 (Or.inr (w13 hw)) (ty := (.array .double)) (by decide)
    have f240 : Fld Z h231 b229 "com/example/rondel/rondel/primitive/DoubleRingBuffer" "size" "I" (.int (0 : Int32)) := D236 (Or.inl (w20 hw)) (ty := .int) (by decide)
    have f241 : Fld Z h231 b229 "com/example/rondel/rondel/primitive/DoubleRingBuffer" "head" "I" (.int (0 : Int32)) := D236 (Or.inl (w26 hw)) (ty := .int) (by decide)
    have f242 : Fld Z h231 b229 "com/example/rondel/rondel/primitive/DoubleRingBuffer" "modCount" "I" (.int (0 : Int32)) := D236 (Or.inl (w28 hw)) (ty := .int) (by decide)
    refine g_dup C X232 at_39 (q := 40) rfl rfl ?_
    refine g_iload C X232 at_40 (q := 42) rfl rfl ?_
    refine g_callI0 C X232 (y := (⟨"com/example/rondel/rondel/primitive/DoubleRingBuffer", "<init>", "(I)V"⟩ : MethodName)) (a := b229) (by decide) rfl (w5 hw) (w6 hw) (w7 hw) (w4 hw) (rm_init_1 hw (o0 := b229) (i1 := (0 : Int32)) O238 A235 f239 f240 f241 f242 ge237) (W := 1) (by decide) (by decide) (k' := 2) rfl (n' := 6) rfl (by decide) (by decide) rfl pd_11 (argsL := [(.int (2 : Int32))]) rfl (rest := [(.ref b229)]) rfl rfl rfl at_42 (q := 45) rfl ?_
    rintro T243 h245 X244 ⟨b247, kA250, K246, ge248, sz249, f251, f252, f253, f254, f255, f256⟩
    have O257 := O238.keep K246 (allS ge237 all0)
    refine g_astore C X244 at_45 (q := 47) rfl rfl (L' := #[.val (.int p0), .val (.int p1), .val (.int p2), .val (.int p3), .val (.int (2 : Int32)), .val (.int v216), .val (.int bz222), .val (.double x228), .second, .val (.ref b229), .unset]) rfl ?_
    refine g_iload C X244 at_47 (q := 49) rfl rfl ?_
    by_cases hc258 : (0 : Int32) < v216
    · refine g_ifN C X244 at_49 (q := 52) rfl (tlt hc258).2.2.2 ?_
      have hr259 : 1 ≤ v216.toInt := own_f3 hc258 (by decide)
      refine g_aload C X244 at_52 (q := 54) rfl rfl rfl ?_
      refine g_dload C X244 at_54 (q := 56) rfl rfl ?_
      refine g_callV0 C X244 (y := (⟨"com/example/rondel/rondel/primitive/DoubleRingBuffer", "add", "(D)V"⟩ : MethodName)) (z := (⟨"com/example/rondel/rondel/primitive/DoubleRingBuffer", "add", "(D)V"⟩ : MethodName)) (a := b229) (by decide) (w14 hw) (w15 hw) (w17 hw) (w16 hw) (nf_sel (w17 hw)) f251 (w18 hw) (w4 hw) (rm_add_2 hw (o0 := b229) (o1 := b247) (i2 := (0 : Int32)) (kc3 := kA250) (x4 := 0) (x5 := 0) (x6 := x228) O257 f251 f252 f253 f254 f255 f256 ge237 ge248 (Nat.ne_of_lt (Nat.lt_of_lt_of_le A235.lt sz249))) (W := 0) (by decide) (by decide) (k' := 2) rfl (n' := 6) rfl (by decide) (by decide) rfl pd_56 (argsL := [(.double x228)]) rfl (rest := []) rfl rfl rfl at_56 (q := 59) rfl ?_
      rintro T260 h262 X261 ⟨K263, f264, f265, f266, f267, f268, f269⟩
      have O270 := O257.keep K263 (allS ge248 (allS ge237 all0))
      refine g_iload C X261 at_59 (q := 61) rfl rfl ?_
      refine g_iconst C X261 at_61 (q := 62) rfl (z := (1 : Int32)) rfl ?_
      by_cases hc271 : (1 : Int32) < v216
      · refine g_icN C X261 at_62 (q := 65) rfl (tlt hc271).2.2.2 ?_
        have hr272 : 2 ≤ v216.toInt := own_f3 hc271 (by decide)
        refine g_aload C X261 at_65 (q := 67) rfl rfl rfl ?_
        refine g_dload C X261 at_67 (q := 69) rfl rfl ?_
        refine g_callV0 C X261 (y := (⟨"com/example/rondel/rondel/primitive/DoubleRingBuffer", "add", "(D)V"⟩ : MethodName)) (z := (⟨"com/example/rondel/rondel/primitive/DoubleRingBuffer", "add", "(D)V"⟩ : MethodName)) (a := b229) (by decide) (w14 hw) (w15 hw) (w17 hw) (w16 hw) (nf_sel (w17 hw)) f264 (w18 hw) (w4 hw) (rm_add_3 hw (o0 := b229) (o1 := b247) (i2 := ((0 : Int32) + (1 : Int32))) (kc3 := kA250) (x4 := x228) (x5 := 0) (x6 := x228) O270 f264 f265 f266 f267 f268 f269 ge237 ge248 (Nat.ne_of_lt (Nat.lt_of_lt_of_le A235.lt sz249))) (W := 0) (by decide) (by decide) (k' := 2) rfl (n' := 6) rfl (by decide) (by decide) rfl pd_56 (argsL := [(.double x228)]) rfl (rest := []) rfl rfl rfl at_69 (q := 72) rfl ?_
        rintro T273 h275 X274 ⟨K276, f277, f278, f279, f280, f281, f282⟩
        have O283 := O270.keep K276 (allS ge248 (allS ge237 all0))
        refine g_iload C X274 at_72 (q := 74) rfl rfl ?_
        refine g_iconst C X274 at_74 (q := 75) rfl (z := (2 : Int32)) rfl ?_
        by_cases hc284 : (2 : Int32) < v216
        · refine g_icN C X274 at_75 (q := 78) rfl (tlt hc284).2.2.2 ?_
          have hr285 : 3 ≤ v216.toInt := own_f3 hc284 (by decide)
          refine g_aload C X274 at_78 (q := 80) rfl rfl rfl ?_
          refine g_dload C X274 at_80 (q := 82) rfl rfl ?_
          refine g_callV0 C X274 (y := (⟨"com/example/rondel/rondel/primitive/DoubleRingBuffer", "add", "(D)V"⟩ : MethodName)) (z := (⟨"com/example/rondel/rondel/primitive/DoubleRingBuffer", "add", "(D)V"⟩ : MethodName)) (a := b229) (by decide) (w14 hw) (w15 hw) (w17 hw) (w16 hw) (nf_sel (w17 hw)) f277 (w18 hw) (w4 hw) (rm_add_4 hw (o0 := b229) (o1 := b247) (i2 := (((0 : Int32) + (1 : Int32)) + (1 : Int32))) (kc3 := kA250) (x4 := x228) (x5 := x228) (x6 := x228) O283 f277 f278 f279 f280 f281 f282 ge237 ge248 (Nat.ne_of_lt (Nat.lt_of_lt_of_le A235.lt sz249))) (W := 0) (by decide) (by decide) (k' := 2) rfl (n' := 6) rfl (by decide) (by decide) rfl pd_56 (argsL := [(.double x228)]) rfl (rest := []) rfl rfl rfl at_82 (q := 85) rfl ?_
          rintro T286 h288 X287 ⟨K289, f290, f291, f292, f293, f294, f295⟩
          have O296 := O283.keep K289 (allS ge248 (allS ge237 all0))
          refine g_iload C X287 at_85 (q := 87) rfl rfl ?_
          refine g_iconst C X287 at_87 (q := 88) rfl (z := (3 : Int32)) rfl ?_
          by_cases hc297 : (3 : Int32) < v216
          · refine g_icN C X287 at_88 (q := 91) rfl (tlt hc297).2.2.2 ?_
            have hr298 : 4 ≤ v216.toInt := own_f3 hc297 (by decide)
            refine g_aload C X287 at_91 (q := 93) rfl rfl rfl ?_
            refine g_dload C X287 at_93 (q := 95) rfl rfl ?_
            refine g_callV0 C X287 (y := (⟨"com/example/rondel/rondel/primitive/DoubleRingBuffer", "add", "(D)V"⟩ : MethodName)) (z := (⟨"com/example/rondel/rondel/primitive/DoubleRingBuffer", "add", "(D)V"⟩ : MethodName)) (a := b229) (by decide) (w14 hw) (w15 hw) (w17 hw) (w16 hw) (nf_sel (w17 hw)) f290 (w18 hw) (w4 hw) (rm_add_5 hw (o0 := b229) (o1 := b247) (i2 := ((((0 : Int32) + (1 : Int32)) + (1 : Int32)) + (1 : Int32))) (kc3 := kA250) (x4 := x228) (x5 := x228) (x6 := x228) O296 f290 f291 f292 f293 f294 f295 ge237 ge248 (Nat.ne_of_lt (Nat.lt_of_lt_of_le A235.lt sz249))) (W := 0) (by decide) (by decide) (k' := 2) rfl (n' := 6) rfl (by decide) (by decide) rfl pd_56 (argsL := [(.double x228)]) rfl (rest := []) rfl rfl rfl at_95 (q := 98) rfl ?_
            rintro T299 h301 X300 ⟨K302, f303, f304, f305, f306, f307, f308⟩
            have O309 := O296.keep K302 (allS ge248 (allS ge237 all0))
            refine g_iload C X300 at_98 (q := 100) rfl rfl ?_
            refine g_iconst C X300 at_100 (q := 101) rfl (z := (4 : Int32)) rfl ?_
            by_cases hc310 : (4 : Int32) < v216
            · refine g_icN C X300 at_101 (q := 104) rfl (tlt hc310).2.2.2 ?_
              have hr311 : 5 ≤ v216.toInt := own_f3 hc310 (by decide)
              obtain rfl : v216 = (5 : Int32) := own_f0 hr311 hh218 (by decide)
              refine g_aload C X300 at_104 (q := 106) rfl rfl rfl ?_
              refine g_dload C X300 at_106 (q := 108) rfl rfl ?_
              refine g_callV0 C X300 (y := (⟨"com/example/rondel/rondel/primitive/DoubleRingBuffer", "add", "(D)V"⟩ : MethodName)) (z := (⟨"com/example/rondel/rondel/primitive/DoubleRingBuffer", "add", "(D)V"⟩ : MethodName)) (a := b229) (by decide) (w14 hw) (w15 hw) (w17 hw) (w16 hw) (nf_sel (w17 hw)) f303 (w18 hw) (w4 hw) (rm_add_4 hw (o0 := b229) (o1 := b247) (i2 := (((((0 : Int32) + (1 : Int32)) + (1 : Int32)) + (1 : Int32)) + (1 : Int32))) (kc3 := kA250) (x4 := x228) (x5 := x228) (x6 := x228) O309 f303 f304 f305 f306 f307 f308 ge237 ge248 (Nat.ne_of_lt (Nat.lt_of_lt_of_le A235.lt sz249))) (W := 0) (by decide) (by decide) (k' := 2) rfl (n' := 6) rfl (by decide) (by decide) rfl pd_56 (argsL := [(.double x228)]) rfl (rest := []) rfl rfl rfl at_108 (q := 111) rfl ?_
              rintro T312 h314 X313 ⟨K315, f316, f317, f318, f319, f320, f321⟩
              have O322 := O309.keep K315 (allS ge248 (allS ge237 all0))
              refine g_iload C X313 at_111 (q := 113) rfl rfl ?_
              refine g_iload C X313 at_113 (q := 115) rfl rfl ?_
              refine g_callS1 C X313 (y := (⟨"java/lang/Math", "min", "(II)I"⟩ : MethodName)) (by decide) (w33 hw) (w34 hw) (w36 hw) (w35 hw) (rm_min_6 hw  O322 ) (W := 0) (by decide) (by decide) (k' := 2) rfl (n' := 6) rfl (by decide) (by decide) rfl pd_85 (argsL := [(.int (5 : Int32)), (.int (2 : Int32))]) rfl (rest := []) rfl rfl rfl at_115 (q := 118) rfl ?_
              rintro _ T323 _ X324 ⟨rfl, rfl⟩
              refine g_istore C X324 at_118 (q := 120) rfl (L' := #[.val (.int p0), .val (.int p1), .val (.int p2), .val (.int p3), .val (.int (2 : Int32)), .val (.int (5 : Int32)), .val (.int bz222), .val (.double x228), .second, .val (.ref b229), .val (.int (2 : Int32))]) rfl ?_
              refine g_iload C X324 at_120 (q := 122) rfl rfl ?_
              by_cases hc325 : v219 = (0 : Int32)
              · obtain rfl : bz222 = 0 := hz223 (teq hc325).1
                refine g_ifY C X324 at_122 (by decide) (q := 142) (by decide) (by decide) ?_
                refine g_aload C X324 at_142 (q := 144) rfl rfl rfl ?_
                refine g_callV1 C X324 (y := (⟨"com/example/rondel/rondel/primitive/DoubleRingBuffer", "isFull", "()Z"⟩ : MethodName)) (z := (⟨"com/example/rondel/rondel/primitive/DoubleRingBuffer", "isFull", "()Z"⟩ : MethodName)) (a := b229) (by decide) (w37 hw) (w38 hw) (w40 hw) (w39 hw) (nf_sel (w40 hw)) f316 (w41 hw) (w4 hw) (rm_isFull_2 hw (o0 := b229) (o1 := b247) (i2 := ((((((0 : Int32) + (1 : Int32)) + (1 : Int32)) + (1 : Int32)) + (1 : Int32)) + (1 : Int32))) (kc3 := kA250) (x4 := x228) (x5 := x228) O322 f316 f317 f318 f319 f320 f321 ge237 ge248 (Nat.ne_of_lt (Nat.lt_of_lt_of_le A235.lt sz249))) (W := 0) (by decide) (by decide) (k' := 2) rfl (n' := 6) rfl (by decide) (by decide) rfl pd_95 (argsL := []) rfl (rest := []) rfl rfl rfl at_144 (q := 147) rfl ?_
                rintro _ T326 _ X327 ⟨rfl, rfl⟩
                refine g_iload C X327 at_147 (q := 149) rfl rfl ?_
                refine g_iload C X327 at_149 (q := 151) rfl rfl ?_
                refine g_icN C X327 at_151 (q := 154) rfl (by decide) ?_
                refine g_iconst C X327 at_154 (q := 155) rfl (z := (1 : Int32)) rfl ?_
                refine g_goto C X327 at_155 (by decide) (q := 159) (by decide) ?_
                refine g_icN C X327 at_159 (q := 162) rfl (by decide) ?_
                refine g_iconst C X327 at_162 (q := 163) rfl (z := (1 : Int32)) rfl ?_
                refine g_goto C X327 at_163 (by decide) (q := 167) (by decide) ?_
                exact g_retN C X327 (Or.inl rfl) (z' := 1) (by decide) at_167 (by decide) (by decide) ⟨_, rfl, rfl, trivial⟩
              · obtain rfl : bz222 = 1 := hz224 (feq hc325).1
                refine g_ifN C X324 at_122 (q := 125) rfl (by decide) ?_
                refine g_iload C X324 at_125 (q := 127) rfl rfl ?_
                refine g_ifN C X324 at_127 (q := 130) rfl (by decide) ?_
                refine g_aload C X324 at_130 (q := 132) rfl rfl rfl ?_
                refine g_callV1 C X324 (y := (⟨"com/example/rondel/rondel/primitive/DoubleRingBuffer", "removeFirst", "()D"⟩ : MethodName)) (z := (⟨"com/example/rondel/rondel/primitive/DoubleRingBuffer", "removeFirst", "()D"⟩ : MethodName)) (a := b229) (by decide) (w42 hw) (w43 hw) (w45 hw) (w44 hw) (nf_sel (w45 hw)) f316 (w46 hw) (w4 hw) (rm_removeFirst_1 hw (o0 := b229) (o1 := b247) (i2 := ((((((0 : Int32) + (1 : Int32)) + (1 : Int32)) + (1 : Int32)) + (1 : Int32)) + (1 : Int32))) (kc3 := kA250) (x4 := x228) (x5 := x228) O322 f316 f317 f318 f319 f320 f321 ge237 ge248 (Nat.ne_of_lt (Nat.lt_of_lt_of_le A235.lt sz249))) (W := 0) (by decide) (by decide) (k' := 2) rfl (n' := 6) rfl (by decide) (by decide) rfl pd_111 (argsL := []) rfl (rest := []) rfl rfl rfl at_132 (q := 135) rfl ?_
                rintro _ T328 h330 X329 ⟨rfl, K331, f332, f333, f334, f335, f336⟩
                have O337 := O322.keep K331 (allS ge237 all0)
                refine g_pop2 C X329 at_135 (q := 136) rfl rfl ?_
                refine g_iload C X329 at_136 (q := 138) rfl rfl ?_
                refine g_iconst C X329 at_138 (q := 139) rfl (z := (1 : Int32)) rfl ?_
                refine g_isub C X329 at_139 (q := 140) rfl (z := (1 : Int32)) (by decide) ?_
                refine g_istore C X329 at_140 (q := 142) rfl (L' := #[.val (.int p0), .val (.int p1), .val (.int p2), .val (.int p3), .val (.int (2 : Int32)), .val (.int (5 : Int32)), .val (.int (1 : Int32)), .val (.double x228), .second, .val (.ref b229), .val (.int (1 : Int32))]) rfl ?_
                refine g_aload C X329 at_142 (q := 144) rfl rfl rfl ?_
                have f338 := (f321.keep K331 (ninS (Ne.symm (Nat.ne_of_lt (Nat.lt_of_lt_of_le A235.lt sz249))) nin0))
                refine g_callV1 C X329 (y := (⟨"com/example/rondel/rondel/primitive/DoubleRingBuffer", "isFull", "()Z"⟩ : MethodName)) (z := (⟨"com/example/rondel/rondel/primitive/DoubleRingBuffer", "isFull", "()Z"⟩ : MethodName)) (a := b229) (by decide) (w37 hw) (w38 hw) (w40 hw) (w39 hw) (nf_sel (w40 hw)) f332 (w41 hw) (w4 hw) (rm_isFull_3 hw (o0 := b229) (o1 := b247) (i2 := (((((((0 : Int32) + (1 : Int32)) + (1 : Int32)) + (1 : Int32)) + (1 : Int32)) + (1 : Int32)) + (1 : Int32))) (kc3 := kA250) (x4 := x228) (x5 := x228) O337 f332 f333 f334 f335 f336 f338 ge237 ge248 (Nat.ne_of_lt (Nat.lt_of_lt_of_le A235.lt sz249))) (W := 0) (by decide) (by decide) (k' := 2) rfl (n' := 6) rfl (by decide) (by decide) rfl pd_95 (argsL := []) rfl (rest := []) rfl rfl rfl at_144 (q := 147) rfl ?_
                rintro _ T339 _ X340 ⟨rfl, rfl⟩
                refine g_iload C X340 at_147 (q := 149) rfl rfl ?_
                refine g_iload C X340 at_149 (q := 151) rfl rfl ?_
                refine g_icY C X340 at_151 (by decide) (q := 158) (by decide) (by decide) ?_
                refine g_iconst C X340 at_158 (q := 159) rfl (z := (0 : Int32)) rfl ?_
                refine g_icN C X340 at_159 (q := 162) rfl (by decide) ?_
                refine g_iconst C X340 at_162 (q := 163) rfl (z := (1 : Int32)) rfl ?_
                refine g_goto C X340 at_163 (by decide) (q := 167) (by decide) ?_
                exact g_retN C X340 (Or.inl rfl) (z' := 1) (by decide) at_167 (by decide) (by decide) ⟨_, rfl, rfl, trivial⟩
            · refine g_icY C X300 at_101 (by decide) (q := 111) (by decide) (flt hc310).2.2.2 ?_
              have hr341 : v216.toInt ≤ 4 := own_f4 hc310 (by decide)
              obtain rfl : v216 = (4 : Int32) := own_f0 hr298 hr341 (by decide)
              refine g_iload C X300 at_111 (q := 113) rfl rfl ?_
              refine g_iload C X300 at_113 (q := 115) rfl rfl ?_
              refine g_callS1 C X300 (y := (⟨"java/lang/Math", "min", "(II)I"⟩ : MethodName)) (by decide) (w33 hw) (w34 hw) (w36 hw) (w35 hw) (rm_min_7 hw  O309 ) (W := 0) (by decide) (by decide) (k' := 2) rfl (n' := 6) rfl (by decide) (by decide) rfl pd_85 (argsL := [(.int (4 : Int32)), (.int (2 : Int32))]) rfl (rest := []) rfl rfl rfl at_115 (q := 118) rfl ?_
              rintro _ T342 _ X343 ⟨rfl, rfl⟩
              refine g_istore C X343 at_118 (q := 120) rfl (L' := #[.val (.int p0), .val (.int p1), .val (.int p2), .val (.int p3), .val (.int (2 : Int32)), .val (.int (4 : Int32)), .val (.int bz222), .val (.double x228), .second, .val (.ref b229), .val (.int (2 : Int32))]) rfl ?_
              refine g_iload C X343 at_120 (q := 122) rfl rfl ?_
              by_cases hc344 : v219 = (0 : Int32)
              · obtain rfl : bz222 = 0 := hz223 (teq hc344).1
                refine g_ifY C X343 at_122 (by decide) (q := 142) (by decide) (by decide) ?_
                refine g_aload C X343 at_142 (q := 144) rfl rfl rfl ?_
                refine g_callV1 C X343 (y := (⟨"com/example/rondel/rondel/primitive/DoubleRingBuffer", "isFull", "()Z"⟩ : MethodName)) (z := (⟨"com/example/rondel/rondel/primitive/DoubleRingBuffer", "isFull", "()Z"⟩ : MethodName)) (a := b229) (by decide) (w37 hw) (w38 hw) (w40 hw) (w39 hw) (nf_sel (w40 hw)) f303 (w41 hw) (w4 hw) (rm_isFull_4 hw (o0 := b229) (o1 := b247) (i2 := (((((0 : Int32) + (1 : Int32)) + (1 : Int32)) + (1 : Int32)) + (1 : Int32))) (kc3 := kA250) (x4 := x228) (x5 := x228) O309 f303 f304 f305 f306 f307 f308 ge237 ge248 (Nat.ne_of_lt (Nat.lt_of_lt_of_le A235.lt sz249))) (W := 0) (by decide) (by decide) (k' := 2) rfl (n' := 6) rfl (by decide) (by decide) rfl pd_95 (argsL := []) rfl (rest := []) rfl rfl rfl at_144 (q := 147) rfl ?_
                rintro _ T345 _ X346 ⟨rfl, rfl⟩
                refine g_iload C X346 at_147 (q := 149) rfl rfl ?_
                refine g_iload C X346 at_149 (q := 151) rfl rfl ?_
                refine g_icN C X346 at_151 (q := 154) rfl (by decide) ?_
                refine g_iconst C X346 at_154 (q := 155) rfl (z := (1 : Int32)) rfl ?_
                refine g_goto C X346 at_155 (by decide) (q := 159) (by decide) ?_
                refine g_icN C X346 at_159 (q := 162) rfl (by decide) ?_
                refine g_iconst C X346 at_162 (q := 163) rfl (z := (1 : Int32)) rfl ?_
                refine g_goto C X346 at_163 (by decide) (q := 167) (by decide) ?_
                exact g_retN C X346 (Or.inl rfl) (z' := 1) (by decide) at_167 (by decide) (by decide) ⟨_, rfl, rfl, trivial⟩
              · obtain rfl : bz222 = 1 := hz224 (feq hc344).1
                refine g_ifN C X343 at_122 (q := 125) rfl (by decide) ?_
                refine g_iload C X343 at_125 (q := 127) rfl rfl ?_
                refine g_ifN C X343 at_127 (q := 130) rfl (by decide) ?_
                refine g_aload C X343 at_130 (q := 132) rfl rfl rfl ?_
                refine g_callV1 C X343 (y := (⟨"com/example/rondel/rondel/primitive/DoubleRingBuffer", "removeFirst", "()D"⟩ : MethodName)) (z := (⟨"com/example/rondel/rondel/primitive/DoubleRingBuffer", "removeFirst", "()D"⟩ : MethodName)) (a := b229) (by decide) (w42 hw) (w43 hw) (w45 hw) (w44 hw) (nf_sel (w45 hw)) f303 (w46 hw) (w4 hw) (rm_removeFirst_2 hw (o0 := b229) (o1 := b247) (i2 := (((((0 : Int32) + (1 : Int32)) + (1 : Int32)) + (1 : Int32)) + (1 : Int32))) (kc3 := kA250) (x4 := x228) (x5 := x228) O309 f303 f304 f305 f306 f307 f308 ge237 ge248 (Nat.ne_of_lt (Nat.lt_of_lt_of_le A235.lt sz249))) (W := 0) (by decide) (by decide) (k' := 2) rfl (n' := 6) rfl (by decide) (by decide) rfl pd_111 (argsL := []) rfl (rest := []) rfl rfl rfl at_132 (q := 135) rfl ?_
                rintro _ T347 h349 X348 ⟨rfl, K350, f351, f352, f353, f354, f355⟩
                have O356 := O309.keep K350 (allS ge237 all0)
                refine g_pop2 C X348 at_135 (q := 136) rfl rfl ?_
                refine g_iload C X348 at_136 (q := 138) rfl rfl ?_
                refine g_iconst C X348 at_138 (q := 139) rfl (z := (1 : Int32)) rfl ?_
                refine g_isub C X348 at_139 (q := 140) rfl (z := (1 : Int32)) (by decide) ?_
                refine g_istore C X348 at_140 (q := 142) rfl (L' := #[.val (.int p0), .val (.int p1), .val (.int p2), .val (.int p3), .val (.int (2 : Int32)), .val (.int (4 : Int32)), .val (.int (1 : Int32)), .val (.double x228), .second, .val (.ref b229), .val (.int (1 : Int32))]) rfl ?_
                refine g_aload C X348 at_142 (q := 144) rfl rfl rfl ?_
                have f357 := (f308.keep K350 (ninS (Ne.symm (Nat.ne_of_lt (Nat.lt_of_lt_of_le A235.lt sz249))) nin0))
                refine g_callV1 C X348 (y := (⟨"com/example/rondel/rondel/primitive/DoubleRingBuffer", "isFull", "()Z"⟩ : MethodName)) (z := (⟨"com/example/rondel/rondel/primitive/DoubleRingBuffer", "isFull", "()Z"⟩ : MethodName)) (a := b229) (by decide) (w37 hw) (w38 hw) (w40 hw) (w39 hw) (nf_sel (w40 hw)) f351 (w41 hw) (w4 hw) (rm_isFull_5 hw (o0 := b229) (o1 := b247) (i2 := ((((((0 : Int32) + (1 : Int32)) + (1 : Int32)) + (1 : Int32)) + (1 : Int32)) + (1 : Int32))) (kc3 := kA250) (x4 := x228) (x5 := x228) O356 f351 f352 f353 f354 f355 f357 ge237 ge248 (Nat.ne_of_lt (Nat.lt_of_lt_of_le A235.lt sz249))) (W := 0) (by decide) (by decide) (k' := 2) rfl (n' := 6) rfl (by decide) (by decide) rfl pd_95 (argsL := []) rfl (rest := []) rfl rfl rfl at_144 (q := 147) rfl ?_
                rintro _ T358 _ X359 ⟨rfl, rfl⟩
                refine g_iload C X359 at_147 (q := 149) rfl rfl ?_
                refine g_iload C X359 at_149 (q := 151) rfl rfl ?_
                refine g_icY C X359 at_151 (by decide) (q := 158) (by decide) (by decide) ?_
                refine g_iconst C X359 at_158 (q := 159) rfl (z := (0 : Int32)) rfl ?_
                refine g_icN C X359 at_159 (q := 162) rfl (by decide) ?_
                refine g_iconst C X359 at_162 (q := 163) rfl (z := (1 : Int32)) rfl ?_
                refine g_goto C X359 at_163 (by decide) (q := 167) (by decide) ?_
                exact g_retN C X359 (Or.inl rfl) (z' := 1) (by decide) at_167 (by decide) (by decide) ⟨_, rfl, rfl, trivial⟩
          · refine g_icY C X287 at_88 (by decide) (q := 98) (by decide) (flt hc297).2.2.2 ?_
            have hr360 : v216.toInt ≤ 3 := own_f4 hc297 (by decide)
            obtain rfl : v216 = (3 : Int32) := own_f0 hr285 hr360 (by decide)
            refine g_iload C X287 at_98 (q := 100) rfl rfl ?_
            refine g_iconst C X287 at_100 (q := 101) rfl (z := (4 : Int32)) rfl ?_
            refine g_icY C X287 at_101 (by decide) (q := 111) (by decide) (by decide) ?_
            refine g_iload C X287 at_111 (q := 113) rfl rfl ?_
            refine g_iload C X287 at_113 (q := 115) rfl rfl ?_
            refine g_callS1 C X287 (y := (⟨"java/lang/Math", "min", "(II)I"⟩ : MethodName)) (by decide) (w33 hw) (w34 hw) (w36 hw) (w35 hw) (rm_min_8 hw  O296 ) (W := 0) (by decide) (by decide) (k' := 2) rfl (n' := 6) rfl (by decide) (by decide) rfl pd_85 (argsL := [(.int (3 : Int32)), (.int (2 : Int32))]) rfl (rest := []) rfl rfl rfl at_115 (q := 118) rfl ?_
            rintro _ T361 _ X362 ⟨rfl, rfl⟩
            refine g_istore C X362 at_118 (q := 120) rfl (L' := #[.val (.int p0), .val (.int p1), .val (.int p2), .val (.int p3), .val (.int (2 : Int32)), .val (.int (3 : Int32)), .val (.int bz222), .val (.double x228), .second, .val (.ref b229), .val (.int (2 : Int32))]) rfl ?_
            refine g_iload C X362 at_120 (q := 122) rfl rfl ?_
            by_cases hc363 : v219 = (0 : Int32)
            · obtain rfl : bz222 = 0 := hz223 (teq hc363).1
              refine g_ifY C X362 at_122 (by decide) (q := 142) (by decide) (by decide) ?_
              refine g_aload C X362 at_142 (q := 144) rfl rfl rfl ?_
              refine g_callV1 C X362 (y := (⟨"com/example/rondel/rondel/primitive/DoubleRingBuffer", "isFull", "()Z"⟩ : MethodName)) (z := (⟨"com/example/rondel/rondel/primitive/DoubleRingBuffer", "isFull", "()Z"⟩ : MethodName)) (a := b229) (by decide) (w37 hw) (w38 hw) (w40 hw) (w39 hw) (nf_sel (w40 hw)) f290 (w41 hw) (w4 hw) (rm_isFull_2 hw (o0 := b229) (o1 := b247) (i2 := ((((0 : Int32) + (1 : Int32)) + (1 : Int32)) + (1 : Int32))) (kc3 := kA250) (x4 := x228) (x5 := x228) O296 f290 f291 f292 f293 f294 f295 ge237 ge248 (Nat.ne_of_lt (Nat.lt_of_lt_of_le A235.lt sz249))) (W := 0) (by decide) (by decide) (k' := 2) rfl (n' := 6) rfl (by decide) (by decide) rfl pd_95 (argsL := []) rfl (rest := []) rfl rfl rfl at_144 (q := 147) rfl ?_
              rintro _ T364 _ X365 ⟨rfl, rfl⟩
              refine g_iload C X365 at_147 (q := 149) rfl rfl ?_
              refine g_iload C X365 at_149 (q := 151) rfl rfl ?_
              refine g_icN C X365 at_151 (q := 154) rfl (by decide) ?_
              refine g_iconst C X365 at_154 (q := 155) rfl (z := (1 : Int32)) rfl ?_
              refine g_goto C X365 at_155 (by decide) (q := 159) (by decide) ?_
              refine g_icN C X365 at_159 (q := 162) rfl (by decide) ?_
              refine g_iconst C X365 at_162 (q := 163) rfl (z := (1 : Int32)) rfl ?_
              refine g_goto C X365 at_163 (by decide) (q := 167) (by decide) ?_
              exact g_retN C X365 (Or.inl rfl) (z' := 1) (by decide) at_167 (by decide) (by decide) ⟨_, rfl, rfl, trivial⟩
            · obtain rfl : bz222 = 1 := hz224 (feq hc363).1
              refine g_ifN C X362 at_122 (q := 125) rfl (by decide) ?_
              refine g_iload C X362 at_125 (q := 127) rfl rfl ?_
              refine g_ifN C X362 at_127 (q := 130) rfl (by decide) ?_
              refine g_aload C X362 at_130 (q := 132) rfl rfl rfl ?_
              refine g_callV1 C X362 (y := (⟨"com/example/rondel/rondel/primitive/DoubleRingBuffer", "removeFirst", "()D"⟩ : MethodName)) (z := (⟨"com/example/rondel/rondel/primitive/DoubleRingBuffer", "removeFirst", "()D"⟩ : MethodName)) (a := b229) (by decide) (w42 hw) (w43 hw) (w45 hw) (w44 hw) (nf_sel (w45 hw)) f290 (w46 hw) (w4 hw) (rm_removeFirst_1 hw (o0 := b229) (o1 := b247) (i2 := ((((0 : Int32) + (1 : Int32)) + (1 : Int32)) + (1 : Int32))) (kc3 := kA250) (x4 := x228) (x5 := x228) O296 f290 f291 f292 f293 f294 f295 ge237 ge248 (Nat.ne_of_lt (Nat.lt_of_lt_of_le A235.lt sz249))) (W := 0) (by decide) (by decide) (k' := 2) rfl (n' := 6) rfl (by decide) (by decide) rfl pd_111 (argsL := []) rfl (rest := []) rfl rfl rfl at_132 (q := 135) rfl ?_
              rintro _ T366 h368 X367 ⟨rfl, K369, f370, f371, f372, f373, f374⟩
              have O375 := O296.keep K369 (allS ge237 all0)
              refine g_pop2 C X367 at_135 (q := 136) rfl rfl ?_
              refine g_iload C X367 at_136 (q := 138) rfl rfl ?_
              refine g_iconst C X367 at_138 (q := 139) rfl (z := (1 : Int32)) rfl ?_
              refine g_isub C X367 at_139 (q := 140) rfl (z := (1 : Int32)) (by decide) ?_
              refine g_istore C X367 at_140 (q := 142) rfl (L' := #[.val (.int p0), .val (.int p1), .val (.int p2), .val (.int p3), .val (.int (2 : Int32)), .val (.int (3 : Int32)), .val (.int (1 : Int32)), .val (.double x228), .second, .val (.ref b229), .val (.int (1 : Int32))]) rfl ?_
              refine g_aload C X367 at_142 (q := 144) rfl rfl rfl ?_
              have f376 := (f295.keep K369 (ninS (Ne.symm (Nat.ne_of_lt (Nat.lt_of_lt_of_le A235.lt sz249))) nin0))
              refine g_callV1 C X367 (y := (⟨"com/example/rondel/rondel/primitive/DoubleRingBuffer", "isFull", "()Z"⟩ : MethodName)) (z := (⟨"com/example/rondel/rondel/primitive/DoubleRingBuffer", "isFull", "()Z"⟩ : MethodName)) (a := b229) (by decide) (w37 hw) (w38 hw) (w40 hw) (w39 hw) (nf_sel (w40 hw)) f370 (w41 hw) (w4 hw) (rm_isFull_3 hw (o0 := b229) (o1 := b247) (i2 := (((((0 : Int32) + (1 : Int32)) + (1 : Int32)) + (1 : Int32)) + (1 : Int32))) (kc3 := kA250) (x4 := x228) (x5 := x228) O375 f370 f371 f372 f373 f374 f376 ge237 ge248 (Nat.ne_of_lt (Nat.lt_of_lt_of_le A235.lt sz249))) (W := 0) (by decide) (by decide) (k' := 2) rfl (n' := 6) rfl (by decide) (by decide) rfl pd_95 (argsL := []) rfl (rest := []) rfl rfl rfl at_144 (q := 147) rfl ?_
              rintro _ T377 _ X378 ⟨rfl, rfl⟩
              refine g_iload C X378 at_147 (q := 149) rfl rfl ?_
              refine g_iload C X378 at_149 (q := 151) rfl rfl ?_
              refine g_icY C X378 at_151 (by decide) (q := 158) (by decide) (by decide) ?_
              refine g_iconst C X378 at_158 (q := 159) rfl (z := (0 : Int32)) rfl ?_
              refine g_icN C X378 at_159 (q := 162) rfl (by decide) ?_
              refine g_iconst C X378 at_162 (q := 163) rfl (z := (1 : Int32)) rfl ?_
              refine g_goto C X378 at_163 (by decide) (q := 167) (by decide) ?_
              exact g_retN C X378 (Or.inl rfl) (z' := 1) (by decide) at_167 (by decide) (by decide) ⟨_, rfl, rfl, trivial⟩
        · refine g_icY C X274 at_75 (by decide) (q := 85) (by decide) (flt hc284).2.2.2 ?_
          have hr379 : v216.toInt ≤ 2 := own_f4 hc284 (by decide)
          obtain rfl : v216 = (2 : Int32) := own_f0 hr272 hr379 (by decide)
          refine g_iload C X274 at_85 (q := 87) rfl rfl ?_
          refine g_iconst C X274 at_87 (q := 88) rfl (z := (3 : Int32)) rfl ?_
          refine g_icY C X274 at_88 (by decide) (q := 98) (by decide) (by decide) ?_
          refine g_iload C X274 at_98 (q := 100) rfl rfl ?_
          refine g_iconst C X274 at_100 (q := 101) rfl (z := (4 : Int32)) rfl ?_
          refine g_icY C X274 at_101 (by decide) (q := 111) (by decide) (by decide) ?_
          refine g_iload C X274 at_111 (q := 113) rfl rfl ?_
          refine g_iload C X274 at_113 (q := 115) rfl rfl ?_
          refine g_callS1 C X274 (y := (⟨"java/lang/Math", "min", "(II)I"⟩ : MethodName)) (by decide) (w33 hw) (w34 hw) (w36 hw) (w35 hw) (rm_min_9 hw  O283 ) (W := 0) (by decide) (by decide) (k' := 2) rfl (n' := 6) rfl (by decide) (by decide) rfl pd_85 (argsL := [(.int (2 : Int32)), (.int (2 : Int32))]) rfl (rest := []) rfl rfl rfl at_115 (q := 118) rfl ?_
          rintro _ T380 _ X381 ⟨rfl, rfl⟩
          refine g_istore C X381 at_118 (q := 120) rfl (L' := #[.val (.int p0), .val (.int p1), .val (.int p2), .val (.int p3), .val (.int (2 : Int32)), .val (.int (2 : Int32)), .val (.int bz222), .val (.double x228), .second, .val (.ref b229), .val (.int (2 : Int32))]) rfl ?_
          refine g_iload C X381 at_120 (q := 122) rfl rfl ?_
          by_cases hc382 : v219 = (0 : Int32)
          · obtain rfl : bz222 = 0 := hz223 (teq hc382).1
            refine g_ifY C X381 at_122 (by decide) (q := 142) (by decide) (by decide) ?_
            refine g_aload C X381 at_142 (q := 144) rfl rfl rfl ?_
            refine g_callV1 C X381 (y := (⟨"com/example/rondel/rondel/primitive/DoubleRingBuffer", "isFull", "()Z"⟩ : MethodName)) (z := (⟨"com/example/rondel/rondel/primitive/DoubleRingBuffer", "isFull", "()Z"⟩ : MethodName)) (a := b229) (by decide) (w37 hw) (w38 hw) (w40 hw) (w39 hw) (nf_sel (w40 hw)) f277 (w41 hw) (w4 hw) (rm_isFull_4 hw (o0 := b229) (o1 := b247) (i2 := (((0 : Int32) + (1 : Int32)) + (1 : Int32))) (kc3 := kA250) (x4 := x228) (x5 := x228) O283 f277 f278 f279 f280 f281 f282 ge237 ge248 (Nat.ne_of_lt (Nat.lt_of_lt_of_le A235.lt sz249))) (W := 0) (by decide) (by decide) (k' := 2) rfl (n' := 6) rfl (by decide) (by decide) rfl pd_95 (argsL := []) rfl (rest := []) rfl rfl rfl at_144 (q := 147) rfl ?_
            rintro _ T383 _ X384 ⟨rfl, rfl⟩
            refine g_iload C X384 at_147 (q := 149) rfl rfl ?_
            refine g_iload C X384 at_149 (q := 151) rfl rfl ?_
            refine g_icN C X384 at_151 (q := 154) rfl (by decide) ?_
            refine g_iconst C X384 at_154 (q := 155) rfl (z := (1 : Int32)) rfl ?_
            refine g_goto C X384 at_155 (by decide) (q := 159) (by decide) ?_
            refine g_icN C X384 at_159 (q := 162) rfl (by decide) ?_
            refine g_iconst C X384 at_162 (q := 163) rfl (z := (1 : Int32)) rfl ?_
            refine g_goto C X384 at_163 (by decide) (q := 167) (by decide) ?_
            exact g_retN C X384 (Or.inl rfl) (z' := 1) (by decide) at_167 (by decide) (by decide) ⟨_, rfl, rfl, trivial⟩
          · obtain rfl : bz222 = 1 := hz224 (feq hc382).1
            refine g_ifN C X381 at_122 (q := 125) rfl (by decide) ?_
            refine g_iload C X381 at_125 (q := 127) rfl rfl ?_
            refine g_ifN C X381 at_127 (q := 130) rfl (by decide) ?_
            refine g_aload C X381 at_130 (q := 132) rfl rfl rfl ?_
            refine g_callV1 C X381 (y := (⟨"com/example/rondel/rondel/primitive/DoubleRingBuffer", "removeFirst", "()D"⟩ : MethodName)) (z := (⟨"com/example/rondel/rondel/primitive/DoubleRingBuffer", "removeFirst", "()D"⟩ : MethodName)) (a := b229) (by decide) (w42 hw) (w43 hw) (w45 hw) (w44 hw) (nf_sel (w45 hw)) f277 (w46 hw) (w4 hw) (rm_removeFirst_2 hw (o0 := b229) (o1 := b247) (i2 := (((0 : Int32) + (1 : Int32)) + (1 : Int32))) (kc3 := kA250) (x4 := x228) (x5 := x228) O283 f277 f278 f279 f280 f281 f282 ge237 ge248 (Nat.ne_of_lt (Nat.lt_of_lt_of_le A235.lt sz249))) (W := 0) (by decide) (by decide) (k' := 2) rfl (n' := 6) rfl (by decide) (by decide) rfl pd_111 (argsL := []) rfl (rest := []) rfl rfl rfl at_132 (q := 135) rfl ?_
            rintro _ T385 h387 X386 ⟨rfl, K388, f389, f390, f391, f392, f393⟩
            have O394 := O283.keep K388 (allS ge237 all0)
            refine g_pop2 C X386 at_135 (q := 136) rfl rfl ?_
            refine g_iload C X386 at_136 (q := 138) rfl rfl ?_
            refine g_iconst C X386 at_138 (q := 139) rfl (z := (1 : Int32)) rfl ?_
            refine g_isub C X386 at_139 (q := 140) rfl (z := (1 : Int32)) (by decide) ?_
            refine g_istore C X386 at_140 (q := 142) rfl (L' := #[.val (.int p0), .val (.int p1), .val (.int p2), .val (.int p3), .val (.int (2 : Int32)), .val (.int (2 : Int32)), .val (.int (1 : Int32)), .val (.double x228), .second, .val (.ref b229), .val (.int (1 : Int32))]) rfl ?_
            refine g_aload C X386 at_142 (q := 144) rfl rfl rfl ?_
            have f395 := (f282.keep K388 (ninS (Ne.symm (Nat.ne_of_lt (Nat.lt_of_lt_of_le A235.lt sz249))) nin0))
            refine g_callV1 C X386 (y := (⟨"com/example/rondel/rondel/primitive/DoubleRingBuffer", "isFull", "()Z"⟩ : MethodName)) (z := (⟨"com/example/rondel/rondel/primitive/DoubleRingBuffer", "isFull", "()Z"⟩ : MethodName)) (a := b229) (by decide) (w37 hw) (w38 hw) (w40 hw) (w39 hw) (nf_sel (w40 hw)) f389 (w41 hw) (w4 hw) (rm_isFull_5 hw (o0 := b229) (o1 := b247) (i2 := ((((0 : Int32) + (1 : Int32)) + (1 : Int32)) + (1 : Int32))) (kc3 := kA250) (x4 := x228) (x5 := x228) O394 f389 f390 f391 f392 f393 f395 ge237 ge248 (Nat.ne_of_lt (Nat.lt_of_lt_of_le A235.lt sz249))) (W := 0) (by decide) (by decide) (k' := 2) rfl (n' := 6) rfl (by decide) (by decide) rfl pd_95 (argsL := []) rfl (rest := []) rfl rfl rfl at_144 (q := 147) rfl ?_
            rintro _ T396 _ X397 ⟨rfl, rfl⟩
            refine g_iload C X397 at_147 (q := 149) rfl rfl ?_
            refine g_iload C X397 at_149 (q := 151) rfl rfl ?_
            refine g_icY C X397 at_151 (by decide) (q := 158) (by decide) (by decide) ?_
            refine g_iconst C X397 at_158 (q := 159) rfl (z := (0 : Int32)) rfl ?_
            refine g_icN C X397 at_159 (q := 162) rfl (by decide) ?_
            refine g_iconst C X397 at_162 (q := 163) rfl (z := (1 : Int32)) rfl ?_
            refine g_goto C X397 at_163 (by decide) (q := 167) (by decide) ?_
            exact g_retN C X397 (Or.inl rfl) (z' := 1) (by decide) at_167 (by decide) (by decide) ⟨_, rfl, rfl, trivial⟩
      · refine g_icY C X261 at_62 (by decide) (q := 72) (by decide) (flt hc271).2.2.2 ?_
        have hr398 : v216.toInt ≤ 1 := own_f4 hc271 (by decide)
        obtain rfl : v216 = (1 : Int32) := own_f0 hr259 hr398 (by decide)
        refine g_iload C X261 at_72 (q := 74) rfl rfl ?_
        refine g_iconst C X261 at_74 (q := 75) rfl (z := (2 : Int32)) rfl ?_
        refine g_icY C X261 at_75 (by decide) (q := 85) (by decide) (by decide) ?_
        refine g_iload C X261 at_85 (q := 87) rfl rfl ?_
        refine g_iconst C X261 at_87 (q := 88) rfl (z := (3 : Int32)) rfl ?_
        refine g_icY C X261 at_88 (by decide) (q := 98) (by decide) (by decide) ?_
        refine g_iload C X261 at_98 (q := 100) rfl rfl ?_
        refine g_iconst C X261 at_100 (q := 101) rfl (z := (4 : Int32)) rfl ?_
        refine g_icY C X261 at_101 (by decide) (q := 111) (by decide) (by decide) ?_
        refine g_iload C X261 at_111 (q := 113) rfl rfl ?_
        refine g_iload C X261 at_113 (q := 115) rfl rfl ?_
        refine g_callS1 C X261 (y := (⟨"java/lang/Math", "min", "(II)I"⟩ : MethodName)) (by decide) (w33 hw) (w34 hw) (w36 hw) (w35 hw) (rm_min_10 hw  O270 ) (W := 0) (by decide) (by decide) (k' := 2) rfl (n' := 6) rfl (by decide) (by decide) rfl pd_85 (argsL := [(.int (1 : Int32)), (.int (2 : Int32))]) rfl (rest := []) rfl rfl rfl at_115 (q := 118) rfl ?_
        rintro _ T399 _ X400 ⟨rfl, rfl⟩
        refine g_istore C X400 at_118 (q := 120) rfl (L' := #[.val (.int p0), .val (.int p1), .val (.int p2), .val (.int p3), .val (.int (2 : Int32)), .val (.int (1 : Int32)), .val (.int bz222), .val (.double x228), .second, .val (.ref b229), .val (.int (1 : Int32))]) rfl ?_
        refine g_iload C X400 at_120 (q := 122) rfl rfl ?_
        by_cases hc401 : v219 = (0 : Int32)
        · obtain rfl : bz222 = 0 := hz223 (teq hc401).1
          refine g_ifY C X400 at_122 (by decide) (q := 142) (by decide) (by decide) ?_
          refine g_aload C X400 at_142 (q := 144) rfl rfl rfl ?_
          refine g_callV1 C X400 (y := (⟨"com/example/rondel/rondel/primitive/DoubleRingBuffer", "isFull", "()Z"⟩ : MethodName)) (z := (⟨"com/example/rondel/rondel/primitive/DoubleRingBuffer", "isFull", "()Z"⟩ : MethodName)) (a := b229) (by decide) (w37 hw) (w38 hw) (w40 hw) (w39 hw) (nf_sel (w40 hw)) f264 (w41 hw) (w4 hw) (rm_isFull_3 hw (o0 := b229) (o1 := b247) (i2 := ((0 : Int32) + (1 : Int32))) (kc3 := kA250) (x4 := x228) (x5 := 0) O270 f264 f265 f266 f267 f268 f269 ge237 ge248 (Nat.ne_of_lt (Nat.lt_of_lt_of_le A235.lt sz249))) (W := 0) (by decide) (by decide) (k' := 2) rfl (n' := 6) rfl (by decide) (by decide) rfl pd_95 (argsL := []) rfl (rest := []) rfl rfl rfl at_144 (q := 147) rfl ?_
          rintro _ T402 _ X403 ⟨rfl, rfl⟩
          refine g_iload C X403 at_147 (q := 149) rfl rfl ?_
          refine g_iload C X403 at_149 (q := 151) rfl rfl ?_
          refine g_icY C X403 at_151 (by decide) (q := 158) (by decide) (by decide) ?_
          refine g_iconst C X403 at_158 (q := 159) rfl (z := (0 : Int32)) rfl ?_
          refine g_icN C X403 at_159 (q := 162) rfl (by decide) ?_
          refine g_iconst C X403 at_162 (q := 163) rfl (z := (1 : Int32)) rfl ?_
          refine g_goto C X403 at_163 (by decide) (q := 167) (by decide) ?_
          exact g_retN C X403 (Or.inl rfl) (z' := 1) (by decide) at_167 (by decide) (by decide) ⟨_, rfl, rfl, trivial⟩
        · obtain rfl : bz222 = 1 := hz224 (feq hc401).1
          refine g_ifN C X400 at_122 (q := 125) rfl (by decide) ?_
          refine g_iload C X400 at_125 (q := 127) rfl rfl ?_
          refine g_ifN C X400 at_127 (q := 130) rfl (by decide) ?_
          refine g_aload C X400 at_130 (q := 132) rfl rfl rfl ?_
          refine g_callV1 C X400 (y := (⟨"com/example/rondel/rondel/primitive/DoubleRingBuffer", "removeFirst", "()D"⟩ : MethodName)) (z := (⟨"com/example/rondel/rondel/primitive/DoubleRingBuffer", "removeFirst", "()D"⟩ : MethodName)) (a := b229) (by decide) (w42 hw) (w43 hw) (w45 hw) (w44 hw) (nf_sel (w45 hw)) f264 (w46 hw) (w4 hw) (rm_removeFirst_3 hw (o0 := b229) (o1 := b247) (i2 := ((0 : Int32) + (1 : Int32))) (kc3 := kA250) (x4 := x228) (x5 := 0) O270 f264 f265 f266 f267 f268 f269 ge237 ge248 (Nat.ne_of_lt (Nat.lt_of_lt_of_le A235.lt sz249))) (W := 0) (by decide) (by decide) (k' := 2) rfl (n' := 6) rfl (by decide) (by decide) rfl pd_111 (argsL := []) rfl (rest := []) rfl rfl rfl at_132 (q := 135) rfl ?_
          rintro _ T404 h406 X405 ⟨rfl, K407, f408, f409, f410, f411, f412⟩
          have O413 := O270.keep K407 (allS ge237 all0)
          refine g_pop2 C X405 at_135 (q := 136) rfl rfl ?_
          refine g_iload C X405 at_136 (q := 138) rfl rfl ?_
          refine g_iconst C X405 at_138 (q := 139) rfl (z := (1 : Int32)) rfl ?_
          refine g_isub C X405 at_139 (q := 140) rfl (z := (0 : Int32)) (by decide) ?_
          refine g_istore C X405 at_140 (q := 142) rfl (L' := #[.val (.int p0), .val (.int p1), .val (.int p2), .val (.int p3), .val (.int (2 : Int32)), .val (.int (1 : Int32)), .val (.int (1 : Int32)), .val (.double x228), .second, .val (.ref b229), .val (.int (0 : Int32))]) rfl ?_
          refine g_aload C X405 at_142 (q := 144) rfl rfl rfl ?_
          have f414 := (f269.keep K407 (ninS (Ne.symm (Nat.ne_of_lt (Nat.lt_of_lt_of_le A235.lt sz249))) nin0))
          refine g_callV1 C X405 (y := (⟨"com/example/rondel/rondel/primitive/DoubleRingBuffer", "isFull", "()Z"⟩ : MethodName)) (z := (⟨"com/example/rondel/rondel/primitive/DoubleRingBuffer", "isFull", "()Z"⟩ : MethodName)) (a := b229) (by decide) (w37 hw) (w38 hw) (w40 hw) (w39 hw) (nf_sel (w40 hw)) f408 (w41 hw) (w4 hw) (rm_isFull_6 hw (o0 := b229) (o1 := b247) (i2 := (((0 : Int32) + (1 : Int32)) + (1 : Int32))) (kc3 := kA250) (x4 := x228) (x5 := 0) O413 f408 f409 f410 f411 f412 f414 ge237 ge248 (Nat.ne_of_lt (Nat.lt_of_lt_of_le A235.lt sz249))) (W := 0) (by decide) (by decide) (k' := 2) rfl (n' := 6) rfl (by decide) (by decide) rfl pd_95 (argsL := []) rfl (rest := []) rfl rfl rfl at_144 (q := 147) rfl ?_
          rintro _ T415 _ X416 ⟨rfl, rfl⟩
          refine g_iload C X416 at_147 (q := 149) rfl rfl ?_
          refine g_iload C X416 at_149 (q := 151) rfl rfl ?_
          refine g_icY C X416 at_151 (by decide) (q := 158) (by decide) (by decide) ?_
          refine g_iconst C X416 at_158 (q := 159) rfl (z := (0 : Int32)) rfl ?_
          refine g_icN C X416 at_159 (q := 162) rfl (by decide) ?_
          refine g_iconst C X416 at_162 (q := 163) rfl (z := (1 : Int32)) rfl ?_
          refine g_goto C X416 at_163 (by decide) (q := 167) (by decide) ?_
          exact g_retN C X416 (Or.inl rfl) (z' := 1) (by decide) at_167 (by decide) (by decide) ⟨_, rfl, rfl, trivial⟩
    · refine g_ifY C X244 at_49 (by decide) (q := 59) (by decide) (flt hc258).2.2.2 ?_
      have hr417 : v216.toInt ≤ 0 := own_f4 hc258 (by decide)
      obtain rfl : v216 = (0 : Int32) := own_f0 hl217 hr417 (by decide)
      refine g_iload C X244 at_59 (q := 61) rfl rfl ?_
      refine g_iconst C X244 at_61 (q := 62) rfl (z := (1 : Int32)) rfl ?_
      refine g_icY C X244 at_62 (by decide) (q := 72) (by decide) (by decide) ?_
      refine g_iload C X244 at_72 (q := 74) rfl rfl ?_
      refine g_iconst C X244 at_74 (q := 75) rfl (z := (2 : Int32)) rfl ?_
      refine g_icY C X244 at_75 (by decide) (q := 85) (by decide) (by decide) ?_
      refine g_iload C X244 at_85 (q := 87) rfl rfl ?_
      refine g_iconst C X244 at_87 (q := 88) rfl (z := (3 : Int32)) rfl ?_
      refine g_icY C X244 at_88 (by decide) (q := 98) (by decide) (by decide) ?_
      refine g_iload C X244 at_98 (q := 100) rfl rfl ?_
      refine g_iconst C X244 at_100 (q := 101) rfl (z := (4 : Int32)) rfl ?_
      refine g_icY C X244 at_101 (by decide) (q := 111) (by decide) (by decide) ?_
      refine g_iload C X244 at_111 (q := 113) rfl rfl ?_
      refine g_iload C X244 at_113 (q := 115) rfl rfl ?_
      refine g_callS1 C X244 (y := (⟨"java/lang/Math", "min", "(II)I"⟩ : MethodName)) (by decide) (w33 hw) (w34 hw) (w36 hw) (w35 hw) (rm_min_11 hw  O257 ) (W := 0) (by decide) (by decide) (k' := 2) rfl (n' := 6) rfl (by decide) (by decide) rfl pd_85 (argsL := [(.int (0 : Int32)), (.int (2 : Int32))]) rfl (rest := []) rfl rfl rfl at_115 (q := 118) rfl ?_
      rintro _ T418 _ X419 ⟨rfl, rfl⟩
      refine g_istore C X419 at_118 (q := 120) rfl (L' := #[.val (.int p0), .val (.int p1), .val (.int p2), .val (.int p3), .val (.int (2 : Int32)), .val (.int (0 : Int32)), .val (.int bz222), .val (.double x228), .second, .val (.ref b229), .val (.int (0 : Int32))]) rfl ?_
      refine g_iload C X419 at_120 (q := 122) rfl rfl ?_
      by_cases hc420 : v219 = (0 : Int32)
      · obtain rfl : bz222 = 0 := hz223 (teq hc420).1
        refine g_ifY C X419 at_122 (by decide) (q := 142) (by decide) (by decide) ?_
        refine g_aload C X419 at_142 (q := 144) rfl rfl rfl ?_
        refine g_callV1 C X419 (y := (⟨"com/example/rondel/rondel/primitive/DoubleRingBuffer", "isFull", "()Z"⟩ : MethodName)) (z := (⟨"com/example/rondel/rondel/primitive/DoubleRingBuffer", "isFull", "()Z"⟩ : MethodName)) (a := b229) (by decide) (w37 hw) (w38 hw) (w40 hw) (w39 hw) (nf_sel (w40 hw)) f251 (w41 hw) (w4 hw) (rm_isFull_7 hw (o0 := b229) (o1 := b247) (i2 := (0 : Int32)) (kc3 := kA250) (x4 := 0) (x5 := 0) O257 f251 f252 f253 f254 f255 f256 ge237 ge248 (Nat.ne_of_lt (Nat.lt_of_lt_of_le A235.lt sz249))) (W := 0) (by decide) (by decide) (k' := 2) rfl (n' := 6) rfl (by decide) (by decide) rfl pd_95 (argsL := []) rfl (rest := []) rfl rfl rfl at_144 (q := 147) rfl ?_
        rintro _ T421 _ X422 ⟨rfl, rfl⟩
        refine g_iload C X422 at_147 (q := 149) rfl rfl ?_
        refine g_iload C X422 at_149 (q := 151) rfl rfl ?_
        refine g_icY C X422 at_151 (by decide) (q := 158) (by decide) (by decide) ?_
        refine g_iconst C X422 at_158 (q := 159) rfl (z := (0 : Int32)) rfl ?_
        refine g_icN C X422 at_159 (q := 162) rfl (by decide) ?_
        refine g_iconst C X422 at_162 (q := 163) rfl (z := (1 : Int32)) rfl ?_
        refine g_goto C X422 at_163 (by decide) (q := 167) (by decide) ?_
        exact g_retN C X422 (Or.inl rfl) (z' := 1) (by decide) at_167 (by decide) (by decide) ⟨_, rfl, rfl, trivial⟩
      · obtain rfl : bz222 = 1 := hz224 (feq hc420).1
        refine g_ifN C X419 at_122 (q := 125) rfl (by decide) ?_
        refine g_iload C X419 at_125 (q := 127) rfl rfl ?_
        refine g_ifY C X419 at_127 (by decide) (q := 142) (by decide) (by decide) ?_
        refine g_aload C X419 at_142 (q := 144) rfl rfl rfl ?_
        refine g_callV1 C X419 (y := (⟨"com/example/rondel/rondel/primitive/DoubleRingBuffer", "isFull", "()Z"⟩ : MethodName)) (z := (⟨"com/example/rondel/rondel/primitive/DoubleRingBuffer", "isFull", "()Z"⟩ : MethodName)) (a := b229) (by decide) (w37 hw) (w38 hw) (w40 hw) (w39 hw) (nf_sel (w40 hw)) f251 (w41 hw) (w4 hw) (rm_isFull_7 hw (o0 := b229) (o1 := b247) (i2 := (0 : Int32)) (kc3 := kA250) (x4 := 0) (x5 := 0) O257 f251 f252 f253 f254 f255 f256 ge237 ge248 (Nat.ne_of_lt (Nat.lt_of_lt_of_le A235.lt sz249))) (W := 0) (by decide) (by decide) (k' := 2) rfl (n' := 6) rfl (by decide) (by decide) rfl pd_95 (argsL := []) rfl (rest := []) rfl rfl rfl at_144 (q := 147) rfl ?_
        rintro _ T423 _ X424 ⟨rfl, rfl⟩
        refine g_iload C X424 at_147 (q := 149) rfl rfl ?_
        refine g_iload C X424 at_149 (q := 151) rfl rfl ?_
        refine g_icY C X424 at_151 (by decide) (q := 158) (by decide) (by decide) ?_
        refine g_iconst C X424 at_158 (q := 159) rfl (z := (0 : Int32)) rfl ?_
        refine g_icN C X424 at_159 (q := 162) rfl (by decide) ?_
        refine g_iconst C X424 at_162 (q := 163) rfl (z := (1 : Int32)) rfl ?_
        refine g_goto C X424 at_163 (by decide) (q := 167) (by decide) ?_
        exact g_retN C X424 (Or.inl rfl) (z' := 1) (by decide) at_167 (by decide) (by decide) ⟨_, rfl, rfl, trivial⟩
  · refine g_iconst C X at_0 (q := 1) rfl (z := (1 : Int32)) rfl ?_
    refine g_iloadN C X at_1 (q := 2) rfl rfl ?_
    refine g_iconst C X at_2 (q := 3) rfl (z := (3 : Int32)) rfl ?_
    refine g_iand C X at_3 (q := 4) rfl (z := (2 : Int32)) hk ?_
    refine g_iadd C X at_4 (q := 5) rfl (z := (3 : Int32)) (by decide) ?_
    refine g_istore C X at_5 (q := 7) rfl (L' := #[.val (.int p0), .val (.int p1), .val (.int p2), .val (.int p3), .val (.int (3 : Int32)), .unset, .unset, .unset, .unset, .unset, .unset]) rfl ?_
    refine g_iloadN C X at_7 (q := 8) rfl rfl ?_
    refine g_ldcI C X (w0 hw) at_8 (q := 10) rfl ?_
    obtain ⟨v425, ev425⟩ : ∃ z, (p1 &&& (2147483647 : Int32)) = z := ⟨_, rfl⟩
    have hl426 : 0 ≤ v425.toInt := by rw [← ev425]; exact (c_and p1 (2147483647 : Int32) (by decide)).1
    have hh427 : v425.toInt ≤ 2147483647 := by rw [← ev425]; exact (c_and p1 (2147483647 : Int32) (by decide)).2
    refine g_iand C X at_10 (q := 11) rfl (z := v425) ev425 ?_
    refine g_bipush C X at_11 (q := 13) rfl (z := (6 : Int32)) rfl ?_
    obtain ⟨v428, ev428⟩ : ∃ z, (v425 % (6 : Int32)) = z := ⟨_, rfl⟩
    have hl429 : 0 ≤ v428.toInt := by rw [← ev428]; exact (own_rem (y := (6 : Int32)) (d := 5) (by decide) (by decide) (Int.le_trans (by decide) hl426)).1
    have hh430 : v428.toInt ≤ 5 := by rw [← ev428]; exact (own_rem (y := (6 : Int32)) (d := 5) (by decide) (by decide) (Int.le_trans (by decide) hl426)).2
    refine g_irem C X at_13 (q := 14) rfl (by decide) (z := v428) ev428 ?_
    refine g_istore C X at_14 (q := 16) rfl (L' := #[.val (.int p0), .val (.int p1), .val (.int p2), .val (.int p3), .val (.int (3 : Int32)), .val (.int v428), .unset, .unset, .unset, .unset, .unset]) rfl ?_
    refine g_iloadN C X at_16 (q := 17) rfl rfl ?_
    refine g_iconst C X at_17 (q := 18) rfl (z := (1 : Int32)) rfl ?_
    obtain ⟨v431, ev431⟩ : ∃ z, (p2 &&& (1 : Int32)) = z := ⟨_, rfl⟩
    have hl432 : 0 ≤ v431.toInt := by rw [← ev431]; exact (c_and p2 (1 : Int32) (by decide)).1
    have hh433 : v431.toInt ≤ 1 := by rw [← ev431]; exact (c_and p2 (1 : Int32) (by decide)).2
    refine g_iand C X at_18 (q := 19) rfl (z := v431) ev431 ?_
    refine g_boolF C X at_19 at_22 at_23 at_26 (q := 27) rfl ?_
    intro bz434 hz435 hz436
    refine g_istore C X at_27 (q := 29) rfl (L' := #[.val (.int p0), .val (.int p1), .val (.int p2), .val (.int p3), .val (.int (3 : Int32)), .val (.int v428), .val (.int bz434), .unset, .unset, .unset, .unset]) rfl ?_
    refine g_iloadN C X at_29 (q := 30) rfl rfl ?_
    refine g_ldcI C X (w1 hw) at_30 (q := 32) rfl ?_
    obtain ⟨v437, ev437⟩ : ∃ z, (p3 &&& (65535 : Int32)) = z := ⟨_, rfl⟩
    have hl438 : 0 ≤ v437.toInt := by rw [← ev437]; exact (c_and p3 (65535 : Int32) (by decide)).1
    have hh439 : v437.toInt ≤ 65535 := by rw [← ev437]; exact (c_and p3 (65535 : Int32) (by decide)).2
    refine g_iand C X at_32 (q := 33) rfl (z := v437) ev437 ?_
    obtain ⟨x440, ex440⟩ : ∃ z, (FP.i2d v437) = z := ⟨_, rfl⟩
    refine g_i2d C X at_33 (q := 34) rfl (z := x440) ex440 ?_
    refine g_dstore C X at_34 (q := 36) rfl (L' := #[.val (.int p0), .val (.int p1), .val (.int p2), .val (.int p3), .val (.int (3 : Int32)), .val (.int v428), .val (.int bz434), .val (.double x440), .second, .unset, .unset]) rfl ?_
    refine g_new C X (w2 hw) (w3 hw) (w4 hw) at_36 (q := 39) rfl (k' := 1) rfl (n' := 4) rfl (by decide) (by decide) ?_
    intro T442 h443 b441 g445 X444 E446 A447 D448
    have ge449 : n0 ≤ b441 := own_ge O g445
    have O450 := O.ext E446
    have f451 : Fld Z h443 b441 "com/example/rondel/rondel/primitive/DoubleRingBuffer" "readings" "[D" .null := D448 (Or.inr (w13 hw)) (ty := (.array .double)) (by decide)
    have f452 : Fld Z h443 b441 "com/example/rondel/rondel/primitive/DoubleRingBuffer" "size" "I" (.int (0 : Int32)) := D448 (Or.inl (w20 hw)) (ty := .int) (by decide)
    have f453 : Fld Z h443 b441 "com/example/rondel/rondel/primitive/DoubleRingBuffer" "head" "I" (.int (0 : Int32)) := D448 (Or.inl (w26 hw)) (ty := .int) (by decide)
    have f454 : Fld Z h443 b441 "com/example/rondel/rondel/primitive/DoubleRingBuffer" "modCount" "I" (.int (0 : Int32)) := D448 (Or.inl (w28 hw)) (ty := .int) (by decide)
    refine g_dup C X444 at_39 (q := 40) rfl rfl ?_
    refine g_iload C X444 at_40 (q := 42) rfl rfl ?_
    refine g_callI0 C X444 (y := (⟨"com/example/rondel/rondel/primitive/DoubleRingBuffer", "<init>", "(I)V"⟩ : MethodName)) (a := b441) (by decide) rfl (w5 hw) (w6 hw) (w7 hw) (w4 hw) (rm_init_2 hw (o0 := b441) (i1 := (0 : Int32)) O450 A447 f451 f452 f453 f454 ge449) (W := 1) (by decide) (by decide) (k' := 2) rfl (n' := 7) rfl (by decide) (by decide) rfl pd_11 (argsL := [(.int (3 : Int32))]) rfl (rest := [(.ref b441)]) rfl rfl rfl at_42 (q := 45) rfl ?_
    rintro T455 h457 X456 ⟨b459, kA462, K458, ge460, sz461, f463, f464, f465, f466, f467, f468⟩
    have O469 := O450.keep K458 (allS ge449 all0)
    refine g_astore C X456 at_45 (q := 47) rfl rfl (L' := #[.val (.int p0), .val (.int p1), .val (.int p2), .val (.int p3), .val (.int (3 : Int32)), .val (.int v428), .val (.int bz434), .val (.double x440), .second, .val (.ref b441), .unset]) rfl ?_
    refine g_iload C X456 at_47 (q := 49) rfl rfl ?_
    by_cases hc470 : (0 : Int32) < v428
    · refine g_ifN C X456 at_49 (q := 52) rfl (tlt hc470).2.2.2 ?_
      have hr471 : 1 ≤ v428.toInt := own_f3 hc470 (by decide)
      refine g_aload C X456 at_52 (q := 54) rfl rfl rfl ?_
      refine g_dload C X456 at_54 (q := 56) rfl rfl ?_
      refine g_callV0 C X456 (y := (⟨"com/example/rondel/rondel/primitive/DoubleRingBuffer", "add", "(D)V"⟩ : MethodName)) (z := (⟨"com/example/rondel/rondel/primitive/DoubleRingBuffer", "add", "(D)V"⟩ : MethodName)) (a := b441) (by decide) (w14 hw) (w15 hw) (w17 hw) (w16 hw) (nf_sel (w17 hw)) f463 (w18 hw) (w4 hw) (rm_add_6 hw (o0 := b441) (o1 := b459) (i2 := (0 : Int32)) (kc3 := kA462) (x4 := 0) (x5 := 0) (x6 := 0) (x7 := x440) O469 f463 f464 f465 f466 f467 f468 ge449 ge460 (Nat.ne_of_lt (Nat.lt_of_lt_of_le A447.lt sz461))) (W := 0) (by decide) (by decide) (k' := 2) rfl (n' := 7) rfl (by decide) (by decide) rfl pd_56 (argsL := [(.double x440)]) rfl (rest := []) rfl rfl rfl at_56 (q := 59) rfl ?_
      rintro T472 h474 X473 ⟨K475, f476, f477, f478, f479, f480, f481⟩
      have O482 := O469.keep K475 (allS ge460 (allS ge449 all0))
      refine g_iload C X473 at_59 (q := 61) rfl rfl ?_
      refine g_iconst C X473 at_61 (q := 62) rfl (z := (1 : Int32)) rfl ?_
      by_cases hc483 : (1 : Int32) < v428
      · refine g_icN C X473 at_62 (q := 65) rfl (tlt hc483).2.2.2 ?_
        have hr484 : 2 ≤ v428.toInt := own_f3 hc483 (by decide)
        refine g_aload C X473 at_65 (q := 67) rfl rfl rfl ?_
        refine g_dload C X473 at_67 (q := 69) rfl rfl ?_
        refine g_callV0 C X473 (y := (⟨"com/example/rondel/rondel/primitive/DoubleRingBuffer", "add", "(D)V"⟩ : MethodName)) (z := (⟨"com/example/rondel/rondel/primitive/DoubleRingBuffer", "add", "(D)V"⟩ : MethodName)) (a := b441) (by decide) (w14 hw) (w15 hw) (w17 hw) (w16 hw) (nf_sel (w17 hw)) f476 (w18 hw) (w4 hw) (rm_add_7 hw (o0 := b441) (o1 := b459) (i2 := ((0 : Int32) + (1 : Int32))) (kc3 := kA462) (x4 := x440) (x5 := 0) (x6 := 0) (x7 := x440) O482 f476 f477 f478 f479 f480 f481 ge449 ge460 (Nat.ne_of_lt (Nat.lt_of_lt_of_le A447.lt sz461))) (W := 0) (by decide) (by decide) (k' := 2) rfl (n' := 7) rfl (by decide) (by decide) rfl pd_56 (argsL := [(.double x440)]) rfl (rest := []) rfl rfl rfl at_69 (q := 72) rfl ?_
        rintro T485 h487 X486 ⟨K488, f489, f490, f491, f492, f493, f494⟩
        have O495 := O482.keep K488 (allS ge460 (allS ge449 all0))
        refine g_iload C X486 at_72 (q := 74) rfl rfl ?_
        refine g_iconst C X486 at_74 (q := 75) rfl (z := (2 : Int32)) rfl ?_
        by_cases hc496 : (2 : Int32) < v428
        · refine g_icN C X486 at_75 (q := 78) rfl (tlt hc496).2.2.2 ?_
          have hr497 : 3 ≤ v428.toInt := own_f3 hc496 (by decide)
          refine g_aload C X486 at_78 (q := 80) rfl rfl rfl ?_
          refine g_dload C X486 at_80 (q := 82) rfl rfl ?_
          refine g_callV0 C X486 (y := (⟨"com/example/rondel/rondel/primitive/DoubleRingBuffer", "add", "(D)V"⟩ : MethodName)) (z := (⟨"com/example/rondel/rondel/primitive/DoubleRingBuffer", "add", "(D)V"⟩ : MethodName)) (a := b441) (by decide) (w14 hw) (w15 hw) (w17 hw) (w16 hw) (nf_sel (w17 hw)) f489 (w18 hw) (w4 hw) (rm_add_8 hw (o0 := b441) (o1 := b459) (i2 := (((0 : Int32) + (1 : Int32)) + (1 : Int32))) (kc3 := kA462) (x4 := x440) (x5 := x440) (x6 := 0) (x7 := x440) O495 f489 f490 f491 f492 f493 f494 ge449 ge460 (Nat.ne_of_lt (Nat.lt_of_lt_of_le A447.lt sz461))) (W := 0) (by decide) (by decide) (k' := 2) rfl (n' := 7) rfl (by decide) (by decide) rfl pd_56 (argsL := [(.double x440)]) rfl (rest := []) rfl rfl rfl at_82 (q := 85) rfl ?_
          rintro T498 h500 X499 ⟨K501, f502, f503, f504, f505, f506, f507⟩
          have O508 := O495.keep K501 (allS ge460 (allS ge449 all0))
          refine g_iload C X499 at_85 (q := 87) rfl rfl ?_
          refine g_iconst C X499 at_87 (q := 88) rfl (z := (3 : Int32)) rfl ?_
          by_cases hc509 : (3 : Int32) < v428
          · refine g_icN C X499 at_88 (q := 91) rfl (tlt hc509).2.2.2 ?_
            have hr510 : 4 ≤ v428.toInt := own_f3 hc509 (by decide)
            refine g_aload C X499 at_91 (q := 93) rfl rfl rfl ?_
            refine g_dload C X499 at_93 (q := 95) rfl rfl ?_
            refine g_callV0 C X499 (y := (⟨"com/example/rondel/rondel/primitive/DoubleRingBuffer", "add", "(D)V"⟩ : MethodName)) (z := (⟨"com/example/rondel/rondel/primitive/DoubleRingBuffer", "add", "(D)V"⟩ : MethodName)) (a := b441) (by decide) (w14 hw) (w15 hw) (w17 hw) (w16 hw) (nf_sel (w17 hw)) f502 (w18 hw) (w4 hw) (rm_add_9 hw (o0 := b441) (o1 := b459) (i2 := ((((0 : Int32) + (1 : Int32)) + (1 : Int32)) + (1 : Int32))) (kc3 := kA462) (x4 := x440) (x5 := x440) (x6 := x440) (x7 := x440) O508 f502 f503 f504 f505 f506 f507 ge449 ge460 (Nat.ne_of_lt (Nat.lt_of_lt_of_le A447.lt sz461))) (W := 0) (by decide) (by decide) (k' := 2) rfl (n' := 7) rfl (by decide) (by decide) rfl pd_56 (argsL := [(.double x440)]) rfl (rest := []) rfl rfl rfl at_95 (q := 98) rfl ?_
            rintro T511 h513 X512 ⟨K514, f515, f516, f517, f518, f519, f520⟩
            have O521 := O508.keep K514 (allS ge460 (allS ge449 all0))
            refine g_iload C X512 at_98 (q := 100) rfl rfl ?_
            refine g_iconst C X512 at_100 (q := 101) rfl (z := (4 : Int32)) rfl ?_
            by_cases hc522 : (4 : Int32) < v428
            · refine g_icN C X512 at_101 (q := 104) rfl (tlt hc522).2.2.2 ?_
              have hr523 : 5 ≤ v428.toInt := own_f3 hc522 (by decide)
              obtain rfl : v428 = (5 : Int32) := own_f0 hr523 hh430 (by decide)
              refine g_aload C X512 at_104 (q := 106) rfl rfl rfl ?_
              refine g_dload C X512 at_106 (q := 108) rfl rfl ?_
              refine g_callV0 C X512 (y := (⟨"com/example/rondel/rondel/primitive/DoubleRingBuffer", "add", "(D)V"⟩ : MethodName)) (z := (⟨"com/example/rondel/rondel/primitive/DoubleRingBuffer", "add", "(D)V"⟩ : MethodName)) (a := b441) (by decide) (w14 hw) (w15 hw) (w17 hw) (w16 hw) (nf_sel (w17 hw)) f515 (w18 hw) (w4 hw) (rm_add_10 hw (o0 := b441) (o1 := b459) (i2 := (((((0 : Int32) + (1 : Int32)) + (1 : Int32)) + (1 : Int32)) + (1 : Int32))) (kc3 := kA462) (x4 := x440) (x5 := x440) (x6 := x440) (x7 := x440) O521 f515 f516 f517 f518 f519 f520 ge449 ge460 (Nat.ne_of_lt (Nat.lt_of_lt_of_le A447.lt sz461))) (W := 0) (by decide) (by decide) (k' := 2) rfl (n' := 7) rfl (by decide) (by decide) rfl pd_56 (argsL := [(.double x440)]) rfl (rest := []) rfl rfl rfl at_108 (q := 111) rfl ?_
              rintro T524 h526 X525 ⟨K527, f528, f529, f530, f531, f532, f533⟩
              have O534 := O521.keep K527 (allS ge460 (allS ge449 all0))
              refine g_iload C X525 at_111 (q := 113) rfl rfl ?_
              refine g_iload C X525 at_113 (q := 115) rfl rfl ?_
              refine g_callS1 C X525 (y := (⟨"java/lang/Math", "min", "(II)I"⟩ : MethodName)) (by decide) (w33 hw) (w34 hw) (w36 hw) (w35 hw) (rm_min_12 hw  O534 ) (W := 0) (by decide) (by decide) (k' := 2) rfl (n' := 7) rfl (by decide) (by decide) rfl pd_85 (argsL := [(.int (5 : Int32)), (.int (3 : Int32))]) rfl (rest := []) rfl rfl rfl at_115 (q := 118) rfl ?_
              rintro _ T535 _ X536 ⟨rfl, rfl⟩
              refine g_istore C X536 at_118 (q := 120) rfl (L' := #[.val (.int p0), .val (.int p1), .val (.int p2), .val (.int p3), .val (.int (3 : Int32)), .val (.int (5 : Int32)), .val (.int bz434), .val (.double x440), .second, .val (.ref b441), .val (.int (3 : Int32))]) rfl ?_
              refine g_iload C X536 at_120 (q := 122) rfl rfl ?_
              by_cases hc537 : v431 = (0 : Int32)
              · obtain rfl : bz434 = 0 := hz435 (teq hc537).1
                refine g_ifY C X536 at_122 (by decide) (q := 142) (by decide) (by decide) ?_
                refine g_aload C X536 at_142 (q := 144) rfl rfl rfl ?_
                refine g_callV1 C X536 (y := (⟨"com/example/rondel/rondel/primitive/DoubleRingBuffer", "isFull", "()Z"⟩ : MethodName)) (z := (⟨"com/example/rondel/rondel/primitive/DoubleRingBuffer", "isFull", "()Z"⟩ : MethodName)) (a := b441) (by decide) (w37 hw) (w38 hw) (w40 hw) (w39 hw) (nf_sel (w40 hw)) f528 (w41 hw) (w4 hw) (rm_isFull_8 hw (o0 := b441) (o1 := b459) (i2 := ((((((0 : Int32) + (1 : Int32)) + (1 : Int32)) + (1 : Int32)) + (1 : Int32)) + (1 : Int32))) (kc3 := kA462) (x4 := x440) (x5 := x440) (x6 := x440) O534 f528 f529 f530 f531 f532 f533 ge449 ge460 (Nat.ne_of_lt (Nat.lt_of_lt_of_le A447.lt sz461))) (W := 0) (by decide) (by decide) (k' := 2) rfl (n' := 7) rfl (by decide) (by decide) rfl pd_95 (argsL := []) rfl (rest := []) rfl rfl rfl at_144 (q := 147) rfl ?_
                rintro _ T538 _ X539 ⟨rfl, rfl⟩
                refine g_iload C X539 at_147 (q := 149) rfl rfl ?_
                refine g_iload C X539 at_149 (q := 151) rfl rfl ?_
                refine g_icN C X539 at_151 (q := 154) rfl (by decide) ?_
                refine g_iconst C X539 at_154 (q := 155) rfl (z := (1 : Int32)) rfl ?_
                refine g_goto C X539 at_155 (by decide) (q := 159) (by decide) ?_
                refine g_icN C X539 at_159 (q := 162) rfl (by decide) ?_
                refine g_iconst C X539 at_162 (q := 163) rfl (z := (1 : Int32)) rfl ?_
                refine g_goto C X539 at_163 (by decide) (q := 167) (by decide) ?_
                exact g_retN C X539 (Or.inl rfl) (z' := 1) (by decide) at_167 (by decide) (by decide) ⟨_, rfl, rfl, trivial⟩
              · obtain rfl : bz434 = 1 := hz436 (feq hc537).1
                refine g_ifN C X536 at_122 (q := 125) rfl (by decide) ?_
                refine g_iload C X536 at_125 (q := 127) rfl rfl ?_
                refine g_ifN C X536 at_127 (q := 130) rfl (by decide) ?_
                refine g_aload C X536 at_130 (q := 132) rfl rfl rfl ?_
                refine g_callV1 C X536 (y := (⟨"com/example/rondel/rondel/primitive/DoubleRingBuffer", "removeFirst", "()D"⟩ : MethodName)) (z := (⟨"com/example/rondel/rondel/primitive/DoubleRingBuffer", "removeFirst", "()D"⟩ : MethodName)) (a := b441) (by decide) (w42 hw) (w43 hw) (w45 hw) (w44 hw) (nf_sel (w45 hw)) f528 (w46 hw) (w4 hw) (rm_removeFirst_4 hw (o0 := b441) (o1 := b459) (i2 := ((((((0 : Int32) + (1 : Int32)) + (1 : Int32)) + (1 : Int32)) + (1 : Int32)) + (1 : Int32))) (kc3 := kA462) (x4 := x440) (x5 := x440) (x6 := x440) O534 f528 f529 f530 f531 f532 f533 ge449 ge460 (Nat.ne_of_lt (Nat.lt_of_lt_of_le A447.lt sz461))) (W := 0) (by decide) (by decide) (k' := 2) rfl (n' := 7) rfl (by decide) (by decide) rfl pd_111 (argsL := []) rfl (rest := []) rfl rfl rfl at_132 (q := 135) rfl ?_
                rintro _ T540 h542 X541 ⟨rfl, K543, f544, f545, f546, f547, f548⟩
                have O549 := O534.keep K543 (allS ge449 all0)
                refine g_pop2 C X541 at_135 (q := 136) rfl rfl ?_
                refine g_iload C X541 at_136 (q := 138) rfl rfl ?_
                refine g_iconst C X541 at_138 (q := 139) rfl (z := (1 : Int32)) rfl ?_
                refine g_isub C X541 at_139 (q := 140) rfl (z := (2 : Int32)) (by decide) ?_
                refine g_istore C X541 at_140 (q := 142) rfl (L' := #[.val (.int p0), .val (.int p1), .val (.int p2), .val (.int p3), .val (.int (3 : Int32)), .val (.int (5 : Int32)), .val (.int (1 : Int32)), .val (.double x440), .second, .val (.ref b441), .val (.int (2 : Int32))]) rfl ?_
                refine g_aload C X541 at_142 (q := 144) rfl rfl rfl ?_
                have f550 := (f533.keep K543 (ninS (Ne.symm (Nat.ne_of_lt (Nat.lt_of_lt_of_le A447.lt sz461))) nin0))
                refine g_callV1 C X541 (y := (⟨"com/example/rondel/rondel/primitive/DoubleRingBuffer", "isFull", "()Z"⟩ : MethodName)) (z := (⟨"com/example/rondel/rondel/primitive/DoubleRingBuffer", "isFull", "()Z"⟩ : MethodName)) (a := b441) (by decide) (w37 hw) (w38 hw) (w40 hw) (w39 hw) (nf_sel (w40 hw)) f544 (w41 hw) (w4 hw) (rm_isFull_9 hw (o0 := b441) (o1 := b459) (i2 := (((((((0 : Int32) + (1 : Int32)) + (1 : Int32)) + (1 : Int32)) + (1 : Int32)) + (1 : Int32)) + (1 : Int32))) (kc3 := kA462) (x4 := x440) (x5 := x440) (x6 := x440) O549 f544 f545 f546 f547 f548 f550 ge449 ge460 (Nat.ne_of_lt (Nat.lt_of_lt_of_le A447.lt sz461))) (W := 0) (by decide) (by decide) (k' := 2) rfl (n' := 7) rfl (by decide) (by decide) rfl pd_95 (argsL := []) rfl (rest := []) rfl rfl rfl at_144 (q := 147) rfl ?_
                rintro _ T551 _ X552 ⟨rfl, rfl⟩
                refine g_iload C X552 at_147 (q := 149) rfl rfl ?_
                refine g_iload C X552 at_149 (q := 151) rfl rfl ?_
                refine g_icY C X552 at_151 (by decide) (q := 158) (by decide) (by decide) ?_
                refine g_iconst C X552 at_158 (q := 159) rfl (z := (0 : Int32)) rfl ?_
                refine g_icN C X552 at_159 (q := 162) rfl (by decide) ?_
                refine g_iconst C X552 at_162 (q := 163) rfl (z := (1 : Int32)) rfl ?_
                refine g_goto C X552 at_163 (by decide) (q := 167) (by decide) ?_
                exact g_retN C X552 (Or.inl rfl) (z' := 1) (by decide) at_167 (by decide) (by decide) ⟨_, rfl, rfl, trivial⟩
            · refine g_icY C X512 at_101 (by decide) (q := 111) (by decide) (flt hc522).2.2.2 ?_
              have hr553 : v428.toInt ≤ 4 := own_f4 hc522 (by decide)
              obtain rfl : v428 = (4 : Int32) := own_f0 hr510 hr553 (by decide)
              refine g_iload C X512 at_111 (q := 113) rfl rfl ?_
              refine g_iload C X512 at_113 (q := 115) rfl rfl ?_
              refine g_callS1 C X512 (y := (⟨"java/lang/Math", "min", "(II)I"⟩ : MethodName)) (by decide) (w33 hw) (w34 hw) (w36 hw) (w35 hw) (rm_min_13 hw  O521 ) (W := 0) (by decide) (by decide) (k' := 2) rfl (n' := 7) rfl (by decide) (by decide) rfl pd_85 (argsL := [(.int (4 : Int32)), (.int (3 : Int32))]) rfl (rest := []) rfl rfl rfl at_115 (q := 118) rfl ?_
              rintro _ T554 _ X555 ⟨rfl, rfl⟩
              refine g_istore C X555 at_118 (q := 120) rfl (L' := #[.val (.int p0), .val (.int p1), .val (.int p2), .val (.int p3), .val (.int (3 : Int32)), .val (.int (4 : Int32)), .val (.int bz434), .val (.double x440), .second, .val (.ref b441), .val (.int (3 : Int32))]) rfl ?_
              refine g_iload C X555 at_120 (q := 122) rfl rfl ?_
              by_cases hc556 : v431 = (0 : Int32)
              · obtain rfl : bz434 = 0 := hz435 (teq hc556).1
                refine g_ifY C X555 at_122 (by decide) (q := 142) (by decide) (by decide) ?_
                refine g_aload C X555 at_142 (q := 144) rfl rfl rfl ?_
                refine g_callV1 C X555 (y := (⟨"com/example/rondel/rondel/primitive/DoubleRingBuffer", "isFull", "()Z"⟩ : MethodName)) (z := (⟨"com/example/rondel/rondel/primitive/DoubleRingBuffer", "isFull", "()Z"⟩ : MethodName)) (a := b441) (by decide) (w37 hw) (w38 hw) (w40 hw) (w39 hw) (nf_sel (w40 hw)) f515 (w41 hw) (w4 hw) (rm_isFull_10 hw (o0 := b441) (o1 := b459) (i2 := (((((0 : Int32) + (1 : Int32)) + (1 : Int32)) + (1 : Int32)) + (1 : Int32))) (kc3 := kA462) (x4 := x440) (x5 := x440) (x6 := x440) O521 f515 f516 f517 f518 f519 f520 ge449 ge460 (Nat.ne_of_lt (Nat.lt_of_lt_of_le A447.lt sz461))) (W := 0) (by decide) (by decide) (k' := 2) rfl (n' := 7) rfl (by decide) (by decide) rfl pd_95 (argsL := []) rfl (rest := []) rfl rfl rfl at_144 (q := 147) rfl ?_
                rintro _ T557 _ X558 ⟨rfl, rfl⟩
                refine g_iload C X558 at_147 (q := 149) rfl rfl ?_
                refine g_iload C X558 at_149 (q := 151) rfl rfl ?_
                refine g_icN C X558 at_151 (q := 154) rfl (by decide) ?_
                refine g_iconst C X558 at_154 (q := 155) rfl (z := (1 : Int32)) rfl ?_
                refine g_goto C X558 at_155 (by decide) (q := 159) (by decide) ?_
                refine g_icN C X558 at_159 (q := 162) rfl (by decide) ?_
                refine g_iconst C X558 at_162 (q := 163) rfl (z := (1 : Int32)) rfl ?_
                refine g_goto C X558 at_163 (by decide) (q := 167) (by decide) ?_
                exact g_retN C X558 (Or.inl rfl) (z' := 1) (by decide) at_167 (by decide) (by decide) ⟨_, rfl, rfl, trivial⟩
              · obtain rfl : bz434 = 1 := hz436 (feq hc556).1
                refine g_ifN C X555 at_122 (q := 125) rfl (by decide) ?_
                refine g_iload C X555 at_125 (q := 127) rfl rfl ?_
                refine g_ifN C X555 at_127 (q := 130) rfl (by decide) ?_
                refine g_aload C X555 at_130 (q := 132) rfl rfl rfl ?_
                refine g_callV1 C X555 (y := (⟨"com/example/rondel/rondel/primitive/DoubleRingBuffer", "removeFirst", "()D"⟩ : MethodName)) (z := (⟨"com/example/rondel/rondel/primitive/DoubleRingBuffer", "removeFirst", "()D"⟩ : MethodName)) (a := b441) (by decide) (w42 hw) (w43 hw) (w45 hw) (w44 hw) (nf_sel (w45 hw)) f515 (w46 hw) (w4 hw) (rm_removeFirst_5 hw (o0 := b441) (o1 := b459) (i2 := (((((0 : Int32) + (1 : Int32)) + (1 : Int32)) + (1 : Int32)) + (1 : Int32))) (kc3 := kA462) (x4 := x440) (x5 := x440) (x6 := x440) O521 f515 f516 f517 f518 f519 f520 ge449 ge460 (Nat.ne_of_lt (Nat.lt_of_lt_of_le A447.lt sz461))) (W := 0) (by decide) (by decide) (k' := 2) rfl (n' := 7) rfl (by decide) (by decide) rfl pd_111 (argsL := []) rfl (rest := []) rfl rfl rfl at_132 (q := 135) rfl ?_
                rintro _ T559 h561 X560 ⟨rfl, K562, f563, f564, f565, f566, f567⟩
                have O568 := O521.keep K562 (allS ge449 all0)
                refine g_pop2 C X560 at_135 (q := 136) rfl rfl ?_
                refine g_iload C X560 at_136 (q := 138) rfl rfl ?_
                refine g_iconst C X560 at_138 (q := 139) rfl (z := (1 : Int32)) rfl ?_
                refine g_isub C X560 at_139 (q := 140) rfl (z := (2 : Int32)) (by decide) ?_
                refine g_istore C X560 at_140 (q := 142) rfl (L' := #[.val (.int p0), .val (.int p1), .val (.int p2), .val (.int p3), .val (.int (3 : Int32)), .val (.int (4 : Int32)), .val (.int (1 : Int32)), .val (.double x440), .second, .val (.ref b441), .val (.int (2 : Int32))]) rfl ?_
                refine g_aload C X560 at_142 (q := 144) rfl rfl rfl ?_
                have f569 := (f520.keep K562 (ninS (Ne.symm (Nat.ne_of_lt (Nat.lt_of_lt_of_le A447.lt sz461))) nin0))
                refine g_callV1 C X560 (y := (⟨"com/example/rondel/rondel/primitive/DoubleRingBuffer", "isFull", "()Z"⟩ : MethodName)) (z := (⟨"com/example/rondel/rondel/primitive/DoubleRingBuffer", "isFull", "()Z"⟩ : MethodName)) (a := b441) (by decide) (w37 hw) (w38 hw) (w40 hw) (w39 hw) (nf_sel (w40 hw)) f563 (w41 hw) (w4 hw) (rm_isFull_11 hw (o0 := b441) (o1 := b459) (i2 := ((((((0 : Int32) + (1 : Int32)) + (1 : Int32)) + (1 : Int32)) + (1 : Int32)) + (1 : Int32))) (kc3 := kA462) (x4 := x440) (x5 := x440) (x6 := x440) O568 f563 f564 f565 f566 f567 f569 ge449 ge460 (Nat.ne_of_lt (Nat.lt_of_lt_of_le A447.lt sz461))) (W := 0) (by decide) (by decide) (k' := 2) rfl (n' := 7) rfl (by decide) (by decide) rfl pd_95 (argsL := []) rfl (rest := []) rfl rfl rfl at_144 (q := 147) rfl ?_
                rintro _ T570 _ X571 ⟨rfl, rfl⟩
                refine g_iload C X571 at_147 (q := 149) rfl rfl ?_
                refine g_iload C X571 at_149 (q := 151) rfl rfl ?_
                refine g_icY C X571 at_151 (by decide) (q := 158) (by decide) (by decide) ?_
                refine g_iconst C X571 at_158 (q := 159) rfl (z := (0 : Int32)) rfl ?_
                refine g_icN C X571 at_159 (q := 162) rfl (by decide) ?_
                refine g_iconst C X571 at_162 (q := 163) rfl (z := (1 : Int32)) rfl ?_
                refine g_goto C X571 at_163 (by decide) (q := 167) (by decide) ?_
                exact g_retN C X571 (Or.inl rfl) (z' := 1) (by decide) at_167 (by decide) (by decide) ⟨_, rfl, rfl, trivial⟩
          · refine g_icY C X499 at_88 (by decide) (q := 98) (by decide) (flt hc509).2.2.2 ?_
            have hr572 : v428.toInt ≤ 3 := own_f4 hc509 (by decide)
            obtain rfl : v428 = (3 : Int32) := own_f0 hr497 hr572 (by decide)
            refine g_iload C X499 at_98 (q := 100) rfl rfl ?_
            refine g_iconst C X499 at_100 (q := 101) rfl (z := (4 : Int32)) rfl ?_
            refine g_icY C X499 at_101 (by decide) (q := 111) (by decide) (by decide) ?_
            refine g_iload C X499 at_111 (q := 113) rfl rfl ?_
            refine g_iload C X499 at_113 (q := 115) rfl rfl ?_
            refine g_callS1 C X499 (y := (⟨"java/lang/Math", "min", "(II)I"⟩ : MethodName)) (by decide) (w33 hw) (w34 hw) (w36 hw) (w35 hw) (rm_min_14 hw  O508 ) (W := 0) (by decide) (by decide) (k' := 2) rfl (n' := 7) rfl (by decide) (by decide) rfl pd_85 (argsL := [(.int (3 : Int32)), (.int (3 : Int32))]) rfl (rest := []) rfl rfl rfl at_115 (q := 118) rfl ?_
            rintro _ T573 _ X574 ⟨rfl, rfl⟩
            refine g_istore C X574 at_118 (q := 120) rfl (L' := #[.val (.int p0), .val (.int p1), .val (.int p2), .val (.int p3), .val (.int (3 : Int32)), .val (.int (3 : Int32)), .val (.int bz434), .val (.double x440), .second, .val (.ref b441), .val (.int (3 : Int32))]) rfl ?_
            refine g_iload C X574 at_120 (q := 122) rfl rfl ?_
            by_cases hc575 : v431 = (0 : Int32)
            · obtain rfl : bz434 = 0 := hz435 (teq hc575).1
              refine g_ifY C X574 at_122 (by decide) (q := 142) (by decide) (by decide) ?_
              refine g_aload C X574 at_142 (q := 144) rfl rfl rfl ?_
              refine g_callV1 C X574 (y := (⟨"com/example/rondel/rondel/primitive/DoubleRingBuffer", "isFull", "()Z"⟩ : MethodName)) (z := (⟨"com/example/rondel/rondel/primitive/DoubleRingBuffer", "isFull", "()Z"⟩ : MethodName)) (a := b441) (by decide) (w37 hw) (w38 hw) (w40 hw) (w39 hw) (nf_sel (w40 hw)) f502 (w41 hw) (w4 hw) (rm_isFull_12 hw (o0 := b441) (o1 := b459) (i2 := ((((0 : Int32) + (1 : Int32)) + (1 : Int32)) + (1 : Int32))) (kc3 := kA462) (x4 := x440) (x5 := x440) (x6 := x440) O508 f502 f503 f504 f505 f506 f507 ge449 ge460 (Nat.ne_of_lt (Nat.lt_of_lt_of_le A447.lt sz461))) (W := 0) (by decide) (by decide) (k' := 2) rfl (n' := 7) rfl (by decide) (by decide) rfl pd_95 (argsL := []) rfl (rest := []) rfl rfl rfl at_144 (q := 147) rfl ?_
              rintro _ T576 _ X577 ⟨rfl, rfl⟩
              refine g_iload C X577 at_147 (q := 149) rfl rfl ?_
              refine g_iload C X577 at_149 (q := 151) rfl rfl ?_
              refine g_icN C X577 at_151 (q := 154) rfl (by decide) ?_
              refine g_iconst C X577 at_154 (q := 155) rfl (z := (1 : Int32)) rfl ?_
              refine g_goto C X577 at_155 (by decide) (q := 159) (by decide) ?_
              refine g_icN C X577 at_159 (q := 162) rfl (by decide) ?_
              refine g_iconst C X577 at_162 (q := 163) rfl (z := (1 : Int32)) rfl ?_
              refine g_goto C X577 at_163 (by decide) (q := 167) (by decide) ?_
              exact g_retN C X577 (Or.inl rfl) (z' := 1) (by decide) at_167 (by decide) (by decide) ⟨_, rfl, rfl, trivial⟩
            · obtain rfl : bz434 = 1 := hz436 (feq hc575).1
              refine g_ifN C X574 at_122 (q := 125) rfl (by decide) ?_
              refine g_iload C X574 at_125 (q := 127) rfl rfl ?_
              refine g_ifN C X574 at_127 (q := 130) rfl (by decide) ?_
              refine g_aload C X574 at_130 (q := 132) rfl rfl rfl ?_
              refine g_callV1 C X574 (y := (⟨"com/example/rondel/rondel/primitive/DoubleRingBuffer", "removeFirst", "()D"⟩ : MethodName)) (z := (⟨"com/example/rondel/rondel/primitive/DoubleRingBuffer", "removeFirst", "()D"⟩ : MethodName)) (a := b441) (by decide) (w42 hw) (w43 hw) (w45 hw) (w44 hw) (nf_sel (w45 hw)) f502 (w46 hw) (w4 hw) (rm_removeFirst_6 hw (o0 := b441) (o1 := b459) (i2 := ((((0 : Int32) + (1 : Int32)) + (1 : Int32)) + (1 : Int32))) (kc3 := kA462) (x4 := x440) (x5 := x440) (x6 := x440) O508 f502 f503 f504 f505 f506 f507 ge449 ge460 (Nat.ne_of_lt (Nat.lt_of_lt_of_le A447.lt sz461))) (W := 0) (by decide) (by decide) (k' := 2) rfl (n' := 7) rfl (by decide) (by decide) rfl pd_111 (argsL := []) rfl (rest := []) rfl rfl rfl at_132 (q := 135) rfl ?_
              rintro _ T578 h580 X579 ⟨rfl, K581, f582, f583, f584, f585, f586⟩
              have O587 := O508.keep K581 (allS ge449 all0)
              refine g_pop2 C X579 at_135 (q := 136) rfl rfl ?_
              refine g_iload C X579 at_136 (q := 138) rfl rfl ?_
              refine g_iconst C X579 at_138 (q := 139) rfl (z := (1 : Int32)) rfl ?_
              refine g_isub C X579 at_139 (q := 140) rfl (z := (2 : Int32)) (by decide) ?_
              refine g_istore C X579 at_140 (q := 142) rfl (L' := #[.val (.int p0), .val (.int p1), .val (.int p2), .val (.int p3), .val (.int (3 : Int32)), .val (.int (3 : Int32)), .val (.int (1 : Int32)), .val (.double x440), .second, .val (.ref b441), .val (.int (2 : Int32))]) rfl ?_
              refine g_aload C X579 at_142 (q := 144) rfl rfl rfl ?_
              have f588 := (f507.keep K581 (ninS (Ne.symm (Nat.ne_of_lt (Nat.lt_of_lt_of_le A447.lt sz461))) nin0))
              refine g_callV1 C X579 (y := (⟨"com/example/rondel/rondel/primitive/DoubleRingBuffer", "isFull", "()Z"⟩ : MethodName)) (z := (⟨"com/example/rondel/rondel/primitive/DoubleRingBuffer", "isFull", "()Z"⟩ : MethodName)) (a := b441) (by decide) (w37 hw) (w38 hw) (w40 hw) (w39 hw) (nf_sel (w40 hw)) f582 (w41 hw) (w4 hw) (rm_isFull_13 hw (o0 := b441) (o1 := b459) (i2 := (((((0 : Int32) + (1 : Int32)) + (1 : Int32)) + (1 : Int32)) + (1 : Int32))) (kc3 := kA462) (x4 := x440) (x5 := x440) (x6 := x440) O587 f582 f583 f584 f585 f586 f588 ge449 ge460 (Nat.ne_of_lt (Nat.lt_of_lt_of_le A447.lt sz461))) (W := 0) (by decide) (by decide) (k' := 2) rfl (n' := 7) rfl (by decide) (by decide) rfl pd_95 (argsL := []) rfl (rest := []) rfl rfl rfl at_144 (q := 147) rfl ?_
              rintro _ T589 _ X590 ⟨rfl, rfl⟩
              refine g_iload C X590 at_147 (q := 149) rfl rfl ?_
              refine g_iload C X590 at_149 (q := 151) rfl rfl ?_
              refine g_icY C X590 at_151 (by decide) (q := 158) (by decide) (by decide) ?_
              refine g_iconst C X590 at_158 (q := 159) rfl (z := (0 : Int32)) rfl ?_
              refine g_icN C X590 at_159 (q := 162) rfl (by decide) ?_
              refine g_iconst C X590 at_162 (q := 163) rfl (z := (1 : Int32)) rfl ?_
              refine g_goto C X590 at_163 (by decide) (q := 167) (by decide) ?_
              exact g_retN C X590 (Or.inl rfl) (z' := 1) (by decide) at_167 (by decide) (by decide) ⟨_, rfl, rfl, trivial⟩
        · refine g_icY C X486 at_75 (by decide) (q := 85) (by decide) (flt hc496).2.2.2 ?_
          have hr591 : v428.toInt ≤ 2 := own_f4 hc496 (by decide)
          obtain rfl : v428 = (2 : Int32) := own_f0 hr484 hr591 (by decide)
          refine g_iload C X486 at_85 (q := 87) rfl rfl ?_
          refine g_iconst C X486 at_87 (q := 88) rfl (z := (3 : Int32)) rfl ?_
          refine g_icY C X486 at_88 (by decide) (q := 98) (by decide) (by decide) ?_
          refine g_iload C X486 at_98 (q := 100) rfl rfl ?_
          refine g_iconst C X486 at_100 (q := 101) rfl (z := (4 : Int32)) rfl ?_
          refine g_icY C X486 at_101 (by decide) (q := 111) (by decide) (by decide) ?_
          refine g_iload C X486 at_111 (q := 113) rfl rfl ?_
          refine g_iload C X486 at_113 (q := 115) rfl rfl ?_
          refine g_callS1 C X486 (y := (⟨"java/lang/Math", "min", "(II)I"⟩ : MethodName)) (by decide) (w33 hw) (w34 hw) (w36 hw) (w35 hw) (rm_min_15 hw  O495 ) (W := 0) (by decide) (by decide) (k' := 2) rfl (n' := 7) rfl (by decide) (by decide) rfl pd_85 (argsL := [(.int (2 : Int32)), (.int (3 : Int32))]) rfl (rest := []) rfl rfl rfl at_115 (q := 118) rfl ?_
          rintro _ T592 _ X593 ⟨rfl, rfl⟩
          refine g_istore C X593 at_118 (q := 120) rfl (L' := #[.val (.int p0), .val (.int p1), .val (.int p2), .val (.int p3), .val (.int (3 : Int32)), .val (.int (2 : Int32)), .val (.int bz434), .val (.double x440), .second, .val (.ref b441), .val (.int (2 : Int32))]) rfl ?_
          refine g_iload C X593 at_120 (q := 122) rfl rfl ?_
          by_cases hc594 : v431 = (0 : Int32)
          · obtain rfl : bz434 = 0 := hz435 (teq hc594).1
            refine g_ifY C X593 at_122 (by decide) (q := 142) (by decide) (by decide) ?_
            refine g_aload C X593 at_142 (q := 144) rfl rfl rfl ?_
            refine g_callV1 C X593 (y := (⟨"com/example/rondel/rondel/primitive/DoubleRingBuffer", "isFull", "()Z"⟩ : MethodName)) (z := (⟨"com/example/rondel/rondel/primitive/DoubleRingBuffer", "isFull", "()Z"⟩ : MethodName)) (a := b441) (by decide) (w37 hw) (w38 hw) (w40 hw) (w39 hw) (nf_sel (w40 hw)) f489 (w41 hw) (w4 hw) (rm_isFull_9 hw (o0 := b441) (o1 := b459) (i2 := (((0 : Int32) + (1 : Int32)) + (1 : Int32))) (kc3 := kA462) (x4 := x440) (x5 := x440) (x6 := 0) O495 f489 f490 f491 f492 f493 f494 ge449 ge460 (Nat.ne_of_lt (Nat.lt_of_lt_of_le A447.lt sz461))) (W := 0) (by decide) (by decide) (k' := 2) rfl (n' := 7) rfl (by decide) (by decide) rfl pd_95 (argsL := []) rfl (rest := []) rfl rfl rfl at_144 (q := 147) rfl ?_
            rintro _ T595 _ X596 ⟨rfl, rfl⟩
            refine g_iload C X596 at_147 (q := 149) rfl rfl ?_
            refine g_iload C X596 at_149 (q := 151) rfl rfl ?_
            refine g_icY C X596 at_151 (by decide) (q := 158) (by decide) (by decide) ?_
            refine g_iconst C X596 at_158 (q := 159) rfl (z := (0 : Int32)) rfl ?_
            refine g_icN C X596 at_159 (q := 162) rfl (by decide) ?_
            refine g_iconst C X596 at_162 (q := 163) rfl (z := (1 : Int32)) rfl ?_
            refine g_goto C X596 at_163 (by decide) (q := 167) (by decide) ?_
            exact g_retN C X596 (Or.inl rfl) (z' := 1) (by decide) at_167 (by decide) (by decide) ⟨_, rfl, rfl, trivial⟩
          · obtain rfl : bz434 = 1 := hz436 (feq hc594).1
            refine g_ifN C X593 at_122 (q := 125) rfl (by decide) ?_
            refine g_iload C X593 at_125 (q := 127) rfl rfl ?_
            refine g_ifN C X593 at_127 (q := 130) rfl (by decide) ?_
            refine g_aload C X593 at_130 (q := 132) rfl rfl rfl ?_
            refine g_callV1 C X593 (y := (⟨"com/example/rondel/rondel/primitive/DoubleRingBuffer", "removeFirst", "()D"⟩ : MethodName)) (z := (⟨"com/example/rondel/rondel/primitive/DoubleRingBuffer", "removeFirst", "()D"⟩ : MethodName)) (a := b441) (by decide) (w42 hw) (w43 hw) (w45 hw) (w44 hw) (nf_sel (w45 hw)) f489 (w46 hw) (w4 hw) (rm_removeFirst_7 hw (o0 := b441) (o1 := b459) (i2 := (((0 : Int32) + (1 : Int32)) + (1 : Int32))) (kc3 := kA462) (x4 := x440) (x5 := x440) (x6 := 0) O495 f489 f490 f491 f492 f493 f494 ge449 ge460 (Nat.ne_of_lt (Nat.lt_of_lt_of_le A447.lt sz461))) (W := 0) (by decide) (by decide) (k' := 2) rfl (n' := 7) rfl (by decide) (by decide) rfl pd_111 (argsL := []) rfl (rest := []) rfl rfl rfl at_132 (q := 135) rfl ?_
            rintro _ T597 h599 X598 ⟨rfl, K600, f601, f602, f603, f604, f605⟩
            have O606 := O495.keep K600 (allS ge449 all0)
            refine g_pop2 C X598 at_135 (q := 136) rfl rfl ?_
            refine g_iload C X598 at_136 (q := 138) rfl rfl ?_
            refine g_iconst C X598 at_138 (q := 139) rfl (z := (1 : Int32)) rfl ?_
            refine g_isub C X598 at_139 (q := 140) rfl (z := (1 : Int32)) (by decide) ?_
            refine g_istore C X598 at_140 (q := 142) rfl (L' := #[.val (.int p0), .val (.int p1), .val (.int p2), .val (.int p3), .val (.int (3 : Int32)), .val (.int (2 : Int32)), .val (.int (1 : Int32)), .val (.double x440), .second, .val (.ref b441), .val (.int (1 : Int32))]) rfl ?_
            refine g_aload C X598 at_142 (q := 144) rfl rfl rfl ?_
            have f607 := (f494.keep K600 (ninS (Ne.symm (Nat.ne_of_lt (Nat.lt_of_lt_of_le A447.lt sz461))) nin0))
            refine g_callV1 C X598 (y := (⟨"com/example/rondel/rondel/primitive/DoubleRingBuffer", "isFull", "()Z"⟩ : MethodName)) (z := (⟨"com/example/rondel/rondel/primitive/DoubleRingBuffer", "isFull", "()Z"⟩ : MethodName)) (a := b441) (by decide) (w37 hw) (w38 hw) (w40 hw) (w39 hw) (nf_sel (w40 hw)) f601 (w41 hw) (w4 hw) (rm_isFull_14 hw (o0 := b441) (o1 := b459) (i2 := ((((0 : Int32) + (1 : Int32)) + (1 : Int32)) + (1 : Int32))) (kc3 := kA462) (x4 := x440) (x5 := x440) (x6 := 0) O606 f601 f602 f603 f604 f605 f607 ge449 ge460 (Nat.ne_of_lt (Nat.lt_of_lt_of_le A447.lt sz461))) (W := 0) (by decide) (by decide) (k' := 2) rfl (n' := 7) rfl (by decide) (by decide) rfl pd_95 (argsL := []) rfl (rest := []) rfl rfl rfl at_144 (q := 147) rfl ?_
            rintro _ T608 _ X609 ⟨rfl, rfl⟩
            refine g_iload C X609 at_147 (q := 149) rfl rfl ?_
            refine g_iload C X609 at_149 (q := 151) rfl rfl ?_
            refine g_icY C X609 at_151 (by decide) (q := 158) (by decide) (by decide) ?_
            refine g_iconst C X609 at_158 (q := 159) rfl (z := (0 : Int32)) rfl ?_
            refine g_icN C X609 at_159 (q := 162) rfl (by decide) ?_
            refine g_iconst C X609 at_162 (q := 163) rfl (z := (1 : Int32)) rfl ?_
            refine g_goto C X609 at_163 (by decide) (q := 167) (by decide) ?_
            exact g_retN C X609 (Or.inl rfl) (z' := 1) (by decide) at_167 (by decide) (by decide) ⟨_, rfl, rfl, trivial⟩
      · refine g_icY C X473 at_62 (by decide) (q := 72) (by decide) (flt hc483).2.2.2 ?_
        have hr610 : v428.toInt ≤ 1 := own_f4 hc483 (by decide)
        obtain rfl : v428 = (1 : Int32) := own_f0 hr471 hr610 (by decide)
        refine g_iload C X473 at_72 (q := 74) rfl rfl ?_
        refine g_iconst C X473 at_74 (q := 75) rfl (z := (2 : Int32)) rfl ?_
        refine g_icY C X473 at_75 (by decide) (q := 85) (by decide) (by decide) ?_
        refine g_iload C X473 at_85 (q := 87) rfl rfl ?_
        refine g_iconst C X473 at_87 (q := 88) rfl (z := (3 : Int32)) rfl ?_
        refine g_icY C X473 at_88 (by decide) (q := 98) (by decide) (by decide) ?_
        refine g_iload C X473 at_98 (q := 100) rfl rfl ?_
        refine g_iconst C X473 at_100 (q := 101) rfl (z := (4 : Int32)) rfl ?_
        refine g_icY C X473 at_101 (by decide) (q := 111) (by decide) (by decide) ?_
        refine g_iload C X473 at_111 (q := 113) rfl rfl ?_
        refine g_iload C X473 at_113 (q := 115) rfl rfl ?_
        refine g_callS1 C X473 (y := (⟨"java/lang/Math", "min", "(II)I"⟩ : MethodName)) (by decide) (w33 hw) (w34 hw) (w36 hw) (w35 hw) (rm_min_16 hw  O482 ) (W := 0) (by decide) (by decide) (k' := 2) rfl (n' := 7) rfl (by decide) (by decide) rfl pd_85 (argsL := [(.int (1 : Int32)), (.int (3 : Int32))]) rfl (rest := []) rfl rfl rfl at_115 (q := 118) rfl ?_
        rintro _ T611 _ X612 ⟨rfl, rfl⟩
        refine g_istore C X612 at_118 (q := 120) rfl (L' := #[.val (.int p0), .val (.int p1), .val (.int p2), .val (.int p3), .val (.int (3 : Int32)), .val (.int (1 : Int32)), .val (.int bz434), .val (.double x440), .second, .val (.ref b441), .val (.int (1 : Int32))]) rfl ?_
        refine g_iload C X612 at_120 (q := 122) rfl rfl ?_
        by_cases hc613 : v431 = (0 : Int32)
        · obtain rfl : bz434 = 0 := hz435 (teq hc613).1
          refine g_ifY C X612 at_122 (by decide) (q := 142) (by decide) (by decide) ?_
          refine g_aload C X612 at_142 (q := 144) rfl rfl rfl ?_
          refine g_callV1 C X612 (y := (⟨"com/example/rondel/rondel/primitive/DoubleRingBuffer", "isFull", "()Z"⟩ : MethodName)) (z := (⟨"com/example/rondel/rondel/primitive/DoubleRingBuffer", "isFull", "()Z"⟩ : MethodName)) (a := b441) (by decide) (w37 hw) (w38 hw) (w40 hw) (w39 hw) (nf_sel (w40 hw)) f476 (w41 hw) (w4 hw) (rm_isFull_15 hw (o0 := b441) (o1 := b459) (i2 := ((0 : Int32) + (1 : Int32))) (kc3 := kA462) (x4 := x440) (x5 := 0) (x6 := 0) O482 f476 f477 f478 f479 f480 f481 ge449 ge460 (Nat.ne_of_lt (Nat.lt_of_lt_of_le A447.lt sz461))) (W := 0) (by decide) (by decide) (k' := 2) rfl (n' := 7) rfl (by decide) (by decide) rfl pd_95 (argsL := []) rfl (rest := []) rfl rfl rfl at_144 (q := 147) rfl ?_
          rintro _ T614 _ X615 ⟨rfl, rfl⟩
          refine g_iload C X615 at_147 (q := 149) rfl rfl ?_
          refine g_iload C X615 at_149 (q := 151) rfl rfl ?_
          refine g_icY C X615 at_151 (by decide) (q := 158) (by decide) (by decide) ?_
          refine g_iconst C X615 at_158 (q := 159) rfl (z := (0 : Int32)) rfl ?_
          refine g_icN C X615 at_159 (q := 162) rfl (by decide) ?_
          refine g_iconst C X615 at_162 (q := 163) rfl (z := (1 : Int32)) rfl ?_
          refine g_goto C X615 at_163 (by decide) (q := 167) (by decide) ?_
          exact g_retN C X615 (Or.inl rfl) (z' := 1) (by decide) at_167 (by decide) (by decide) ⟨_, rfl, rfl, trivial⟩
        · obtain rfl : bz434 = 1 := hz436 (feq hc613).1
          refine g_ifN C X612 at_122 (q := 125) rfl (by decide) ?_
          refine g_iload C X612 at_125 (q := 127) rfl rfl ?_
          refine g_ifN C X612 at_127 (q := 130) rfl (by decide) ?_
          refine g_aload C X612 at_130 (q := 132) rfl rfl rfl ?_
          refine g_callV1 C X612 (y := (⟨"com/example/rondel/rondel/primitive/DoubleRingBuffer", "removeFirst", "()D"⟩ : MethodName)) (z := (⟨"com/example/rondel/rondel/primitive/DoubleRingBuffer", "removeFirst", "()D"⟩ : MethodName)) (a := b441) (by decide) (w42 hw) (w43 hw) (w45 hw) (w44 hw) (nf_sel (w45 hw)) f476 (w46 hw) (w4 hw) (rm_removeFirst_8 hw (o0 := b441) (o1 := b459) (i2 := ((0 : Int32) + (1 : Int32))) (kc3 := kA462) (x4 := x440) (x5 := 0) (x6 := 0) O482 f476 f477 f478 f479 f480 f481 ge449 ge460 (Nat.ne_of_lt (Nat.lt_of_lt_of_le A447.lt sz461))) (W := 0) (by decide) (by decide) (k' := 2) rfl (n' := 7) rfl (by decide) (by decide) rfl pd_111 (argsL := []) rfl (rest := []) rfl rfl rfl at_132 (q := 135) rfl ?_
          rintro _ T616 h618 X617 ⟨rfl, K619, f620, f621, f622, f623, f624⟩
          have O625 := O482.keep K619 (allS ge449 all0)
          refine g_pop2 C X617 at_135 (q := 136) rfl rfl ?_
          refine g_iload C X617 at_136 (q := 138) rfl rfl ?_
          refine g_iconst C X617 at_138 (q := 139) rfl (z := (1 : Int32)) rfl ?_
          refine g_isub C X617 at_139 (q := 140) rfl (z := (0 : Int32)) (by decide) ?_
          refine g_istore C X617 at_140 (q := 142) rfl (L' := #[.val (.int p0), .val (.int p1), .val (.int p2), .val (.int p3), .val (.int (3 : Int32)), .val (.int (1 : Int32)), .val (.int (1 : Int32)), .val (.double x440), .second, .val (.ref b441), .val (.int (0 : Int32))]) rfl ?_
          refine g_aload C X617 at_142 (q := 144) rfl rfl rfl ?_
          have f626 := (f481.keep K619 (ninS (Ne.symm (Nat.ne_of_lt (Nat.lt_of_lt_of_le A447.lt sz461))) nin0))
          refine g_callV1 C X617 (y := (⟨"com/example/rondel/rondel/primitive/DoubleRingBuffer", "isFull", "()Z"⟩ : MethodName)) (z := (⟨"com/example/rondel/rondel/primitive/DoubleRingBuffer", "isFull", "()Z"⟩ : MethodName)) (a := b441) (by decide) (w37 hw) (w38 hw) (w40 hw) (w39 hw) (nf_sel (w40 hw)) f620 (w41 hw) (w4 hw) (rm_isFull_16 hw (o0 := b441) (o1 := b459) (i2 := (((0 : Int32) + (1 : Int32)) + (1 : Int32))) (kc3 := kA462) (x4 := x440) (x5 := 0) (x6 := 0) O625 f620 f621 f622 f623 f624 f626 ge449 ge460 (Nat.ne_of_lt (Nat.lt_of_lt_of_le A447.lt sz461))) (W := 0) (by decide) (by decide) (k' := 2) rfl (n' := 7) rfl (by decide) (by decide) rfl pd_95 (argsL := []) rfl (rest := []) rfl rfl rfl at_144 (q := 147) rfl ?_
          rintro _ T627 _ X628 ⟨rfl, rfl⟩
          refine g_iload C X628 at_147 (q := 149) rfl rfl ?_
          refine g_iload C X628 at_149 (q := 151) rfl rfl ?_
          refine g_icY C X628 at_151 (by decide) (q := 158) (by decide) (by decide) ?_
          refine g_iconst C X628 at_158 (q := 159) rfl (z := (0 : Int32)) rfl ?_
          refine g_icN C X628 at_159 (q := 162) rfl (by decide) ?_
          refine g_iconst C X628 at_162 (q := 163) rfl (z := (1 : Int32)) rfl ?_
          refine g_goto C X628 at_163 (by decide) (q := 167) (by decide) ?_
          exact g_retN C X628 (Or.inl rfl) (z' := 1) (by decide) at_167 (by decide) (by decide) ⟨_, rfl, rfl, trivial⟩
    · refine g_ifY C X456 at_49 (by decide) (q := 59) (by decide) (flt hc470).2.2.2 ?_
      have hr629 : v428.toInt ≤ 0 := own_f4 hc470 (by decide)
      obtain rfl : v428 = (0 : Int32) := own_f0 hl429 hr629 (by decide)
      refine g_iload C X456 at_59 (q := 61) rfl rfl ?_
      refine g_iconst C X456 at_61 (q := 62) rfl (z := (1 : Int32)) rfl ?_
      refine g_icY C X456 at_62 (by decide) (q := 72) (by decide) (by decide) ?_
      refine g_iload C X456 at_72 (q := 74) rfl rfl ?_
      refine g_iconst C X456 at_74 (q := 75) rfl (z := (2 : Int32)) rfl ?_
      refine g_icY C X456 at_75 (by decide) (q := 85) (by decide) (by decide) ?_
      refine g_iload C X456 at_85 (q := 87) rfl rfl ?_
      refine g_iconst C X456 at_87 (q := 88) rfl (z := (3 : Int32)) rfl ?_
      refine g_icY C X456 at_88 (by decide) (q := 98) (by decide) (by decide) ?_
      refine g_iload C X456 at_98 (q := 100) rfl rfl ?_
      refine g_iconst C X456 at_100 (q := 101) rfl (z := (4 : Int32)) rfl ?_
      refine g_icY C X456 at_101 (by decide) (q := 111) (by decide) (by decide) ?_
      refine g_iload C X456 at_111 (q := 113) rfl rfl ?_
      refine g_iload C X456 at_113 (q := 115) rfl rfl ?_
      refine g_callS1 C X456 (y := (⟨"java/lang/Math", "min", "(II)I"⟩ : MethodName)) (by decide) (w33 hw) (w34 hw) (w36 hw) (w35 hw) (rm_min_17 hw  O469 ) (W := 0) (by decide) (by decide) (k' := 2) rfl (n' := 7) rfl (by decide) (by decide) rfl pd_85 (argsL := [(.int (0 : Int32)), (.int (3 : Int32))]) rfl (rest := []) rfl rfl rfl at_115 (q := 118) rfl ?_
      rintro _ T630 _ X631 ⟨rfl, rfl⟩
      refine g_istore C X631 at_118 (q := 120) rfl (L' := #[.val (.int p0), .val (.int p1), .val (.int p2), .val (.int p3), .val (.int (3 : Int32)), .val (.int (0 : Int32)), .val (.int bz434), .val (.double x440), .second, .val (.ref b441), .val (.int (0 : Int32))]) rfl ?_
      refine g_iload C X631 at_120 (q := 122) rfl rfl ?_
      by_cases hc632 : v431 = (0 : Int32)
      · obtain rfl : bz434 = 0 := hz435 (teq hc632).1
        refine g_ifY C X631 at_122 (by decide) (q := 142) (by decide) (by decide) ?_
        refine g_aload C X631 at_142 (q := 144) rfl rfl rfl ?_
        refine g_callV1 C X631 (y := (⟨"com/example/rondel/rondel/primitive/DoubleRingBuffer", "isFull", "()Z"⟩ : MethodName)) (z := (⟨"com/example/rondel/rondel/primitive/DoubleRingBuffer", "isFull", "()Z"⟩ : MethodName)) (a := b441) (by decide) (w37 hw) (w38 hw) (w40 hw) (w39 hw) (nf_sel (w40 hw)) f463 (w41 hw) (w4 hw) (rm_isFull_17 hw (o0 := b441) (o1 := b459) (i2 := (0 : Int32)) (kc3 := kA462) (x4 := 0) (x5 := 0) (x6 := 0) O469 f463 f464 f465 f466 f467 f468 ge449 ge460 (Nat.ne_of_lt (Nat.lt_of_lt_of_le A447.lt sz461))) (W := 0) (by decide) (by decide) (k' := 2) rfl (n' := 7) rfl (by decide) (by decide) rfl pd_95 (argsL := []) rfl (rest := []) rfl rfl rfl at_144 (q := 147) rfl ?_
        rintro _ T633 _ X634 ⟨rfl, rfl⟩
        refine g_iload C X634 at_147 (q := 149) rfl rfl ?_
        refine g_iload C X634 at_149 (q := 151) rfl rfl ?_
        refine g_icY C X634 at_151 (by decide) (q := 158) (by decide) (by decide) ?_
        refine g_iconst C X634 at_158 (q := 159) rfl (z := (0 : Int32)) rfl ?_
        refine g_icN C X634 at_159 (q := 162) rfl (by decide) ?_
        refine g_iconst C X634 at_162 (q := 163) rfl (z := (1 : Int32)) rfl ?_
        refine g_goto C X634 at_163 (by decide) (q := 167) (by decide) ?_
        exact g_retN C X634 (Or.inl rfl) (z' := 1) (by decide) at_167 (by decide) (by decide) ⟨_, rfl, rfl, trivial⟩
      · obtain rfl : bz434 = 1 := hz436 (feq hc632).1
        refine g_ifN C X631 at_122 (q := 125) rfl (by decide) ?_
        refine g_iload C X631 at_125 (q := 127) rfl rfl ?_
        refine g_ifY C X631 at_127 (by decide) (q := 142) (by decide) (by decide) ?_
        refine g_aload C X631 at_142 (q := 144) rfl rfl rfl ?_
        refine g_callV1 C X631 (y := (⟨"com/example/rondel/rondel/primitive/DoubleRingBuffer", "isFull", "()Z"⟩ : MethodName)) (z := (⟨"com/example/rondel/rondel/primitive/DoubleRingBuffer", "isFull", "()Z"⟩ : MethodName)) (a := b441) (by decide) (w37 hw) (w38 hw) (w40 hw) (w39 hw) (nf_sel (w40 hw)) f463 (w41 hw) (w4 hw) (rm_isFull_17 hw (o0 := b441) (o1 := b459) (i2 := (0 : Int32)) (kc3 := kA462) (x4 := 0) (x5 := 0) (x6 := 0) O469 f463 f464 f465 f466 f467 f468 ge449 ge460 (Nat.ne_of_lt (Nat.lt_of_lt_of_le A447.lt sz461))) (W := 0) (by decide) (by decide) (k' := 2) rfl (n' := 7) rfl (by decide) (by decide) rfl pd_95 (argsL := []) rfl (rest := []) rfl rfl rfl at_144 (q := 147) rfl ?_
        rintro _ T635 _ X636 ⟨rfl, rfl⟩
        refine g_iload C X636 at_147 (q := 149) rfl rfl ?_
        refine g_iload C X636 at_149 (q := 151) rfl rfl ?_
        refine g_icY C X636 at_151 (by decide) (q := 158) (by decide) (by decide) ?_
        refine g_iconst C X636 at_158 (q := 159) rfl (z := (0 : Int32)) rfl ?_
        refine g_icN C X636 at_159 (q := 162) rfl (by decide) ?_
        refine g_iconst C X636 at_162 (q := 163) rfl (z := (1 : Int32)) rfl ?_
        refine g_goto C X636 at_163 (by decide) (q := 167) (by decide) ?_
        exact g_retN C X636 (Or.inl rfl) (z' := 1) (by decide) at_167 (by decide) (by decide) ⟨_, rfl, rfl, trivial⟩
  · refine g_iconst C X at_0 (q := 1) rfl (z := (1 : Int32)) rfl ?_
    refine g_iloadN C X at_1 (q := 2) rfl rfl ?_
    refine g_iconst C X at_2 (q := 3) rfl (z := (3 : Int32)) rfl ?_
    refine g_iand C X at_3 (q := 4) rfl (z := (3 : Int32)) hk ?_
    refine g_iadd C X at_4 (q := 5) rfl (z := (4 : Int32)) (by decide) ?_
    refine g_istore C X at_5 (q := 7) rfl (L' := #[.val (.int p0), .val (.int p1), .val (.int p2), .val (.int p3), .val (.int (4 : Int32)), .unset, .unset, .unset, .unset, .unset, .unset]) rfl ?_
    refine g_iloadN C X at_7 (q := 8) rfl rfl ?_
    refine g_ldcI C X (w0 hw) at_8 (q := 10) rfl ?_
    obtain ⟨v637, ev637⟩ : ∃ z, (p1 &&& (2147483647 : Int32)) = z := ⟨_, rfl⟩
    have hl638 : 0 ≤ v637.toInt := by rw [← ev637]; exact (c_and p1 (2147483647 : Int32) (by decide)).1
    have hh639 : v637.toInt ≤ 2147483647 := by rw [← ev637]; exact (c_and p1 (2147483647 : Int32) (by decide)).2
    refine g_iand C X at_10 (q := 11) rfl (z := v637) ev637 ?_
    refine g_bipush C X at_11 (q := 13) rfl (z := (6 : Int32)) rfl ?_
    obtain ⟨v640, ev640⟩ : ∃ z, (v637 % (6 : Int32)) = z := ⟨_, rfl⟩
    have hl641 : 0 ≤ v640.toInt := by rw [← ev640]; exact (own_rem (y := (6 : Int32)) (d := 5) (by decide) (by decide) (Int.le_trans (by decide) hl638)).1
    have hh642 : v640.toInt ≤ 5 := by rw [← ev640]; exact (own_rem (y := (6 : Int32)) (d := 5) (by decide) (by decide) (Int.le_trans (by decide) hl638)).2
    refine g_irem C X at_13 (q := 14) rfl (by decide) (z := v640) ev640 ?_
    refine g_istore C X at_14 (q := 16) rfl (L' := #[.val (.int p0), .val (.int p1), .val (.int p2), .val (.int p3), .val (.int (4 : Int32)), .val (.int v640), .unset, .unset, .unset, .unset, .unset]) rfl ?_
    refine g_iloadN C X at_16 (q := 17) rfl rfl ?_
    refine g_iconst C X at_17 (q := 18) rfl (z := (1 : Int32)) rfl ?_
    obtain ⟨v643, ev643⟩ : ∃ z, (p2 &&& (1 : Int32)) = z := ⟨_, rfl⟩
    have hl644 : 0 ≤ v643.toInt := by rw [← ev643]; exact (c_and p2 (1 : Int32) (by decide)).1
    have hh645 : v643.toInt ≤ 1 := by rw [← ev643]; exact (c_and p2 (1 : Int32) (by decide)).2
    refine g_iand C X at_18 (q := 19) rfl (z := v643) ev643 ?_
    refine g_boolF C X at_19 at_22 at_23 at_26 (q := 27) rfl ?_
    intro bz646 hz647 hz648
    refine g_istore C X at_27 (q := 29) rfl (L' := #[.val (.int p0), .val (.int p1), .val (.int p2), .val (.int p3), .val (.int (4 : Int32)), .val (.int v640), .val (.int bz646), .unset, .unset, .unset, .unset]) rfl ?_
    refine g_iloadN C X at_29 (q := 30) rfl rfl ?_
    refine g_ldcI C X (w1 hw) at_30 (q := 32) rfl ?_
    obtain ⟨v649, ev649⟩ : ∃ z, (p3 &&& (65535 : Int32)) = z := ⟨_, rfl⟩
    have hl650 : 0 ≤ v649.toInt := by rw [← ev649]; exact (c_and p3 (65535 : Int32) (by decide)).1
    have hh651 : v649.toInt ≤ 65535 := by rw [← ev649]; exact (c_and p3 (65535 : Int32) (by decide)).2
    refine g_iand C X at_32 (q := 33) rfl (z := v649) ev649 ?_
    obtain ⟨x652, ex652⟩ : ∃ z, (FP.i2d v649) = z := ⟨_, rfl⟩
    refine g_i2d C X at_33 (q := 34) rfl (z := x652) ex652 ?_
    refine g_dstore C X at_34 (q := 36) rfl (L' := #[.val (.int p0), .val (.int p1), .val (.int p2), .val (.int p3), .val (.int (4 : Int32)), .val (.int v640), .val (.int bz646), .val (.double x652), .second, .unset, .unset]) rfl ?_
    refine g_new C X (w2 hw) (w3 hw) (w4 hw) at_36 (q := 39) rfl (k' := 1) rfl (n' := 4) rfl (by decide) (by decide) ?_
    intro T654 h655 b653 g657 X656 E658 A659 D660
    have ge661 : n0 ≤ b653 := own_ge O g657
    have O662 := O.ext E658
    have f663 : Fld Z h655 b653 "com/example/rondel/rondel/primitive/DoubleRingBuffer" "readings" "[D" .null := D660 (Or.inr (w13 hw)) (ty := (.array .double)) (by decide)
    have f664 : Fld Z h655 b653 "com/example/rondel/rondel/primitive/DoubleRingBuffer" "size" "I" (.int (0 : Int32)) := D660 (Or.inl (w20 hw)) (ty := .int) (by decide)
    have f665 : Fld Z h655 b653 "com/example/rondel/rondel/primitive/DoubleRingBuffer" "head" "I" (.int (0 : Int32)) := D660 (Or.inl (w26 hw)) (ty := .int) (by decide)
    have f666 : Fld Z h655 b653 "com/example/rondel/rondel/primitive/DoubleRingBuffer" "modCount" "I" (.int (0 : Int32)) := D660 (Or.inl (w28 hw)) (ty := .int) (by decide)
    refine g_dup C X656 at_39 (q := 40) rfl rfl ?_
    refine g_iload C X656 at_40 (q := 42) rfl rfl ?_
    refine g_callI0 C X656 (y := (⟨"com/example/rondel/rondel/primitive/DoubleRingBuffer", "<init>", "(I)V"⟩ : MethodName)) (a := b653) (by decide) rfl (w5 hw) (w6 hw) (w7 hw) (w4 hw) (rm_init_3 hw (o0 := b653) (i1 := (0 : Int32)) O662 A659 f663 f664 f665 f666 ge661) (W := 1) (by decide) (by decide) (k' := 2) rfl (n' := 8) rfl (by decide) (by decide) rfl pd_11 (argsL := [(.int (4 : Int32))]) rfl (rest := [(.ref b653)]) rfl rfl rfl at_42 (q := 45) rfl ?_
    rintro T667 h669 X668 ⟨b671, kA674, K670, ge672, sz673, f675, f676, f677, f678, f679, f680⟩
    have O681 := O662.keep K670 (allS ge661 all0)
    refine g_astore C X668 at_45 (q := 47) rfl rfl (L' := #[.val (.int p0), .val (.int p1), .val (.int p2), .val (.int p3), .val (.int (4 : Int32)), .val (.int v640), .val (.int bz646), .val (.double x652), .second, .val (.ref b653), .unset]) rfl ?_
    refine g_iload C X668 at_47 (q := 49) rfl rfl ?_
    by_cases hc682 : (0 : Int32) < v640
    · refine g_ifN C X668 at_49 (q := 52) rfl (tlt hc682).2.2.2 ?_
      have hr683 : 1 ≤ v640.toInt := own_f3 hc682 (by decide)
      refine g_aload C X668 at_52 (q := 54) rfl rfl rfl ?_
      refine g_dload C X668 at_54 (q := 56) rfl rfl ?_
      refine g_callV0 C X668 (y := (⟨"com/example/rondel/rondel/primitive/DoubleRingBuffer", "add", "(D)V"⟩ : MethodName)) (z := (⟨"com/example/rondel/rondel/primitive/DoubleRingBuffer", "add", "(D)V"⟩ : MethodName)) (a := b653) (by decide) (w14 hw) (w15 hw) (w17 hw) (w16 hw) (nf_sel (w17 hw)) f675 (w18 hw) (w4 hw) (rm_add_11 hw (o0 := b653) (o1 := b671) (i2 := (0 : Int32)) (kc3 := kA674) (x4 := 0) (x5 := 0) (x6 := 0) (x7 := 0) (x8 := x652) O681 f675 f676 f677 f678 f679 f680 ge661 ge672 (Nat.ne_of_lt (Nat.lt_of_lt_of_le A659.lt sz673))) (W := 0) (by decide) (by decide) (k' := 2) rfl (n' := 8) rfl (by decide) (by decide) rfl pd_56 (argsL := [(.double x652)]) rfl (rest := []) rfl rfl rfl at_56 (q := 59) rfl ?_
      rintro T684 h686 X685 ⟨K687, f688, f689, f690, f691, f692, f693⟩
      have O694 := O681.keep K687 (allS ge672 (allS ge661 all0))
      refine g_iload C X685 at_59 (q := 61) rfl rfl ?_
      refine g_iconst C X685 at_61 (q := 62) rfl (z := (1 : Int32)) rfl ?_
      by_cases hc695 : (1 : Int32) < v640
      · refine g_icN C X685 at_62 (q := 65) rfl (tlt hc695).2.2.2 ?_
        have hr696 : 2 ≤ v640.toInt := own_f3 hc695 (by decide)
        refine g_aload C X685 at_65 (q := 67) rfl rfl rfl ?_
        refine g_dload C X685 at_67 (q := 69) rfl rfl ?_
        refine g_callV0 C X685 (y := (⟨"com/example/rondel/rondel/primitive/DoubleRingBuffer", "add", "(D)V"⟩ : MethodName)) (z := (⟨"com/example/rondel/rondel/primitive/DoubleRingBuffer", "add", "(D)V"⟩ : MethodName)) (a := b653) (by decide) (w14 hw) (w15 hw) (w17 hw) (w16 hw) (nf_sel (w17 hw)) f688 (w18 hw) (w4 hw) (rm_add_12 hw (o0 := b653) (o1 := b671) (i2 := ((0 : Int32) + (1 : Int32))) (kc3 := kA674) (x4 := x652) (x5 := 0) (x6 := 0) (x7 := 0) (x8 := x652) O694 f688 f689 f690 f691 f692 f693 ge661 ge672 (Nat.ne_of_lt (Nat.lt_of_lt_of_le A659.lt sz673))) (W := 0) (by decide) (by decide) (k' := 2) rfl (n' := 8) rfl (by decide) (by decide) rfl pd_56 (argsL := [(.double x652)]) rfl (rest := []) rfl rfl rfl at_69 (q := 72) rfl ?_
        rintro T697 h699 X698 ⟨K700, f701, f702, f703, f704, f705, f706⟩
        have O707 := O694.keep K700 (allS ge672 (allS ge661 all0))
        refine g_iload C X698 at_72 (q := 74) rfl rfl ?_
        refine g_iconst C X698 at_74 (q := 75) rfl (z := (2 : Int32)) rfl ?_
        by_cases hc708 : (2 : Int32) < v640
        · refine g_icN C X698 at_75 (q := 78) rfl (tlt hc708).2.2.2 ?_
          have hr709 : 3 ≤ v640.toInt := own_f3 hc708 (by decide)
          refine g_aload C X698 at_78 (q := 80) rfl rfl rfl ?_
          refine g_dload C X698 at_80 (q := 82) rfl rfl ?_
          refine g_callV0 C X698 (y := (⟨"com/example/rondel/rondel/primitive/DoubleRingBuffer", "add", "(D)V"⟩ : MethodName)) (z := (⟨"com/example/rondel/rondel/primitive/DoubleRingBuffer", "add", "(D)V"⟩ : MethodName)) (a := b653) (by decide) (w14 hw) (w15 hw) (w17 hw) (w16 hw) (nf_sel (w17 hw)) f701 (w18 hw) (w4 hw) (rm_add_13 hw (o0 := b653) (o1 := b671) (i2 := (((0 : Int32) + (1 : Int32)) + (1 : Int32))) (kc3 := kA674) (x4 := x652) (x5 := x652) (x6 := 0) (x7 := 0) (x8 := x652) O707 f701 f702 f703 f704 f705 f706 ge661 ge672 (Nat.ne_of_lt (Nat.lt_of_lt_of_le A659.lt sz673))) (W := 0) (by decide) (by decide) (k' := 2) rfl (n' := 8) rfl (by decide) (by decide) rfl pd_56 (argsL := [(.double x652)]) rfl (rest := []) rfl rfl rfl at_82 (q := 85) rfl ?_
          rintro T710 h712 X711 ⟨K713, f714, f715, f716, f717, f718, f719⟩
          have O720 := O707.keep K713 (allS ge672 (allS ge661 all0))
          refine g_iload C X711 at_85 (q := 87) rfl rfl ?_
          refine g_iconst C X711 at_87 (q := 88) rfl (z := (3 : Int32)) rfl ?_
          by_cases hc721 : (3 : Int32) < v640
          · refine g_icN C X711 at_88 (q := 91) rfl (tlt hc721).2.2.2 ?_
            have hr722 : 4 ≤ v640.toInt := own_f3 hc721 (by decide)
            refine g_aload C X711 at_91 (q := 93) rfl rfl rfl ?_
            refine g_dload C X711 at_93 (q := 95) rfl rfl ?_
            refine g_callV0 C X711 (y := (⟨"com/example/rondel/rondel/primitive/DoubleRingBuffer", "add", "(D)V"⟩ : MethodName)) (z := (⟨"com/example/rondel/rondel/primitive/DoubleRingBuffer", "add", "(D)V"⟩ : MethodName)) (a := b653) (by decide) (w14 hw) (w15 hw) (w17 hw) (w16 hw) (nf_sel (w17 hw)) f714 (w18 hw) (w4 hw) (rm_add_14 hw (o0 := b653) (o1 := b671) (i2 := ((((0 : Int32) + (1 : Int32)) + (1 : Int32)) + (1 : Int32))) (kc3 := kA674) (x4 := x652) (x5 := x652) (x6 := x652) (x7 := 0) (x8 := x652) O720 f714 f715 f716 f717 f718 f719 ge661 ge672 (Nat.ne_of_lt (Nat.lt_of_lt_of_le A659.lt sz673))) (W := 0) (by decide) (by decide) (k' := 2) rfl (n' := 8) rfl (by decide) (by decide) rfl pd_56 (argsL := [(.double x652)]) rfl (rest := []) rfl rfl rfl at_95 (q := 98) rfl ?_
            rintro T723 h725 X724 ⟨K726, f727, f728, f729, f730, f731, f732⟩
            have O733 := O720.keep K726 (allS ge672 (allS ge661 all0))
            refine g_iload C X724 at_98 (q := 100) rfl rfl ?_
            refine g_iconst C X724 at_100 (q := 101) rfl (z := (4 : Int32)) rfl ?_
            by_cases hc734 : (4 : Int32) < v640
            · refine g_icN C X724 at_101 (q := 104) rfl (tlt hc734).2.2.2 ?_
              have hr735 : 5 ≤ v640.toInt := own_f3 hc734 (by decide)
              obtain rfl : v640 = (5 : Int32) := own_f0 hr735 hh642 (by decide)
              refine g_aload C X724 at_104 (q := 106) rfl rfl rfl ?_
              refine g_dload C X724 at_106 (q := 108) rfl rfl ?_
              refine g_callV0 C X724 (y := (⟨"com/example/rondel/rondel/primitive/DoubleRingBuffer", "add", "(D)V"⟩ : MethodName)) (z := (⟨"com/example/rondel/rondel/primitive/DoubleRingBuffer", "add", "(D)V"⟩ : MethodName)) (a := b653) (by decide) (w14 hw) (w15 hw) (w17 hw) (w16 hw) (nf_sel (w17 hw)) f727 (w18 hw) (w4 hw) (rm_add_15 hw (o0 := b653) (o1 := b671) (i2 := (((((0 : Int32) + (1 : Int32)) + (1 : Int32)) + (1 : Int32)) + (1 : Int32))) (kc3 := kA674) (x4 := x652) (x5 := x652) (x6 := x652) (x7 := x652) (x8 := x652) O733 f727 f728 f729 f730 f731 f732 ge661 ge672 (Nat.ne_of_lt (Nat.lt_of_lt_of_le A659.lt sz673))) (W := 0) (by decide) (by decide) (k' := 2) rfl (n' := 8) rfl (by decide) (by decide) rfl pd_56 (argsL := [(.double x652)]) rfl (rest := []) rfl rfl rfl at_108 (q := 111) rfl ?_
              rintro T736 h738 X737 ⟨K739, f740, f741, f742, f743, f744, f745⟩
              have O746 := O733.keep K739 (allS ge672 (allS ge661 all0))
              refine g_iload C X737 at_111 (q := 113) rfl rfl ?_
              refine g_iload C X737 at_113 (q := 115) rfl rfl ?_
              refine g_callS1 C X737 (y := (⟨"java/lang/Math", "min", "(II)I"⟩ : MethodName)) (by decide) (w33 hw) (w34 hw) (w36 hw) (w35 hw) (rm_min_18 hw  O746 ) (W := 0) (by decide) (by decide) (k' := 2) rfl (n' := 8) rfl (by decide) (by decide) rfl pd_85 (argsL := [(.int (5 : Int32)), (.int (4 : Int32))]) rfl (rest := []) rfl rfl rfl at_115 (q := 118) rfl ?_
              rintro _ T747 _ X748 ⟨rfl, rfl⟩
              refine g_istore C X748 at_118 (q := 120) rfl (L' := #[.val (.int p0), .val (.int p1), .val (.int p2), .val (.int p3), .val (.int (4 : Int32)), .val (.int (5 : Int32)), .val (.int bz646), .val (.double x652), .second, .val (.ref b653), .val (.int (4 : Int32))]) rfl ?_
              refine g_iload C X748 at_120 (q := 122) rfl rfl ?_
              by_cases hc749 : v643 = (0 : Int32)
              · obtain rfl : bz646 = 0 := hz647 (teq hc749).1
                refine g_ifY C X748 at_122 (by decide) (q := 142) (by decide) (by decide) ?_
                refine g_aload C X748 at_142 (q := 144) rfl rfl rfl ?_
                refine g_callV1 C X748 (y := (⟨"com/example/rondel/rondel/primitive/DoubleRingBuffer", "isFull", "()Z"⟩ : MethodName)) (z := (⟨"com/example/rondel/rondel/primitive/DoubleRingBuffer", "isFull", "()Z"⟩ : MethodName)) (a := b653) (by decide) (w37 hw) (w38 hw) (w40 hw) (w39 hw) (nf_sel (w40 hw)) f740 (w41 hw) (w4 hw) (rm_isFull_18 hw (o0 := b653) (o1 := b671) (i2 := ((((((0 : Int32) + (1 : Int32)) + (1 : Int32)) + (1 : Int32)) + (1 : Int32)) + (1 : Int32))) (kc3 := kA674) (x4 := x652) (x5 := x652) (x6 := x652) (x7 := x652) O746 f740 f741 f742 f743 f744 f745 ge661 ge672 (Nat.ne_of_lt (Nat.lt_of_lt_of_le A659.lt sz673))) (W := 0) (by decide) (by decide) (k' := 2) rfl (n' := 8) rfl (by decide) (by decide) rfl pd_95 (argsL := []) rfl (rest := []) rfl rfl rfl at_144 (q := 147) rfl ?_
                rintro _ T750 _ X751 ⟨rfl, rfl⟩
                refine g_iload C X751 at_147 (q := 149) rfl rfl ?_
                refine g_iload C X751 at_149 (q := 151) rfl rfl ?_
                refine g_icN C X751 at_151 (q := 154) rfl (by decide) ?_
                refine g_iconst C X751 at_154 (q := 155) rfl (z := (1 : Int32)) rfl ?_
                refine g_goto C X751 at_155 (by decide) (q := 159) (by decide) ?_
                refine g_icN C X751 at_159 (q := 162) rfl (by decide) ?_
                refine g_iconst C X751 at_162 (q := 163) rfl (z := (1 : Int32)) rfl ?_
                refine g_goto C X751 at_163 (by decide) (q := 167) (by decide) ?_
                exact g_retN C X751 (Or.inl rfl) (z' := 1) (by decide) at_167 (by decide) (by decide) ⟨_, rfl, rfl, trivial⟩
              · obtain rfl : bz646 = 1 := hz648 (feq hc749).1
                refine g_ifN C X748 at_122 (q := 125) rfl (by decide) ?_
                refine g_iload C X748 at_125 (q := 127) rfl rfl ?_
                refine g_ifN C X748 at_127 (q := 130) rfl (by decide) ?_
                refine g_aload C X748 at_130 (q := 132) rfl rfl rfl ?_
                refine g_callV1 C X748 (y := (⟨"com/example/rondel/rondel/primitive/DoubleRingBuffer", "removeFirst", "()D"⟩ : MethodName)) (z := (⟨"com/example/rondel/rondel/primitive/DoubleRingBuffer", "removeFirst", "()D"⟩ : MethodName)) (a := b653) (by decide) (w42 hw) (w43 hw) (w45 hw) (w44 hw) (nf_sel (w45 hw)) f740 (w46 hw) (w4 hw) (rm_removeFirst_9 hw (o0 := b653) (o1 := b671) (i2 := ((((((0 : Int32) + (1 : Int32)) + (1 : Int32)) + (1 : Int32)) + (1 : Int32)) + (1 : Int32))) (kc3 := kA674) (x4 := x652) (x5 := x652) (x6 := x652) (x7 := x652) O746 f740 f741 f742 f743 f744 f745 ge661 ge672 (Nat.ne_of_lt (Nat.lt_of_lt_of_le A659.lt sz673))) (W := 0) (by decide) (by decide) (k' := 2) rfl (n' := 8) rfl (by decide) (by decide) rfl pd_111 (argsL := []) rfl (rest := []) rfl rfl rfl at_132 (q := 135) rfl ?_
                rintro _ T752 h754 X753 ⟨rfl, K755, f756, f757, f758, f759, f760⟩
                have O761 := O746.keep K755 (allS ge661 all0)
                refine g_pop2 C X753 at_135 (q := 136) rfl rfl ?_
                refine g_iload C X753 at_136 (q := 138) rfl rfl ?_
                refine g_iconst C X753 at_138 (q := 139) rfl (z := (1 : Int32)) rfl ?_
                refine g_isub C X753 at_139 (q := 140) rfl (z := (3 : Int32)) (by decide) ?_
                refine g_istore C X753 at_140 (q := 142) rfl (L' := #[.val (.int p0), .val (.int p1), .val (.int p2), .val (.int p3), .val (.int (4 : Int32)), .val (.int (5 : Int32)), .val (.int (1 : Int32)), .val (.double x652), .second, .val (.ref b653), .val (.int (3 : Int32))]) rfl ?_
                refine g_aload C X753 at_142 (q := 144) rfl rfl rfl ?_
                have f762 := (f745.keep K755 (ninS (Ne.symm (Nat.ne_of_lt (Nat.lt_of_lt_of_le A659.lt sz673))) nin0))
                refine g_callV1 C X753 (y := (⟨"com/example/rondel/rondel/primitive/DoubleRingBuffer", "isFull", "()Z"⟩ : MethodName)) (z := (⟨"com/example/rondel/rondel/primitive/DoubleRingBuffer", "isFull", "()Z"⟩ : MethodName)) (a := b653) (by decide) (w37 hw) (w38 hw) (w40 hw) (w39 hw) (nf_sel (w40 hw)) f756 (w41 hw) (w4 hw) (rm_isFull_19 hw (o0 := b653) (o1 := b671) (i2 := (((((((0 : Int32) + (1 : Int32)) + (1 : Int32)) + (1 : Int32)) + (1 : Int32)) + (1 : Int32)) + (1 : Int32))) (kc3 := kA674) (x4 := x652) (x5 := x652) (x6 := x652) (x7 := x652) O761 f756 f757 f758 f759 f760 f762 ge661 ge672 (Nat.ne_of_lt (Nat.lt_of_lt_of_le A659.lt sz673))) (W := 0) (by decide) (by decide) (k' := 2) rfl (n' := 8) rfl (by decide) (by decide) rfl pd_95 (argsL := []) rfl (rest := []) rfl rfl rfl at_144 (q := 147) rfl ?_
                rintro _ T763 _ X764 ⟨rfl, rfl⟩
                refine g_iload C X764 at_147 (q := 149) rfl rfl ?_
                refine g_iload C X764 at_149 (q := 151) rfl rfl ?_
                refine g_icY C X764 at_151 (by decide) (q := 158) (by decide) (by decide) ?_
                refine g_iconst C X764 at_158 (q := 159) rfl (z := (0 : Int32)) rfl ?_
                refine g_icN C X764 at_159 (q := 162) rfl (by decide) ?_
                refine g_iconst C X764 at_162 (q := 163) rfl (z := (1 : Int32)) rfl ?_
                refine g_goto C X764 at_163 (by decide) (q := 167) (by decide) ?_
                exact g_retN C X764 (Or.inl rfl) (z' := 1) (by decide) at_167 (by decide) (by decide) ⟨_, rfl, rfl, trivial⟩
            · refine g_icY C X724 at_101 (by decide) (q := 111) (by decide) (flt hc734).2.2.2 ?_
              have hr765 : v640.toInt ≤ 4 := own_f4 hc734 (by decide)
              obtain rfl : v640 = (4 : Int32) := own_f0 hr722 hr765 (by decide)
              refine g_iload C X724 at_111 (q := 113) rfl rfl ?_
              refine g_iload C X724 at_113 (q := 115) rfl rfl ?_
              refine g_callS1 C X724 (y := (⟨"java/lang/Math", "min", "(II)I"⟩ : MethodName)) (by decide) (w33 hw) (w34 hw) (w36 hw) (w35 hw) (rm_min_19 hw  O733 ) (W := 0) (by decide) (by decide) (k' := 2) rfl (n' := 8) rfl (by decide) (by decide) rfl pd_85 (argsL := [(.int (4 : Int32)), (.int (4 : Int32))]) rfl (rest := []) rfl rfl rfl at_115 (q := 118) rfl ?_
              rintro _ T766 _ X767 ⟨rfl, rfl⟩
              refine g_istore C X767 at_118 (q := 120) rfl (L' := #[.val (.int p0), .val (.int p1), .val (.int p2), .val (.int p3), .val (.int (4 : Int32)), .val (.int (4 : Int32)), .val (.int bz646), .val (.double x652), .second, .val (.ref b653), .val (.int (4 : Int32))]) rfl ?_
              refine g_iload C X767 at_120 (q := 122) rfl rfl ?_
              by_cases hc768 : v643 = (0 : Int32)
              · obtain rfl : bz646 = 0 := hz647 (teq hc768).1
                refine g_ifY C X767 at_122 (by decide) (q := 142) (by decide) (by decide) ?_
                refine g_aload C X767 at_142 (q := 144) rfl rfl rfl ?_
                refine g_callV1 C X767 (y := (⟨"com/example/rondel/rondel/primitive/DoubleRingBuffer", "isFull", "()Z"⟩ : MethodName)) (z := (⟨"com/example/rondel/rondel/primitive/DoubleRingBuffer", "isFull", "()Z"⟩ : MethodName)) (a := b653) (by decide) (w37 hw) (w38 hw) (w40 hw) (w39 hw) (nf_sel (w40 hw)) f727 (w41 hw) (w4 hw) (rm_isFull_20 hw (o0 := b653) (o1 := b671) (i2 := (((((0 : Int32) + (1 : Int32)) + (1 : Int32)) + (1 : Int32)) + (1 : Int32))) (kc3 := kA674) (x4 := x652) (x5 := x652) (x6 := x652) (x7 := x652) O733 f727 f728 f729 f730 f731 f732 ge661 ge672 (Nat.ne_of_lt (Nat.lt_of_lt_of_le A659.lt sz673))) (W := 0) (by decide) (by decide) (k' := 2) rfl (n' := 8) rfl (by decide) (by decide) rfl pd_95 (argsL := []) rfl (rest := []) rfl rfl rfl at_144 (q := 147) rfl ?_
                rintro _ T769 _ X770 ⟨rfl, rfl⟩
                refine g_iload C X770 at_147 (q := 149) rfl rfl ?_
                refine g_iload C X770 at_149 (q := 151) rfl rfl ?_
                refine g_icN C X770 at_151 (q := 154) rfl (by decide) ?_
                refine g_iconst C X770 at_154 (q := 155) rfl (z := (1 : Int32)) rfl ?_
                refine g_goto C X770 at_155 (by decide) (q := 159) (by decide) ?_
                refine g_icN C X770 at_159 (q := 162) rfl (by decide) ?_
                refine g_iconst C X770 at_162 (q := 163) rfl (z := (1 : Int32)) rfl ?_
                refine g_goto C X770 at_163 (by decide) (q := 167) (by decide) ?_
                exact g_retN C X770 (Or.inl rfl) (z' := 1) (by decide) at_167 (by decide) (by decide) ⟨_, rfl, rfl, trivial⟩
              · obtain rfl : bz646 = 1 := hz648 (feq hc768).1
                refine g_ifN C X767 at_122 (q := 125) rfl (by decide) ?_
                refine g_iload C X767 at_125 (q := 127) rfl rfl ?_
                refine g_ifN C X767 at_127 (q := 130) rfl (by decide) ?_
                refine g_aload C X767 at_130 (q := 132) rfl rfl rfl ?_
                refine g_callV1 C X767 (y := (⟨"com/example/rondel/rondel/primitive/DoubleRingBuffer", "removeFirst", "()D"⟩ : MethodName)) (z := (⟨"com/example/rondel/rondel/primitive/DoubleRingBuffer", "removeFirst", "()D"⟩ : MethodName)) (a := b653) (by decide) (w42 hw) (w43 hw) (w45 hw) (w44 hw) (nf_sel (w45 hw)) f727 (w46 hw) (w4 hw) (rm_removeFirst_10 hw (o0 := b653) (o1 := b671) (i2 := (((((0 : Int32) + (1 : Int32)) + (1 : Int32)) + (1 : Int32)) + (1 : Int32))) (kc3 := kA674) (x4 := x652) (x5 := x652) (x6 := x652) (x7 := x652) O733 f727 f728 f729 f730 f731 f732 ge661 ge672 (Nat.ne_of_lt (Nat.lt_of_lt_of_le A659.lt sz673))) (W := 0) (by decide) (by decide) (k' := 2) rfl (n' := 8) rfl (by decide) (by decide) rfl pd_111 (argsL := []) rfl (rest := []) rfl rfl rfl at_132 (q := 135) rfl ?_
                rintro _ T771 h773 X772 ⟨rfl, K774, f775, f776, f777, f778, f779⟩
                have O780 := O733.keep K774 (allS ge661 all0)
                refine g_pop2 C X772 at_135 (q := 136) rfl rfl ?_
                refine g_iload C X772 at_136 (q := 138) rfl rfl ?_
                refine g_iconst C X772 at_138 (q := 139) rfl (z := (1 : Int32)) rfl ?_
                refine g_isub C X772 at_139 (q := 140) rfl (z := (3 : Int32)) (by decide) ?_
                refine g_istore C X772 at_140 (q := 142) rfl (L' := #[.val (.int p0), .val (.int p1), .val (.int p2), .val (.int p3), .val (.int (4 : Int32)), .val (.int (4 : Int32)), .val (.int (1 : Int32)), .val (.double x652), .second, .val (.ref b653), .val (.int (3 : Int32))]) rfl ?_
                refine g_aload C X772 at_142 (q := 144) rfl rfl rfl ?_
                have f781 := (f732.keep K774 (ninS (Ne.symm (Nat.ne_of_lt (Nat.lt_of_lt_of_le A659.lt sz673))) nin0))
                refine g_callV1 C X772 (y := (⟨"com/example/rondel/rondel/primitive/DoubleRingBuffer", "isFull", "()Z"⟩ : MethodName)) (z := (⟨"com/example/rondel/rondel/primitive/DoubleRingBuffer", "isFull", "()Z"⟩ : MethodName)) (a := b653) (by decide) (w37 hw) (w38 hw) (w40 hw) (w39 hw) (nf_sel (w40 hw)) f775 (w41 hw) (w4 hw) (rm_isFull_21 hw (o0 := b653) (o1 := b671) (i2 := ((((((0 : Int32) + (1 : Int32)) + (1 : Int32)) + (1 : Int32)) + (1 : Int32)) + (1 : Int32))) (kc3 := kA674) (x4 := x652) (x5 := x652) (x6 := x652) (x7 := x652) O780 f775 f776 f777 f778 f779 f781 ge661 ge672 (Nat.ne_of_lt (Nat.lt_of_lt_of_le A659.lt sz673))) (W := 0) (by decide) (by decide) (k' := 2) rfl (n' := 8) rfl (by decide) (by decide) rfl pd_95 (argsL := []) rfl (rest := []) rfl rfl rfl at_144 (q := 147) rfl ?_
                rintro _ T782 _ X783 ⟨rfl, rfl⟩
                refine g_iload C X783 at_147 (q := 149) rfl rfl ?_
                refine g_iload C X783 at_149 (q := 151) rfl rfl ?_
                refine g_icY C X783 at_151 (by decide) (q := 158) (by decide) (by decide) ?_
                refine g_iconst C X783 at_158 (q := 159) rfl (z := (0 : Int32)) rfl ?_
                refine g_icN C X783 at_159 (q := 162) rfl (by decide) ?_
                refine g_iconst C X783 at_162 (q := 163) rfl (z := (1 : Int32)) rfl ?_
                refine g_goto C X783 at_163 (by decide) (q := 167) (by decide) ?_
                exact g_retN C X783 (Or.inl rfl) (z' := 1) (by decide) at_167 (by decide) (by decide) ⟨_, rfl, rfl, trivial⟩
          · refine g_icY C X711 at_88 (by decide) (q := 98) (by decide) (flt hc721).2.2.2 ?_
            have hr784 : v640.toInt ≤ 3 := own_f4 hc721 (by decide)
            obtain rfl : v640 = (3 : Int32) := own_f0 hr709 hr784 (by decide)
            refine g_iload C X711 at_98 (q := 100) rfl rfl ?_
            refine g_iconst C X711 at_100 (q := 101) rfl (z := (4 : Int32)) rfl ?_
            refine g_icY C X711 at_101 (by decide) (q := 111) (by decide) (by decide) ?_
            refine g_iload C X711 at_111 (q := 113) rfl rfl ?_
            refine g_iload C X711 at_113 (q := 115) rfl rfl ?_
            refine g_callS1 C X711 (y := (⟨"java/lang/Math", "min", "(II)I"⟩ : MethodName)) (by decide) (w33 hw) (w34 hw) (w36 hw) (w35 hw) (rm_min_20 hw  O720 ) (W := 0) (by decide) (by decide) (k' := 2) rfl (n' := 8) rfl (by decide) (by decide) rfl pd_85 (argsL := [(.int (3 : Int32)), (.int (4 : Int32))]) rfl (rest := []) rfl rfl rfl at_115 (q := 118) rfl ?_
            rintro _ T785 _ X786 ⟨rfl, rfl⟩
            refine g_istore C X786 at_118 (q := 120) rfl (L' := #[.val (.int p0), .val (.int p1), .val (.int p2), .val (.int p3), .val (.int (4 : Int32)), .val (.int (3 : Int32)), .val (.int bz646), .val (.double x652), .second, .val (.ref b653), .val (.int (3 : Int32))]) rfl ?_
            refine g_iload C X786 at_120 (q := 122) rfl rfl ?_
            by_cases hc787 : v643 = (0 : Int32)
            · obtain rfl : bz646 = 0 := hz647 (teq hc787).1
              refine g_ifY C X786 at_122 (by decide) (q := 142) (by decide) (by decide) ?_
              refine g_aload C X786 at_142 (q := 144) rfl rfl rfl ?_
              refine g_callV1 C X786 (y := (⟨"com/example/rondel/rondel/primitive/DoubleRingBuffer", "isFull", "()Z"⟩ : MethodName)) (z := (⟨"com/example/rondel/rondel/primitive/DoubleRingBuffer", "isFull", "()Z"⟩ : MethodName)) (a := b653) (by decide) (w37 hw) (w38 hw) (w40 hw) (w39 hw) (nf_sel (w40 hw)) f714 (w41 hw) (w4 hw) (rm_isFull_22 hw (o0 := b653) (o1 := b671) (i2 := ((((0 : Int32) + (1 : Int32)) + (1 : Int32)) + (1 : Int32))) (kc3 := kA674) (x4 := x652) (x5 := x652) (x6 := x652) (x7 := 0) O720 f714 f715 f716 f717 f718 f719 ge661 ge672 (Nat.ne_of_lt (Nat.lt_of_lt_of_le A659.lt sz673))) (W := 0) (by decide) (by decide) (k' := 2) rfl (n' := 8) rfl (by decide) (by decide) rfl pd_95 (argsL := []) rfl (rest := []) rfl rfl rfl at_144 (q := 147) rfl ?_
              rintro _ T788 _ X789 ⟨rfl, rfl⟩
              refine g_iload C X789 at_147 (q := 149) rfl rfl ?_
              refine g_iload C X789 at_149 (q := 151) rfl rfl ?_
              refine g_icY C X789 at_151 (by decide) (q := 158) (by decide) (by decide) ?_
              refine g_iconst C X789 at_158 (q := 159) rfl (z := (0 : Int32)) rfl ?_
              refine g_icN C X789 at_159 (q := 162) rfl (by decide) ?_
              refine g_iconst C X789 at_162 (q := 163) rfl (z := (1 : Int32)) rfl ?_
              refine g_goto C X789 at_163 (by decide) (q := 167) (by decide) ?_
              exact g_retN C X789 (Or.inl rfl) (z' := 1) (by decide) at_167 (by decide) (by decide) ⟨_, rfl, rfl, trivial⟩
            · obtain rfl : bz646 = 1 := hz648 (feq hc787).1
              refine g_ifN C X786 at_122 (q := 125) rfl (by decide) ?_
              refine g_iload C X786 at_125 (q := 127) rfl rfl ?_
              refine g_ifN C X786 at_127 (q := 130) rfl (by decide) ?_
              refine g_aload C X786 at_130 (q := 132) rfl rfl rfl ?_
              refine g_callV1 C X786 (y := (⟨"com/example/rondel/rondel/primitive/DoubleRingBuffer", "removeFirst", "()D"⟩ : MethodName)) (z := (⟨"com/example/rondel/rondel/primitive/DoubleRingBuffer", "removeFirst", "()D"⟩ : MethodName)) (a := b653) (by decide) (w42 hw) (w43 hw) (w45 hw) (w44 hw) (nf_sel (w45 hw)) f714 (w46 hw) (w4 hw) (rm_removeFirst_11 hw (o0 := b653) (o1 := b671) (i2 := ((((0 : Int32) + (1 : Int32)) + (1 : Int32)) + (1 : Int32))) (kc3 := kA674) (x4 := x652) (x5 := x652) (x6 := x652) (x7 := 0) O720 f714 f715 f716 f717 f718 f719 ge661 ge672 (Nat.ne_of_lt (Nat.lt_of_lt_of_le A659.lt sz673))) (W := 0) (by decide) (by decide) (k' := 2) rfl (n' := 8) rfl (by decide) (by decide) rfl pd_111 (argsL := []) rfl (rest := []) rfl rfl rfl at_132 (q := 135) rfl ?_
              rintro _ T790 h792 X791 ⟨rfl, K793, f794, f795, f796, f797, f798⟩
              have O799 := O720.keep K793 (allS ge661 all0)
              refine g_pop2 C X791 at_135 (q := 136) rfl rfl ?_
              refine g_iload C X791 at_136 (q := 138) rfl rfl ?_
              refine g_iconst C X791 at_138 (q := 139) rfl (z := (1 : Int32)) rfl ?_
              refine g_isub C X791 at_139 (q := 140) rfl (z := (2 : Int32)) (by decide) ?_
              refine g_istore C X791 at_140 (q := 142) rfl (L' := #[.val (.int p0), .val (.int p1), .val (.int p2), .val (.int p3), .val (.int (4 : Int32)), .val (.int (3 : Int32)), .val (.int (1 : Int32)), .val (.double x652), .second, .val (.ref b653), .val (.int (2 : Int32))]) rfl ?_
              refine g_aload C X791 at_142 (q := 144) rfl rfl rfl ?_
              have f800 := (f719.keep K793 (ninS (Ne.symm (Nat.ne_of_lt (Nat.lt_of_lt_of_le A659.lt sz673))) nin0))
              refine g_callV1 C X791 (y := (⟨"com/example/rondel/rondel/primitive/DoubleRingBuffer", "isFull", "()Z"⟩ : MethodName)) (z := (⟨"com/example/rondel/rondel/primitive/DoubleRingBuffer", "isFull", "()Z"⟩ : MethodName)) (a := b653) (by decide) (w37 hw) (w38 hw) (w40 hw) (w39 hw) (nf_sel (w40 hw)) f794 (w41 hw) (w4 hw) (rm_isFull_23 hw (o0 := b653) (o1 := b671) (i2 := (((((0 : Int32) + (1 : Int32)) + (1 : Int32)) + (1 : Int32)) + (1 : Int32))) (kc3 := kA674) (x4 := x652) (x5 := x652) (x6 := x652) (x7 := 0) O799 f794 f795 f796 f797 f798 f800 ge661 ge672 (Nat.ne_of_lt (Nat.lt_of_lt_of_le A659.lt sz673))) (W := 0) (by decide) (by decide) (k' := 2) rfl (n' := 8) rfl (by decide) (by decide) rfl pd_95 (argsL := []) rfl (rest := []) rfl rfl rfl at_144 (q := 147) rfl ?_
              rintro _ T801 _ X802 ⟨rfl, rfl⟩
              refine g_iload C X802 at_147 (q := 149) rfl rfl ?_
              refine g_iload C X802 at_149 (q := 151) rfl rfl ?_
              refine g_icY C X802 at_151 (by decide) (q := 158) (by decide) (by decide) ?_
              refine g_iconst C X802 at_158 (q := 159) rfl (z := (0 : Int32)) rfl ?_
              refine g_icN C X802 at_159 (q := 162) rfl (by decide) ?_
              refine g_iconst C X802 at_162 (q := 163) rfl (z := (1 : Int32)) rfl ?_
              refine g_goto C X802 at_163 (by decide) (q := 167) (by decide) ?_
              exact g_retN C X802 (Or.inl rfl) (z' := 1) (by decide) at_167 (by decide) (by decide) ⟨_, rfl, rfl, trivial⟩
        · refine g_icY C X698 at_75 (by decide) (q := 85) (by decide) (flt hc708).2.2.2 ?_
          have hr803 : v640.toInt ≤ 2 := own_f4 hc708 (by decide)
          obtain rfl : v640 = (2 : Int32) := own_f0 hr696 hr803 (by decide)
          refine g_iload C X698 at_85 (q := 87) rfl rfl ?_
          refine g_iconst C X698 at_87 (q := 88) rfl (z := (3 : Int32)) rfl ?_
          refine g_icY C X698 at_88 (by decide) (q := 98) (by decide) (by decide) ?_
          refine g_iload C X698 at_98 (q := 100) rfl rfl ?_
          refine g_iconst C X698 at_100 (q := 101) rfl (z := (4 : Int32)) rfl ?_
          refine g_icY C X698 at_101 (by decide) (q := 111) (by decide) (by decide) ?_
          refine g_iload C X698 at_111 (q := 113) rfl rfl ?_
          refine g_iload C X698 at_113 (q := 115) rfl rfl ?_
          refine g_callS1 C X698 (y := (⟨"java/lang/Math", "min", "(II)I"⟩ : MethodName)) (by decide) (w33 hw) (w34 hw) (w36 hw) (w35 hw) (rm_min_21 hw  O707 ) (W := 0) (by decide) (by decide) (k' := 2) rfl (n' := 8) rfl (by decide) (by decide) rfl pd_85 (argsL := [(.int (2 : Int32)), (.int (4 : Int32))]) rfl (rest := []) rfl rfl rfl at_115 (q := 118) rfl ?_
          rintro _ T804 _ X805 ⟨rfl, rfl⟩
          refine g_istore C X805 at_118 (q := 120) rfl (L' := #[.val (.int p0), .val (.int p1), .val (.int p2), .val (.int p3), .val (.int (4 : Int32)), .val (.int (2 : Int32)), .val (.int bz646), .val (.double x652), .second, .val (.ref b653), .val (.int (2 : Int32))]) rfl ?_
          refine g_iload C X805 at_120 (q := 122) rfl rfl ?_
          by_cases hc806 : v643 = (0 : Int32)
          · obtain rfl : bz646 = 0 := hz647 (teq hc806).1
            refine g_ifY C X805 at_122 (by decide) (q := 142) (by decide) (by decide) ?_
            refine g_aload C X805 at_142 (q := 144) rfl rfl rfl ?_
            refine g_callV1 C X805 (y := (⟨"com/example/rondel/rondel/primitive/DoubleRingBuffer", "isFull", "()Z"⟩ : MethodName)) (z := (⟨"com/example/rondel/rondel/primitive/DoubleRingBuffer", "isFull", "()Z"⟩ : MethodName)) (a := b653) (by decide) (w37 hw) (w38 hw) (w40 hw) (w39 hw) (nf_sel (w40 hw)) f701 (w41 hw) (w4 hw) (rm_isFull_24 hw (o0 := b653) (o1 := b671) (i2 := (((0 : Int32) + (1 : Int32)) + (1 : Int32))) (kc3 := kA674) (x4 := x652) (x5 := x652) (x6 := 0) (x7 := 0) O707 f701 f702 f703 f704 f705 f706 ge661 ge672 (Nat.ne_of_lt (Nat.lt_of_lt_of_le A659.lt sz673))) (W := 0) (by decide) (by decide) (k' := 2) rfl (n' := 8) rfl (by decide) (by decide) rfl pd_95 (argsL := []) rfl (rest := []) rfl rfl rfl at_144 (q := 147) rfl ?_
            rintro _ T807 _ X808 ⟨rfl, rfl⟩
            refine g_iload C X808 at_147 (q := 149) rfl rfl ?_
            refine g_iload C X808 at_149 (q := 151) rfl rfl ?_
            refine g_icY C X808 at_151 (by decide) (q := 158) (by decide) (by decide) ?_
            refine g_iconst C X808 at_158 (q := 159) rfl (z := (0 : Int32)) rfl ?_
            refine g_icN C X808 at_159 (q := 162) rfl (by decide) ?_
            refine g_iconst C X808 at_162 (q := 163) rfl (z := (1 : Int32)) rfl ?_
            refine g_goto C X808 at_163 (by decide) (q := 167) (by decide) ?_
            exact g_retN C X808 (Or.inl rfl) (z' := 1) (by decide) at_167 (by decide) (by decide) ⟨_, rfl, rfl, trivial⟩
          · obtain rfl : bz646 = 1 := hz648 (feq hc806).1
            refine g_ifN C X805 at_122 (q := 125) rfl (by decide) ?_
            refine g_iload C X805 at_125 (q := 127) rfl rfl ?_
            refine g_ifN C X805 at_127 (q := 130) rfl (by decide) ?_
            refine g_aload C X805 at_130 (q := 132) rfl rfl rfl ?_
            refine g_callV1 C X805 (y := (⟨"com/example/rondel/rondel/primitive/DoubleRingBuffer", "removeFirst", "()D"⟩ : MethodName)) (z := (⟨"com/example/rondel/rondel/primitive/DoubleRingBuffer", "removeFirst", "()D"⟩ : MethodName)) (a := b653) (by decide) (w42 hw) (w43 hw) (w45 hw) (w44 hw) (nf_sel (w45 hw)) f701 (w46 hw) (w4 hw) (rm_removeFirst_12 hw (o0 := b653) (o1 := b671) (i2 := (((0 : Int32) + (1 : Int32)) + (1 : Int32))) (kc3 := kA674) (x4 := x652) (x5 := x652) (x6 := 0) (x7 := 0) O707 f701 f702 f703 f704 f705 f706 ge661 ge672 (Nat.ne_of_lt (Nat.lt_of_lt_of_le A659.lt sz673))) (W := 0) (by decide) (by decide) (k' := 2) rfl (n' := 8) rfl (by decide) (by decide) rfl pd_111 (argsL := []) rfl (rest := []) rfl rfl rfl at_132 (q := 135) rfl ?_
            rintro _ T809 h811 X810 ⟨rfl, K812, f813, f814, f815, f816, f817⟩
            have O818 := O707.keep K812 (allS ge661 all0)
            refine g_pop2 C X810 at_135 (q := 136) rfl rfl ?_
            refine g_iload C X810 at_136 (q := 138) rfl rfl ?_
            refine g_iconst C X810 at_138 (q := 139) rfl (z := (1 : Int32)) rfl ?_
            refine g_isub C X810 at_139 (q := 140) rfl (z := (1 : Int32)) (by decide) ?_
            refine g_istore C X810 at_140 (q := 142) rfl (L' := #[.val (.int p0), .val (.int p1), .val (.int p2), .val (.int p3), .val (.int (4 : Int32)), .val (.int (2 : Int32)), .val (.int (1 : Int32)), .val (.double x652), .second, .val (.ref b653), .val (.int (1 : Int32))]) rfl ?_
            refine g_aload C X810 at_142 (q := 144) rfl rfl rfl ?_
            have f819 := (f706.keep K812 (ninS (Ne.symm (Nat.ne_of_lt (Nat.lt_of_lt_of_le A659.lt sz673))) nin0))
            refine g_callV1 C X810 (y := (⟨"com/example/rondel/rondel/primitive/DoubleRingBuffer", "isFull", "()Z"⟩ : MethodName)) (z := (⟨"com/example/rondel/rondel/primitive/DoubleRingBuffer", "isFull", "()Z"⟩ : MethodName)) (a := b653) (by decide) (w37 hw) (w38 hw) (w40 hw) (w39 hw) (nf_sel (w40 hw)) f813 (w41 hw) (w4 hw) (rm_isFull_25 hw (o0 := b653) (o1 := b671) (i2 := ((((0 : Int32) + (1 : Int32)) + (1 : Int32)) + (1 : Int32))) (kc3 := kA674) (x4 := x652) (x5 := x652) (x6 := 0) (x7 := 0) O818 f813 f814 f815 f816 f817 f819 ge661 ge672 (Nat.ne_of_lt (Nat.lt_of_lt_of_le A659.lt sz673))) (W := 0) (by decide) (by decide) (k' := 2) rfl (n' := 8) rfl (by decide) (by decide) rfl pd_95 (argsL := []) rfl (rest := []) rfl rfl rfl at_144 (q := 147) rfl ?_
            rintro _ T820 _ X821 ⟨rfl, rfl⟩
            refine g_iload C X821 at_147 (q := 149) rfl rfl ?_
            refine g_iload C X821 at_149 (q := 151) rfl rfl ?_
            refine g_icY C X821 at_151 (by decide) (q := 158) (by decide) (by decide) ?_
            refine g_iconst C X821 at_158 (q := 159) rfl (z := (0 : Int32)) rfl ?_
            refine g_icN C X821 at_159 (q := 162) rfl (by decide) ?_
            refine g_iconst C X821 at_162 (q := 163) rfl (z := (1 : Int32)) rfl ?_
            refine g_goto C X821 at_163 (by decide) (q := 167) (by decide) ?_
            exact g_retN C X821 (Or.inl rfl) (z' := 1) (by decide) at_167 (by decide) (by decide) ⟨_, rfl, rfl, trivial⟩
      · refine g_icY C X685 at_62 (by decide) (q := 72) (by decide) (flt hc695).2.2.2 ?_
        have hr822 : v640.toInt ≤ 1 := own_f4 hc695 (by decide)
        obtain rfl : v640 = (1 : Int32) := own_f0 hr683 hr822 (by decide)
        refine g_iload C X685 at_72 (q := 74) rfl rfl ?_
        refine g_iconst C X685 at_74 (q := 75) rfl (z := (2 : Int32)) rfl ?_
        refine g_icY C X685 at_75 (by decide) (q := 85) (by decide) (by decide) ?_
        refine g_iload C X685 at_85 (q := 87) rfl rfl ?_
        refine g_iconst C X685 at_87 (q := 88) rfl (z := (3 : Int32)) rfl ?_
        refine g_icY C X685 at_88 (by decide) (q := 98) (by decide) (by decide) ?_
        refine g_iload C X685 at_98 (q := 100) rfl rfl ?_
        refine g_iconst C X685 at_100 (q := 101) rfl (z := (4 : Int32)) rfl ?_
        refine g_icY C X685 at_101 (by decide) (q := 111) (by decide) (by decide) ?_
        refine g_iload C X685 at_111 (q := 113) rfl rfl ?_
        refine g_iload C X685 at_113 (q := 115) rfl rfl ?_
        refine g_callS1 C X685 (y := (⟨"java/lang/Math", "min", "(II)I"⟩ : MethodName)) (by decide) (w33 hw) (w34 hw) (w36 hw) (w35 hw) (rm_min_22 hw  O694 ) (W := 0) (by decide) (by decide) (k' := 2) rfl (n' := 8) rfl (by decide) (by decide) rfl pd_85 (argsL := [(.int (1 : Int32)), (.int (4 : Int32))]) rfl (rest := []) rfl rfl rfl at_115 (q := 118) rfl ?_
        rintro _ T823 _ X824 ⟨rfl, rfl⟩
        refine g_istore C X824 at_118 (q := 120) rfl (L' := #[.val (.int p0), .val (.int p1), .val (.int p2), .val (.int p3), .val (.int (4 : Int32)), .val (.int (1 : Int32)), .val (.int bz646), .val (.double x652), .second, .val (.ref b653), .val (.int (1 : Int32))]) rfl ?_
        refine g_iload C X824 at_120 (q := 122) rfl rfl ?_
        by_cases hc825 : v643 = (0 : Int32)
        · obtain rfl : bz646 = 0 := hz647 (teq hc825).1
          refine g_ifY C X824 at_122 (by decide) (q := 142) (by decide) (by decide) ?_
          refine g_aload C X824 at_142 (q := 144) rfl rfl rfl ?_
          refine g_callV1 C X824 (y := (⟨"com/example/rondel/rondel/primitive/DoubleRingBuffer", "isFull", "()Z"⟩ : MethodName)) (z := (⟨"com/example/rondel/rondel/primitive/DoubleRingBuffer", "isFull", "()Z"⟩ : MethodName)) (a := b653) (by decide) (w37 hw) (w38 hw) (w40 hw) (w39 hw) (nf_sel (w40 hw)) f688 (w41 hw) (w4 hw) (rm_isFull_26 hw (o0 := b653) (o1 := b671) (i2 := ((0 : Int32) + (1 : Int32))) (kc3 := kA674) (x4 := x652) (x5 := 0) (x6 := 0) (x7 := 0) O694 f688 f689 f690 f691 f692 f693 ge661 ge672 (Nat.ne_of_lt (Nat.lt_of_lt_of_le A659.lt sz673))) (W := 0) (by decide) (by decide) (k' := 2) rfl (n' := 8) rfl (by decide) (by decide) rfl pd_95 (argsL := []) rfl (rest := []) rfl rfl rfl at_144 (q := 147) rfl ?_
          rintro _ T826 _ X827 ⟨rfl, rfl⟩
          refine g_iload C X827 at_147 (q := 149) rfl rfl ?_
          refine g_iload C X827 at_149 (q := 151) rfl rfl ?_
          refine g_icY C X827 at_151 (by decide) (q := 158) (by decide) (by decide) ?_
          refine g_iconst C X827 at_158 (q := 159) rfl (z := (0 : Int32)) rfl ?_
          refine g_icN C X827 at_159 (q := 162) rfl (by decide) ?_
          refine g_iconst C X827 at_162 (q := 163) rfl (z := (1 : Int32)) rfl ?_
          refine g_goto C X827 at_163 (by decide) (q := 167) (by decide) ?_
          exact g_retN C X827 (Or.inl rfl) (z' := 1) (by decide) at_167 (by decide) (by decide) ⟨_, rfl, rfl, trivial⟩
        · obtain rfl : bz646 = 1 := hz648 (feq hc825).1
          refine g_ifN C X824 at_122 (q := 125) rfl (by decide) ?_
          refine g_iload C X824 at_125 (q := 127) rfl rfl ?_
          refine g_ifN C X824 at_127 (q := 130) rfl (by decide) ?_
          refine g_aload C X824 at_130 (q := 132) rfl rfl rfl ?_
          refine g_callV1 C X824 (y := (⟨"com/example/rondel/rondel/primitive/DoubleRingBuffer", "removeFirst", "()D"⟩ : MethodName)) (z := (⟨"com/example/rondel/rondel/primitive/DoubleRingBuffer", "removeFirst", "()D"⟩ : MethodName)) (a := b653) (by decide) (w42 hw) (w43 hw) (w45 hw) (w44 hw) (nf_sel (w45 hw)) f688 (w46 hw) (w4 hw) (rm_removeFirst_13 hw (o0 := b653) (o1 := b671) (i2 := ((0 : Int32) + (1 : Int32))) (kc3 := kA674) (x4 := x652) (x5 := 0) (x6 := 0) (x7 := 0) O694 f688 f689 f690 f691 f692 f693 ge661 ge672 (Nat.ne_of_lt (Nat.lt_of_lt_of_le A659.lt sz673))) (W := 0) (by decide) (by decide) (k' := 2) rfl (n' := 8) rfl (by decide) (by decide) rfl pd_111 (argsL := []) rfl (rest := []) rfl rfl rfl at_132 (q := 135) rfl ?_
          rintro _ T828 h830 X829 ⟨rfl, K831, f832, f833, f834, f835, f836⟩
          have O837 := O694.keep K831 (allS ge661 all0)
          refine g_pop2 C X829 at_135 (q := 136) rfl rfl ?_
          refine g_iload C X829 at_136 (q := 138) rfl rfl ?_
          refine g_iconst C X829 at_138 (q := 139) rfl (z := (1 : Int32)) rfl ?_
          refine g_isub C X829 at_139 (q := 140) rfl (z := (0 : Int32)) (by decide) ?_
          refine g_istore C X829 at_140 (q := 142) rfl (L' := #[.val (.int p0), .val (.int p1), .val (.int p2), .val (.int p3), .val (.int (4 : Int32)), .val (.int (1 : Int32)), .val (.int (1 : Int32)), .val (.double x652), .second, .val (.ref b653), .val (.int (0 : Int32))]) rfl ?_
          refine g_aload C X829 at_142 (q := 144) rfl rfl rfl ?_
          have f838 := (f693.keep K831 (ninS (Ne.symm (Nat.ne_of_lt (Nat.lt_of_lt_of_le A659.lt sz673))) nin0))
          refine g_callV1 C X829 (y := (⟨"com/example/rondel/rondel/primitive/DoubleRingBuffer", "isFull", "()Z"⟩ : MethodName)) (z := (⟨"com/example/rondel/rondel/primitive/DoubleRingBuffer", "isFull", "()Z"⟩ : MethodName)) (a := b653) (by decide) (w37 hw) (w38 hw) (w40 hw) (w39 hw) (nf_sel (w40 hw)) f832 (w41 hw) (w4 hw) (rm_isFull_27 hw (o0 := b653) (o1 := b671) (i2 := (((0 : Int32) + (1 : Int32)) + (1 : Int32))) (kc3 := kA674) (x4 := x652) (x5 := 0) (x6 := 0) (x7 := 0) O837 f832 f833 f834 f835 f836 f838 ge661 ge672 (Nat.ne_of_lt (Nat.lt_of_lt_of_le A659.lt sz673))) (W := 0) (by decide) (by decide) (k' := 2) rfl (n' := 8) rfl (by decide) (by decide) rfl pd_95 (argsL := []) rfl (rest := []) rfl rfl rfl at_144 (q := 147) rfl ?_
          rintro _ T839 _ X840 ⟨rfl, rfl⟩
          refine g_iload C X840 at_147 (q := 149) rfl rfl ?_
          refine g_iload C X840 at_149 (q := 151) rfl rfl ?_
          refine g_icY C X840 at_151 (by decide) (q := 158) (by decide) (by decide) ?_
          refine g_iconst C X840 at_158 (q := 159) rfl (z := (0 : Int32)) rfl ?_
          refine g_icN C X840 at_159 (q := 162) rfl (by decide) ?_
          refine g_iconst C X840 at_162 (q := 163) rfl (z := (1 : Int32)) rfl ?_
          refine g_goto C X840 at_163 (by decide) (q := 167) (by decide) ?_
          exact g_retN C X840 (Or.inl rfl) (z' := 1) (by decide) at_167 (by decide) (by decide) ⟨_, rfl, rfl, trivial⟩
    · refine g_ifY C X668 at_49 (by decide) (q := 59) (by decide) (flt hc682).2.2.2 ?_
      have hr841 : v640.toInt ≤ 0 := own_f4 hc682 (by decide)
      obtain rfl : v640 = (0 : Int32) := own_f0 hl641 hr841 (by decide)
      refine g_iload C X668 at_59 (q := 61) rfl rfl ?_
      refine g_iconst C X668 at_61 (q := 62) rfl (z := (1 : Int32)) rfl ?_
      refine g_icY C X668 at_62 (by decide) (q := 72) (by decide) (by decide) ?_
      refine g_iload C X668 at_72 (q := 74) rfl rfl ?_
      refine g_iconst C X668 at_74 (q := 75) rfl (z := (2 : Int32)) rfl ?_
      refine g_icY C X668 at_75 (by decide) (q := 85) (by decide) (by decide) ?_
      refine g_iload C X668 at_85 (q := 87) rfl rfl ?_
      refine g_iconst C X668 at_87 (q := 88) rfl (z := (3 : Int32)) rfl ?_
      refine g_icY C X668 at_88 (by decide) (q := 98) (by decide) (by decide) ?_
      refine g_iload C X668 at_98 (q := 100) rfl rfl ?_
      refine g_iconst C X668 at_100 (q := 101) rfl (z := (4 : Int32)) rfl ?_
      refine g_icY C X668 at_101 (by decide) (q := 111) (by decide) (by decide) ?_
      refine g_iload C X668 at_111 (q := 113) rfl rfl ?_
      refine g_iload C X668 at_113 (q := 115) rfl rfl ?_
      refine g_callS1 C X668 (y := (⟨"java/lang/Math", "min", "(II)I"⟩ : MethodName)) (by decide) (w33 hw) (w34 hw) (w36 hw) (w35 hw) (rm_min_23 hw  O681 ) (W := 0) (by decide) (by decide) (k' := 2) rfl (n' := 8) rfl (by decide) (by decide) rfl pd_85 (argsL := [(.int (0 : Int32)), (.int (4 : Int32))]) rfl (rest := []) rfl rfl rfl at_115 (q := 118) rfl ?_
      rintro _ T842 _ X843 ⟨rfl, rfl⟩
      refine g_istore C X843 at_118 (q := 120) rfl (L' := #[.val (.int p0), .val (.int p1), .val (.int p2), .val (.int p3), .val (.int (4 : Int32)), .val (.int (0 : Int32)), .val (.int bz646), .val (.double x652), .second, .val (.ref b653), .val (.int (0 : Int32))]) rfl ?_
      refine g_iload C X843 at_120 (q := 122) rfl rfl ?_
      by_cases hc844 : v643 = (0 : Int32)
      · obtain rfl : bz646 = 0 := hz647 (teq hc844).1
        refine g_ifY C X843 at_122 (by decide) (q := 142) (by decide) (by decide) ?_
        refine g_aload C X843 at_142 (q := 144) rfl rfl rfl ?_
        refine g_callV1 C X843 (y := (⟨"com/example/rondel/rondel/primitive/DoubleRingBuffer", "isFull", "()Z"⟩ : MethodName)) (z := (⟨"com/example/rondel/rondel/primitive/DoubleRingBuffer", "isFull", "()Z"⟩ : MethodName)) (a := b653) (by decide) (w37 hw) (w38 hw) (w40 hw) (w39 hw) (nf_sel (w40 hw)) f675 (w41 hw) (w4 hw) (rm_isFull_28 hw (o0 := b653) (o1 := b671) (i2 := (0 : Int32)) (kc3 := kA674) (x4 := 0) (x5 := 0) (x6 := 0) (x7 := 0) O681 f675 f676 f677 f678 f679 f680 ge661 ge672 (Nat.ne_of_lt (Nat.lt_of_lt_of_le A659.lt sz673))) (W := 0) (by decide) (by decide) (k' := 2) rfl (n' := 8) rfl (by decide) (by decide) rfl pd_95 (argsL := []) rfl (rest := []) rfl rfl rfl at_144 (q := 147) rfl ?_
        rintro _ T845 _ X846 ⟨rfl, rfl⟩
        refine g_iload C X846 at_147 (q := 149) rfl rfl ?_
        refine g_iload C X846 at_149 (q := 151) rfl rfl ?_
        refine g_icY C X846 at_151 (by decide) (q := 158) (by decide) (by decide) ?_
        refine g_iconst C X846 at_158 (q := 159) rfl (z := (0 : Int32)) rfl ?_
        refine g_icN C X846 at_159 (q := 162) rfl (by decide) ?_
        refine g_iconst C X846 at_162 (q := 163) rfl (z := (1 : Int32)) rfl ?_
        refine g_goto C X846 at_163 (by decide) (q := 167) (by decide) ?_
        exact g_retN C X846 (Or.inl rfl) (z' := 1) (by decide) at_167 (by decide) (by decide) ⟨_, rfl, rfl, trivial⟩
      · obtain rfl : bz646 = 1 := hz648 (feq hc844).1
        refine g_ifN C X843 at_122 (q := 125) rfl (by decide) ?_
        refine g_iload C X843 at_125 (q := 127) rfl rfl ?_
        refine g_ifY C X843 at_127 (by decide) (q := 142) (by decide) (by decide) ?_
        refine g_aload C X843 at_142 (q := 144) rfl rfl rfl ?_
        refine g_callV1 C X843 (y := (⟨"com/example/rondel/rondel/primitive/DoubleRingBuffer", "isFull", "()Z"⟩ : MethodName)) (z := (⟨"com/example/rondel/rondel/primitive/DoubleRingBuffer", "isFull", "()Z"⟩ : MethodName)) (a := b653) (by decide) (w37 hw) (w38 hw) (w40 hw) (w39 hw) (nf_sel (w40 hw)) f675 (w41 hw) (w4 hw) (rm_isFull_28 hw (o0 := b653) (o1 := b671) (i2 := (0 : Int32)) (kc3 := kA674) (x4 := 0) (x5 := 0) (x6 := 0) (x7 := 0) O681 f675 f676 f677 f678 f679 f680 ge661 ge672 (Nat.ne_of_lt (Nat.lt_of_lt_of_le A659.lt sz673))) (W := 0) (by decide) (by decide) (k' := 2) rfl (n' := 8) rfl (by decide) (by decide) rfl pd_95 (argsL := []) rfl (rest := []) rfl rfl rfl at_144 (q := 147) rfl ?_
        rintro _ T847 _ X848 ⟨rfl, rfl⟩
        refine g_iload C X848 at_147 (q := 149) rfl rfl ?_
        refine g_iload C X848 at_149 (q := 151) rfl rfl ?_
        refine g_icY C X848 at_151 (by decide) (q := 158) (by decide) (by decide) ?_
        refine g_iconst C X848 at_158 (q := 159) rfl (z := (0 : Int32)) rfl ?_
        refine g_icN C X848 at_159 (q := 162) rfl (by decide) ?_
        refine g_iconst C X848 at_162 (q := 163) rfl (z := (1 : Int32)) rfl ?_
        refine g_goto C X848 at_163 (by decide) (q := 167) (by decide) ?_
        exact g_retN C X848 (Or.inl rfl) (z' := 1) (by decide) at_167 (by decide) (by decide) ⟨_, rfl, rfl, trivial⟩
set_option maxRecDepth 65536 in
set_option maxHeartbeats 40000000 in
theorem comes_1 {Post : Tables → Env → Array Value → State → Outcome → State → Prop} (hpost : ∀ tb e args s v u, (limb_1_1.after args s (.returned v) u = true ∧ limb_1_2.after args s (.returned v) u = true ∧ True) → FrameEnd s (.returned v) u (Jvm.fieldLocs frame_1_writes args s ++ Jvm.arrayLocs frame_1_arrays args s ++ Jvm.staticLocs frame_1_statics s) 16 128 → Post tb e args s (.returned v) u) :
    ArmFor flags0 classFile x code maxLocals ret World_1 tables_1 room_1 Calls_1 rest_1 Pre_1 Post := by
  intro l hfl _ _ p e ha hc hk s m args below hf hA hF happ hP
  obtain ⟨hcalls, hrest, hpre⟩ := hP
  obtain ⟨-, -, -, hnamed, -, -, -, hat⟩ := (Spec.applies_iff hf).mp happ
  obtain ⟨hg, hn⟩ := and_e (Cond.before_iff.mp (show (Jvm.Cond.and given_1 narrow_1).before args s = true from hpre))
  obtain ⟨y1, y2⟩ := and_e hg
  obtain ⟨y3, y4⟩ := and_e y2
  obtain ⟨y5, y6⟩ := and_e y4
  obtain ⟨y7, y8⟩ := and_e y6
  obtain ⟨u0, u1, u2, u3, rfl⟩ : ∃ u0 u1 u2 u3 : Value, args = #[u0, u1, u2, u3] := by
    have hs : args.size = 4 := by simpa [Cond.value, given_1] using y1
    obtain ⟨L⟩ := args
    match L, hs with
    | [u0, u1, u2, u3], _ => exact ⟨u0, u1, u2, u3, rfl⟩
  have hw := fun d (hd : d ∈ tables_1) => atoms_spec (ws := Jvm.Cond.code x code maxLocals ret :: tables_1) hat d (List.mem_cons_of_mem _ hd)
  have hfit : Fit s := fun {y c} hc i hi => by
    obtain ⟨ha, rfl⟩ := Array.getElem?_eq_some_iff.mp hc
    have q := List.all_eq_true.mp ((Array.all_eq_true_iff_forall_mem.mp hF) _ (Array.getElem_mem ha)) i (List.mem_range.mpr hi)
    simpa [Array.getElem?_eq_getElem hi] using q
  obtain ⟨i0, ei0⟩ := is_v y3
  obtain rfl : u0 = (.int i0) := Option.some.inj ei0
  obtain ⟨i1, ei1⟩ := is_v y5
  obtain rfl : u1 = (.int i1) := Option.some.inj ei1
  obtain ⟨i2, ei2⟩ := is_v y7
  obtain rfl : u2 = (.int i2) := Option.some.inj ei2
  obtain ⟨i3, ei3⟩ := is_v y8
  obtain rfl : u3 = (.int i3) := Option.some.inj ei3
  have hM := rmLaw (l := l) hw (p0 := i0) (p1 := i1) (p2 := i2) (p3 := i3) (Old.start s)
  obtain ⟨n, o, h1, h2, h3, _, L, rfl, ⟨N, _, rfl, rfl, -⟩, hq⟩ := hM tables_1 p e ha hc hk s m _ below hf ((Spec.applies_iff_loose hf).mp happ).1 ⟨rfl, State.Warmed39.refl s, rfl⟩ trivial
  refine ⟨n, _, h1, h2, h3, hpost _ _ _ _ _ _ ⟨Cond.after_iff.mpr rfl, Cond.after_iff.mpr (eq_i res_at (Term.int_eval (1)) rfl), trivial⟩ ⟨hq.1, hq.2.1, (hq.2.2.sift fun y hy => Or.inr (N y hy)).mono (by decide) (by decide)⟩⟩
theorem main_1_1 : Claimed_1_1 := comes_1 fun _ _ _ _ _ _ h hF => ⟨h.1, hF⟩
theorem main_1_2 : Claimed_1_2 := comes_1 fun _ _ _ _ _ _ h hF => ⟨h.2.1, hF⟩
end Jvm.Pilot.@@N@@
namespace Jvm.Pilot.@@N@@
open Jvm Jvm.ClassFile Sem Op Lib Jvm.Free Jvm.Stand Jvm.Pilot.@@N@@.Jvm.D
/-! MADE BY PROGRAM (witnessworld.py) out of the Statement's table words and the real class files: 10 classes; the members and pool entries that the words name. The judged class is class 1, her method 1. -/
namespace start1
open Jvm.ClassFile
def u (s : String) : CpInfo := .utf8 (stringToUtf16 s)
/-- a pool by its gaps: so many unusable entries, then the entry; so many at the end -/
def gap : Nat → List CpInfo → List CpInfo
  | 0, r => r
  | n + 1, r => .unusable :: gap n r
def poolList (es : List (Nat × CpInfo)) (last : Nat) : List CpInfo := es.foldr (fun e r => gap e.1 (e.2 :: r)) (gap last [])
def pool (es : List (Nat × CpInfo)) (last : Nat) : Array CpInfo := ⟨poolList es last⟩
def fileOf (pool : Array CpInfo) (this : Nat) (attrs : Array Attribute := #[]) (ms : Array MethodInfo := #[]) (fl : Nat := 33) (sup : Nat := 0) (ifs : Array Nat := #[]) (fds : Array FieldInfo := #[]) : ClassFile where
  minorVersion := 0
  majorVersion := 65
  constantPool := pool
  accessFlags := fl
  thisClass := this
  superClass := sup
  interfaces := ifs
  fields := fds
  methods := ms
  attributes := attrs
def plain (name : String) (sup : Option ClassId) : Class where
  name := name
  kind := .ordinary
  loader := none
  accessFlags := 33
  super := sup
  interfaces := #[]
  cf := none
  fields := #[]
  methods := #[]
  instanceTypes := #[]
  staticTypes := #[]
  resolved := #[]
  callSites := []
  init := .initialized
  statics := none
  mirror := none

def pool0 : Array CpInfo := pool [(5, u "<init>"), (0, u "()V"), (1, .class_ 10), (1, u "java/lang/Object")] 113

def k0c0 : Code := { maxStack := 0, maxLocals := 1, code := object_method_1_code, exceptionTable := #[], attributes := #[] }
def k0m0 : Method := { name := "<init>", desc := "()V", sig := { parameters := [], returnType := none }, accessFlags := 1, code := some k0c0 }
/-- java/lang/Object -/
def k0 : Class := { plain "java/lang/Object" none with
  accessFlags := 33
  interfaces := #[]
  cf := some (fileOf pool0 8 #[] #[{ accessFlags := 1, nameIndex := 5, descriptorIndex := 6, attributes := #[] }] 33 0 #[] #[])
  fields := #[]
  methods := #[k0m0]
  instanceTypes := #[]
  staticTypes := #[]
  resolved := Array.replicate 124 none
  statics := none }

def pool1 : Array CpInfo := pool [(2, .class_ 4), (1, u "java/lang/Object"), (0, u "<init>"), (0, u "()V"), (0, .integer 2147483647), (0, .integer 65535), (0, .class_ 10), (0, u "com/example/rondel/rondel/primitive/DoubleRingBuffer"), (0, .methodref 9 12), (0, .nameAndType 5 13), (0, u "(I)V"), (0, .methodref 9 15), (0, .nameAndType 16 17), (0, u "add"), (0, u "(D)V"), (0, .methodref 19 20), (0, .class_ 21), (0, .nameAndType 22 23), (0, u "java/lang/Math"), (0, u "min"), (0, u "(II)I"), (0, .methodref 9 25), (0, .nameAndType 26 27), (0, u "removeFirst"), (0, u "()D"), (0, .methodref 9 29), (0, .nameAndType 30 31), (0, u "isFull"), (0, u "()Z"), (0, .class_ 33), (0, u "com/example/rondel/rondel/primitive/DoubleRingBufferIsFullPinLaw"), (2, u "law"), (0, u "(IIII)Z")] 3

def k1m0 : Method := { name := "<init>", desc := "()V", sig := { parameters := [], returnType := none }, accessFlags := 1, code := none }
def k1c1 : Code := { maxStack := 3, maxLocals := 11, code := code, exceptionTable := #[], attributes := #[] }
def k1m1 : Method := { name := "law", desc := "(IIII)Z", sig := { parameters := [.int, .int, .int, .int], returnType := some .boolean }, accessFlags := 9, code := some k1c1 }
/-- com/example/rondel/rondel/primitive/DoubleRingBufferIsFullPinLaw -/
def k1 : Class := { plain "com/example/rondel/rondel/primitive/DoubleRingBufferIsFullPinLaw" (some 0) with
  accessFlags := 49
  interfaces := #[]
  cf := some (fileOf pool1 32 #[] #[{ accessFlags := 1, nameIndex := 5, descriptorIndex := 6, attributes := #[] }, { accessFlags := 9, nameIndex := 36, descriptorIndex := 37, attributes := #[] }] 49 2 #[] #[])
  fields := #[]
  methods := #[k1m0, k1m1]
  instanceTypes := #[]
  staticTypes := #[]
  resolved := Array.replicate 41 none
  statics := none }

def pool2 : Array CpInfo := pool [(1, .class_ 2), (0, u "java/io/Serializable"), (0, .class_ 4), (0, u "java/lang/Object")] 2

/-- java/io/Serializable -/
def k2 : Class := { plain "java/io/Serializable" (some 0) with
  accessFlags := 1537
  interfaces := #[]
  cf := some (fileOf pool2 1 #[] #[] 1537 3 #[] #[])
  fields := #[]
  methods := #[]
  instanceTypes := #[]
  staticTypes := #[]
  resolved := Array.replicate 7 none
  statics := none }

def pool3 : Array CpInfo := pool [(3, .methodref 4 5), (0, .class_ 6), (0, .nameAndType 7 8), (0, u "java/lang/Object"), (0, u "<init>"), (0, u "()V"), (9, .fieldref 19 20), (0, .class_ 21), (0, .nameAndType 22 23), (0, u "com/example/rondel/rondel/primitive/DoubleRingBuffer"), (0, u "readings"), (0, u "[D"), (0, .fieldref 19 25), (0, .nameAndType 26 27), (0, u "size"), (0, u "I"), (0, .fieldref 19 29), (0, .nameAndType 30 27), (0, u "head"), (0, .methodref 19 32), (0, .nameAndType 33 34), (0, u "next"), (0, u "(I)I"), (0, .methodref 19 36), (0, .nameAndType 37 34), (0, u "slot"), (0, .fieldref 19 39), (0, .nameAndType 40 27), (0, u "modCount"), (0, .methodref 19 42), (0, .nameAndType 43 44), (0, u "getFirst"), (0, u "()D"), (3, .methodref 19 49), (0, .nameAndType 50 8), (0, u "checkNotEmpty"), (17, .class_ 69), (0, u "com/example/rondel/rondel/primitive/DoubleRingBuffer$Walk"), (32, .class_ 103), (0, u "com/example/rondel/rondel/primitive/DoubleRingBuffer$SerializedForm"), (12, .class_ 117), (0, u "java/io/Serializable"), (0, u "serialVersionUID"), (0, u "J"), (3, u "WALK_CHARACTERISTICS"), (1, u "(I)V"), (4, u "()Z"), (0, u "isFull"), (0, u "add"), (0, u "(D)V"), (0, u "removeFirst")] 49

def k3c0 : Code := { maxStack := 3, maxLocals := 2, code := prog_11_method_1_code, exceptionTable := #[], attributes := #[] }
def k3m0 : Method := { name := "<init>", desc := "(I)V", sig := { parameters := [.int], returnType := none }, accessFlags := 1, code := some k3c0 }
def k3c1 : Code := { maxStack := 2, maxLocals := 1, code := prog_11_method_5_code, exceptionTable := #[], attributes := #[] }
def k3m1 : Method := { name := "isFull", desc := "()Z", sig := { parameters := [], returnType := some .boolean }, accessFlags := 1, code := some k3c1 }
def k3c2 : Code := { maxStack := 4, maxLocals := 3, code := prog_11_method_6_code, exceptionTable := #[], attributes := #[] }
def k3m2 : Method := { name := "add", desc := "(D)V", sig := { parameters := [.double], returnType := none }, accessFlags := 1, code := some k3c2 }
def k3c3 : Code := { maxStack := 3, maxLocals := 3, code := prog_11_method_7_code, exceptionTable := #[], attributes := #[] }
def k3m3 : Method := { name := "removeFirst", desc := "()D", sig := { parameters := [], returnType := some .double }, accessFlags := 1, code := some k3c3 }
def k3c4 : Code := { maxStack := 2, maxLocals := 1, code := prog_11_method_9_code, exceptionTable := #[], attributes := #[] }
def k3m4 : Method := { name := "getFirst", desc := "()D", sig := { parameters := [], returnType := some .double }, accessFlags := 1, code := some k3c4 }
def k3c5 : Code := { maxStack := 3, maxLocals := 1, code := prog_11_method_17_code, exceptionTable := #[], attributes := #[] }
def k3m5 : Method := { name := "checkNotEmpty", desc := "()V", sig := { parameters := [], returnType := none }, accessFlags := 2, code := some k3c5 }
def k3c6 : Code := { maxStack := 2, maxLocals := 3, code := prog_11_method_18_code, exceptionTable := #[], attributes := #[] }
def k3m6 : Method := { name := "slot", desc := "(I)I", sig := { parameters := [.int], returnType := some .int }, accessFlags := 2, code := some k3c6 }
def k3c7 : Code := { maxStack := 3, maxLocals := 2, code := prog_11_method_19_code, exceptionTable := #[], attributes := #[] }
def k3m7 : Method := { name := "next", desc := "(I)I", sig := { parameters := [.int], returnType := some .int }, accessFlags := 2, code := some k3c7 }
/-- com/example/rondel/rondel/primitive/DoubleRingBuffer -/
def k3 : Class := { plain "com/example/rondel/rondel/primitive/DoubleRingBuffer" (some 0) with
  accessFlags := 49
  interfaces := #[2]
  cf := some (fileOf pool3 19 #[.nestMembers #[102, 68]] #[{ accessFlags := 1, nameIndex := 7, descriptorIndex := 125, attributes := #[] }, { accessFlags := 1, nameIndex := 131, descriptorIndex := 130, attributes := #[] }, { accessFlags := 1, nameIndex := 132, descriptorIndex := 133, attributes := #[] }, { accessFlags := 1, nameIndex := 134, descriptorIndex := 44, attributes := #[] }, { accessFlags := 1, nameIndex := 43, descriptorIndex := 44, attributes := #[] }, { accessFlags := 2, nameIndex := 50, descriptorIndex := 8, attributes := #[] }, { accessFlags := 2, nameIndex := 37, descriptorIndex := 34, attributes := #[] }, { accessFlags := 2, nameIndex := 33, descriptorIndex := 34, attributes := #[] }] 49 4 #[116] #[{ accessFlags := 26, nameIndex := 118, descriptorIndex := 119, attributes := #[] }, { accessFlags := 26, nameIndex := 123, descriptorIndex := 27, attributes := #[] }, { accessFlags := 146, nameIndex := 22, descriptorIndex := 23, attributes := #[] }, { accessFlags := 130, nameIndex := 30, descriptorIndex := 27, attributes := #[] }, { accessFlags := 130, nameIndex := 26, descriptorIndex := 27, attributes := #[] }, { accessFlags := 130, nameIndex := 40, descriptorIndex := 27, attributes := #[] }])
  fields := #[{ name := "serialVersionUID", type := .long, accessFlags := 26, slot := 0, constantValue := 0 }, { name := "WALK_CHARACTERISTICS", type := .int, accessFlags := 26, slot := 1, constantValue := 0 }, { name := "readings", type := (.array .double), accessFlags := 146, slot := 0, constantValue := 0 }, { name := "head", type := .int, accessFlags := 130, slot := 1, constantValue := 0 }, { name := "size", type := .int, accessFlags := 130, slot := 2, constantValue := 0 }, { name := "modCount", type := .int, accessFlags := 130, slot := 3, constantValue := 0 }]
  methods := #[k3m0, k3m1, k3m2, k3m3, k3m4, k3m5, k3m6, k3m7]
  instanceTypes := #[(.array .double), .int, .int, .int]
  staticTypes := #[.long, .int]
  resolved := Array.replicate 184 none
  statics := none }

def pool4 : Array CpInfo := pool [(1, .class_ 2), (0, u "java/lang/Math"), (1, .class_ 6), (1, u "java/lang/Object"), (0, u "<init>"), (0, u "()V"), (89, .class_ 100), (1, u "java/lang/Math$RandomNumberGeneratorHolder"), (71, u "negativeZeroFloatBits"), (0, u "J"), (2, u "negativeZeroDoubleBits"), (24, u "min"), (43, u "$assertionsDisabled"), (0, u "Z"), (88, u "(II)I"), (2, u "twoToTheDoubleScaleDown"), (0, u "D"), (4, u "twoToTheDoubleScaleUp"), (9, u "E"), (3, u "PI"), (2, u "TAU"), (2, u "DEGREES_TO_RADIANS"), (0, u "RADIANS_TO_DEGREES")] 94

def k4m0 : Method := { name := "<init>", desc := "()V", sig := { parameters := [], returnType := none }, accessFlags := 2, code := none }
def k4c1 : Code := { maxStack := 2, maxLocals := 2, code := jdk_29_method_69_code, exceptionTable := #[], attributes := #[] }
def k4m1 : Method := { name := "min", desc := "(II)I", sig := { parameters := [.int, .int], returnType := some .int }, accessFlags := 9, code := some k4c1 }
/-- java/lang/Math -/
def k4 : Class := { plain "java/lang/Math" (some 0) with
  accessFlags := 49
  interfaces := #[]
  cf := some (fileOf pool4 1 #[.nestMembers #[98]] #[{ accessFlags := 2, nameIndex := 7, descriptorIndex := 8, attributes := #[] }, { accessFlags := 9, nameIndex := 201, descriptorIndex := 335, attributes := #[] }] 49 4 #[] #[{ accessFlags := 25, nameIndex := 354, descriptorIndex := 339, attributes := #[] }, { accessFlags := 25, nameIndex := 358, descriptorIndex := 339, attributes := #[] }, { accessFlags := 25, nameIndex := 361, descriptorIndex := 339, attributes := #[] }, { accessFlags := 26, nameIndex := 364, descriptorIndex := 339, attributes := #[] }, { accessFlags := 26, nameIndex := 365, descriptorIndex := 339, attributes := #[] }, { accessFlags := 26, nameIndex := 172, descriptorIndex := 173, attributes := #[] }, { accessFlags := 26, nameIndex := 176, descriptorIndex := 173, attributes := #[] }, { accessFlags := 8, nameIndex := 344, descriptorIndex := 339, attributes := #[] }, { accessFlags := 8, nameIndex := 338, descriptorIndex := 339, attributes := #[] }, { accessFlags := 4120, nameIndex := 245, descriptorIndex := 246, attributes := #[] }])
  fields := #[{ name := "E", type := .double, accessFlags := 25, slot := 0, constantValue := 0 }, { name := "PI", type := .double, accessFlags := 25, slot := 1, constantValue := 0 }, { name := "TAU", type := .double, accessFlags := 25, slot := 2, constantValue := 0 }, { name := "DEGREES_TO_RADIANS", type := .double, accessFlags := 26, slot := 3, constantValue := 0 }, { name := "RADIANS_TO_DEGREES", type := .double, accessFlags := 26, slot := 4, constantValue := 0 }, { name := "negativeZeroFloatBits", type := .long, accessFlags := 26, slot := 5, constantValue := 0 }, { name := "negativeZeroDoubleBits", type := .long, accessFlags := 26, slot := 6, constantValue := 0 }, { name := "twoToTheDoubleScaleUp", type := .double, accessFlags := 8, slot := 7, constantValue := 0 }, { name := "twoToTheDoubleScaleDown", type := .double, accessFlags := 8, slot := 8, constantValue := 0 }, { name := "$assertionsDisabled", type := .boolean, accessFlags := 4120, slot := 9, constantValue := 0 }]
  methods := #[k4m0, k4m1]
  instanceTypes := #[]
  staticTypes := #[.double, .double, .double, .double, .double, .long, .long, .double, .double, .boolean]
  resolved := Array.replicate 460 none
  statics := none }

def pool5 : Array CpInfo := pool [(1, u "java/lang/Cloneable"), (0, .class_ 1), (0, u "java/lang/Object"), (0, .class_ 3)] 3

/-- java/lang/Cloneable -/
def k5 : Class := { plain "java/lang/Cloneable" (some 0) with
  accessFlags := 1537
  interfaces := #[]
  cf := some (fileOf pool5 2 #[] #[] 1537 4 #[] #[])
  fields := #[]
  methods := #[]
  instanceTypes := #[]
  staticTypes := #[]
  resolved := Array.replicate 8 none
  statics := none }

/-- the primitive byte -/
def k6 : Class := { plain "byte" none with kind := .primitive 'B', accessFlags := 0x411 }
/-- [B -/
def k7 : Class := { plain "[B" (some 0) with kind := .array 6 .byte, interfaces := #[5, 2], accessFlags := 1041 }

/-- the primitive int -/
def k8 : Class := { plain "int" none with kind := .primitive 'I', accessFlags := 0x411 }
/-- [I -/
def k9 : Class := { plain "[I" (some 0) with kind := .array 8 .int, interfaces := #[5, 2], accessFlags := 1041 }

def k10 : Class := { plain "double" none with kind := .primitive 'D', accessFlags := 0x411 }
def k11 : Class := { plain "[D" (some 0) with kind := .array 10 .double, interfaces := #[5, 2], accessFlags := 1041 }
def heap : Heap := #[]
def classes : Array Class := #[k0, k1, k2, k3, k4, k5, k6, k7, k8, k9, k10, k11]
def interned : List (Array UInt16 × Addr) := []
def slotsUsed : Nat := 0
def theMethod : MethodId := ⟨1, 1⟩
def args0 : Array Value := #[.int 5, .int 3, .int 2, .int 7]
def aboutOver (below : List Frame) : State where
  vm := { classes := classes, interned := interned.toArray }
  heap := heap
  slotsUsed := slotsUsed
  threads := #[{ frames := .invoking theMethod args0 :: below }]
def below0 : List Frame := [.native { method := ⟨0, 0⟩, args := #[] }]
def about1 : State := aboutOver below0
def p0 : Program := .bare "" "" ""
def e0 : Env := launch0.env 0 0 0
theorem w_frames : about1.frames = Frame.invoking theMethod args0 :: below0 := rfl
set_option maxRecDepth 65536 in
theorem w_args : argsFit about1.vm theMethod args0 = true := by decide +kernel
set_option maxRecDepth 65536 in
theorem w_heap : heapFits about1 = true := by decide +kernel
set_option maxRecDepth 65536 in
theorem w_runnable : about1.curStatus? = some .runnable := by decide +kernel
set_option maxRecDepth 65536 in
theorem w_alone : about1.alone = true := by decide +kernel
set_option maxRecDepth 65536 in
theorem w_named : about1.methodNamed? x = some theMethod := by decide +kernel
set_option maxRecDepth 65536 in
theorem w_hears : about1.hears theMethod below0 = true := by decide +kernel
set_option maxRecDepth 65536 in
theorem w_ripe : about1.ripe theMethod args0 below0 = true := by decide +kernel
theorem w_running : about1.status = .running := rfl
set_option maxRecDepth 65536 in
theorem w_room : about1.hasRoom e0.platform room_1 = true :=
  launch0.hasRoom_least _ room_1 (by decide +kernel) (by decide +kernel) (by decide +kernel) (by decide +kernel) (by decide +kernel) (by decide +kernel)
theorem allAtoms_all (ts : List Jvm.Cond) (a : Array Jvm.Value) (st : Jvm.State) : (allAtoms ts).before a st = ts.all (fun c => c.before a st) := by
  induction ts with
  | nil => rfl
  | cons c t ih =>
    show (Jvm.Cond.and c (allAtoms t)).before a st = _
    rw [Jvm.Cond.before_and, ih, List.all_cons]
def words1 : List Jvm.Cond := Jvm.Cond.code x code maxLocals ret :: tables_1
/-- a 'code' word, met by the world's own term for the bytes: nothing is compared byte by byte -/
theorem code_word {y : MethodName} {bytes : ByteArray} {mx : Nat} {rt : Option FieldType} {a : Array Value} {s : State} {m : MethodId} {meth : Method} {c : Code} (h1 : s.methodNamed? y = some m) (h2 : s.vm.method? m = some meth) (h3 : meth.code = some c) (h4 : c.code = bytes)
    (h5 : (c.maxLocals == mx && c.exceptionTable.isEmpty && decide (c.maxStack ≤ mostOperands) && decide (meth.sig.returnType = rt) && !meth.locks && decide (parseMethodDescriptor y.desc = some meth.sig)) = true) : (Jvm.Cond.code y bytes mx rt).before a s = true := by
  simp only [Bool.and_eq_true, beq_iff_eq, Bool.not_eq_true', decide_eq_true_eq] at h5
  obtain ⟨⟨⟨⟨⟨g1, g2⟩, g3⟩, g4⟩, g5⟩, g6⟩ := h5
  simp [Cond.before, Cond.holds, Cond.value, h1, h2, h3, h4, g1, g2, g3, g4, g5, g6]
def isCode : Jvm.Cond → Bool
  | .code _ _ _ _ => true
  | _ => false
theorem all_split {L : List Jvm.Cond} {P : Jvm.Cond → Bool} (h1 : L.all (fun c => isCode c || P c) = true) (h2 : ∀ c ∈ L.filter isCode, P c = true) : L.all P = true := by
  refine List.all_eq_true.mpr fun c hc => ?_
  have h := List.all_eq_true.mp h1 c hc
  rcases Bool.eq_false_or_eq_true (isCode c) with hi | hi
  · exact h2 c (List.mem_filter.mpr ⟨hc, hi⟩)
  · simpa [hi] using h
set_option maxRecDepth 65536 in
theorem w_c0 : (Jvm.Cond.code x code maxLocals ret).before args0 about1 = true := code_word (m := ⟨1, 1⟩) (meth := k1m1) (c := k1c1) (by decide +kernel) rfl rfl rfl (by decide +kernel)
set_option maxRecDepth 65536 in
theorem w_c1 : (Jvm.Cond.code ({ cls := "com/example/rondel/rondel/primitive/DoubleRingBuffer", name := "<init>", desc := "(I)V" } : Jvm.MethodName) prog_11_method_1_code (2 : Nat) (Option.none : Option Jvm.ClassFile.FieldType)).before args0 about1 = true := code_word (m := ⟨3, 0⟩) (meth := k3m0) (c := k3c0) (by decide +kernel) rfl rfl rfl (by decide +kernel)
set_option maxRecDepth 65536 in
theorem w_c2 : (Jvm.Cond.code ({ cls := "java/lang/Object", name := "<init>", desc := "()V" } : Jvm.MethodName) object_method_1_code (1 : Nat) (Option.none : Option Jvm.ClassFile.FieldType)).before args0 about1 = true := code_word (m := ⟨0, 0⟩) (meth := k0m0) (c := k0c0) (by decide +kernel) rfl rfl rfl (by decide +kernel)
set_option maxRecDepth 65536 in
theorem w_c3 : (Jvm.Cond.code ({ cls := "com/example/rondel/rondel/primitive/DoubleRingBuffer", name := "add", desc := "(D)V" } : Jvm.MethodName) prog_11_method_6_code (3 : Nat) (Option.none : Option Jvm.ClassFile.FieldType)).before args0 about1 = true := code_word (m := ⟨3, 2⟩) (meth := k3m2) (c := k3c2) (by decide +kernel) rfl rfl rfl (by decide +kernel)
set_option maxRecDepth 65536 in
theorem w_c4 : (Jvm.Cond.code ({ cls := "com/example/rondel/rondel/primitive/DoubleRingBuffer", name := "slot", desc := "(I)I" } : Jvm.MethodName) prog_11_method_18_code (3 : Nat) (Option.some Jvm.ClassFile.FieldType.int)).before args0 about1 = true := code_word (m := ⟨3, 6⟩) (meth := k3m6) (c := k3c6) (by decide +kernel) rfl rfl rfl (by decide +kernel)
set_option maxRecDepth 65536 in
theorem w_c5 : (Jvm.Cond.code ({ cls := "com/example/rondel/rondel/primitive/DoubleRingBuffer", name := "next", desc := "(I)I" } : Jvm.MethodName) prog_11_method_19_code (2 : Nat) (Option.some Jvm.ClassFile.FieldType.int)).before args0 about1 = true := code_word (m := ⟨3, 7⟩) (meth := k3m7) (c := k3c7) (by decide +kernel) rfl rfl rfl (by decide +kernel)
set_option maxRecDepth 65536 in
theorem w_c6 : (Jvm.Cond.code ({ cls := "java/lang/Math", name := "min", desc := "(II)I" } : Jvm.MethodName) jdk_29_method_69_code (2 : Nat) (Option.some Jvm.ClassFile.FieldType.int)).before args0 about1 = true := code_word (m := ⟨4, 1⟩) (meth := k4m1) (c := k4c1) (by decide +kernel) rfl rfl rfl (by decide +kernel)
set_option maxRecDepth 65536 in
theorem w_c7 : (Jvm.Cond.code ({ cls := "com/example/rondel/rondel/primitive/DoubleRingBuffer", name := "isFull", desc := "()Z" } : Jvm.MethodName) prog_11_method_5_code (1 : Nat) (Option.some Jvm.ClassFile.FieldType.boolean)).before args0 about1 = true := code_word (m := ⟨3, 1⟩) (meth := k3m1) (c := k3c1) (by decide +kernel) rfl rfl rfl (by decide +kernel)
set_option maxRecDepth 65536 in
theorem w_c8 : (Jvm.Cond.code ({ cls := "com/example/rondel/rondel/primitive/DoubleRingBuffer", name := "removeFirst", desc := "()D" } : Jvm.MethodName) prog_11_method_7_code (3 : Nat) (Option.some Jvm.ClassFile.FieldType.double)).before args0 about1 = true := code_word (m := ⟨3, 3⟩) (meth := k3m3) (c := k3c3) (by decide +kernel) rfl rfl rfl (by decide +kernel)
set_option maxRecDepth 65536 in
theorem w_c9 : (Jvm.Cond.code ({ cls := "com/example/rondel/rondel/primitive/DoubleRingBuffer", name := "getFirst", desc := "()D" } : Jvm.MethodName) prog_11_method_9_code (1 : Nat) (Option.some Jvm.ClassFile.FieldType.double)).before args0 about1 = true := code_word (m := ⟨3, 4⟩) (meth := k3m4) (c := k3c4) (by decide +kernel) rfl rfl rfl (by decide +kernel)
set_option maxRecDepth 65536 in
theorem w_c10 : (Jvm.Cond.code ({ cls := "com/example/rondel/rondel/primitive/DoubleRingBuffer", name := "checkNotEmpty", desc := "()V" } : Jvm.MethodName) prog_11_method_17_code (1 : Nat) (Option.none : Option Jvm.ClassFile.FieldType)).before args0 about1 = true := code_word (m := ⟨3, 5⟩) (meth := k3m5) (c := k3c5) (by decide +kernel) rfl rfl rfl (by decide +kernel)
def codes1 : List Jvm.Cond := [Jvm.Cond.code x code maxLocals ret, Jvm.Cond.code ({ cls := "com/example/rondel/rondel/primitive/DoubleRingBuffer", name := "<init>", desc := "(I)V" } : Jvm.MethodName) prog_11_method_1_code (2 : Nat) (Option.none : Option Jvm.ClassFile.FieldType), Jvm.Cond.code ({ cls := "java/lang/Object", name := "<init>", desc := "()V" } : Jvm.MethodName) object_method_1_code (1 : Nat) (Option.none : Option Jvm.ClassFile.FieldType), Jvm.Cond.code ({ cls := "com/example/rondel/rondel/primitive/DoubleRingBuffer", name := "add", desc := "(D)V" } : Jvm.MethodName) prog_11_method_6_code (3 : Nat) (Option.none : Option Jvm.ClassFile.FieldType), Jvm.Cond.code ({ cls := "com/example/rondel/rondel/primitive/DoubleRingBuffer", name := "slot", desc := "(I)I" } : Jvm.MethodName) prog_11_method_18_code (3 : Nat) (Option.some Jvm.ClassFile.FieldType.int), Jvm.Cond.code ({ cls := "com/example/rondel/rondel/primitive/DoubleRingBuffer", name := "next", desc := "(I)I" } : Jvm.MethodName) prog_11_method_19_code (2 : Nat) (Option.some Jvm.ClassFile.FieldType.int), Jvm.Cond.code ({ cls := "java/lang/Math", name := "min", desc := "(II)I" } : Jvm.MethodName) jdk_29_method_69_code (2 : Nat) (Option.some Jvm.ClassFile.FieldType.int), Jvm.Cond.code ({ cls := "com/example/rondel/rondel/primitive/DoubleRingBuffer", name := "isFull", desc := "()Z" } : Jvm.MethodName) prog_11_method_5_code (1 : Nat) (Option.some Jvm.ClassFile.FieldType.boolean), Jvm.Cond.code ({ cls := "com/example/rondel/rondel/primitive/DoubleRingBuffer", name := "removeFirst", desc := "()D" } : Jvm.MethodName) prog_11_method_7_code (3 : Nat) (Option.some Jvm.ClassFile.FieldType.double), Jvm.Cond.code ({ cls := "com/example/rondel/rondel/primitive/DoubleRingBuffer", name := "getFirst", desc := "()D" } : Jvm.MethodName) prog_11_method_9_code (1 : Nat) (Option.some Jvm.ClassFile.FieldType.double), Jvm.Cond.code ({ cls := "com/example/rondel/rondel/primitive/DoubleRingBuffer", name := "checkNotEmpty", desc := "()V" } : Jvm.MethodName) prog_11_method_17_code (1 : Nat) (Option.none : Option Jvm.ClassFile.FieldType)]
set_option maxRecDepth 65536 in
theorem codes_eq : words1.filter isCode = codes1 := rfl
theorem w_codes : ∀ c ∈ words1.filter isCode, c.before args0 about1 = true := by
  rw [codes_eq]
  intro c hc
  simp only [codes1, List.mem_cons, List.not_mem_nil, or_false] at hc
  rcases hc with rfl | rfl | rfl | rfl | rfl | rfl | rfl | rfl | rfl | rfl | rfl
  · exact w_c0
  · exact w_c1
  · exact w_c2
  · exact w_c3
  · exact w_c4
  · exact w_c5
  · exact w_c6
  · exact w_c7
  · exact w_c8
  · exact w_c9
  · exact w_c10
set_option maxRecDepth 65536 in
theorem w_t1 : (words1.take 24).all (fun c => isCode c || c.before args0 about1) = true := by decide +kernel
set_option maxRecDepth 65536 in
theorem w_t2 : ((words1.drop 24).take 24).all (fun c => isCode c || c.before args0 about1) = true := by decide +kernel
set_option maxRecDepth 65536 in
theorem w_t3 : ((words1.drop 24).drop 24).all (fun c => isCode c || c.before args0 about1) = true := by decide +kernel
theorem w_tables : (allAtoms (Jvm.Cond.code x code maxLocals ret :: tables_1)).before args0 about1 = true := by
  rw [allAtoms_all]
  show words1.all (fun c => c.before args0 about1) = true
  refine all_split ?_ w_codes
  rw [← List.take_append_drop 24 words1, List.all_append, w_t1, ← List.take_append_drop 24 (words1.drop 24), List.all_append, w_t2, w_t3]
  rfl
set_option maxRecDepth 65536 in
theorem w_case : (Jvm.Cond.and given_1 narrow_1).before args0 about1 = true := by decide +kernel
theorem w_applies : (headSpec (Jvm.Cond.code x code maxLocals ret :: tables_1) room_1).applies x e0.platform about1 = true :=
  (Spec.applies_iff w_frames).mpr ⟨w_running, w_runnable, w_alone, w_named, w_hears, w_ripe, w_room, w_tables⟩
theorem atStart : AtStart classFile x code maxLocals ret World_1 tables_1 room_1 Calls_1 rest_1 Pre_1 launch0 p0 e0 about1 theMethod args0 below0 :=
  ⟨lists_1, trivial, launch0.admits_env _ _ _, launch0.least_env, fairChoices_fair.cas, fairChoices_fair.clock, w_frames, w_args, w_heap, w_applies, trivial, trivial, w_case⟩
end start1
theorem witness_1 : WitnessClaimed_1 := ⟨start1.p0, start1.e0, start1.about1, start1.theMethod, start1.args0, start1.below0, start1.atStart⟩
end Jvm.Pilot.@@N@@
