import JvmDerived
import JvmDerived.Pilot.@@N@@Statement
import JvmDerived.Pilot.@@N@@Code
set_option linter.unusedVariables false
set_option linter.unusedSimpArgs false
namespace Jvm.Pilot.@@N@@
open Jvm Jvm.ClassFile Sem Op Lib Jvm.Free Jvm.Stand Jvm.LawKit Jvm.RoadKit Bundle Jvm.Pilot.@@N@@.Jvm.D
section OwnKit
variable {p : Program} {l : Launch} {e : Env} {R : Room} {s : State} {m : MethodId} {args : Array Value} {below : List Frame} {meth : Method} {c : Code} {T : State} {Z : State} {own mn : String} {bytes : ByteArray} {ml n0 k n : Nat} {rt : Option FieldType} {h : Heap} {G : Outcome → State → Prop} {pc q : Nat} {L : Array Slot} {st rest : List Value} {a0 : Array Value}
/-- the run from S comes to an end of which G speaks -/
def Goes (p : Program) (e : Env) (below : List Frame) (G : Outcome → State → Prop) (S : State) : Prop := ∃ s₂ o, Steps p.tables e below S s₂ ∧ s₂.status = .running ∧ Ended s₂ below o ∧ G o s₂
theorem go_st {S S' : State} (f : ∀ t, Steps p.tables e below S' t → Steps p.tables e below S t) (r : Goes p e below G S') : Goes p e below G S := by
  obtain ⟨s₂, o, a, b⟩ := r; exact ⟨s₂, o, f _ a, b⟩
theorem go_tr {S S' : State} (f : Steps p.tables e below S S') (r : Goes p e below G S') : Goes p e below G S := by
  obtain ⟨s₂, o, a, b⟩ := r; exact ⟨s₂, o, f.trans a, b⟩
/-- what a body's walk knows from its start on -/
def Cx (p : Program) (s : State) (m : MethodId) (meth : Method) (c : Code) (Z : State) (own : String) (bytes : ByteArray) (ml : Nat) (rt : Option FieldType) (mn : String) : Prop :=
  p.tables.exec = Jvm.exec ∧ Z.Warmed39 s.vm ∧ s.vm.findClass own = some m.cls ∧ c.code = bytes ∧ c.maxLocals = ml ∧ meth.sig.returnType = rt ∧ meth.locks = false ∧ meth.name = mn
/-- where it stands: the heap is h; all that was written lies at n0 or above; at most k cells and n slots are new -/
def St (p : Program) (l : Launch) (e : Env) (R : Room) (s : State) (m : MethodId) (args : Array Value) (below : List Frame) (meth : Method) (c : Code) (n0 : Nat) (T : State) (h : Heap) (k n : Nat) : Prop :=
  ∃ locs cells slots, Stand p l e R s m args below meth c T locs cells slots ∧ Fr n0 locs ∧ T.heap = h ∧ cells ≤ k ∧ slots ≤ n
def FinN (Q : Option Value → Heap → Prop) (s : State) (n0 k n : Nat) (o : Outcome) (U : State) : Prop := ∃ v L, o = .returned v ∧ (Fr n0 L ∧ Q v U.heap) ∧ FrameEnd s o U L k n
def Met (l : Launch) (Z : State) (y : MethodName) (bytes : ByteArray) (ml : Nat) (rt : Option FieldType) (rm : Room) (as' : Array Value) (h0 : Heap) (n0 : Nat) (Q : Option Value → Heap → Prop) : Prop :=
  ∀ ws : List Jvm.Cond, MetFree l y (head1 (Jvm.Cond.code y bytes ml rt :: ws) rm) (fun a U => a = as' ∧ Z.Warmed39 U.vm ∧ U.heap = h0) (fun _ _ _ _ _ => True) (fun _ U o U' => ∃ v L, o = .returned v ∧ (Fr n0 L ∧ Q v U'.heap) ∧ FrameEnd U o U' L rm.cells rm.slots)
abbrev Met1 (l : Launch) (Z : State) (y : MethodName) (bytes : ByteArray) (ml : Nat) (rt : Option FieldType) (rm : Room) (as' : Array Value) (h0 : Heap) (n0 : Nat) (Q : Value → Heap → Prop) : Prop := Met l Z y bytes ml rt rm as' h0 n0 (fun v h => ∃ w, v = some w ∧ Q w h)
abbrev Met0 (l : Launch) (Z : State) (y : MethodName) (bytes : ByteArray) (ml : Nat) (rt : Option FieldType) (rm : Room) (as' : Array Value) (h0 : Heap) (n0 : Nat) (Q : Heap → Prop) : Prop := Met l Z y bytes ml rt rm as' h0 n0 (fun v h => v = none ∧ Q h)
theorem met_of {y : MethodName} {rm : Room} {as' : Array Value} {Q : Option Value → Heap → Prop} (hp : plainFor y = true) (hef : ∀ m, entryFrame m as' ml = mkF m 0 L [])
    (body : ∀ (p : Program) (e : Env) (s : State) (m : MethodId) (below : List Frame) (meth : Method) (c : Code) (T : State), Cx p s m meth c Z y.cls bytes ml rt y.name → St p l e rm s m as' below meth c n0 T h 0 0 → Goes p e below (FinN Q s n0 rm.cells rm.slots) (T.setTop (mkF m 0 L []))) :
    Met l Z y bytes ml rt rm as' h n0 Q := by
  intro ws
  refine MetFree.of_bodySF hp hisR ?_
  intro p e s m args below meth c s₁ Bd hml hP hK
  obtain ⟨rfl, hZ, hh⟩ := hP
  have e0 : s₁.heap = h := by rw [← hh, Bd.state]; rfl
  have b := body p e s m below meth c s₁ ⟨Bd.exec, hZ, findClass_of_methodNamed Bd.named, Bd.bytes, hml, Bd.returns, BodyLoose.notSynchronized Bd, (name_of_methodNamed Bd.named Bd.method).1⟩ ⟨[], 0, 0, Stand.of_body Bd, Fr.nil _, e0, Nat.le_refl _, Nat.le_refl _⟩
  rw [hef m]
  exact b
theorem St.mono {k' n' : Nat} (X : St p l e R s m args below meth c n0 T h k n) (hk : k ≤ k') (hn : n ≤ n') : St p l e R s m args below meth c n0 T h k' n' := by
  obtain ⟨a, b, d, x, y, z, u, v⟩ := X; exact ⟨a, b, d, x, y, z, Nat.le_trans u hk, Nat.le_trans v hn⟩
theorem g_aloadN (C : Cx p s m meth c Z own bytes ml rt mn) (X : St p l e R s m args below meth c n0 T h k n) {j : Fin 4} {v : Value} (hd : decode bytes pc = .ok (.aload_n j, 1)) (hq : pc + 1 = q) (hl : L[j.val]? = some (.val v)) (hv : v.isRef = true) (r : Goes p e below G (T.setTop (mkF m q L (v :: st)))) : Goes p e below G (T.setTop (mkF m pc L (st))) := by
  obtain ⟨hx, -, -, hby, -⟩ := C
  obtain ⟨_, _, _, X, -⟩ := X
  subst hq 
  exact go_st (fun t k => XS.aloadN X.here hx rfl (hb hby hd) hl hv k) r
theorem g_aload (C : Cx p s m meth c Z own bytes ml rt mn) (X : St p l e R s m args below meth c n0 T h k n) {j : Nat} {v : Value} (hd : decode bytes pc = .ok (.aload j, 2)) (hq : pc + 2 = q) (hl : L[j]? = some (.val v)) (hv : v.isRef = true) (r : Goes p e below G (T.setTop (mkF m q L (v :: st)))) : Goes p e below G (T.setTop (mkF m pc L (st))) := by
  obtain ⟨hx, -, -, hby, -⟩ := C
  obtain ⟨_, _, _, X, -⟩ := X
  subst hq 
  exact go_st (fun t k => XS.aload X.here hx rfl (hb hby hd) hl hv k) r
theorem g_iloadN (C : Cx p s m meth c Z own bytes ml rt mn) (X : St p l e R s m args below meth c n0 T h k n) {j : Fin 4} {v : Int32} (hd : decode bytes pc = .ok (.iload_n j, 1)) (hq : pc + 1 = q) (hl : L[j.val]? = some (.val (.int v))) (r : Goes p e below G (T.setTop (mkF m q L (.int v :: st)))) : Goes p e below G (T.setTop (mkF m pc L (st))) := by
  obtain ⟨hx, -, -, hby, -⟩ := C
  obtain ⟨_, _, _, X, -⟩ := X
  subst hq 
  exact go_st (fun t k => XS.iloadN X.here hx rfl (hb hby hd) hl k) r
theorem g_iload (C : Cx p s m meth c Z own bytes ml rt mn) (X : St p l e R s m args below meth c n0 T h k n) {j : Nat} {v : Int32} (hd : decode bytes pc = .ok (.iload j, 2)) (hq : pc + 2 = q) (hl : L[j]? = some (.val (.int v))) (r : Goes p e below G (T.setTop (mkF m q L (.int v :: st)))) : Goes p e below G (T.setTop (mkF m pc L (st))) := by
  obtain ⟨hx, -, -, hby, -⟩ := C
  obtain ⟨_, _, _, X, -⟩ := X
  subst hq 
  exact go_st (fun t k => XS.iload X.here hx rfl (hb hby hd) hl k) r
theorem g_lloadN (C : Cx p s m meth c Z own bytes ml rt mn) (X : St p l e R s m args below meth c n0 T h k n) {j : Fin 4} {v : Int64} (hd : decode bytes pc = .ok (.lload_n j, 1)) (hq : pc + 1 = q) (hl : L[j.val]? = some (.val (.long v))) (r : Goes p e below G (T.setTop (mkF m q L (.long v :: st)))) : Goes p e below G (T.setTop (mkF m pc L (st))) := by
  obtain ⟨hx, -, -, hby, -⟩ := C
  obtain ⟨_, _, _, X, -⟩ := X
  subst hq 
  exact go_st (fun t k => XS.lloadN X.here hx rfl (hb hby hd) hl k) r
theorem g_lload (C : Cx p s m meth c Z own bytes ml rt mn) (X : St p l e R s m args below meth c n0 T h k n) {j : Nat} {v : Int64} (hd : decode bytes pc = .ok (.lload j, 2)) (hq : pc + 2 = q) (hl : L[j]? = some (.val (.long v))) (r : Goes p e below G (T.setTop (mkF m q L (.long v :: st)))) : Goes p e below G (T.setTop (mkF m pc L (st))) := by
  obtain ⟨hx, -, -, hby, -⟩ := C
  obtain ⟨_, _, _, X, -⟩ := X
  subst hq 
  exact go_st (fun t k => XS.lload X.here hx rfl (hb hby hd) hl k) r
theorem g_iconst (C : Cx p s m meth c Z own bytes ml rt mn) (X : St p l e R s m args below meth c n0 T h k n) {i : Int} {z : Int32} (hd : decode bytes pc = .ok (.iconst i, 1)) (hq : pc + 1 = q) (hz : Int32.ofInt i = z) (r : Goes p e below G (T.setTop (mkF m q L (.int z :: st)))) : Goes p e below G (T.setTop (mkF m pc L (st))) := by
  obtain ⟨hx, -, -, hby, -⟩ := C
  obtain ⟨_, _, _, X, -⟩ := X
  subst hq hz
  exact go_st (fun t k => XS.iconst X.here hx rfl (hb hby hd)  k) r
theorem g_bipush (C : Cx p s m meth c Z own bytes ml rt mn) (X : St p l e R s m args below meth c n0 T h k n) {i : Int} {z : Int32} (hd : decode bytes pc = .ok (.bipush i, 2)) (hq : pc + 2 = q) (hz : (Int8.ofInt i).toInt32 = z) (r : Goes p e below G (T.setTop (mkF m q L (.int z :: st)))) : Goes p e below G (T.setTop (mkF m pc L (st))) := by
  obtain ⟨hx, -, -, hby, -⟩ := C
  obtain ⟨_, _, _, X, -⟩ := X
  subst hq hz
  exact go_st (fun t k => XS.bipush X.here hx rfl (hb hby hd)  k) r
theorem g_sipush (C : Cx p s m meth c Z own bytes ml rt mn) (X : St p l e R s m args below meth c n0 T h k n) {i : Int} {z : Int32} (hd : decode bytes pc = .ok (.sipush i, 3)) (hq : pc + 3 = q) (hz : (Int16.ofInt i).toInt32 = z) (r : Goes p e below G (T.setTop (mkF m q L (.int z :: st)))) : Goes p e below G (T.setTop (mkF m pc L (st))) := by
  obtain ⟨hx, -, -, hby, -⟩ := C
  obtain ⟨_, _, _, X, -⟩ := X
  subst hq hz
  exact go_st (fun t k => XS.sipush X.here hx rfl (hb hby hd)  k) r
theorem g_aconstNull (C : Cx p s m meth c Z own bytes ml rt mn) (X : St p l e R s m args below meth c n0 T h k n)  (hd : decode bytes pc = .ok (.aconst_null, 1)) (hq : pc + 1 = q)  (r : Goes p e below G (T.setTop (mkF m q L (.null :: st)))) : Goes p e below G (T.setTop (mkF m pc L (st))) := by
  obtain ⟨hx, -, -, hby, -⟩ := C
  obtain ⟨_, _, _, X, -⟩ := X
  subst hq 
  exact go_st (fun t k => XS.aconstNull X.here hx rfl (hb hby hd)  k) r
theorem g_iadd (C : Cx p s m meth c Z own bytes ml rt mn) (X : St p l e R s m args below meth c n0 T h k n) {x y z : Int32} (hd : decode bytes pc = .ok (.iadd, 1)) (hq : pc + 1 = q) (hz : x + y = z) (r : Goes p e below G (T.setTop (mkF m q L (.int z :: st)))) : Goes p e below G (T.setTop (mkF m pc L (.int y :: .int x :: st))) := by
  obtain ⟨hx, -, -, hby, -⟩ := C
  obtain ⟨_, _, _, X, -⟩ := X
  subst hq hz
  exact go_st (fun t k => XS.iadd X.here hx rfl (hb hby hd) rfl k) r
theorem g_isub (C : Cx p s m meth c Z own bytes ml rt mn) (X : St p l e R s m args below meth c n0 T h k n) {x y z : Int32} (hd : decode bytes pc = .ok (.isub, 1)) (hq : pc + 1 = q) (hz : x - y = z) (r : Goes p e below G (T.setTop (mkF m q L (.int z :: st)))) : Goes p e below G (T.setTop (mkF m pc L (.int y :: .int x :: st))) := by
  obtain ⟨hx, -, -, hby, -⟩ := C
  obtain ⟨_, _, _, X, -⟩ := X
  subst hq hz
  exact go_st (fun t k => XS.isub X.here hx rfl (hb hby hd) rfl k) r
theorem g_imul (C : Cx p s m meth c Z own bytes ml rt mn) (X : St p l e R s m args below meth c n0 T h k n) {x y z : Int32} (hd : decode bytes pc = .ok (.imul, 1)) (hq : pc + 1 = q) (hz : x * y = z) (r : Goes p e below G (T.setTop (mkF m q L (.int z :: st)))) : Goes p e below G (T.setTop (mkF m pc L (.int y :: .int x :: st))) := by
  obtain ⟨hx, -, -, hby, -⟩ := C
  obtain ⟨_, _, _, X, -⟩ := X
  subst hq hz
  exact go_st (fun t k => XS.imul X.here hx rfl (hb hby hd) rfl k) r
theorem g_iand (C : Cx p s m meth c Z own bytes ml rt mn) (X : St p l e R s m args below meth c n0 T h k n) {x y z : Int32} (hd : decode bytes pc = .ok (.iand, 1)) (hq : pc + 1 = q) (hz : x &&& y = z) (r : Goes p e below G (T.setTop (mkF m q L (.int z :: st)))) : Goes p e below G (T.setTop (mkF m pc L (.int y :: .int x :: st))) := by
  obtain ⟨hx, -, -, hby, -⟩ := C
  obtain ⟨_, _, _, X, -⟩ := X
  subst hq hz
  exact go_st (fun t k => XS.iand X.here hx rfl (hb hby hd) rfl k) r
theorem g_ior (C : Cx p s m meth c Z own bytes ml rt mn) (X : St p l e R s m args below meth c n0 T h k n) {x y z : Int32} (hd : decode bytes pc = .ok (.ior, 1)) (hq : pc + 1 = q) (hz : x ||| y = z) (r : Goes p e below G (T.setTop (mkF m q L (.int z :: st)))) : Goes p e below G (T.setTop (mkF m pc L (.int y :: .int x :: st))) := by
  obtain ⟨hx, -, -, hby, -⟩ := C
  obtain ⟨_, _, _, X, -⟩ := X
  subst hq hz
  exact go_st (fun t k => XS.ior X.here hx rfl (hb hby hd) rfl k) r
theorem g_ixor (C : Cx p s m meth c Z own bytes ml rt mn) (X : St p l e R s m args below meth c n0 T h k n) {x y z : Int32} (hd : decode bytes pc = .ok (.ixor, 1)) (hq : pc + 1 = q) (hz : x ^^^ y = z) (r : Goes p e below G (T.setTop (mkF m q L (.int z :: st)))) : Goes p e below G (T.setTop (mkF m pc L (.int y :: .int x :: st))) := by
  obtain ⟨hx, -, -, hby, -⟩ := C
  obtain ⟨_, _, _, X, -⟩ := X
  subst hq hz
  exact go_st (fun t k => XS.ixor X.here hx rfl (hb hby hd) rfl k) r
theorem g_ishl (C : Cx p s m meth c Z own bytes ml rt mn) (X : St p l e R s m args below meth c n0 T h k n) {x y z : Int32} (hd : decode bytes pc = .ok (.ishl, 1)) (hq : pc + 1 = q) (hz : x <<< (y &&& 31) = z) (r : Goes p e below G (T.setTop (mkF m q L (.int z :: st)))) : Goes p e below G (T.setTop (mkF m pc L (.int y :: .int x :: st))) := by
  obtain ⟨hx, -, -, hby, -⟩ := C
  obtain ⟨_, _, _, X, -⟩ := X
  subst hq hz
  exact go_st (fun t k => XS.ishl X.here hx rfl (hb hby hd) rfl k) r
theorem g_ishr (C : Cx p s m meth c Z own bytes ml rt mn) (X : St p l e R s m args below meth c n0 T h k n) {x y z : Int32} (hd : decode bytes pc = .ok (.ishr, 1)) (hq : pc + 1 = q) (hz : x >>> (y &&& 31) = z) (r : Goes p e below G (T.setTop (mkF m q L (.int z :: st)))) : Goes p e below G (T.setTop (mkF m pc L (.int y :: .int x :: st))) := by
  obtain ⟨hx, -, -, hby, -⟩ := C
  obtain ⟨_, _, _, X, -⟩ := X
  subst hq hz
  exact go_st (fun t k => XS.ishr X.here hx rfl (hb hby hd) rfl k) r
theorem g_iushr (C : Cx p s m meth c Z own bytes ml rt mn) (X : St p l e R s m args below meth c n0 T h k n) {x y z : Int32} (hd : decode bytes pc = .ok (.iushr, 1)) (hq : pc + 1 = q) (hz : (x.toUInt32 >>> (y &&& 31).toUInt32).toInt32 = z) (r : Goes p e below G (T.setTop (mkF m q L (.int z :: st)))) : Goes p e below G (T.setTop (mkF m pc L (.int y :: .int x :: st))) := by
  obtain ⟨hx, -, -, hby, -⟩ := C
  obtain ⟨_, _, _, X, -⟩ := X
  subst hq hz
  exact go_st (fun t k => XS.iushr X.here hx rfl (hb hby hd) rfl k) r
theorem g_idiv (C : Cx p s m meth c Z own bytes ml rt mn) (X : St p l e R s m args below meth c n0 T h k n) {x y z : Int32} (hd : decode bytes pc = .ok (.idiv, 1)) (hq : pc + 1 = q) (hy : y ≠ 0) (hz : x / y = z) (r : Goes p e below G (T.setTop (mkF m q L (.int z :: st)))) : Goes p e below G (T.setTop (mkF m pc L (.int y :: .int x :: st))) := by
  obtain ⟨hx, -, -, hby, -⟩ := C
  obtain ⟨_, _, _, X, -⟩ := X
  subst hq hz
  exact go_st (fun t k => XS.idiv X.here hx rfl (hb hby hd) rfl hy k) r
theorem g_irem (C : Cx p s m meth c Z own bytes ml rt mn) (X : St p l e R s m args below meth c n0 T h k n) {x y z : Int32} (hd : decode bytes pc = .ok (.irem, 1)) (hq : pc + 1 = q) (hy : y ≠ 0) (hz : x % y = z) (r : Goes p e below G (T.setTop (mkF m q L (.int z :: st)))) : Goes p e below G (T.setTop (mkF m pc L (.int y :: .int x :: st))) := by
  obtain ⟨hx, -, -, hby, -⟩ := C
  obtain ⟨_, _, _, X, -⟩ := X
  subst hq hz
  exact go_st (fun t k => iremM X hx rfl (hb hby hd) rfl hy k) r
theorem g_ineg (C : Cx p s m meth c Z own bytes ml rt mn) (X : St p l e R s m args below meth c n0 T h k n) {x z : Int32} (hd : decode bytes pc = .ok (.ineg, 1)) (hq : pc + 1 = q) (hz : -x = z) (r : Goes p e below G (T.setTop (mkF m q L (.int z :: st)))) : Goes p e below G (T.setTop (mkF m pc L (.int x :: st))) := by
  obtain ⟨hx, -, -, hby, -⟩ := C
  obtain ⟨_, _, _, X, -⟩ := X
  subst hq hz
  exact go_st (fun t k => XS.ineg X.here hx rfl (hb hby hd) rfl k) r
theorem g_ladd (C : Cx p s m meth c Z own bytes ml rt mn) (X : St p l e R s m args below meth c n0 T h k n) {x y z : Int64} (hd : decode bytes pc = .ok (.ladd, 1)) (hq : pc + 1 = q) (hz : x + y = z) (r : Goes p e below G (T.setTop (mkF m q L (.long z :: st)))) : Goes p e below G (T.setTop (mkF m pc L (.long y :: .long x :: st))) := by
  obtain ⟨hx, -, -, hby, -⟩ := C
  obtain ⟨_, _, _, X, -⟩ := X
  subst hq hz
  exact go_st (fun t k => XS.ladd X.here hx rfl (hb hby hd) rfl k) r
theorem g_lsub (C : Cx p s m meth c Z own bytes ml rt mn) (X : St p l e R s m args below meth c n0 T h k n) {x y z : Int64} (hd : decode bytes pc = .ok (.lsub, 1)) (hq : pc + 1 = q) (hz : x - y = z) (r : Goes p e below G (T.setTop (mkF m q L (.long z :: st)))) : Goes p e below G (T.setTop (mkF m pc L (.long y :: .long x :: st))) := by
  obtain ⟨hx, -, -, hby, -⟩ := C
  obtain ⟨_, _, _, X, -⟩ := X
  subst hq hz
  exact go_st (fun t k => XS.lsub X.here hx rfl (hb hby hd) rfl k) r
theorem g_lmul (C : Cx p s m meth c Z own bytes ml rt mn) (X : St p l e R s m args below meth c n0 T h k n) {x y z : Int64} (hd : decode bytes pc = .ok (.lmul, 1)) (hq : pc + 1 = q) (hz : x * y = z) (r : Goes p e below G (T.setTop (mkF m q L (.long z :: st)))) : Goes p e below G (T.setTop (mkF m pc L (.long y :: .long x :: st))) := by
  obtain ⟨hx, -, -, hby, -⟩ := C
  obtain ⟨_, _, _, X, -⟩ := X
  subst hq hz
  exact go_st (fun t k => XS.lmul X.here hx rfl (hb hby hd) rfl k) r
theorem g_land (C : Cx p s m meth c Z own bytes ml rt mn) (X : St p l e R s m args below meth c n0 T h k n) {x y z : Int64} (hd : decode bytes pc = .ok (.land, 1)) (hq : pc + 1 = q) (hz : x &&& y = z) (r : Goes p e below G (T.setTop (mkF m q L (.long z :: st)))) : Goes p e below G (T.setTop (mkF m pc L (.long y :: .long x :: st))) := by
  obtain ⟨hx, -, -, hby, -⟩ := C
  obtain ⟨_, _, _, X, -⟩ := X
  subst hq hz
  exact go_st (fun t k => XS.land X.here hx rfl (hb hby hd) rfl k) r
theorem g_lor (C : Cx p s m meth c Z own bytes ml rt mn) (X : St p l e R s m args below meth c n0 T h k n) {x y z : Int64} (hd : decode bytes pc = .ok (.lor, 1)) (hq : pc + 1 = q) (hz : x ||| y = z) (r : Goes p e below G (T.setTop (mkF m q L (.long z :: st)))) : Goes p e below G (T.setTop (mkF m pc L (.long y :: .long x :: st))) := by
  obtain ⟨hx, -, -, hby, -⟩ := C
  obtain ⟨_, _, _, X, -⟩ := X
  subst hq hz
  exact go_st (fun t k => XS.lor X.here hx rfl (hb hby hd) rfl k) r
theorem g_lxor (C : Cx p s m meth c Z own bytes ml rt mn) (X : St p l e R s m args below meth c n0 T h k n) {x y z : Int64} (hd : decode bytes pc = .ok (.lxor, 1)) (hq : pc + 1 = q) (hz : x ^^^ y = z) (r : Goes p e below G (T.setTop (mkF m q L (.long z :: st)))) : Goes p e below G (T.setTop (mkF m pc L (.long y :: .long x :: st))) := by
  obtain ⟨hx, -, -, hby, -⟩ := C
  obtain ⟨_, _, _, X, -⟩ := X
  subst hq hz
  exact go_st (fun t k => XS.lxor X.here hx rfl (hb hby hd) rfl k) r
theorem g_lshl (C : Cx p s m meth c Z own bytes ml rt mn) (X : St p l e R s m args below meth c n0 T h k n) {x z : Int64} {y : Int32} (hd : decode bytes pc = .ok (.lshl, 1)) (hq : pc + 1 = q) (hz : x <<< (y &&& 0x3f).toInt64 = z) (r : Goes p e below G (T.setTop (mkF m q L (.long z :: st)))) : Goes p e below G (T.setTop (mkF m pc L (.int y :: .long x :: st))) := by
  obtain ⟨hx, -, -, hby, -⟩ := C
  obtain ⟨_, _, _, X, -⟩ := X
  subst hq hz
  exact go_st (fun t k => XS.lshl X.here hx rfl (hb hby hd) rfl k) r
theorem g_lshr (C : Cx p s m meth c Z own bytes ml rt mn) (X : St p l e R s m args below meth c n0 T h k n) {x z : Int64} {y : Int32} (hd : decode bytes pc = .ok (.lshr, 1)) (hq : pc + 1 = q) (hz : x >>> (y &&& 0x3f).toInt64 = z) (r : Goes p e below G (T.setTop (mkF m q L (.long z :: st)))) : Goes p e below G (T.setTop (mkF m pc L (.int y :: .long x :: st))) := by
  obtain ⟨hx, -, -, hby, -⟩ := C
  obtain ⟨_, _, _, X, -⟩ := X
  subst hq hz
  exact go_st (fun t k => XS.lshr X.here hx rfl (hb hby hd) rfl k) r
theorem g_lushr (C : Cx p s m meth c Z own bytes ml rt mn) (X : St p l e R s m args below meth c n0 T h k n) {x z : Int64} {y : Int32} (hd : decode bytes pc = .ok (.lushr, 1)) (hq : pc + 1 = q) (hz : (x.toUInt64 >>> (y &&& 0x3f).toInt64.toUInt64).toInt64 = z) (r : Goes p e below G (T.setTop (mkF m q L (.long z :: st)))) : Goes p e below G (T.setTop (mkF m pc L (.int y :: .long x :: st))) := by
  obtain ⟨hx, -, -, hby, -⟩ := C
  obtain ⟨_, _, _, X, -⟩ := X
  subst hq hz
  exact go_st (fun t k => XS.lushr X.here hx rfl (hb hby hd) rfl k) r
theorem g_ldiv (C : Cx p s m meth c Z own bytes ml rt mn) (X : St p l e R s m args below meth c n0 T h k n) {x y z : Int64} (hd : decode bytes pc = .ok (.ldiv, 1)) (hq : pc + 1 = q) (hy : y ≠ 0) (hz : x / y = z) (r : Goes p e below G (T.setTop (mkF m q L (.long z :: st)))) : Goes p e below G (T.setTop (mkF m pc L (.long y :: .long x :: st))) := by
  obtain ⟨hx, -, -, hby, -⟩ := C
  obtain ⟨_, _, _, X, -⟩ := X
  subst hq hz
  exact go_st (fun t k => XS.ldiv X.here hx rfl (hb hby hd) rfl hy k) r
theorem g_lrem (C : Cx p s m meth c Z own bytes ml rt mn) (X : St p l e R s m args below meth c n0 T h k n) {x y z : Int64} (hd : decode bytes pc = .ok (.lrem, 1)) (hq : pc + 1 = q) (hy : y ≠ 0) (hz : x % y = z) (r : Goes p e below G (T.setTop (mkF m q L (.long z :: st)))) : Goes p e below G (T.setTop (mkF m pc L (.long y :: .long x :: st))) := by
  obtain ⟨hx, -, -, hby, -⟩ := C
  obtain ⟨_, _, _, X, -⟩ := X
  subst hq hz
  have w := lrem_mod x y
  exact go_st (fun t k => XS.lrem X.here hx rfl (hb hby hd) rfl hy (by rw [w]; exact k)) r
theorem g_lneg (C : Cx p s m meth c Z own bytes ml rt mn) (X : St p l e R s m args below meth c n0 T h k n) {x z : Int64} (hd : decode bytes pc = .ok (.lneg, 1)) (hq : pc + 1 = q) (hz : -x = z) (r : Goes p e below G (T.setTop (mkF m q L (.long z :: st)))) : Goes p e below G (T.setTop (mkF m pc L (.long x :: st))) := by
  obtain ⟨hx, -, -, hby, -⟩ := C
  obtain ⟨_, _, _, X, -⟩ := X
  subst hq hz
  exact go_st (fun t k => XS.lneg X.here hx rfl (hb hby hd) rfl k) r
theorem g_i2l (C : Cx p s m meth c Z own bytes ml rt mn) (X : St p l e R s m args below meth c n0 T h k n) {x : Int32} {z : Int64} (hd : decode bytes pc = .ok (.i2l, 1)) (hq : pc + 1 = q) (hz : x.toInt64 = z) (r : Goes p e below G (T.setTop (mkF m q L (.long z :: st)))) : Goes p e below G (T.setTop (mkF m pc L (.int x :: st))) := by
  obtain ⟨hx, -, -, hby, -⟩ := C
  obtain ⟨_, _, _, X, -⟩ := X
  subst hq hz
  exact go_st (fun t k => XS.i2l X.here hx rfl (hb hby hd) rfl k) r
theorem g_l2i (C : Cx p s m meth c Z own bytes ml rt mn) (X : St p l e R s m args below meth c n0 T h k n) {x : Int64} {z : Int32} (hd : decode bytes pc = .ok (.l2i, 1)) (hq : pc + 1 = q) (hz : x.toInt32 = z) (r : Goes p e below G (T.setTop (mkF m q L (.int z :: st)))) : Goes p e below G (T.setTop (mkF m pc L (.long x :: st))) := by
  obtain ⟨hx, -, -, hby, -⟩ := C
  obtain ⟨_, _, _, X, -⟩ := X
  subst hq hz
  exact go_st (fun t k => XS.l2i X.here hx rfl (hb hby hd) rfl k) r
theorem g_i2b (C : Cx p s m meth c Z own bytes ml rt mn) (X : St p l e R s m args below meth c n0 T h k n) {x z : Int32} (hd : decode bytes pc = .ok (.i2b, 1)) (hq : pc + 1 = q) (hz : x.toInt8.toInt32 = z) (r : Goes p e below G (T.setTop (mkF m q L (.int z :: st)))) : Goes p e below G (T.setTop (mkF m pc L (.int x :: st))) := by
  obtain ⟨hx, -, -, hby, -⟩ := C
  obtain ⟨_, _, _, X, -⟩ := X
  subst hq hz
  exact go_st (fun t k => XS.i2b X.here hx rfl (hb hby hd) rfl k) r
theorem g_i2s (C : Cx p s m meth c Z own bytes ml rt mn) (X : St p l e R s m args below meth c n0 T h k n) {x z : Int32} (hd : decode bytes pc = .ok (.i2s, 1)) (hq : pc + 1 = q) (hz : x.toInt16.toInt32 = z) (r : Goes p e below G (T.setTop (mkF m q L (.int z :: st)))) : Goes p e below G (T.setTop (mkF m pc L (.int x :: st))) := by
  obtain ⟨hx, -, -, hby, -⟩ := C
  obtain ⟨_, _, _, X, -⟩ := X
  subst hq hz
  exact go_st (fun t k => XS.i2s X.here hx rfl (hb hby hd) rfl k) r
theorem g_i2c (C : Cx p s m meth c Z own bytes ml rt mn) (X : St p l e R s m args below meth c n0 T h k n) {x z : Int32} (hd : decode bytes pc = .ok (.i2c, 1)) (hq : pc + 1 = q) (hz : x.toUInt32.toUInt16.toUInt32.toInt32 = z) (r : Goes p e below G (T.setTop (mkF m q L (.int z :: st)))) : Goes p e below G (T.setTop (mkF m pc L (.int x :: st))) := by
  obtain ⟨hx, -, -, hby, -⟩ := C
  obtain ⟨_, _, _, X, -⟩ := X
  subst hq hz
  exact go_st (fun t k => XS.i2c X.here hx rfl (hb hby hd) rfl k) r
theorem g_lconst (C : Cx p s m meth c Z own bytes ml rt mn) (X : St p l e R s m args below meth c n0 T h k n) {i : Fin 2} {z : Int64} (hd : decode bytes pc = .ok (.lconst i, 1)) (hq : pc + 1 = q) (hz : (i.val.toInt64) = z) (r : Goes p e below G (T.setTop (mkF m q L (.long z :: st)))) : Goes p e below G (T.setTop (mkF m pc L (st))) := by
  obtain ⟨hx, -, -, hby, -⟩ := C
  obtain ⟨_, _, _, X, -⟩ := X
  subst hq hz
  exact go_st (fun t k => XS.lconst X.here hx rfl (hb hby hd) k) r
theorem own_lcW (x y : Int64) : (if x > y then (1 : Int32) else if x = y then 0 else -1) = lcmpW x y := rfl
theorem g_lcmp (C : Cx p s m meth c Z own bytes ml rt mn) (X : St p l e R s m args below meth c n0 T h k n) {x y : Int64} {z : Int32} (hd : decode bytes pc = .ok (.lcmp, 1)) (hq : pc + 1 = q) (hz : lcmpW x y = z) (r : Goes p e below G (T.setTop (mkF m q L (.int z :: st)))) : Goes p e below G (T.setTop (mkF m pc L (.long y :: .long x :: st))) := by
  obtain ⟨hx, -, -, hby, -⟩ := C
  obtain ⟨_, _, _, X, -⟩ := X
  subst hq hz
  exact go_st (fun t k => XS.lcmp X.here hx rfl (hb hby hd) rfl k) r
theorem g_dup (C : Cx p s m meth c Z own bytes ml rt mn) (X : St p l e R s m args below meth c n0 T h k n) {x : Value} (hd : decode bytes pc = .ok (.dup, 1)) (hq : pc + 1 = q) (hc : x.category = 1) (r : Goes p e below G (T.setTop (mkF m q L (x :: x :: st)))) : Goes p e below G (T.setTop (mkF m pc L (x :: st))) := by
  obtain ⟨hx, -, -, hby, -⟩ := C
  obtain ⟨_, _, _, X, -⟩ := X
  subst hq 
  exact go_st (fun t k => XS.dup X.here hx rfl (hb hby hd) rfl hc k) r
theorem g_pop (C : Cx p s m meth c Z own bytes ml rt mn) (X : St p l e R s m args below meth c n0 T h k n) {x : Value} (hd : decode bytes pc = .ok (.pop, 1)) (hq : pc + 1 = q) (hc : x.category = 1) (r : Goes p e below G (T.setTop (mkF m q L (st)))) : Goes p e below G (T.setTop (mkF m pc L (x :: st))) := by
  obtain ⟨hx, -, -, hby, -⟩ := C
  obtain ⟨_, _, _, X, -⟩ := X
  subst hq 
  exact go_st (fun t k => XS.pop X.here hx rfl (hb hby hd) rfl hc k) r
theorem g_dupX1 (C : Cx p s m meth c Z own bytes ml rt mn) (X : St p l e R s m args below meth c n0 T h k n) {x y : Value} (hd : decode bytes pc = .ok (.dup_x1, 1)) (hq : pc + 1 = q) (hc : x.category = 1) (hc' : y.category = 1) (r : Goes p e below G (T.setTop (mkF m q L (x :: y :: x :: st)))) : Goes p e below G (T.setTop (mkF m pc L (x :: y :: st))) := by
  obtain ⟨hx, -, -, hby, -⟩ := C
  obtain ⟨_, _, _, X, -⟩ := X
  subst hq 
  exact go_st (fun t k => XS.dupX1 X.here hx rfl (hb hby hd) rfl hc hc' k) r
theorem g_dup2 (C : Cx p s m meth c Z own bytes ml rt mn) (X : St p l e R s m args below meth c n0 T h k n) {x y : Value} (hd : decode bytes pc = .ok (.dup2, 1)) (hq : pc + 1 = q) (hc : x.category = 1) (hc' : y.category = 1) (r : Goes p e below G (T.setTop (mkF m q L (x :: y :: x :: y :: st)))) : Goes p e below G (T.setTop (mkF m pc L (x :: y :: st))) := by
  obtain ⟨hx, -, -, hby, -⟩ := C
  obtain ⟨_, _, _, X, -⟩ := X
  subst hq 
  exact go_st (fun t k => Jvm.Free.XT.dup2 X.here hx rfl (hb hby hd) rfl hc hc' k) r
theorem g_istoreN (C : Cx p s m meth c Z own bytes ml rt mn) (X : St p l e R s m args below meth c n0 T h k n) {j : Fin 4} {x : Int32} {L' : Array Slot} (hd : decode bytes pc = .ok (.istore_n j, 1)) (hq : pc + 1 = q) (hl : storeLocals L j.val (.int x) = some L') (r : Goes p e below G (T.setTop (mkF m q L' (st)))) : Goes p e below G (T.setTop (mkF m pc L (.int x :: st))) := by
  obtain ⟨hx, -, -, hby, -⟩ := C
  obtain ⟨_, _, _, X, -⟩ := X
  subst hq 
  exact go_st (fun t k => XS.istoreN X.here hx rfl (hb hby hd) rfl hl k) r
theorem g_istore (C : Cx p s m meth c Z own bytes ml rt mn) (X : St p l e R s m args below meth c n0 T h k n) {j : Nat} {x : Int32} {L' : Array Slot} (hd : decode bytes pc = .ok (.istore j, 2)) (hq : pc + 2 = q) (hl : storeLocals L j (.int x) = some L') (r : Goes p e below G (T.setTop (mkF m q L' (st)))) : Goes p e below G (T.setTop (mkF m pc L (.int x :: st))) := by
  obtain ⟨hx, -, -, hby, -⟩ := C
  obtain ⟨_, _, _, X, -⟩ := X
  subst hq 
  exact go_st (fun t k => XS.istore X.here hx rfl (hb hby hd) rfl hl k) r
theorem g_lstoreN (C : Cx p s m meth c Z own bytes ml rt mn) (X : St p l e R s m args below meth c n0 T h k n) {j : Fin 4} {x : Int64} {L' : Array Slot} (hd : decode bytes pc = .ok (.lstore_n j, 1)) (hq : pc + 1 = q) (hl : storeLocals L j.val (.long x) = some L') (r : Goes p e below G (T.setTop (mkF m q L' (st)))) : Goes p e below G (T.setTop (mkF m pc L (.long x :: st))) := by
  obtain ⟨hx, -, -, hby, -⟩ := C
  obtain ⟨_, _, _, X, -⟩ := X
  subst hq 
  exact go_st (fun t k => XS.lstoreN X.here hx rfl (hb hby hd) rfl hl k) r
theorem g_lstore (C : Cx p s m meth c Z own bytes ml rt mn) (X : St p l e R s m args below meth c n0 T h k n) {j : Nat} {x : Int64} {L' : Array Slot} (hd : decode bytes pc = .ok (.lstore j, 2)) (hq : pc + 2 = q) (hl : storeLocals L j (.long x) = some L') (r : Goes p e below G (T.setTop (mkF m q L' (st)))) : Goes p e below G (T.setTop (mkF m pc L (.long x :: st))) := by
  obtain ⟨hx, -, -, hby, -⟩ := C
  obtain ⟨_, _, _, X, -⟩ := X
  subst hq 
  exact go_st (fun t k => XS.lstore X.here hx rfl (hb hby hd) rfl hl k) r
theorem g_astoreN (C : Cx p s m meth c Z own bytes ml rt mn) (X : St p l e R s m args below meth c n0 T h k n) {j : Fin 4} {x : Value} {L' : Array Slot} (hd : decode bytes pc = .ok (.astore_n j, 1)) (hq : pc + 1 = q) (hv : x.isRef = true) (hl : storeLocals L j.val x = some L') (r : Goes p e below G (T.setTop (mkF m q L' (st)))) : Goes p e below G (T.setTop (mkF m pc L (x :: st))) := by
  obtain ⟨hx, -, -, hby, -⟩ := C
  obtain ⟨_, _, _, X, -⟩ := X
  subst hq 
  exact go_st (fun t k => XS.astoreN X.here hx rfl (hb hby hd) rfl hv hl k) r
theorem g_astore (C : Cx p s m meth c Z own bytes ml rt mn) (X : St p l e R s m args below meth c n0 T h k n) {j : Nat} {x : Value} {L' : Array Slot} (hd : decode bytes pc = .ok (.astore j, 2)) (hq : pc + 2 = q) (hv : x.isRef = true) (hl : storeLocals L j x = some L') (r : Goes p e below G (T.setTop (mkF m q L' (st)))) : Goes p e below G (T.setTop (mkF m pc L (x :: st))) := by
  obtain ⟨hx, -, -, hby, -⟩ := C
  obtain ⟨_, _, _, X, -⟩ := X
  subst hq 
  exact go_st (fun t k => XS.astore X.here hx rfl (hb hby hd) rfl hv hl k) r
theorem g_iinc (C : Cx p s m meth c Z own bytes ml rt mn) (X : St p l e R s m args below meth c n0 T h k n) {j : Nat} {i : Int} {x z : Int32} {L' : Array Slot} (hd : decode bytes pc = .ok (.iinc j i, 3)) (hq : pc + 3 = q) (hl : L[j]? = some (.val (.int x))) (hz : x + Int32.ofInt i = z) (hl' : storeLocals L j (.int z) = some L') (r : Goes p e below G (T.setTop (mkF m q L' (st)))) : Goes p e below G (T.setTop (mkF m pc L (st))) := by
  obtain ⟨hx, -, -, hby, -⟩ := C
  obtain ⟨_, _, _, X, -⟩ := X
  subst hq hz
  exact go_st (fun t k => XS.iinc X.here hx rfl (hb hby hd) hl hl' k) r
theorem g_goto (C : Cx p s m meth c Z own bytes ml rt mn) (X : St p l e R s m args below meth c n0 T h k n)  {o : Int} (hd : decode bytes pc = .ok (.goto o, 3)) (ho : 0 ≤ (pc : Int) + o) (hq : ((pc : Int) + o).toNat = q)  (r : Goes p e below G (T.setTop (mkF m q L st))) : Goes p e below G (T.setTop (mkF m pc L (st))) := by
  obtain ⟨hx, -, -, hby, -⟩ := C
  obtain ⟨_, _, _, X, -⟩ := X
  exact go_st (fun t k => XS.goto X.here hx rfl rfl (hb hby hd) ho hq k) r
theorem g_ifY (C : Cx p s m meth c Z own bytes ml rt mn) (X : St p l e R s m args below meth c n0 T h k n) {cd : ClassFile.Cond} {x : Int32} {o : Int} (hd : decode bytes pc = .ok (.ifCond cd o, 3)) (ho : 0 ≤ (pc : Int) + o) (hq : ((pc : Int) + o).toNat = q) (hc : if_icmp.holds cd x 0 = true) (r : Goes p e below G (T.setTop (mkF m q L st))) : Goes p e below G (T.setTop (mkF m pc L (.int x :: st))) := by
  obtain ⟨hx, -, -, hby, -⟩ := C
  obtain ⟨_, _, _, X, -⟩ := X
  exact go_st (fun t k => XS.ifYes X.here hx rfl rfl (hb hby hd) rfl ((if0 _ _).trans hc) ho hq k) r
theorem g_ifN (C : Cx p s m meth c Z own bytes ml rt mn) (X : St p l e R s m args below meth c n0 T h k n) {cd : ClassFile.Cond} {x : Int32} {o : Int} (hd : decode bytes pc = .ok (.ifCond cd o, 3)) (hq : pc + 3 = q) (hc : if_icmp.holds cd x 0 = false) (r : Goes p e below G (T.setTop (mkF m q L st))) : Goes p e below G (T.setTop (mkF m pc L (.int x :: st))) := by
  obtain ⟨hx, -, -, hby, -⟩ := C
  obtain ⟨_, _, _, X, -⟩ := X
  subst hq
  exact go_st (fun t k => XS.ifNo X.here hx rfl (hb hby hd) rfl ((if0 _ _).trans hc) k) r
theorem g_icY (C : Cx p s m meth c Z own bytes ml rt mn) (X : St p l e R s m args below meth c n0 T h k n) {cd : ClassFile.Cond} {x y : Int32} {o : Int} (hd : decode bytes pc = .ok (.if_icmp cd o, 3)) (ho : 0 ≤ (pc : Int) + o) (hq : ((pc : Int) + o).toNat = q) (hc : if_icmp.holds cd x y = true) (r : Goes p e below G (T.setTop (mkF m q L st))) : Goes p e below G (T.setTop (mkF m pc L (.int y :: .int x :: st))) := by
  obtain ⟨hx, -, -, hby, -⟩ := C
  obtain ⟨_, _, _, X, -⟩ := X
  exact go_st (fun t k => XS.icmpYes X.here hx rfl rfl (hb hby hd) rfl hc ho hq k) r
theorem g_icN (C : Cx p s m meth c Z own bytes ml rt mn) (X : St p l e R s m args below meth c n0 T h k n) {cd : ClassFile.Cond} {x y : Int32} {o : Int} (hd : decode bytes pc = .ok (.if_icmp cd o, 3)) (hq : pc + 3 = q) (hc : if_icmp.holds cd x y = false) (r : Goes p e below G (T.setTop (mkF m q L st))) : Goes p e below G (T.setTop (mkF m pc L (.int y :: .int x :: st))) := by
  obtain ⟨hx, -, -, hby, -⟩ := C
  obtain ⟨_, _, _, X, -⟩ := X
  subst hq
  exact go_st (fun t k => XS.icmpNo X.here hx rfl (hb hby hd) rfl hc k) r
theorem g_nulY (C : Cx p s m meth c Z own bytes ml rt mn) (X : St p l e R s m args below meth c n0 T h k n)  {o : Int} (hd : decode bytes pc = .ok (.ifnull o, 3)) (ho : 0 ≤ (pc : Int) + o) (hq : ((pc : Int) + o).toNat = q)  (r : Goes p e below G (T.setTop (mkF m q L st))) : Goes p e below G (T.setTop (mkF m pc L (.null :: st))) := by
  obtain ⟨hx, -, -, hby, -⟩ := C
  obtain ⟨_, _, _, X, -⟩ := X
  exact go_st (fun t k => XS.ifnullYes X.here hx rfl rfl (hb hby hd) rfl ho hq k) r
theorem g_nulN (C : Cx p s m meth c Z own bytes ml rt mn) (X : St p l e R s m args below meth c n0 T h k n) {b : Addr} {o : Int} (hd : decode bytes pc = .ok (.ifnull o, 3)) (hq : pc + 3 = q)  (r : Goes p e below G (T.setTop (mkF m q L st))) : Goes p e below G (T.setTop (mkF m pc L (.ref b :: st))) := by
  obtain ⟨hx, -, -, hby, -⟩ := C
  obtain ⟨_, _, _, X, -⟩ := X
  subst hq
  exact go_st (fun t k => XS.ifnullNo X.here hx rfl (hb hby hd) rfl k) r
theorem g_nonY (C : Cx p s m meth c Z own bytes ml rt mn) (X : St p l e R s m args below meth c n0 T h k n) {b : Addr} {o : Int} (hd : decode bytes pc = .ok (.ifnonnull o, 3)) (ho : 0 ≤ (pc : Int) + o) (hq : ((pc : Int) + o).toNat = q)  (r : Goes p e below G (T.setTop (mkF m q L st))) : Goes p e below G (T.setTop (mkF m pc L (.ref b :: st))) := by
  obtain ⟨hx, -, -, hby, -⟩ := C
  obtain ⟨_, _, _, X, -⟩ := X
  exact go_st (fun t k => XS.ifnonnullYes X.here hx rfl rfl (hb hby hd) rfl ho hq k) r
theorem g_nonN (C : Cx p s m meth c Z own bytes ml rt mn) (X : St p l e R s m args below meth c n0 T h k n)  {o : Int} (hd : decode bytes pc = .ok (.ifnonnull o, 3)) (hq : pc + 3 = q)  (r : Goes p e below G (T.setTop (mkF m q L st))) : Goes p e below G (T.setTop (mkF m pc L (.null :: st))) := by
  obtain ⟨hx, -, -, hby, -⟩ := C
  obtain ⟨_, _, _, X, -⟩ := X
  subst hq
  exact go_st (fun t k => XS.ifnonnullNo X.here hx rfl (hb hby hd) rfl k) r
theorem g_boolF (C : Cx p s m meth c Z own bytes ml rt mn) (X : St p l e R s m args below meth c n0 T h k n) {cd : ClassFile.Cond} {x : Int32} (hd : decode bytes pc = .ok (.ifCond cd 7, 3)) (hd1 : decode bytes (pc + 3) = .ok (.iconst 1, 1)) (hd2 : decode bytes (pc + 4) = .ok (.goto 4, 3)) (hd3 : decode bytes (pc + 7) = .ok (.iconst 0, 1)) (hq : pc + 8 = q) (r : ∀ b : Int32, (if_icmp.holds cd x 0 = true → b = 0) → (if_icmp.holds cd x 0 = false → b = 1) → Goes p e below G (T.setTop (mkF m q L (.int b :: st)))) : Goes p e below G (T.setTop (mkF m pc L (.int x :: st))) := by
  subst hq
  cases hc : if_icmp.holds cd x 0
  · refine g_ifN C X hd (q := pc + 3) rfl hc ?_
    refine g_iconst C X hd1 (q := pc + 4) rfl (z := 1) rfl ?_
    refine g_goto C X hd2 (by omega) (q := pc + 8) (by omega) ?_
    exact r 1 (fun z => by rw [hc] at z; cases z) (fun _ => rfl)
  · refine g_ifY C X hd (by omega) (q := pc + 7) (by omega) hc ?_
    refine g_iconst C X hd3 (q := pc + 8) rfl (z := 0) rfl ?_
    exact r 0 (fun _ => rfl) (fun z => by rw [hc] at z; cases z)
theorem g_boolC (C : Cx p s m meth c Z own bytes ml rt mn) (X : St p l e R s m args below meth c n0 T h k n) {cd : ClassFile.Cond} {x y : Int32} (hd : decode bytes pc = .ok (.if_icmp cd 7, 3)) (hd1 : decode bytes (pc + 3) = .ok (.iconst 1, 1)) (hd2 : decode bytes (pc + 4) = .ok (.goto 4, 3)) (hd3 : decode bytes (pc + 7) = .ok (.iconst 0, 1)) (hq : pc + 8 = q) (r : ∀ b : Int32, (if_icmp.holds cd x y = true → b = 0) → (if_icmp.holds cd x y = false → b = 1) → Goes p e below G (T.setTop (mkF m q L (.int b :: st)))) : Goes p e below G (T.setTop (mkF m pc L (.int y :: .int x :: st))) := by
  subst hq
  cases hc : if_icmp.holds cd x y
  · refine g_icN C X hd (q := pc + 3) rfl hc ?_
    refine g_iconst C X hd1 (q := pc + 4) rfl (z := 1) rfl ?_
    refine g_goto C X hd2 (by omega) (q := pc + 8) (by omega) ?_
    exact r 1 (fun z => by rw [hc] at z; cases z) (fun _ => rfl)
  · refine g_icY C X hd (by omega) (q := pc + 7) (by omega) hc ?_
    refine g_iconst C X hd3 (q := pc + 8) rfl (z := 0) rfl ?_
    exact r 0 (fun _ => rfl) (fun z => by rw [hc] at z; cases z)
theorem g_acmp (C : Cx p s m meth c Z own bytes ml rt mn) (X : St p l e R s m args below meth c n0 T h k n) {cd : ACond} {x y : Value} {o : Int} {same : Bool} (hd : decode bytes pc = .ok (.if_acmp cd o, 3)) (h1 : x.isRef = true) (h2 : y.isRef = true) (hs : decide (x = y) = same) (ho : 0 ≤ (pc : Int) + o) (hq : q = if acV cd same = true then ((pc : Int) + o).toNat else pc + 3) (r : Goes p e below G (T.setTop (mkF m q L st))) : Goes p e below G (T.setTop (mkF m pc L (y :: x :: st))) := by
  obtain ⟨hx, -, -, hby, -⟩ := C
  obtain ⟨_, _, _, X, -⟩ := X
  exact go_st (fun t k => Jvm.RoadKit.acmp (g := mkF m pc L (y :: x :: st)) X hx rfl h1 h2 rfl (hb hby hd) rfl hs ho hq k) r
theorem g_lsw (C : Cx p s m meth c Z own bytes ml rt mn) (X : St p l e R s m args below meth c n0 T h k n) {d o : Int} {ps : Array (Int × Int)} {i : Int32} {len : Nat} (hd : decode bytes pc = .ok (.lookupswitch d ps, len)) (hinc : (ps.toList.zip (ps.toList.drop 1)).all (fun (a, next) => a.1 < next.1) = true) (hoff : lookupswitch.offset ps.toList d i.toInt = o) (ho : 0 ≤ (pc : Int) + o) (hq : ((pc : Int) + o).toNat = q) (r : Goes p e below G (T.setTop (mkF m q L st))) : Goes p e below G (T.setTop (mkF m pc L (.int i :: st))) := by
  obtain ⟨hx, -, -, hby, -⟩ := C
  obtain ⟨_, _, _, X, -⟩ := X
  subst hq
  refine go_st (fun t k => ?_) r
  have hd' := hb hby hd
  show Steps p.tables e below (T.setTop { method := m, pc := pc, locals := L, stack := .int i :: st, locked := none }) _
  jvm_step X.here [X.here.top, hx, hd', lookupswitch.wp_chain, hoff, ho]
  refine ⟨?_, k⟩
  intro a b a1 b1 hm
  simpa using List.all_eq_true.mp hinc ((a, b), a1, b1) (by simpa using hm)
theorem g_tswI (C : Cx p s m meth c Z own bytes ml rt mn) (X : St p l e R s m args below meth c n0 T h k n) {d lo hi o : Int} {offs : Array Int} {i : Int32} {len : Nat} (hd : decode bytes pc = .ok (.tableswitch d lo hi offs, len)) (hin : ¬ (i.toInt < lo ∨ i.toInt > hi)) (hoff : offs[(i.toInt - lo).toNat]? = some o) (ho : 0 ≤ (pc : Int) + o) (hq : ((pc : Int) + o).toNat = q) (r : Goes p e below G (T.setTop (mkF m q L st))) : Goes p e below G (T.setTop (mkF m pc L (.int i :: st))) := by
  obtain ⟨hx, -, -, hby, -⟩ := C
  obtain ⟨_, _, _, X, -⟩ := X
  exact go_st (fun t k => XS.tswIn X.here hx rfl rfl (hb hby hd) rfl hin hoff ho hq k) r
theorem g_tswO (C : Cx p s m meth c Z own bytes ml rt mn) (X : St p l e R s m args below meth c n0 T h k n) {d lo hi : Int} {offs : Array Int} {i : Int32} {len : Nat} (hd : decode bytes pc = .ok (.tableswitch d lo hi offs, len)) (hin : i.toInt < lo ∨ i.toInt > hi) (ho : 0 ≤ (pc : Int) + d) (hq : ((pc : Int) + d).toNat = q) (r : Goes p e below G (T.setTop (mkF m q L st))) : Goes p e below G (T.setTop (mkF m pc L (.int i :: st))) := by
  obtain ⟨hx, -, -, hby, -⟩ := C
  obtain ⟨_, _, _, X, -⟩ := X
  exact go_st (fun t k => XS.tswOut X.here hx rfl rfl (hb hby hd) rfl hin ho hq k) r
theorem g_ldcI (C : Cx p s m meth c Z own bytes ml rt mn) (X : St p l e R s m args below meth c n0 T h k n) {i : Nat} {v : Int32} (w : (Cond.constant own i v).before a0 Z = true) (hd : decode bytes pc = .ok (.ldc i, 2)) (hq : pc + 2 = q) (r : Goes p e below G (T.setTop (mkF m q L (.int v :: st)))) : Goes p e below G (T.setTop (mkF m pc L st)) := by
  obtain ⟨hx, hZ, hown, hby, -⟩ := C
  obtain ⟨_, _, _, X, -⟩ := X
  subst hq
  exact go_st (fun t k => X.ldcInt hx hown (mvT hZ w) (g := mkF m pc L st) rfl (hb hby hd) t k) r
theorem g_ldcJ (C : Cx p s m meth c Z own bytes ml rt mn) (X : St p l e R s m args below meth c n0 T h k n) {i : Nat} {v : Int64} (w : (Cond.constantLong own i v).before a0 Z = true) (hd : decode bytes pc = .ok (.ldc2_w i, 3)) (hq : pc + 3 = q) (r : Goes p e below G (T.setTop (mkF m q L (.long v :: st)))) : Goes p e below G (T.setTop (mkF m pc L st)) := by
  obtain ⟨hx, hZ, hown, hby, -⟩ := C
  obtain ⟨_, _, _, X, -⟩ := X
  subst hq
  exact go_st (fun t k => X.ldc2Long hx hown (mvT hZ w) (g := mkF m pc L st) rfl (hb hby hd) t k) r
theorem own_end (C : Cx p s m meth c Z own bytes ml rt mn) (X : St p l e R s m args below meth c n0 T h k n) {Q : Option Value → Heap → Prop} {K N : Nat} {S : State} {v : Option Value} (hv : rt = none → v = none) (hk : k ≤ K) (hn : n ≤ N) (hQ : Q v h)
    (f : ∀ locs cells slots fs, Stand p l e R s m args below meth c T locs cells slots → (∀ (f : JFrame) (acts : List Action), f.method = m → f.locked = none → f.entered = [] → (doReturn e (T.setTop f) acts v).1 = T.setFrames fs) → Steps p.tables e below S (T.setFrames fs)) : Goes p e below (FinN Q s n0 K N) S := by
  obtain ⟨hx, -, -, hby, -, hret, hlk, -⟩ := C
  obtain ⟨locs, cells, slots, X, hF, rfl, h1, h2⟩ := X
  obtain ⟨fs, hr, hrun, hended, hW, hsame⟩ := X.leave (v := v) (fun h => hv (hret.symm.trans h)) hlk
  exact ⟨_, _, f _ _ _ fs X hr, hrun, hended, _, _, rfl, ⟨hF, hQ⟩, ⟨_, rfl⟩, hW, hsame.mono (Nat.le_trans h1 hk) (Nat.le_trans h2 hn)⟩
theorem g_retI (C : Cx p s m meth c Z own bytes ml (some .int) mn) (X : St p l e R s m args below meth c n0 T h k n) {Q : Option Value → Heap → Prop} {K N : Nat} {z : Int32} (hd : decode bytes pc = .ok (.ireturn, 1)) (hk : k ≤ K) (hn : n ≤ N) (hQ : Q (some (.int z)) h) : Goes p e below (FinN Q s n0 K N) (T.setTop (mkF m pc L (.int z :: st))) := by
  refine own_end C X (by simp) hk hn hQ fun locs cells slots fs X hr => ?_
  obtain ⟨hx, -, -, hby, -, hret, hlk, -⟩ := C
  exact retOut X hx hret rfl (Or.inl ⟨rfl, Or.inl rfl, _, rfl⟩) (hb hby hd) hr
theorem g_retN {t : FieldType} (C : Cx p s m meth c Z own bytes ml (some t) mn) (X : St p l e R s m args below meth c n0 T h k n) {Q : Option Value → Heap → Prop} {K N : Nat} {z z' : Int32} (ht : t = .boolean ∨ t = .byte ∨ t = .char ∨ t = .short) (hz : nar t z = z') (hd : decode bytes pc = .ok (.ireturn, 1)) (hk : k ≤ K) (hn : n ≤ N) (hQ : Q (some (.int z')) h) : Goes p e below (FinN Q s n0 K N) (T.setTop (mkF m pc L (.int z :: st))) := by
  subst hz
  refine own_end C X (by simp) hk hn hQ fun locs cells slots fs X hr => ?_
  obtain ⟨hx, -, -, hby, -, hret, hlk, -⟩ := C
  exact retN X hx hret ht (hb hby hd) hr
theorem g_retA {t : FieldType} (C : Cx p s m meth c Z own bytes ml (some t) mn) (X : St p l e R s m args below meth c n0 T h k n) {Q : Option Value → Heap → Prop} {K N : Nat} {v : Value} (ht : t.isReference = true) (hv : v.isRef = true) (hd : decode bytes pc = .ok (.areturn, 1)) (hk : k ≤ K) (hn : n ≤ N) (hQ : Q (some v) h) : Goes p e below (FinN Q s n0 K N) (T.setTop (mkF m pc L (v :: st))) := by
  refine own_end C X (by simp) hk hn hQ fun locs cells slots fs X hr => ?_
  obtain ⟨hx, -, -, hby, -, hret, hlk, -⟩ := C
  have hn' : narrow t v = v := by rcases ref_cases hv with rfl | ⟨b, rfl⟩ <;> cases t <;> first | rfl | (cases ht)
  exact retOut X hx hret hn' (Or.inr (Or.inr (Or.inr (Or.inr ⟨rfl, ht, hv⟩)))) (hb hby hd) hr
theorem g_retJ (C : Cx p s m meth c Z own bytes ml (some .long) mn) (X : St p l e R s m args below meth c n0 T h k n) {Q : Option Value → Heap → Prop} {K N : Nat} {z : Int64} (hd : decode bytes pc = .ok (.lreturn, 1)) (hk : k ≤ K) (hn : n ≤ N) (hQ : Q (some (.long z)) h) : Goes p e below (FinN Q s n0 K N) (T.setTop (mkF m pc L (.long z :: st))) := by
  refine own_end C X (by simp) hk hn hQ fun locs cells slots fs X hr => ?_
  obtain ⟨hx, -, -, hby, -, hret, hlk, -⟩ := C
  exact retOut X hx hret rfl (Or.inr (Or.inl ⟨rfl, rfl, _, rfl⟩)) (hb hby hd) hr
theorem g_retV (C : Cx p s m meth c Z own bytes ml none mn) (X : St p l e R s m args below meth c n0 T h k n) {Q : Option Value → Heap → Prop} {K N : Nat} (hd : decode bytes pc = .ok (.return_, 1)) (hk : k ≤ K) (hn : n ≤ N) (hQ : Q none h) : Goes p e below (FinN Q s n0 K N) (T.setTop (mkF m pc L [])) := by
  refine own_end C X (fun _ => rfl) hk hn hQ fun locs cells slots fs X hr => ?_
  obtain ⟨hx, -, -, hby, -, hret, hlk, -⟩ := C
  exact X.returnOut hx hret (hb hby hd) hr
theorem g_dloadN (C : Cx p s m meth c Z own bytes ml rt mn) (X : St p l e R s m args below meth c n0 T h k n) {j : Fin 4} {v : UInt64} (hd : decode bytes pc = .ok (.dload_n j, 1)) (hq : pc + 1 = q) (hl : L[j.val]? = some (.val (.double v))) (r : Goes p e below G (T.setTop (mkF m q L (.double v :: st)))) : Goes p e below G (T.setTop (mkF m pc L (st))) := by
  obtain ⟨hx, -, -, hby, -⟩ := C
  obtain ⟨_, _, _, X, -⟩ := X
  subst hq 
  exact go_st (fun t k => XS.dloadN X.here hx rfl (hb hby hd) hl k) r
theorem g_dload (C : Cx p s m meth c Z own bytes ml rt mn) (X : St p l e R s m args below meth c n0 T h k n) {j : Nat} {v : UInt64} (hd : decode bytes pc = .ok (.dload j, 2)) (hq : pc + 2 = q) (hl : L[j]? = some (.val (.double v))) (r : Goes p e below G (T.setTop (mkF m q L (.double v :: st)))) : Goes p e below G (T.setTop (mkF m pc L (st))) := by
  obtain ⟨hx, -, -, hby, -⟩ := C
  obtain ⟨_, _, _, X, -⟩ := X
  subst hq 
  exact go_st (fun t k => XS.dload X.here hx rfl (hb hby hd) hl k) r
theorem g_dstoreN (C : Cx p s m meth c Z own bytes ml rt mn) (X : St p l e R s m args below meth c n0 T h k n) {j : Fin 4} {x : UInt64} {L' : Array Slot} (hd : decode bytes pc = .ok (.dstore_n j, 1)) (hq : pc + 1 = q) (hl : storeLocals L j.val (.double x) = some L') (r : Goes p e below G (T.setTop (mkF m q L' (st)))) : Goes p e below G (T.setTop (mkF m pc L (.double x :: st))) := by
  obtain ⟨hx, -, -, hby, -⟩ := C
  obtain ⟨_, _, _, X, -⟩ := X
  subst hq 
  exact go_st (fun t k => XS.dstoreN X.here hx rfl (hb hby hd) rfl hl k) r
theorem g_dstore (C : Cx p s m meth c Z own bytes ml rt mn) (X : St p l e R s m args below meth c n0 T h k n) {j : Nat} {x : UInt64} {L' : Array Slot} (hd : decode bytes pc = .ok (.dstore j, 2)) (hq : pc + 2 = q) (hl : storeLocals L j (.double x) = some L') (r : Goes p e below G (T.setTop (mkF m q L' (st)))) : Goes p e below G (T.setTop (mkF m pc L (.double x :: st))) := by
  obtain ⟨hx, -, -, hby, -⟩ := C
  obtain ⟨_, _, _, X, -⟩ := X
  subst hq 
  exact go_st (fun t k => XS.dstore X.here hx rfl (hb hby hd) rfl hl k) r
theorem g_i2d (C : Cx p s m meth c Z own bytes ml rt mn) (X : St p l e R s m args below meth c n0 T h k n) {x : Int32} {z : UInt64} (hd : decode bytes pc = .ok (.i2d, 1)) (hq : pc + 1 = q) (hz : FP.i2d x = z) (r : Goes p e below G (T.setTop (mkF m q L (.double z :: st)))) : Goes p e below G (T.setTop (mkF m pc L (.int x :: st))) := by
  obtain ⟨hx, -, -, hby, -⟩ := C
  obtain ⟨_, _, _, X, -⟩ := X
  subst hq 
  exact go_st (fun t k => XS.i2dS X.here hx rfl (hb hby hd) rfl hz k) r
theorem g_dcmp (C : Cx p s m meth c Z own bytes ml rt mn) (X : St p l e R s m args below meth c n0 T h k n) {o : CmpOp} {x y : UInt64} {z : Int32} (hd : decode bytes pc = .ok (.dcmp o, 1)) (hq : pc + 1 = q) (hz : cmpValue (FP.dcmp x y) o = z) (r : Goes p e below G (T.setTop (mkF m q L (.int z :: st)))) : Goes p e below G (T.setTop (mkF m pc L (.double y :: .double x :: st))) := by
  obtain ⟨hx, -, -, hby, -⟩ := C
  obtain ⟨_, _, _, X, -⟩ := X
  subst hq 
  exact go_st (fun t k => XS.dcmpS X.here hx rfl (hb hby hd) rfl hz k) r
theorem g_pop2 (C : Cx p s m meth c Z own bytes ml rt mn) (X : St p l e R s m args below meth c n0 T h k n) {x : Value} (hd : decode bytes pc = .ok (.pop2, 1)) (hq : pc + 1 = q) (hc : x.category = 2) (r : Goes p e below G (T.setTop (mkF m q L st))) : Goes p e below G (T.setTop (mkF m pc L (x :: st))) := by
  obtain ⟨hx, -, -, hby, -⟩ := C
  obtain ⟨_, _, _, X, -⟩ := X
  subst hq
  refine go_st (fun t k => ?_) r
  have hd' := hb hby hd
  show Steps p.tables e below (T.setTop { method := m, pc := pc, locals := L, stack := x :: st, locked := none }) _
  jvm_step X.here [X.here.top, hx, hd', hc]
  exact k
theorem g_dconst0 (C : Cx p s m meth c Z own bytes ml rt mn) (X : St p l e R s m args below meth c n0 T h k n) {z : UInt64} (hd : decode bytes pc = .ok (.dconst 0, 1)) (hq : pc + 1 = q) (hz : FP.dconst0 = z) (r : Goes p e below G (T.setTop (mkF m q L (.double z :: st)))) : Goes p e below G (T.setTop (mkF m pc L (st))) := by
  obtain ⟨hx, -, -, hby, -⟩ := C
  obtain ⟨_, _, _, X, -⟩ := X
  subst hq 
  exact go_st (fun t k => XS.dconst0 X.here hx rfl (hb hby hd) hz k) r
theorem g_dconst1 (C : Cx p s m meth c Z own bytes ml rt mn) (X : St p l e R s m args below meth c n0 T h k n) {z : UInt64} (hd : decode bytes pc = .ok (.dconst 1, 1)) (hq : pc + 1 = q) (hz : FP.dconst1 = z) (r : Goes p e below G (T.setTop (mkF m q L (.double z :: st)))) : Goes p e below G (T.setTop (mkF m pc L (st))) := by
  obtain ⟨hx, -, -, hby, -⟩ := C
  obtain ⟨_, _, _, X, -⟩ := X
  subst hq 
  exact go_st (fun t k => XS.dconst1 X.here hx rfl (hb hby hd) hz k) r
theorem g_retD (C : Cx p s m meth c Z own bytes ml (some .double) mn) (X : St p l e R s m args below meth c n0 T h k n) {Q : Option Value → Heap → Prop} {K N : Nat} {z : UInt64} (hd : decode bytes pc = .ok (.dreturn, 1)) (hk : k ≤ K) (hn : n ≤ N) (hQ : Q (some (.double z)) h) : Goes p e below (FinN Q s n0 K N) (T.setTop (mkF m pc L (.double z :: st))) := by
  refine own_end C X (by simp) hk hn hQ fun locs cells slots fs X hr => ?_
  obtain ⟨hx, -, -, hby, -, hret, hlk, -⟩ := C
  exact retOut X hx hret rfl (Or.inr (Or.inr (Or.inl ⟨rfl, rfl, _, rfl⟩))) (hb hby hd) hr
theorem g_getS (C : Cx p s m meth c Z own bytes ml rt mn) (X : St p l e R s m args below meth c n0 T h k n) {R0 O f d host : String} {i : Nat} {v : Value} (w : (Cond.fieldLink own i R0 f d).before a0 Z = true ∨ (Cond.fieldLinkNest own i R0 f d host).before a0 Z = true) (via : Via Z R0 O f d) (F : Sta Z h O f d v) (hd : decode bytes pc = .ok (.getstatic i, 3)) (hq : pc + 3 = q) (r : ∀ T', St p l e R s m args below meth c n0 T' h k n → Goes p e below G (T'.setTop (mkF m q L (v :: st)))) : Goes p e below G (T.setTop (mkF m pc L st)) := by
  obtain ⟨hx, hZ, hown, hby, -⟩ := C
  obtain ⟨_, _, _, X, hF, eT, h1, h2⟩ := X
  subst hq
  obtain ⟨T', X', e', st'⟩ := getS2 X hx hZ hown w via eT F (g := mkF m pc L st) rfl (hb hby hd)
  exact go_st st' (r T' ⟨_, _, _, X', hF, e', h1, h2⟩)
theorem g_getF (C : Cx p s m meth c Z own bytes ml rt mn) (X : St p l e R s m args below meth c n0 T h k n) {R0 O f d host : String} {i : Nat} {a : Addr} {v : Value} (w : (Cond.fieldLink own i R0 f d).before a0 Z = true ∨ (Cond.fieldLinkNest own i R0 f d host).before a0 Z = true) (via : Via Z R0 O f d) (F : Fld Z h a O f d v) (hd : decode bytes pc = .ok (.getfield i, 3)) (hq : pc + 3 = q) (r : ∀ T', St p l e R s m args below meth c n0 T' h k n → Goes p e below G (T'.setTop (mkF m q L (v :: st)))) : Goes p e below G (T.setTop (mkF m pc L (.ref a :: st))) := by
  obtain ⟨hx, hZ, hown, hby, -⟩ := C
  obtain ⟨_, _, _, X, hF, eT, h1, h2⟩ := X
  subst hq
  obtain ⟨T', X', e', st'⟩ := getF X hx hZ hown w via eT F (g := mkF m pc L (.ref a :: st)) rfl rfl (hb hby hd)
  exact go_st st' (r T' ⟨_, _, _, X', hF, e', h1, h2⟩)
theorem g_putF (C : Cx p s m meth c Z own bytes ml rt mn) (X : St p l e R s m args below meth c n0 T h k n) {R0 O f d host K : String} {i kk : Nat} {ty : FieldType} {a : Addr} {v old : Value} (w : (Cond.fieldLink own i R0 f d).before a0 Z = true ∨ (Cond.fieldLinkNest own i R0 f d host).before a0 Z = true) (via : Via Z R0 O f d) (F : Fld Z h a O f d old) (E : Exa Z h a K) (Ly : (Cond.lays K O f d).before a0 Z = true ∨ ((Cond.laysFinal K O f d).before a0 Z = true ∧ own = O ∧ mn = "<init>")) (wi : (Cond.instantiable K kk).before a0 Z = true)
    (hty : parseFieldDescriptor d = some ty) (hnn : narrow ty v = v) (hff : fits ty v = true) (hd : decode bytes pc = .ok (.putfield i, 3)) (hq : pc + 3 = q) (ha : n0 ≤ a) (r : ∀ T' h', St p l e R s m args below meth c n0 T' h' k n → Wr h h' a (Jvm.RoadKit.slotOf Z O f d) v → Goes p e below G (T'.setTop (mkF m q L st))) : Goes p e below G (T.setTop (mkF m pc L (v :: .ref a :: st))) := by
  obtain ⟨hx, hZ, hown, hby, -, -, -, hnm⟩ := C
  obtain ⟨_, _, _, X, hF, eT, h1, h2⟩ := X
  subst hq
  obtain ⟨T', h', X', e', W', st'⟩ := putF X hx hZ hown w via eT F E (Ly.imp id fun z => ⟨z.1, z.2.1, hnm.trans z.2.2⟩) wi hty hnn hff (g := mkF m pc L (v :: .ref a :: st)) rfl rfl (hb hby hd)
  exact go_st st' (r T' h' ⟨_, _, _, X', Fr.snoc X' hF ha, e', h1, h2⟩ W')
theorem g_putFN (C : Cx p s m meth c Z own bytes ml rt mn) (X : St p l e R s m args below meth c n0 T h k n) {R0 O f d K : String} {i kk : Nat} {ty : FieldType} {a : Addr} {v v' old : Value} (w : (Cond.fieldLink own i R0 f d).before a0 Z = true) (via : Via Z R0 O f d) (F : Fld Z h a O f d old) (E : Exa Z h a K) (Ly : (Cond.lays K O f d).before a0 Z = true ∨ ((Cond.laysFinal K O f d).before a0 Z = true ∧ own = O ∧ mn = "<init>")) (wi : (Cond.instantiable K kk).before a0 Z = true)
    (hty : parseFieldDescriptor d = some ty) (hnn : narrow ty v = v') (hff : fits ty v' = true) (hd : decode bytes pc = .ok (.putfield i, 3)) (hq : pc + 3 = q) (ha : n0 ≤ a) (r : ∀ T' h', St p l e R s m args below meth c n0 T' h' k n → Wr h h' a (Jvm.RoadKit.slotOf Z O f d) v' → Goes p e below G (T'.setTop (mkF m q L st))) : Goes p e below G (T.setTop (mkF m pc L (v :: .ref a :: st))) := by
  obtain ⟨hx, hZ, hown, hby, -, -, -, hnm⟩ := C
  obtain ⟨_, _, _, X, hF, eT, h1, h2⟩ := X
  subst hq
  obtain ⟨T', h', X', e', W', st'⟩ := putFN X hx hZ hown w via eT F E (Ly.imp id fun z => ⟨z.1, z.2.1, hnm.trans z.2.2⟩) wi hty hnn hff (g := mkF m pc L (v :: .ref a :: st)) rfl rfl (hb hby hd)
  exact go_st st' (r T' h' ⟨_, _, _, X', Fr.snoc X' hF ha, e', h1, h2⟩ W')
theorem g_new (C : Cx p s m meth c Z own bytes ml rt mn) (X : St p l e R s m args below meth c n0 T h k n) {K : String} {i z k' n' : Nat} (w : (Cond.classLink own i K).before a0 Z = true) (wi : (Cond.instantiable K z).before a0 Z = true) (wz : (Cond.initialized K).before a0 Z = true) (hd : decode bytes pc = .ok (.new i, 3)) (hq : pc + 3 = q) (hk : k + 1 = k') (hn : n + z = n') (hkR : k' ≤ R.cells) (hnR : n' ≤ R.slots)
    (r : ∀ T' h' a, a = h.size → St p l e R s m args below meth c n0 T' h' k' n' → Ext h h' → Exa Z h' a K → (∀ {O nm d : String} {ty : FieldType}, Laid Z a0 K O nm d → parseFieldDescriptor d = some ty → Fld Z h' a O nm d (defaultValue ty)) → Goes p e below G (T'.setTop (mkF m q L (.ref a :: st)))) : Goes p e below G (T.setTop (mkF m pc L st)) := by
  obtain ⟨hx, hZ, hown, hby, -⟩ := C
  obtain ⟨_, _, _, X, hF, eT, h1, h2⟩ := X
  subst hq hk hn
  obtain ⟨T', h', X', e', E', A', D', -, st'⟩ := newO X hx hZ hown w wi wz eT (g := mkF m pc L st) rfl (hb hby hd) (Nat.le_trans (Nat.add_le_add_right h1 1) hkR) (Nat.le_trans (Nat.add_le_add_right h2 z) hnR)
  exact go_st st' (r T' h' _ rfl ⟨_, _, _, X', hF, e', Nat.add_le_add_right h1 1, Nat.add_le_add_right h2 z⟩ E' A' D')
theorem g_newP (C : Cx p s m meth c Z own bytes ml rt mn) (X : St p l e R s m args below meth c n0 T h k n) {aty : ArrayType} {ty : FieldType} {z : Int32} {cap k' n' : Nat} (w : (Cond.arrayClass ty).before a0 Z = true) (hty : newarray.typeOf aty = ty) (hd : decode bytes pc = .ok (.newarray aty, 2)) (hq : pc + 2 = q) (hz : ¬ z < 0) (hcap : z.toNatClampNeg ≤ cap) (hcb : cap * 8 ≤ 536870912) (hk : k + 1 = k') (hn : n + cap = n') (hkR : k' ≤ R.cells) (hnR : n' ≤ R.slots)
    (r : ∀ T' h' cA a, a = h.size → St p l e R s m args below meth c n0 T' h' k' n' → Ext h h' → Arv Z h' a cA ty z [] (defaultValue ty) → Goes p e below G (T'.setTop (mkF m q L (.ref a :: st)))) : Goes p e below G (T.setTop (mkF m pc L (.int z :: st))) := by
  obtain ⟨hx, hZ, hown, hby, -⟩ := C
  obtain ⟨_, _, _, X, hF, eT, h1, h2⟩ := X
  subst hq hk hn hty
  obtain ⟨T', h', cA, X', e', E', A', st'⟩ := newP X hx hZ w eT (g := mkF m pc L (.int z :: st)) rfl (hb hby hd) rfl hz (cap := cap) hcap hcb (Nat.le_trans (Nat.add_le_add_right h1 1) hkR) (Nat.le_trans (Nat.add_le_add_right h2 cap) hnR)
  exact go_st st' (r T' h' cA _ rfl ⟨_, _, _, X', hF, e', Nat.add_le_add_right h1 1, Nat.add_le_add_right h2 cap⟩ E' (Arv.new A' hz))
theorem g_initO (C : Cx p s m meth c Z own bytes ml rt mn) (X : St p l e R s m args below meth c n0 T h k n) {i : Nat} {a : Addr} (w1 : (Cond.methodLink own i Lib.objectInit).before a0 Z = true) (w2 : (Cond.instanceMethod Lib.objectInit).before a0 Z = true) (w3 : (Cond.code Lib.objectInit ⟨#[0xb1]⟩ 1 none).before a0 Z = true) (hsz : L.size = ml) (hd : decode bytes pc = .ok (.invokespecial i, 3)) (hq : pc + 3 = q) (hf : 1 ≤ R.frames) (hW : (st.map fun v => v.category).sum + 12 ≤ R.locals)
    (r : ∀ T', St p l e R s m args below meth c n0 T' h k n → Goes p e below G (T'.setTop (mkF m q L st))) : Goes p e below G (T.setTop (mkF m pc L (.ref a :: st))) := by
  obtain ⟨hx, hZ, hown, hby, hml, -⟩ := C
  obtain ⟨_, _, _, X, hF, eT, h1, h2⟩ := X
  subst hq
  obtain ⟨T', X', e', st'⟩ := initO X hx hZ hown w1 w2 w3 eT (g := mkF m pc L (.ref a :: st)) rfl (hsz.trans hml.symm) rfl (hb hby hd) hf (W := (st.map fun v => v.category).sum) (by show 2 * 0 + _ ≤ _; omega) hW
  exact go_st st' (r T' ⟨_, _, _, X', hF, e', h1, h2⟩)
theorem g_iastore (C : Cx p s m meth c Z own bytes ml rt mn) (X : St p l e R s m args below meth c n0 T h k n) {a : Addr} {cA : ClassId} {z j : Int32} {vs vs' : List Value} {dv : Value} {i : Nat} {v : Int32} (V : Arv Z h a cA .int z vs dv) (hj : ¬ j < 0 ∧ j < z) (hi : j.toNatClampNeg = i) (hlt : i < vs.length) (hvs : vs.set i (.int v) = vs') (ha : n0 ≤ a) (hd : decode bytes pc = .ok (.iastore, 1)) (hq : pc + 1 = q)
    (r : ∀ T' h', St p l e R s m args below meth c n0 T' h' k n → Wr h h' a i (.int v) → Arv Z h' a cA .int z vs' dv → Goes p e below G (T'.setTop (mkF m q L st))) : Goes p e below G (T.setTop (mkF m pc L (.int v :: .int j :: .ref a :: st))) := by
  obtain ⟨hx, hZ, hown, hby, -⟩ := C
  obtain ⟨_, _, _, X, hF, eT, h1, h2⟩ := X
  subst hq hi hvs
  obtain ⟨cl, A, q1, Sz, q3, H, Gf⟩ := V
  obtain ⟨T', h', X', e', W', st'⟩ := stI X hx hZ eT A (j := j) (inb_of Sz hj) (g := mkF m pc L (.int v :: .int j :: .ref a :: st)) rfl rfl (hb hby hd)
  exact go_st st' (r T' h' ⟨_, _, _, X', Fr.snoc X' hF ha, e', h1, h2⟩ W' (Arv.set A q1 Sz q3 H Gf rfl W' _ rfl hlt))
theorem g_castore (C : Cx p s m meth c Z own bytes ml rt mn) (X : St p l e R s m args below meth c n0 T h k n) {a : Addr} {cA : ClassId} {z j : Int32} {vs vs' : List Value} {dv : Value} {i : Nat} {v : Int32} (V : Arv Z h a cA .char z vs dv) (hj : ¬ j < 0 ∧ j < z) (hi : j.toNatClampNeg = i) (hlt : i < vs.length) (hvs : vs.set i (.int (nar .char v)) = vs') (ha : n0 ≤ a) (hd : decode bytes pc = .ok (.castore, 1)) (hq : pc + 1 = q)
    (r : ∀ T' h', St p l e R s m args below meth c n0 T' h' k n → Wr h h' a i (.int (nar .char v)) → Arv Z h' a cA .char z vs' dv → Goes p e below G (T'.setTop (mkF m q L st))) : Goes p e below G (T.setTop (mkF m pc L (.int v :: .int j :: .ref a :: st))) := by
  obtain ⟨hx, hZ, hown, hby, -⟩ := C
  obtain ⟨_, _, _, X, hF, eT, h1, h2⟩ := X
  subst hq hi hvs
  obtain ⟨cl, A, q1, Sz, q3, H, Gf⟩ := V
  obtain ⟨T', h', X', e', W', st'⟩ := stC X hx hZ eT A (j := j) (inb_of Sz hj) (g := mkF m pc L (.int v :: .int j :: .ref a :: st)) rfl rfl (hb hby hd)
  exact go_st st' (r T' h' ⟨_, _, _, X', Fr.snoc X' hF ha, e', h1, h2⟩ W' (Arv.set A q1 Sz q3 H Gf (fits_nar_char _) W' _ rfl hlt))
theorem g_bastore (C : Cx p s m meth c Z own bytes ml rt mn) (X : St p l e R s m args below meth c n0 T h k n) {a : Addr} {cA : ClassId} {z j : Int32} {vs vs' : List Value} {dv : Value} {i : Nat} {v : Int32} (V : Arv Z h a cA .byte z vs dv) (hj : ¬ j < 0 ∧ j < z) (hi : j.toNatClampNeg = i) (hlt : i < vs.length) (hvs : vs.set i (.int (nar .byte v)) = vs') (ha : n0 ≤ a) (hd : decode bytes pc = .ok (.bastore, 1)) (hq : pc + 1 = q)
    (r : ∀ T' h', St p l e R s m args below meth c n0 T' h' k n → Wr h h' a i (.int (nar .byte v)) → Arv Z h' a cA .byte z vs' dv → Goes p e below G (T'.setTop (mkF m q L st))) : Goes p e below G (T.setTop (mkF m pc L (.int v :: .int j :: .ref a :: st))) := by
  obtain ⟨hx, hZ, hown, hby, -⟩ := C
  obtain ⟨_, _, _, X, hF, eT, h1, h2⟩ := X
  subst hq hi hvs
  obtain ⟨cl, A, q1, Sz, q3, H, Gf⟩ := V
  obtain ⟨T', h', X', e', W', st'⟩ := stB X hx hZ eT A (j := j) (inb_of Sz hj) (g := mkF m pc L (.int v :: .int j :: .ref a :: st)) rfl rfl (hb hby hd)
  exact go_st st' (r T' h' ⟨_, _, _, X', Fr.snoc X' hF ha, e', h1, h2⟩ W' (Arv.set A q1 Sz q3 H Gf (fits_nar_byte _) W' _ rfl hlt))
theorem g_zastore (C : Cx p s m meth c Z own bytes ml rt mn) (X : St p l e R s m args below meth c n0 T h k n) {a : Addr} {cA : ClassId} {z j : Int32} {vs vs' : List Value} {dv : Value} {i : Nat} {v : Int32} (V : Arv Z h a cA .boolean z vs dv) (hj : ¬ j < 0 ∧ j < z) (hi : j.toNatClampNeg = i) (hlt : i < vs.length) (hvs : vs.set i (.int (nar .boolean v)) = vs') (ha : n0 ≤ a) (hd : decode bytes pc = .ok (.bastore, 1)) (hq : pc + 1 = q)
    (r : ∀ T' h', St p l e R s m args below meth c n0 T' h' k n → Wr h h' a i (.int (nar .boolean v)) → Arv Z h' a cA .boolean z vs' dv → Goes p e below G (T'.setTop (mkF m q L st))) : Goes p e below G (T.setTop (mkF m pc L (.int v :: .int j :: .ref a :: st))) := by
  obtain ⟨hx, hZ, hown, hby, -⟩ := C
  obtain ⟨_, _, _, X, hF, eT, h1, h2⟩ := X
  subst hq hi hvs
  obtain ⟨cl, A, q1, Sz, q3, H, Gf⟩ := V
  obtain ⟨T', h', X', e', W', st'⟩ := stZ X hx hZ eT A (j := j) (inb_of Sz hj) (g := mkF m pc L (.int v :: .int j :: .ref a :: st)) rfl rfl (hb hby hd)
  exact go_st st' (r T' h' ⟨_, _, _, X', Fr.snoc X' hF ha, e', h1, h2⟩ W' (Arv.set A q1 Sz q3 H Gf (fits_nar_bool _) W' _ rfl hlt))
theorem g_lastore (C : Cx p s m meth c Z own bytes ml rt mn) (X : St p l e R s m args below meth c n0 T h k n) {a : Addr} {cA : ClassId} {z j : Int32} {vs vs' : List Value} {dv : Value} {i : Nat} {v : Int64} (V : Arv Z h a cA .long z vs dv) (hj : ¬ j < 0 ∧ j < z) (hi : j.toNatClampNeg = i) (hlt : i < vs.length) (hvs : vs.set i (.long v) = vs') (ha : n0 ≤ a) (hd : decode bytes pc = .ok (.lastore, 1)) (hq : pc + 1 = q)
    (r : ∀ T' h', St p l e R s m args below meth c n0 T' h' k n → Wr h h' a i (.long v) → Arv Z h' a cA .long z vs' dv → Goes p e below G (T'.setTop (mkF m q L st))) : Goes p e below G (T.setTop (mkF m pc L (.long v :: .int j :: .ref a :: st))) := by
  obtain ⟨hx, hZ, hown, hby, -⟩ := C
  obtain ⟨_, _, _, X, hF, eT, h1, h2⟩ := X
  subst hq hi hvs
  obtain ⟨cl, A, q1, Sz, q3, H, Gf⟩ := V
  obtain ⟨T', h', X', e', W', st'⟩ := stJ X hx hZ eT A (j := j) (inb_of Sz hj) (g := mkF m pc L (.long v :: .int j :: .ref a :: st)) rfl rfl (hb hby hd)
  exact go_st st' (r T' h' ⟨_, _, _, X', Fr.snoc X' hF ha, e', h1, h2⟩ W' (Arv.set A q1 Sz q3 H Gf rfl W' _ rfl hlt))
theorem g_dastore (C : Cx p s m meth c Z own bytes ml rt mn) (X : St p l e R s m args below meth c n0 T h k n) {a : Addr} {cA : ClassId} {z j : Int32} {vs vs' : List Value} {dv : Value} {i : Nat} {v : UInt64} (V : Arv Z h a cA .double z vs dv) (hj : ¬ j < 0 ∧ j < z) (hi : j.toNatClampNeg = i) (hlt : i < vs.length) (hvs : vs.set i (.double v) = vs') (ha : n0 ≤ a) (hd : decode bytes pc = .ok (.dastore, 1)) (hq : pc + 1 = q)
    (r : ∀ T' h', St p l e R s m args below meth c n0 T' h' k n → Wr h h' a i (.double v) → Arv Z h' a cA .double z vs' dv → Goes p e below G (T'.setTop (mkF m q L st))) : Goes p e below G (T.setTop (mkF m pc L (.double v :: .int j :: .ref a :: st))) := by
  obtain ⟨hx, hZ, hown, hby, -⟩ := C
  obtain ⟨_, _, _, X, hF, eT, h1, h2⟩ := X
  subst hq hi hvs
  obtain ⟨cl, A, q1, Sz, q3, H, Gf⟩ := V
  obtain ⟨T', h', X', e', W', st'⟩ := stD X hx hZ eT A (j := j) (inb_of Sz hj) (g := mkF m pc L (.double v :: .int j :: .ref a :: st)) rfl rfl (hb hby hd)
  exact go_st st' (r T' h' ⟨_, _, _, X', Fr.snoc X' hF ha, e', h1, h2⟩ W' (Arv.set A q1 Sz q3 H Gf rfl W' _ rfl hlt))
theorem g_aastore (C : Cx p s m meth c Z own bytes ml rt mn) (X : St p l e R s m args below meth c n0 T h k n) {a : Addr} {cA : ClassId} {z j : Int32} {vs vs' : List Value} {dv v : Value} {ty : FieldType} {i : Nat} (V : Arv Z h a cA ty z vs dv) (hty : ty.isReference = true) (F : Sto Z h a v) (hfv : fits ty v = true) (hj : ¬ j < 0 ∧ j < z) (hi : j.toNatClampNeg = i) (hlt : i < vs.length) (hvs : vs.set i v = vs') (ha : n0 ≤ a) (hd : decode bytes pc = .ok (.aastore, 1)) (hq : pc + 1 = q)
    (r : ∀ T' h', St p l e R s m args below meth c n0 T' h' k n → Wr h h' a i v → Arv Z h' a cA ty z vs' dv → Goes p e below G (T'.setTop (mkF m q L st))) : Goes p e below G (T.setTop (mkF m pc L (v :: .int j :: .ref a :: st))) := by
  obtain ⟨hx, hZ, hown, hby, -⟩ := C
  obtain ⟨_, _, _, X, hF, eT, h1, h2⟩ := X
  subst hq hi hvs
  obtain ⟨cl, A, q1, Sz, q3, H, Gf⟩ := V
  obtain ⟨T', h', X', e', W', st'⟩ := stR X hx hZ eT A (j := j) (inb_of Sz hj) hty F (g := mkF m pc L (v :: .int j :: .ref a :: st)) rfl rfl (hb hby hd)
  exact go_st st' (r T' h' ⟨_, _, _, X', Fr.snoc X' hF ha, e', h1, h2⟩ W' (Arv.set A q1 Sz q3 H Gf hfv W' _ rfl hlt))
theorem g_iaload (C : Cx p s m meth c Z own bytes ml rt mn) (X : St p l e R s m args below meth c n0 T h k n) {a : Addr} {cA : ClassId} {z j : Int32} {vs : List Value} {dv w : Value}  (V : Arv Z h a cA .int z vs dv) (hj : ¬ j < 0 ∧ j < z) (hv : vs.getD j.toNatClampNeg dv = w) (hd : decode bytes pc = .ok (.iaload, 1)) (hq : pc + 1 = q) (r : Goes p e below G (T.setTop (mkF m q L (w :: st)))) : Goes p e below G (T.setTop (mkF m pc L (.int j :: .ref a :: st))) := by
  obtain ⟨hx, hZ, hown, hby, -⟩ := C
  obtain ⟨_, _, _, X, hF, eT, h1, h2⟩ := X
  subst hq
  obtain ⟨cl, A, q1, Sz, q3, H, Gf⟩ := V
  exact go_st (fun t k => X.iaload hx (j := j) (v := w) (by rw [eT]; exact A.1) (State.isArrayOf_alike hZ.alike A.2.1) A.2.2 (inb_of Sz hj) (H.at (inb_of Sz hj) hv) (g := mkF m pc L (.int j :: .ref a :: st)) rfl rfl (hb hby hd) t k) r
theorem g_caload (C : Cx p s m meth c Z own bytes ml rt mn) (X : St p l e R s m args below meth c n0 T h k n) {a : Addr} {cA : ClassId} {z j : Int32} {vs : List Value} {dv w : Value}  (V : Arv Z h a cA .char z vs dv) (hj : ¬ j < 0 ∧ j < z) (hv : vs.getD j.toNatClampNeg dv = w) (hd : decode bytes pc = .ok (.caload, 1)) (hq : pc + 1 = q) (r : Goes p e below G (T.setTop (mkF m q L (w :: st)))) : Goes p e below G (T.setTop (mkF m pc L (.int j :: .ref a :: st))) := by
  obtain ⟨hx, hZ, hown, hby, -⟩ := C
  obtain ⟨_, _, _, X, hF, eT, h1, h2⟩ := X
  subst hq
  obtain ⟨cl, A, q1, Sz, q3, H, Gf⟩ := V
  exact go_st (fun t k => X.caload hx (j := j) (v := w) (by rw [eT]; exact A.1) (State.isArrayOf_alike hZ.alike A.2.1) A.2.2 (inb_of Sz hj) (H.at (inb_of Sz hj) hv) (g := mkF m pc L (.int j :: .ref a :: st)) rfl rfl (hb hby hd) t k) r
theorem g_baload (C : Cx p s m meth c Z own bytes ml rt mn) (X : St p l e R s m args below meth c n0 T h k n) {a : Addr} {cA : ClassId} {z j : Int32} {vs : List Value} {dv w : Value}  (V : Arv Z h a cA .byte z vs dv) (hj : ¬ j < 0 ∧ j < z) (hv : vs.getD j.toNatClampNeg dv = w) (hd : decode bytes pc = .ok (.baload, 1)) (hq : pc + 1 = q) (r : Goes p e below G (T.setTop (mkF m q L (w :: st)))) : Goes p e below G (T.setTop (mkF m pc L (.int j :: .ref a :: st))) := by
  obtain ⟨hx, hZ, hown, hby, -⟩ := C
  obtain ⟨_, _, _, X, hF, eT, h1, h2⟩ := X
  subst hq
  obtain ⟨cl, A, q1, Sz, q3, H, Gf⟩ := V
  exact go_st (fun t k => X.baloadBytes hx (j := j) (v := w) (by rw [eT]; exact A.1) (State.isArrayOf_alike hZ.alike A.2.1) A.2.2 (inb_of Sz hj) (H.at (inb_of Sz hj) hv) (g := mkF m pc L (.int j :: .ref a :: st)) rfl rfl (hb hby hd) t k) r
theorem g_zaload (C : Cx p s m meth c Z own bytes ml rt mn) (X : St p l e R s m args below meth c n0 T h k n) {a : Addr} {cA : ClassId} {z j : Int32} {vs : List Value} {dv w : Value}  (V : Arv Z h a cA .boolean z vs dv) (hj : ¬ j < 0 ∧ j < z) (hv : vs.getD j.toNatClampNeg dv = w) (hd : decode bytes pc = .ok (.baload, 1)) (hq : pc + 1 = q) (r : Goes p e below G (T.setTop (mkF m q L (w :: st)))) : Goes p e below G (T.setTop (mkF m pc L (.int j :: .ref a :: st))) := by
  obtain ⟨hx, hZ, hown, hby, -⟩ := C
  obtain ⟨_, _, _, X, hF, eT, h1, h2⟩ := X
  subst hq
  obtain ⟨cl, A, q1, Sz, q3, H, Gf⟩ := V
  exact go_st (fun t k => X.baloadBooleans hx (j := j) (v := w) (by rw [eT]; exact A.1) (State.isArrayOf_alike hZ.alike A.2.1) A.2.2 (inb_of Sz hj) (H.at (inb_of Sz hj) hv) (g := mkF m pc L (.int j :: .ref a :: st)) rfl rfl (hb hby hd) t k) r
theorem g_laload (C : Cx p s m meth c Z own bytes ml rt mn) (X : St p l e R s m args below meth c n0 T h k n) {a : Addr} {cA : ClassId} {z j : Int32} {vs : List Value} {dv w : Value}  (V : Arv Z h a cA .long z vs dv) (hj : ¬ j < 0 ∧ j < z) (hv : vs.getD j.toNatClampNeg dv = w) (hd : decode bytes pc = .ok (.laload, 1)) (hq : pc + 1 = q) (r : Goes p e below G (T.setTop (mkF m q L (w :: st)))) : Goes p e below G (T.setTop (mkF m pc L (.int j :: .ref a :: st))) := by
  obtain ⟨hx, hZ, hown, hby, -⟩ := C
  obtain ⟨_, _, _, X, hF, eT, h1, h2⟩ := X
  subst hq
  obtain ⟨cl, A, q1, Sz, q3, H, Gf⟩ := V
  exact go_st (fun t k => X.laload hx (j := j) (v := w) (by rw [eT]; exact A.1) (State.isArrayOf_alike hZ.alike A.2.1) A.2.2 (inb_of Sz hj) (H.at (inb_of Sz hj) hv) (g := mkF m pc L (.int j :: .ref a :: st)) rfl rfl (hb hby hd) t k) r
theorem g_daload (C : Cx p s m meth c Z own bytes ml rt mn) (X : St p l e R s m args below meth c n0 T h k n) {a : Addr} {cA : ClassId} {z j : Int32} {vs : List Value} {dv w : Value}  (V : Arv Z h a cA .double z vs dv) (hj : ¬ j < 0 ∧ j < z) (hv : vs.getD j.toNatClampNeg dv = w) (hd : decode bytes pc = .ok (.daload, 1)) (hq : pc + 1 = q) (r : Goes p e below G (T.setTop (mkF m q L (w :: st)))) : Goes p e below G (T.setTop (mkF m pc L (.int j :: .ref a :: st))) := by
  obtain ⟨hx, hZ, hown, hby, -⟩ := C
  obtain ⟨_, _, _, X, hF, eT, h1, h2⟩ := X
  subst hq
  obtain ⟨cl, A, q1, Sz, q3, H, Gf⟩ := V
  exact go_st (fun t k => X.daload hx (j := j) (v := w) (by rw [eT]; exact A.1) (State.isArrayOf_alike hZ.alike A.2.1) A.2.2 (inb_of Sz hj) (H.at (inb_of Sz hj) hv) (g := mkF m pc L (.int j :: .ref a :: st)) rfl rfl (hb hby hd) t k) r
theorem g_aaload (C : Cx p s m meth c Z own bytes ml rt mn) (X : St p l e R s m args below meth c n0 T h k n) {a : Addr} {cA : ClassId} {z j : Int32} {vs : List Value} {dv w : Value} {ty : FieldType} (hty : ty.isReference = true) (V : Arv Z h a cA ty z vs dv) (hj : ¬ j < 0 ∧ j < z) (hv : vs.getD j.toNatClampNeg dv = w) (hd : decode bytes pc = .ok (.aaload, 1)) (hq : pc + 1 = q) (r : Goes p e below G (T.setTop (mkF m q L (w :: st)))) : Goes p e below G (T.setTop (mkF m pc L (.int j :: .ref a :: st))) := by
  obtain ⟨hx, hZ, hown, hby, -⟩ := C
  obtain ⟨_, _, _, X, hF, eT, h1, h2⟩ := X
  subst hq
  obtain ⟨cl, A, q1, Sz, q3, H, Gf⟩ := V
  exact go_st (fun t k => X.aaload hx (j := j) (v := w) (by rw [eT]; exact A.1) (State.isArrayOf_alike hZ.alike A.2.1) hty A.2.2 (inb_of Sz hj) (H.at (inb_of Sz hj) hv) (g := mkF m pc L (.int j :: .ref a :: st)) rfl rfl (hb hby hd) t k) r
theorem g_alen (C : Cx p s m meth c Z own bytes ml rt mn) (X : St p l e R s m args below meth c n0 T h k n) {a : Addr} {cA : ClassId} {z : Int32} {vs : List Value} {dv : Value} {ty : FieldType} (V : Arv Z h a cA ty z vs dv) (hd : decode bytes pc = .ok (.arraylength, 1)) (hq : pc + 1 = q) (r : Goes p e below G (T.setTop (mkF m q L (.int z :: st)))) : Goes p e below G (T.setTop (mkF m pc L (.ref a :: st))) := by
  obtain ⟨hx, hZ, hown, hby, -⟩ := C
  obtain ⟨_, _, _, X, hF, eT, h1, h2⟩ := X
  subst hq
  obtain ⟨cl, A, q1, Sz, q3, H, Gf⟩ := V
  exact go_st (fun t k => X.arraylength hx (by rw [eT]; exact A.1) (State.isArrayOf_alike hZ.alike A.2.1) (g := mkF m pc L (.ref a :: st)) rfl rfl (hb hby hd) t (by rw [len_of Sz q3]; exact k)) r
theorem g_newR (C : Cx p s m meth c Z own bytes ml rt mn) (X : St p l e R s m args below meth c n0 T h k n) {K : String} {i cap k' n' : Nat} {z : Int32} (w1 : (Cond.classLink own i K).before a0 Z = true) (w2 : (Cond.arrayOver (.object K)).before a0 Z = true) (hd : decode bytes pc = .ok (.anewarray i, 3)) (hq : pc + 3 = q) (hz : ¬ z < 0) (hcap : z.toNatClampNeg ≤ cap) (hcb : cap * 8 ≤ 536870912) (hk : k + 1 = k') (hn : n + cap = n') (hkR : k' ≤ R.cells) (hnR : n' ≤ R.slots)
    (r : ∀ T' h' cA a, a = h.size → St p l e R s m args below meth c n0 T' h' k' n' → Ext h h' → Arv Z h' a cA (.object K) z [] .null → Ovr Z cA K → Goes p e below G (T'.setTop (mkF m q L (.ref a :: st)))) : Goes p e below G (T.setTop (mkF m pc L (.int z :: st))) := by
  obtain ⟨hx, hZ, hown, hby, -⟩ := C
  obtain ⟨_, _, _, X, hF, eT, h1, h2⟩ := X
  subst hq hk hn
  obtain ⟨T', h', cA, X', e', E', A', O', st'⟩ := newR X hx hZ hown w1 w2 eT (g := mkF m pc L (.int z :: st)) rfl (hb hby hd) rfl hz (cap := cap) hcap hcb (Nat.le_trans (Nat.add_le_add_right h1 1) hkR) (Nat.le_trans (Nat.add_le_add_right h2 cap) hnR)
  exact go_st st' (r T' h' cA _ rfl ⟨_, _, _, X', hF, e', Nat.add_le_add_right h1 1, Nat.add_le_add_right h2 cap⟩ E' (Arv.new A' hz) O')
theorem g_castY (C : Cx p s m meth c Z own bytes ml rt mn) (X : St p l e R s m args below meth c n0 T h k n) {K : String} {i : Nat} {a : Addr} (w : (Cond.classLink own i K).before a0 Z = true) (I : Ins Z h a K true) (hd : decode bytes pc = .ok (.checkcast i, 3)) (hq : pc + 3 = q) (r : ∀ T', St p l e R s m args below meth c n0 T' h k n → Goes p e below G (T'.setTop (mkF m q L (.ref a :: st)))) : Goes p e below G (T.setTop (mkF m pc L (.ref a :: st))) := by
  obtain ⟨hx, hZ, hown, hby, -⟩ := C
  obtain ⟨_, _, _, X, hF, eT, h1, h2⟩ := X
  subst hq
  obtain ⟨T', X', e', st'⟩ := castY X hx hZ hown w eT I (g := mkF m pc L (.ref a :: st)) rfl rfl (hb hby hd)
  exact go_st st' (r T' ⟨_, _, _, X', hF, e', h1, h2⟩)
theorem g_instY (C : Cx p s m meth c Z own bytes ml rt mn) (X : St p l e R s m args below meth c n0 T h k n) {K : String} {i : Nat} {a : Addr} (w : (Cond.classLink own i K).before a0 Z = true) (I : Ins Z h a K true) (hd : decode bytes pc = .ok (.instanceof i, 3)) (hq : pc + 3 = q) (r : ∀ T', St p l e R s m args below meth c n0 T' h k n → Goes p e below G (T'.setTop (mkF m q L (.int 1 :: st)))) : Goes p e below G (T.setTop (mkF m pc L (.ref a :: st))) := by
  obtain ⟨hx, hZ, hown, hby, -⟩ := C
  obtain ⟨_, _, _, X, hF, eT, h1, h2⟩ := X
  subst hq
  obtain ⟨T', X', e', st'⟩ := instY X hx hZ hown w eT I (g := mkF m pc L (.ref a :: st)) rfl rfl (hb hby hd)
  exact go_st st' (r T' ⟨_, _, _, X', hF, e', h1, h2⟩)
theorem g_instNo (C : Cx p s m meth c Z own bytes ml rt mn) (X : St p l e R s m args below meth c n0 T h k n) {K K' : String} {i : Nat} {a : Addr} (w : (Cond.classLink own i K).before a0 Z = true) (E : Exa Z h a K') (F : ∃ c t, Z.vm.findClass K' = some c ∧ Z.vm.findClass K = some t ∧ Z.vm.assignable c t = false) (hd : decode bytes pc = .ok (.instanceof i, 3)) (hq : pc + 3 = q) (r : ∀ T', St p l e R s m args below meth c n0 T' h k n → Goes p e below G (T'.setTop (mkF m q L (.int 0 :: st)))) : Goes p e below G (T.setTop (mkF m pc L (.ref a :: st))) := by
  obtain ⟨hx, hZ, hown, hby, -⟩ := C
  obtain ⟨_, _, _, X, hF, eT, h1, h2⟩ := X
  subst hq
  obtain ⟨T', X', e', st'⟩ := instNo X hx hZ hown w eT E F (g := mkF m pc L (.ref a :: st)) rfl rfl (hb hby hd)
  exact go_st st' (r T' ⟨_, _, _, X', hF, e', h1, h2⟩)
theorem g_instNull (C : Cx p s m meth c Z own bytes ml rt mn) (X : St p l e R s m args below meth c n0 T h k n) {i : Nat} (hd : decode bytes pc = .ok (.instanceof i, 3)) (hq : pc + 3 = q) (r : Goes p e below G (T.setTop (mkF m q L (.int 0 :: st)))) : Goes p e below G (T.setTop (mkF m pc L (.null :: st))) := by
  obtain ⟨hx, hZ, hown, hby, -⟩ := C
  obtain ⟨_, _, _, X, hF, eT, h1, h2⟩ := X
  subst hq
  exact go_st (fun t k => X.instanceofNull hx (g := mkF m pc L (.null :: st)) rfl rfl (hb hby hd) t k) r
theorem g_castNull (C : Cx p s m meth c Z own bytes ml rt mn) (X : St p l e R s m args below meth c n0 T h k n) {i : Nat} (hd : decode bytes pc = .ok (.checkcast i, 3)) (hq : pc + 3 = q) (r : Goes p e below G (T.setTop (mkF m q L (.null :: st)))) : Goes p e below G (T.setTop (mkF m pc L (.null :: st))) := by
  obtain ⟨hx, hZ, hown, hby, -⟩ := C
  obtain ⟨_, _, _, X, hF, eT, h1, h2⟩ := X
  subst hq
  exact go_st (fun t k => X.checkcastNull hx (g := mkF m pc L (.null :: st)) rfl rfl (hb hby hd) t k) r
theorem g_getClass (C : Cx p s m meth c Z own bytes ml rt mn) (X : St p l e R s m args below meth c n0 T h k n) {K : String} {i : Nat} {a mr : Addr} (w1 : (Cond.methodLink own i ⟨"java/lang/Object", "getClass", "()Ljava/lang/Class;"⟩).before a0 Z = true) (w2 : (Cond.declares ⟨"java/lang/Object", "getClass", "()Ljava/lang/Class;"⟩).before a0 Z = true) (w4 : (Cond.selects K ⟨"java/lang/Object", "getClass", "()Ljava/lang/Class;"⟩ ⟨"java/lang/Object", "getClass", "()Ljava/lang/Class;"⟩).before a0 Z = true)
    (w5 : (Cond.instanceMethod ⟨"java/lang/Object", "getClass", "()Ljava/lang/Class;"⟩).before a0 Z = true) (w6 : (Cond.native ⟨"java/lang/Object", "getClass", "()Ljava/lang/Class;"⟩).before a0 Z = true) (E : Exa Z h a K) (M : ∃ c k, Z.vm.findClass K = some c ∧ Z.vm.classes[c]? = some k ∧ k.mirror = some mr) (hsz : L.size = ml) (hd : decode bytes pc = .ok (.invokevirtual i, 3)) (hq : pc + 3 = q) (hf : 1 ≤ R.frames) (hl : (st.map fun v => v.category).sum + (nativeFrameWords "java/lang/Object" "getClass" 1 + 11) ≤ R.locals)
    (r : ∀ T', St p l e R s m args below meth c n0 T' h k n → Goes p e below G (T'.setTop (mkF m q L (.ref mr :: st)))) : Goes p e below G (T.setTop (mkF m pc L (.ref a :: st))) := by
  obtain ⟨hx, hZ, hown, hby, hml, -⟩ := C
  obtain ⟨_, _, _, X, hF, eT, h1, h2⟩ := X
  subst hq
  obtain ⟨cB, kB, i1, i2, i3⟩ := isOf hZ eT E
  obtain ⟨cc, kc, m1, m2, m3⟩ := M
  rw [hZ.alike.findClass] at i1
  cases i1.symm.trans m1
  obtain ⟨k', q, ek⟩ := hZ.alike.2.2 _ _ m2
  obtain ⟨vm', X', st'⟩ := X.getClassOf hx hown (mvT hZ w1) (mvT hZ w2) (notFace_of_selects (args := #[]) (mvT hZ w4)) (mvT hZ w4) (mvT hZ w5) (mvT hZ w6) (by rw [hZ.alike.findClass]; exact m1) i3 q (by rw [ek]; exact m3) (g := mkF m pc L (.ref a :: st)) rfl (hsz.trans hml.symm) rfl (hb hby hd) hf (by show 2 * 0 + _ + _ ≤ _; omega)
  exact go_st st' (r _ ⟨_, _, _, X', hF, eT, h1, h2⟩)
theorem g_callSb (C : Cx p s m meth c Z own bytes ml rt mn) (X : St p l e R s m args below meth c n0 T h k n) {as' : Array Value} {argsL : List Value} {ps : List FieldType} {rt' : Option FieldType} {k' n' W kc ks : Nat} {QL : Option Value → Heap → List Loc → Prop} {y : MethodName} {i : Nat} (hy : y.cls ≠ "java/lang/invoke/MethodHandle" ∧ y.cls ≠ "java/lang/invoke/VarHandle") (w1 : (Cond.methodLink own i y).before a0 Z = true) (w2 : (Cond.static y).before a0 Z = true) {bts : ByteArray} {mxl : Nat} {rty : Option FieldType} (w8 : (Cond.code y bts mxl rty).before a0 Z = true) (w9 : (Cond.initialized y.cls).before a0 Z = true) (bk : Back l R p e below s args y 3 W (fun A a => a = as' ∧ A.U.heap = h ∧ A.cells + kc ≤ R.cells ∧ A.slots + ks ≤ R.slots) (fun A _ v B => ∃ L, QL v B.U.heap L ∧ B.locs = A.locs ++ L ∧ B.cells = A.cells + kc ∧ B.slots = A.slots + ks)) (hk : k + kc = k') (hn : n + ks = n') (hkR : k' ≤ R.cells) (hnR : n' ≤ R.slots) (hsz : L.size = ml) (hdd : parseMethodDescriptor y.desc = some ⟨ps, rt'⟩) (hlen : argsL.length = ps.length) (hst : st = argsL.reverse ++ rest) (has : argsL.toArray = as') (hW : (rest.map fun v => v.category).sum = W) (hd : decode bytes pc = .ok (.invokestatic i, 3)) (hq : pc + 3 = q)
    (r : ∀ v T' h' L', St p l e R s m args below meth c n0 T' h' k' n' ∨ ¬ Fr n0 L' → QL v h' L' → Goes p e below G (T'.setTop (mkF m q L (v.toList ++ rest)))) : Goes p e below G (T.setTop (mkF m pc L st)) := by
  obtain ⟨hx, hZ, hown, hby, hml, -⟩ := C
  obtain ⟨_, cells, slots, X, hF, eT, h1, h2⟩ := X
  subst hq hk hn has hst hW
  obtain ⟨_, _, ⟨T', Lo, kk, nn⟩, -, X', ⟨Lc, hQ, q1, q2, q3⟩, st'⟩ := Jvm.LawKit.callS X hx hown (mvT hZ w1) (mvT hZ w2) (mvT hZ w9) (mvT hZ w8) hy bk (g := mkF m pc L (argsL.reverse ++ rest)) rfl (hsz.trans hml.symm) (argsL := argsL) (rest := rest) (lenOf hdd hlen) rfl (by show 2 * 0 + _ ≤ _; omega) (hb hby hd) (fun _ _ => ⟨rfl, eT, Nat.le_trans (Nat.add_le_add_right h1 _) hkR, Nat.le_trans (Nat.add_le_add_right h2 _) hnR⟩)
  dsimp only [Pt.U, Pt.locs, Pt.cells, Pt.slots] at X' q1 q2 q3 st' hQ
  subst q1 q2 q3
  refine go_st st' (r _ T' _ Lc ?_ hQ)
  by_cases hFr : Fr n0 Lc
  · exact Or.inl ⟨_, _, _, X', Fr.app hF hFr, rfl, Nat.add_le_add_right h1 _, Nat.add_le_add_right h2 _⟩
  · exact Or.inr hFr
theorem g_callS1 (C : Cx p s m meth c Z own bytes ml rt mn) (X : St p l e R s m args below meth c n0 T h k n) {rm : Room} {as' : Array Value} {bts : ByteArray} {mxl : Nat} {rty : Option FieldType} {argsL : List Value} {ps : List FieldType} {rt' : Option FieldType} {k' n' W : Nat} {Q : Value → Heap → Prop} {y : MethodName} {i : Nat} (hy : y.cls ≠ "java/lang/invoke/MethodHandle" ∧ y.cls ≠ "java/lang/invoke/VarHandle") (w1 : (Cond.methodLink own i y).before a0 Z = true) (w2 : (Cond.static y).before a0 Z = true) (w8 : (Cond.code y bts mxl rty).before a0 Z = true) (w9 : (Cond.initialized y.cls).before a0 Z = true) (hM : Met1 l Z y bts mxl rty rm as' h n0 Q) (hf : rm.frames + 1 ≤ R.frames) (hl : W + (mxl + 11) + rm.locals ≤ R.locals) (hk : k + rm.cells = k') (hn : n + rm.slots = n') (hkR : k' ≤ R.cells) (hnR : n' ≤ R.slots) (hsz : L.size = ml) (hdd : parseMethodDescriptor y.desc = some ⟨ps, rt'⟩) (hlen : argsL.length = ps.length) (hst : st = argsL.reverse ++ rest) (has : argsL.toArray = as') (hW : (rest.map fun v => v.category).sum = W) (hd : decode bytes pc = .ok (.invokestatic i, 3)) (hq : pc + 3 = q)
    (r : ∀ w T' h', St p l e R s m args below meth c n0 T' h' k' n' → Q w h' → Goes p e below G (T'.setTop (mkF m q L (w :: rest)))) : Goes p e below G (T.setTop (mkF m pc L st)) := by
  have bk := backOf (Q := fun v h L => Fr n0 L ∧ (∃ w, v = some w ∧ Q w h)) (R := R) (p := p) (e := e) (below := below) (s := s) (args := args) (len := 3) (W := W) (hM []) C.2.1 w8 w9 hf hl
  refine g_callSb C X (QL := fun v h L => Fr n0 L ∧ (∃ w, v = some w ∧ Q w h)) hy w1 w2 w8 w9 bk hk hn hkR hnR hsz hdd hlen hst has hW hd hq ?_
  rintro v T' h' L' hX ⟨hFr, hQ⟩
  obtain ⟨w, rfl, hQ⟩ := hQ
  exact r w T' h' (hX.resolve_right fun z => z hFr) hQ
theorem g_callS0 (C : Cx p s m meth c Z own bytes ml rt mn) (X : St p l e R s m args below meth c n0 T h k n) {rm : Room} {as' : Array Value} {bts : ByteArray} {mxl : Nat} {rty : Option FieldType} {argsL : List Value} {ps : List FieldType} {rt' : Option FieldType} {k' n' W : Nat} {Q : Heap → Prop} {y : MethodName} {i : Nat} (hy : y.cls ≠ "java/lang/invoke/MethodHandle" ∧ y.cls ≠ "java/lang/invoke/VarHandle") (w1 : (Cond.methodLink own i y).before a0 Z = true) (w2 : (Cond.static y).before a0 Z = true) (w8 : (Cond.code y bts mxl rty).before a0 Z = true) (w9 : (Cond.initialized y.cls).before a0 Z = true) (hM : Met0 l Z y bts mxl rty rm as' h n0 Q) (hf : rm.frames + 1 ≤ R.frames) (hl : W + (mxl + 11) + rm.locals ≤ R.locals) (hk : k + rm.cells = k') (hn : n + rm.slots = n') (hkR : k' ≤ R.cells) (hnR : n' ≤ R.slots) (hsz : L.size = ml) (hdd : parseMethodDescriptor y.desc = some ⟨ps, rt'⟩) (hlen : argsL.length = ps.length) (hst : st = argsL.reverse ++ rest) (has : argsL.toArray = as') (hW : (rest.map fun v => v.category).sum = W) (hd : decode bytes pc = .ok (.invokestatic i, 3)) (hq : pc + 3 = q)
    (r : ∀ T' h', St p l e R s m args below meth c n0 T' h' k' n' → Q h' → Goes p e below G (T'.setTop (mkF m q L rest))) : Goes p e below G (T.setTop (mkF m pc L st)) := by
  have bk := backOf (Q := fun v h L => Fr n0 L ∧ (v = none ∧ Q h)) (R := R) (p := p) (e := e) (below := below) (s := s) (args := args) (len := 3) (W := W) (hM []) C.2.1 w8 w9 hf hl
  refine g_callSb C X (QL := fun v h L => Fr n0 L ∧ (v = none ∧ Q h)) hy w1 w2 w8 w9 bk hk hn hkR hnR hsz hdd hlen hst has hW hd hq ?_
  rintro v T' h' L' hX ⟨hFr, hQ⟩
  obtain ⟨rfl, hQ⟩ := hQ
  exact r T' h' (hX.resolve_right fun z => z hFr) hQ
theorem g_callIb (C : Cx p s m meth c Z own bytes ml rt mn) (X : St p l e R s m args below meth c n0 T h k n) {as' : Array Value} {argsL : List Value} {ps : List FieldType} {rt' : Option FieldType} {k' n' W kc ks : Nat} {QL : Option Value → Heap → List Loc → Prop} {y : MethodName} {i : Nat} {a : Addr} (hy : y.cls ≠ "java/lang/invoke/MethodHandle" ∧ y.cls ≠ "java/lang/invoke/VarHandle") (hy1 : y.name = "<init>") (w1 : (Cond.methodLink own i y).before a0 Z = true) (w2 : (Cond.instanceMethod y).before a0 Z = true) {bts : ByteArray} {mxl : Nat} (w8 : (Cond.code y bts mxl none).before a0 Z = true) (bk : Back l R p e below s args y 3 W (fun A a => a = as' ∧ A.U.heap = h ∧ A.cells + kc ≤ R.cells ∧ A.slots + ks ≤ R.slots) (fun A _ v B => ∃ L, QL v B.U.heap L ∧ B.locs = A.locs ++ L ∧ B.cells = A.cells + kc ∧ B.slots = A.slots + ks)) (hk : k + kc = k') (hn : n + ks = n') (hkR : k' ≤ R.cells) (hnR : n' ≤ R.slots) (hsz : L.size = ml) (hdd : parseMethodDescriptor y.desc = some ⟨ps, rt'⟩) (hlen : argsL.length = ps.length) (hst : st = argsL.reverse ++ .ref a :: rest) (has : (.ref a :: argsL).toArray = as') (hW : (rest.map fun v => v.category).sum = W) (hd : decode bytes pc = .ok (.invokespecial i, 3)) (hq : pc + 3 = q)
    (r : ∀ v T' h' L', St p l e R s m args below meth c n0 T' h' k' n' ∨ ¬ Fr n0 L' → QL v h' L' → Goes p e below G (T'.setTop (mkF m q L (v.toList ++ rest)))) : Goes p e below G (T.setTop (mkF m pc L st)) := by
  obtain ⟨hx, hZ, hown, hby, hml, -⟩ := C
  obtain ⟨_, cells, slots, X, hF, eT, h1, h2⟩ := X
  subst hq hk hn has hst hW
  obtain ⟨_, _, ⟨T', Lo, kk, nn⟩, -, X', ⟨Lc, hQ, q1, q2, q3⟩, st'⟩ := X.specialBack hx hy1 hown (mvT hZ w1) (mvT hZ w2) (mvT hZ w8) hy bk (g := mkF m pc L (argsL.reverse ++ .ref a :: rest)) rfl (hsz.trans hml.symm) (Steps.refl _) (a := a) (argsL := argsL) (rest := rest) (lenOf hdd hlen) rfl (by show 2 * 0 + _ ≤ _; omega) (hb hby hd) (fun _ _ => ⟨rfl, eT, Nat.le_trans (Nat.add_le_add_right h1 _) hkR, Nat.le_trans (Nat.add_le_add_right h2 _) hnR⟩)
  dsimp only [Pt.U, Pt.locs, Pt.cells, Pt.slots] at X' q1 q2 q3 st' hQ
  subst q1 q2 q3
  refine go_tr st' (r _ T' _ Lc ?_ hQ)
  by_cases hFr : Fr n0 Lc
  · exact Or.inl ⟨_, _, _, X', Fr.app hF hFr, rfl, Nat.add_le_add_right h1 _, Nat.add_le_add_right h2 _⟩
  · exact Or.inr hFr
theorem g_callI0 (C : Cx p s m meth c Z own bytes ml rt mn) (X : St p l e R s m args below meth c n0 T h k n) {rm : Room} {as' : Array Value} {bts : ByteArray} {mxl : Nat} {argsL : List Value} {ps : List FieldType} {rt' : Option FieldType} {k' n' W : Nat} {Q : Heap → Prop} {y : MethodName} {i : Nat} {a : Addr} (hy : y.cls ≠ "java/lang/invoke/MethodHandle" ∧ y.cls ≠ "java/lang/invoke/VarHandle") (hy1 : y.name = "<init>") (w1 : (Cond.methodLink own i y).before a0 Z = true) (w2 : (Cond.instanceMethod y).before a0 Z = true) (w8 : (Cond.code y bts mxl none).before a0 Z = true) (w9 : (Cond.initialized y.cls).before a0 Z = true) (hM : Met0 l Z y bts mxl none rm as' h n0 Q) (hf : rm.frames + 1 ≤ R.frames) (hl : W + (mxl + 11) + rm.locals ≤ R.locals) (hk : k + rm.cells = k') (hn : n + rm.slots = n') (hkR : k' ≤ R.cells) (hnR : n' ≤ R.slots) (hsz : L.size = ml) (hdd : parseMethodDescriptor y.desc = some ⟨ps, rt'⟩) (hlen : argsL.length = ps.length) (hst : st = argsL.reverse ++ .ref a :: rest) (has : (.ref a :: argsL).toArray = as') (hW : (rest.map fun v => v.category).sum = W) (hd : decode bytes pc = .ok (.invokespecial i, 3)) (hq : pc + 3 = q)
    (r : ∀ T' h', St p l e R s m args below meth c n0 T' h' k' n' → Q h' → Goes p e below G (T'.setTop (mkF m q L rest))) : Goes p e below G (T.setTop (mkF m pc L st)) := by
  have bk := backOf (Q := fun v h L => Fr n0 L ∧ (v = none ∧ Q h)) (R := R) (p := p) (e := e) (below := below) (s := s) (args := args) (len := 3) (W := W) (hM []) C.2.1 w8 w9 hf hl
  refine g_callIb C X (QL := fun v h L => Fr n0 L ∧ (v = none ∧ Q h)) hy hy1 w1 w2 w8 bk hk hn hkR hnR hsz hdd hlen hst has hW hd hq ?_
  rintro v T' h' L' hX ⟨hFr, hQ⟩
  obtain ⟨rfl, hQ⟩ := hQ
  exact r T' h' (hX.resolve_right fun z => z hFr) hQ
theorem g_callVb (C : Cx p s m meth c Z own bytes ml rt mn) (X : St p l e R s m args below meth c n0 T h k n) {as' : Array Value} {argsL : List Value} {ps : List FieldType} {rt' : Option FieldType} {k' n' W kc ks : Nat} {QL : Option Value → Heap → List Loc → Prop} {y z : MethodName} {i : Nat} {a : Addr} {K : String} (hy : y.cls ≠ "java/lang/invoke/MethodHandle" ∧ y.cls ≠ "java/lang/invoke/VarHandle") (w1 : (Cond.methodLink own i y).before a0 Z = true) (w2 : (Cond.declares y).before a0 Z = true) (w3 : (Cond.selects K y z).before a0 Z = true) (w4 : (Cond.instanceMethod z).before a0 Z = true) (hnf : ∀ s' : State, Z.Warmed39 s'.vm → NotFace s' y) (E : Exa Z h a K) (bk : Back l R p e below s args z 3 W (fun A a => a = as' ∧ A.U.heap = h ∧ A.cells + kc ≤ R.cells ∧ A.slots + ks ≤ R.slots) (fun A _ v B => ∃ L, QL v B.U.heap L ∧ B.locs = A.locs ++ L ∧ B.cells = A.cells + kc ∧ B.slots = A.slots + ks)) (hk : k + kc = k') (hn : n + ks = n') (hkR : k' ≤ R.cells) (hnR : n' ≤ R.slots) (hsz : L.size = ml) (hdd : parseMethodDescriptor y.desc = some ⟨ps, rt'⟩) (hlen : argsL.length = ps.length) (hst : st = argsL.reverse ++ .ref a :: rest) (has : (.ref a :: argsL).toArray = as') (hW : (rest.map fun v => v.category).sum = W) (hd : decode bytes pc = .ok (.invokevirtual i, 3)) (hq : pc + 3 = q)
    (r : ∀ v T' h' L', St p l e R s m args below meth c n0 T' h' k' n' ∨ ¬ Fr n0 L' → QL v h' L' → Goes p e below G (T'.setTop (mkF m q L (v.toList ++ rest)))) : Goes p e below G (T.setTop (mkF m pc L st)) := by
  obtain ⟨hx, hZ, hown, hby, hml, -⟩ := C
  obtain ⟨_, cells, slots, X, hF, eT, h1, h2⟩ := X
  subst hq hk hn has hst hW
  obtain ⟨cB, kB, qa, qb, qc⟩ := isOf hZ eT E
  obtain ⟨_, _, ⟨T', Lo, kk, nn⟩, -, X', ⟨Lc, hQ, q1, q2, q3⟩, st'⟩ := X.virtualBack hx hown (mvT hZ w1) (mvT hZ w2) (hnf s hZ) (mvT hZ w3) (mvT hZ w4) hy bk qa qc (g := mkF m pc L (argsL.reverse ++ .ref a :: rest)) rfl (hsz.trans hml.symm) (Steps.refl _) (argsL := argsL) (rest := rest) (lenOf hdd hlen) rfl (by show 2 * 0 + _ ≤ _; omega) (hb hby hd) (fun _ _ => ⟨rfl, eT, Nat.le_trans (Nat.add_le_add_right h1 _) hkR, Nat.le_trans (Nat.add_le_add_right h2 _) hnR⟩)
  dsimp only [Pt.U, Pt.locs, Pt.cells, Pt.slots] at X' q1 q2 q3 st' hQ
  subst q1 q2 q3
  refine go_tr st' (r _ T' _ Lc ?_ hQ)
  by_cases hFr : Fr n0 Lc
  · exact Or.inl ⟨_, _, _, X', Fr.app hF hFr, rfl, Nat.add_le_add_right h1 _, Nat.add_le_add_right h2 _⟩
  · exact Or.inr hFr
theorem g_callV1 (C : Cx p s m meth c Z own bytes ml rt mn) (X : St p l e R s m args below meth c n0 T h k n) {rm : Room} {as' : Array Value} {bts : ByteArray} {mxl : Nat} {rty : Option FieldType} {argsL : List Value} {ps : List FieldType} {rt' : Option FieldType} {k' n' W : Nat} {Q : Value → Heap → Prop} {y z : MethodName} {i : Nat} {a : Addr} {K : String} (hy : y.cls ≠ "java/lang/invoke/MethodHandle" ∧ y.cls ≠ "java/lang/invoke/VarHandle") (w1 : (Cond.methodLink own i y).before a0 Z = true) (w2 : (Cond.declares y).before a0 Z = true) (w3 : (Cond.selects K y z).before a0 Z = true) (w4 : (Cond.instanceMethod z).before a0 Z = true) (hnf : ∀ s' : State, Z.Warmed39 s'.vm → NotFace s' y) (E : Exa Z h a K) (w8 : (Cond.code z bts mxl rty).before a0 Z = true) (w9 : (Cond.initialized z.cls).before a0 Z = true) (hM : Met1 l Z z bts mxl rty rm as' h n0 Q) (hf : rm.frames + 1 ≤ R.frames) (hl : W + (mxl + 11) + rm.locals ≤ R.locals) (hk : k + rm.cells = k') (hn : n + rm.slots = n') (hkR : k' ≤ R.cells) (hnR : n' ≤ R.slots) (hsz : L.size = ml) (hdd : parseMethodDescriptor y.desc = some ⟨ps, rt'⟩) (hlen : argsL.length = ps.length) (hst : st = argsL.reverse ++ .ref a :: rest) (has : (.ref a :: argsL).toArray = as') (hW : (rest.map fun v => v.category).sum = W) (hd : decode bytes pc = .ok (.invokevirtual i, 3)) (hq : pc + 3 = q)
    (r : ∀ w T' h', St p l e R s m args below meth c n0 T' h' k' n' → Q w h' → Goes p e below G (T'.setTop (mkF m q L (w :: rest)))) : Goes p e below G (T.setTop (mkF m pc L st)) := by
  have bk := backOf (Q := fun v h L => Fr n0 L ∧ (∃ w, v = some w ∧ Q w h)) (R := R) (p := p) (e := e) (below := below) (s := s) (args := args) (len := 3) (W := W) (hM []) C.2.1 w8 w9 hf hl
  refine g_callVb C X (QL := fun v h L => Fr n0 L ∧ (∃ w, v = some w ∧ Q w h)) hy w1 w2 w3 w4 hnf E bk hk hn hkR hnR hsz hdd hlen hst has hW hd hq ?_
  rintro v T' h' L' hX ⟨hFr, hQ⟩
  obtain ⟨w, rfl, hQ⟩ := hQ
  exact r w T' h' (hX.resolve_right fun z => z hFr) hQ
theorem g_callV0 (C : Cx p s m meth c Z own bytes ml rt mn) (X : St p l e R s m args below meth c n0 T h k n) {rm : Room} {as' : Array Value} {bts : ByteArray} {mxl : Nat} {rty : Option FieldType} {argsL : List Value} {ps : List FieldType} {rt' : Option FieldType} {k' n' W : Nat} {Q : Heap → Prop} {y z : MethodName} {i : Nat} {a : Addr} {K : String} (hy : y.cls ≠ "java/lang/invoke/MethodHandle" ∧ y.cls ≠ "java/lang/invoke/VarHandle") (w1 : (Cond.methodLink own i y).before a0 Z = true) (w2 : (Cond.declares y).before a0 Z = true) (w3 : (Cond.selects K y z).before a0 Z = true) (w4 : (Cond.instanceMethod z).before a0 Z = true) (hnf : ∀ s' : State, Z.Warmed39 s'.vm → NotFace s' y) (E : Exa Z h a K) (w8 : (Cond.code z bts mxl rty).before a0 Z = true) (w9 : (Cond.initialized z.cls).before a0 Z = true) (hM : Met0 l Z z bts mxl rty rm as' h n0 Q) (hf : rm.frames + 1 ≤ R.frames) (hl : W + (mxl + 11) + rm.locals ≤ R.locals) (hk : k + rm.cells = k') (hn : n + rm.slots = n') (hkR : k' ≤ R.cells) (hnR : n' ≤ R.slots) (hsz : L.size = ml) (hdd : parseMethodDescriptor y.desc = some ⟨ps, rt'⟩) (hlen : argsL.length = ps.length) (hst : st = argsL.reverse ++ .ref a :: rest) (has : (.ref a :: argsL).toArray = as') (hW : (rest.map fun v => v.category).sum = W) (hd : decode bytes pc = .ok (.invokevirtual i, 3)) (hq : pc + 3 = q)
    (r : ∀ T' h', St p l e R s m args below meth c n0 T' h' k' n' → Q h' → Goes p e below G (T'.setTop (mkF m q L rest))) : Goes p e below G (T.setTop (mkF m pc L st)) := by
  have bk := backOf (Q := fun v h L => Fr n0 L ∧ (v = none ∧ Q h)) (R := R) (p := p) (e := e) (below := below) (s := s) (args := args) (len := 3) (W := W) (hM []) C.2.1 w8 w9 hf hl
  refine g_callVb C X (QL := fun v h L => Fr n0 L ∧ (v = none ∧ Q h)) hy w1 w2 w3 w4 hnf E bk hk hn hkR hnR hsz hdd hlen hst has hW hd hq ?_
  rintro v T' h' L' hX ⟨hFr, hQ⟩
  obtain ⟨rfl, hQ⟩ := hQ
  exact r T' h' (hX.resolve_right fun z => z hFr) hQ
theorem g_callUb (C : Cx p s m meth c Z own bytes ml rt mn) (X : St p l e R s m args below meth c n0 T h k n) {as' : Array Value} {argsL : List Value} {ps : List FieldType} {rt' : Option FieldType} {k' n' W kc ks : Nat} {QL : Option Value → Heap → List Loc → Prop} {y z : MethodName} {i : Nat} {a : Addr} {K owner : String} (hy : owner ≠ "java/lang/invoke/MethodHandle" ∧ owner ≠ "java/lang/invoke/VarHandle") (w1 : (Cond.methodLink own i y).before a0 Z = true) (w2 : (Cond.sameMethod y.cls owner y.name y.desc).before a0 Z = true) (w2' : (Cond.declares ⟨owner, y.name, y.desc⟩).before a0 Z = true) (w3 : (Cond.selects K y z).before a0 Z = true) (w4 : (Cond.instanceMethod z).before a0 Z = true) (E : Exa Z h a K) (bk : Back l R p e below s args z 3 W (fun A a => a = as' ∧ A.U.heap = h ∧ A.cells + kc ≤ R.cells ∧ A.slots + ks ≤ R.slots) (fun A _ v B => ∃ L, QL v B.U.heap L ∧ B.locs = A.locs ++ L ∧ B.cells = A.cells + kc ∧ B.slots = A.slots + ks)) (hk : k + kc = k') (hn : n + ks = n') (hkR : k' ≤ R.cells) (hnR : n' ≤ R.slots) (hsz : L.size = ml) (hdd : parseMethodDescriptor y.desc = some ⟨ps, rt'⟩) (hlen : argsL.length = ps.length) (hst : st = argsL.reverse ++ .ref a :: rest) (has : (.ref a :: argsL).toArray = as') (hW : (rest.map fun v => v.category).sum = W) (hd : decode bytes pc = .ok (.invokevirtual i, 3)) (hq : pc + 3 = q)
    (r : ∀ v T' h' L', St p l e R s m args below meth c n0 T' h' k' n' ∨ ¬ Fr n0 L' → QL v h' L' → Goes p e below G (T'.setTop (mkF m q L (v.toList ++ rest)))) : Goes p e below G (T.setTop (mkF m pc L st)) := by
  obtain ⟨hx, hZ, hown, hby, hml, -⟩ := C
  obtain ⟨_, cells, slots, X, hF, eT, h1, h2⟩ := X
  subst hq hk hn has hst hW
  obtain ⟨cB, kB, qa, qb, qc⟩ := isOf hZ eT E
  obtain ⟨_, _, ⟨T', Lo, kk, nn⟩, -, X', ⟨Lc, hQ, q1, q2, q3⟩, st'⟩ := X.virtualBackUp hx hown (mvT hZ w1) (mvT hZ w2) (mvT hZ w2') hy (mvT hZ w3) (mvT hZ w4) bk qa qc (g := mkF m pc L (argsL.reverse ++ .ref a :: rest)) rfl (hsz.trans hml.symm) (Steps.refl _) (argsL := argsL) (rest := rest) (lenOf hdd hlen) rfl (by show 2 * 0 + _ ≤ _; omega) (hb hby hd) (fun _ _ => ⟨rfl, eT, Nat.le_trans (Nat.add_le_add_right h1 _) hkR, Nat.le_trans (Nat.add_le_add_right h2 _) hnR⟩)
  dsimp only [Pt.U, Pt.locs, Pt.cells, Pt.slots] at X' q1 q2 q3 st' hQ
  subst q1 q2 q3
  refine go_tr st' (r _ T' _ Lc ?_ hQ)
  by_cases hFr : Fr n0 Lc
  · exact Or.inl ⟨_, _, _, X', Fr.app hF hFr, rfl, Nat.add_le_add_right h1 _, Nat.add_le_add_right h2 _⟩
  · exact Or.inr hFr
theorem g_callU1 (C : Cx p s m meth c Z own bytes ml rt mn) (X : St p l e R s m args below meth c n0 T h k n) {rm : Room} {as' : Array Value} {bts : ByteArray} {mxl : Nat} {rty : Option FieldType} {argsL : List Value} {ps : List FieldType} {rt' : Option FieldType} {k' n' W : Nat} {Q : Value → Heap → Prop} {y z : MethodName} {i : Nat} {a : Addr} {K owner : String} (hy : owner ≠ "java/lang/invoke/MethodHandle" ∧ owner ≠ "java/lang/invoke/VarHandle") (w1 : (Cond.methodLink own i y).before a0 Z = true) (w2 : (Cond.sameMethod y.cls owner y.name y.desc).before a0 Z = true) (w2' : (Cond.declares ⟨owner, y.name, y.desc⟩).before a0 Z = true) (w3 : (Cond.selects K y z).before a0 Z = true) (w4 : (Cond.instanceMethod z).before a0 Z = true) (E : Exa Z h a K) (w8 : (Cond.code z bts mxl rty).before a0 Z = true) (w9 : (Cond.initialized z.cls).before a0 Z = true) (hM : Met1 l Z z bts mxl rty rm as' h n0 Q) (hf : rm.frames + 1 ≤ R.frames) (hl : W + (mxl + 11) + rm.locals ≤ R.locals) (hk : k + rm.cells = k') (hn : n + rm.slots = n') (hkR : k' ≤ R.cells) (hnR : n' ≤ R.slots) (hsz : L.size = ml) (hdd : parseMethodDescriptor y.desc = some ⟨ps, rt'⟩) (hlen : argsL.length = ps.length) (hst : st = argsL.reverse ++ .ref a :: rest) (has : (.ref a :: argsL).toArray = as') (hW : (rest.map fun v => v.category).sum = W) (hd : decode bytes pc = .ok (.invokevirtual i, 3)) (hq : pc + 3 = q)
    (r : ∀ w T' h', St p l e R s m args below meth c n0 T' h' k' n' → Q w h' → Goes p e below G (T'.setTop (mkF m q L (w :: rest)))) : Goes p e below G (T.setTop (mkF m pc L st)) := by
  have bk := backOf (Q := fun v h L => Fr n0 L ∧ (∃ w, v = some w ∧ Q w h)) (R := R) (p := p) (e := e) (below := below) (s := s) (args := args) (len := 3) (W := W) (hM []) C.2.1 w8 w9 hf hl
  refine g_callUb C X (QL := fun v h L => Fr n0 L ∧ (∃ w, v = some w ∧ Q w h)) hy w1 w2 w2' w3 w4 E bk hk hn hkR hnR hsz hdd hlen hst has hW hd hq ?_
  rintro v T' h' L' hX ⟨hFr, hQ⟩
  obtain ⟨w, rfl, hQ⟩ := hQ
  exact r w T' h' (hX.resolve_right fun z => z hFr) hQ
theorem g_callU0 (C : Cx p s m meth c Z own bytes ml rt mn) (X : St p l e R s m args below meth c n0 T h k n) {rm : Room} {as' : Array Value} {bts : ByteArray} {mxl : Nat} {rty : Option FieldType} {argsL : List Value} {ps : List FieldType} {rt' : Option FieldType} {k' n' W : Nat} {Q : Heap → Prop} {y z : MethodName} {i : Nat} {a : Addr} {K owner : String} (hy : owner ≠ "java/lang/invoke/MethodHandle" ∧ owner ≠ "java/lang/invoke/VarHandle") (w1 : (Cond.methodLink own i y).before a0 Z = true) (w2 : (Cond.sameMethod y.cls owner y.name y.desc).before a0 Z = true) (w2' : (Cond.declares ⟨owner, y.name, y.desc⟩).before a0 Z = true) (w3 : (Cond.selects K y z).before a0 Z = true) (w4 : (Cond.instanceMethod z).before a0 Z = true) (E : Exa Z h a K) (w8 : (Cond.code z bts mxl rty).before a0 Z = true) (w9 : (Cond.initialized z.cls).before a0 Z = true) (hM : Met0 l Z z bts mxl rty rm as' h n0 Q) (hf : rm.frames + 1 ≤ R.frames) (hl : W + (mxl + 11) + rm.locals ≤ R.locals) (hk : k + rm.cells = k') (hn : n + rm.slots = n') (hkR : k' ≤ R.cells) (hnR : n' ≤ R.slots) (hsz : L.size = ml) (hdd : parseMethodDescriptor y.desc = some ⟨ps, rt'⟩) (hlen : argsL.length = ps.length) (hst : st = argsL.reverse ++ .ref a :: rest) (has : (.ref a :: argsL).toArray = as') (hW : (rest.map fun v => v.category).sum = W) (hd : decode bytes pc = .ok (.invokevirtual i, 3)) (hq : pc + 3 = q)
    (r : ∀ T' h', St p l e R s m args below meth c n0 T' h' k' n' → Q h' → Goes p e below G (T'.setTop (mkF m q L rest))) : Goes p e below G (T.setTop (mkF m pc L st)) := by
  have bk := backOf (Q := fun v h L => Fr n0 L ∧ (v = none ∧ Q h)) (R := R) (p := p) (e := e) (below := below) (s := s) (args := args) (len := 3) (W := W) (hM []) C.2.1 w8 w9 hf hl
  refine g_callUb C X (QL := fun v h L => Fr n0 L ∧ (v = none ∧ Q h)) hy w1 w2 w2' w3 w4 E bk hk hn hkR hnR hsz hdd hlen hst has hW hd hq ?_
  rintro v T' h' L' hX ⟨hFr, hQ⟩
  obtain ⟨rfl, hQ⟩ := hQ
  exact r T' h' (hX.resolve_right fun z => z hFr) hQ
theorem g_callPb (C : Cx p s m meth c Z own bytes ml rt mn) (X : St p l e R s m args below meth c n0 T h k n) {as' : Array Value} {argsL : List Value} {ps : List FieldType} {rt' : Option FieldType} {k' n' W kc ks : Nat} {QL : Option Value → Heap → List Loc → Prop} {y : MethodName} {i : Nat} {a : Addr} {K : String} (hy : y.cls ≠ "java/lang/invoke/MethodHandle" ∧ y.cls ≠ "java/lang/invoke/VarHandle") (w1 : (Cond.methodLink own i y).before a0 Z = true) (w3 : (Cond.selects y.cls y y).before a0 Z = true) (w4 : (Cond.instanceMethod y).before a0 Z = true) (w5 : (Cond.privateMethod y).before a0 Z = true) (E : Exa Z h a K) {bts : ByteArray} {mxl : Nat} {rty : Option FieldType} (w8 : (Cond.code y bts mxl rty).before a0 Z = true) (bk : Back l R p e below s args y 3 W (fun A a => a = as' ∧ A.U.heap = h ∧ A.cells + kc ≤ R.cells ∧ A.slots + ks ≤ R.slots) (fun A _ v B => ∃ L, QL v B.U.heap L ∧ B.locs = A.locs ++ L ∧ B.cells = A.cells + kc ∧ B.slots = A.slots + ks)) (hk : k + kc = k') (hn : n + ks = n') (hkR : k' ≤ R.cells) (hnR : n' ≤ R.slots) (hsz : L.size = ml) (hdd : parseMethodDescriptor y.desc = some ⟨ps, rt'⟩) (hlen : argsL.length = ps.length) (hst : st = argsL.reverse ++ .ref a :: rest) (has : (.ref a :: argsL).toArray = as') (hW : (rest.map fun v => v.category).sum = W) (hd : decode bytes pc = .ok (.invokevirtual i, 3)) (hq : pc + 3 = q)
    (r : ∀ v T' h' L', St p l e R s m args below meth c n0 T' h' k' n' ∨ ¬ Fr n0 L' → QL v h' L' → Goes p e below G (T'.setTop (mkF m q L (v.toList ++ rest)))) : Goes p e below G (T.setTop (mkF m pc L st)) := by
  obtain ⟨hx, hZ, hown, hby, hml, -⟩ := C
  obtain ⟨_, cells, slots, X, hF, eT, h1, h2⟩ := X
  subst hq hk hn has hst hW
  obtain ⟨cq, qa, qb⟩ := E.cell
  obtain ⟨_, _, ⟨T', Lo, kk, nn⟩, -, X', ⟨Lc, hQ, q1, q2, q3⟩, st'⟩ := X.privateBack hx hown (mvT hZ w1) (mvT hZ w4) (mvT hZ w3) (Cond.privateMethod_at (mvP hZ w5 (args := #[]))) (mvT hZ w8) hy bk (g := mkF m pc L (argsL.reverse ++ .ref a :: rest)) rfl (hsz.trans hml.symm) (Steps.refl _) (a := a) (by rw [eT]; exact qa) qb (argsL := argsL) (rest := rest) (lenOf hdd hlen) rfl (by show 2 * 0 + _ ≤ _; omega) (hb hby hd) (fun _ _ => ⟨rfl, eT, Nat.le_trans (Nat.add_le_add_right h1 _) hkR, Nat.le_trans (Nat.add_le_add_right h2 _) hnR⟩)
  dsimp only [Pt.U, Pt.locs, Pt.cells, Pt.slots] at X' q1 q2 q3 st' hQ
  subst q1 q2 q3
  refine go_tr st' (r _ T' _ Lc ?_ hQ)
  by_cases hFr : Fr n0 Lc
  · exact Or.inl ⟨_, _, _, X', Fr.app hF hFr, rfl, Nat.add_le_add_right h1 _, Nat.add_le_add_right h2 _⟩
  · exact Or.inr hFr
theorem g_callP1 (C : Cx p s m meth c Z own bytes ml rt mn) (X : St p l e R s m args below meth c n0 T h k n) {rm : Room} {as' : Array Value} {bts : ByteArray} {mxl : Nat} {rty : Option FieldType} {argsL : List Value} {ps : List FieldType} {rt' : Option FieldType} {k' n' W : Nat} {Q : Value → Heap → Prop} {y : MethodName} {i : Nat} {a : Addr} {K : String} (hy : y.cls ≠ "java/lang/invoke/MethodHandle" ∧ y.cls ≠ "java/lang/invoke/VarHandle") (w1 : (Cond.methodLink own i y).before a0 Z = true) (w3 : (Cond.selects y.cls y y).before a0 Z = true) (w4 : (Cond.instanceMethod y).before a0 Z = true) (w5 : (Cond.privateMethod y).before a0 Z = true) (E : Exa Z h a K) (w8 : (Cond.code y bts mxl rty).before a0 Z = true) (w9 : (Cond.initialized y.cls).before a0 Z = true) (hM : Met1 l Z y bts mxl rty rm as' h n0 Q) (hf : rm.frames + 1 ≤ R.frames) (hl : W + (mxl + 11) + rm.locals ≤ R.locals) (hk : k + rm.cells = k') (hn : n + rm.slots = n') (hkR : k' ≤ R.cells) (hnR : n' ≤ R.slots) (hsz : L.size = ml) (hdd : parseMethodDescriptor y.desc = some ⟨ps, rt'⟩) (hlen : argsL.length = ps.length) (hst : st = argsL.reverse ++ .ref a :: rest) (has : (.ref a :: argsL).toArray = as') (hW : (rest.map fun v => v.category).sum = W) (hd : decode bytes pc = .ok (.invokevirtual i, 3)) (hq : pc + 3 = q)
    (r : ∀ w T' h', St p l e R s m args below meth c n0 T' h' k' n' → Q w h' → Goes p e below G (T'.setTop (mkF m q L (w :: rest)))) : Goes p e below G (T.setTop (mkF m pc L st)) := by
  have bk := backOf (Q := fun v h L => Fr n0 L ∧ (∃ w, v = some w ∧ Q w h)) (R := R) (p := p) (e := e) (below := below) (s := s) (args := args) (len := 3) (W := W) (hM []) C.2.1 w8 w9 hf hl
  refine g_callPb C X (QL := fun v h L => Fr n0 L ∧ (∃ w, v = some w ∧ Q w h)) hy w1 w3 w4 w5 E w8 bk hk hn hkR hnR hsz hdd hlen hst has hW hd hq ?_
  rintro v T' h' L' hX ⟨hFr, hQ⟩
  obtain ⟨w, rfl, hQ⟩ := hQ
  exact r w T' h' (hX.resolve_right fun z => z hFr) hQ
theorem g_callP0 (C : Cx p s m meth c Z own bytes ml rt mn) (X : St p l e R s m args below meth c n0 T h k n) {rm : Room} {as' : Array Value} {bts : ByteArray} {mxl : Nat} {rty : Option FieldType} {argsL : List Value} {ps : List FieldType} {rt' : Option FieldType} {k' n' W : Nat} {Q : Heap → Prop} {y : MethodName} {i : Nat} {a : Addr} {K : String} (hy : y.cls ≠ "java/lang/invoke/MethodHandle" ∧ y.cls ≠ "java/lang/invoke/VarHandle") (w1 : (Cond.methodLink own i y).before a0 Z = true) (w3 : (Cond.selects y.cls y y).before a0 Z = true) (w4 : (Cond.instanceMethod y).before a0 Z = true) (w5 : (Cond.privateMethod y).before a0 Z = true) (E : Exa Z h a K) (w8 : (Cond.code y bts mxl rty).before a0 Z = true) (w9 : (Cond.initialized y.cls).before a0 Z = true) (hM : Met0 l Z y bts mxl rty rm as' h n0 Q) (hf : rm.frames + 1 ≤ R.frames) (hl : W + (mxl + 11) + rm.locals ≤ R.locals) (hk : k + rm.cells = k') (hn : n + rm.slots = n') (hkR : k' ≤ R.cells) (hnR : n' ≤ R.slots) (hsz : L.size = ml) (hdd : parseMethodDescriptor y.desc = some ⟨ps, rt'⟩) (hlen : argsL.length = ps.length) (hst : st = argsL.reverse ++ .ref a :: rest) (has : (.ref a :: argsL).toArray = as') (hW : (rest.map fun v => v.category).sum = W) (hd : decode bytes pc = .ok (.invokevirtual i, 3)) (hq : pc + 3 = q)
    (r : ∀ T' h', St p l e R s m args below meth c n0 T' h' k' n' → Q h' → Goes p e below G (T'.setTop (mkF m q L rest))) : Goes p e below G (T.setTop (mkF m pc L st)) := by
  have bk := backOf (Q := fun v h L => Fr n0 L ∧ (v = none ∧ Q h)) (R := R) (p := p) (e := e) (below := below) (s := s) (args := args) (len := 3) (W := W) (hM []) C.2.1 w8 w9 hf hl
  refine g_callPb C X (QL := fun v h L => Fr n0 L ∧ (v = none ∧ Q h)) hy w1 w3 w4 w5 E w8 bk hk hn hkR hnR hsz hdd hlen hst has hW hd hq ?_
  rintro v T' h' L' hX ⟨hFr, hQ⟩
  obtain ⟨rfl, hQ⟩ := hQ
  exact r T' h' (hX.resolve_right fun z => z hFr) hQ
theorem sel_priv {y : MethodName} {kk : Nat} (wi : (Cond.instantiable y.cls kk).before a0 Z = true) (w4 : (Cond.instanceMethod y).before a0 Z = true) (w5 : (Cond.privateMethod y).before a0 Z = true) (hy : y.cls ≠ "java/lang/invoke/MethodHandle" ∧ y.cls ≠ "java/lang/invoke/VarHandle") : (Cond.selects y.cls y y).before a0 Z = true := by
  obtain ⟨c1, k1, i1, i2, -, i4, -⟩ := Cond.instantiable_spec wi
  exact Stand.selects_self_of_private i1 i2 (by simp only [Bool.or_eq_false_iff] at i4; exact i4.1) (Cond.privateMethod_at w5) w4 hy
theorem own_nb {b : Int32} {t : Bool} (h1 : t = true → b = 0) (h2 : t = false → b = 1) : nar .boolean b = b := by
  cases t
  · rw [h2 rfl]; decide
  · rw [h1 rfl]; decide
theorem nf_sel {y : MethodName} {K : String} (w : (Cond.selects K y y).before a0 Z = true) : ∀ s' : State, Z.Warmed39 s'.vm → NotFace s' y := fun s' hZ => notFace_of_selects (args := #[]) (mvT hZ w)
end OwnKit
theorem own_i32 {x y : Int32} (h : x.toInt = y.toInt) : x = y := Int32.toInt_inj.mp h
theorem own_r1 {u w : Int32} {hi : Int} (h : u.toInt ≤ hi) (hw : hi < w.toInt) : u < w := Int32.lt_iff_toInt_lt.mpr (Int.lt_of_le_of_lt h hw)
theorem own_r2 {u w : Int32} {lo : Int} (h : lo ≤ u.toInt) (hw : w.toInt ≤ lo) : ¬ u < w := fun q => by have := Int32.lt_iff_toInt_lt.mp q; omega
theorem own_r3 {u w : Int32} {lo : Int} (h : lo ≤ w.toInt) (hu : u.toInt < lo) : u < w := Int32.lt_iff_toInt_lt.mpr (by omega)
theorem own_r4 {u w : Int32} {hi : Int} (h : w.toInt ≤ hi) (hu : hi ≤ u.toInt) : ¬ u < w := fun q => by have := Int32.lt_iff_toInt_lt.mp q; omega
theorem own_r5 {u w : Int32} {lo : Int} (h : lo ≤ u.toInt) (hw : w.toInt < lo) : ¬ u = w := fun q => by subst q; omega
theorem own_r6 {u w : Int32} {hi : Int} (h : u.toInt ≤ hi) (hw : hi < w.toInt) : ¬ u = w := fun q => by subst q; omega
theorem own_f0 {u w : Int32} {z : Int} (h1 : z ≤ u.toInt) (h2 : u.toInt ≤ z) (hz : w.toInt = z) : u = w := own_i32 (by omega)
theorem own_f1 {u w : Int32} {z : Int} (h : u < w) (hz : w.toInt = z + 1) : u.toInt ≤ z := by have := Int32.lt_iff_toInt_lt.mp h; omega
theorem own_f2 {u w : Int32} {z : Int} (h : ¬ u < w) (hz : w.toInt = z) : z ≤ u.toInt := by rw [Int32.lt_iff_toInt_lt] at h; omega
theorem own_f3 {u w : Int32} {z : Int} (h : w < u) (hz : w.toInt + 1 = z) : z ≤ u.toInt := by have := Int32.lt_iff_toInt_lt.mp h; omega
theorem own_f4 {u w : Int32} {z : Int} (h : ¬ w < u) (hz : w.toInt = z) : u.toInt ≤ z := by rw [Int32.lt_iff_toInt_lt] at h; omega
theorem own_f5 {u w : Int32} {z lo : Int} (h : ¬ u = w) (hl : lo ≤ u.toInt) (hz : w.toInt = lo ∧ z = lo + 1) : z ≤ u.toInt := by
  have : u.toInt ≠ w.toInt := fun q => h (own_i32 q)
  omega
theorem own_f6 {u w : Int32} {z hi : Int} (h : ¬ u = w) (hl : u.toInt ≤ hi) (hz : w.toInt = hi ∧ z = hi - 1) : u.toInt ≤ z := by
  have : u.toInt ≠ w.toInt := fun q => h (own_i32 q)
  omega
theorem own_i2c {v : Int32} {lo hi : Int} (h1 : lo ≤ v.toInt) (h2 : v.toInt ≤ hi) (h3 : 0 ≤ lo) (h4 : hi ≤ 65535) : v.toUInt32.toUInt16.toUInt32.toInt32 = v := by
  have h := c_i2c v
  apply own_i32
  omega
theorem own_narC {v : Int32} {lo hi : Int} (h1 : lo ≤ v.toInt) (h2 : v.toInt ≤ hi) (h3 : 0 ≤ lo) (h4 : hi ≤ 65535) : nar .char v = v := own_i2c h1 h2 h3 h4
theorem own_ch {v : Int32} {lo hi : Int} (h1 : lo ≤ v.toInt) (h2 : v.toInt ≤ hi) (h3 : 0 ≤ lo) (h4 : hi ≤ 255) : ¬ v < 0 ∧ ¬ (255 : Int32) < v := ⟨own_r2 h1 h3, own_r4 h2 h4⟩
theorem own_rem {x y : Int32} {d : Int} (hy : y.toInt = d + 1) (hd : 0 < d + 1) (hx : 0 ≤ x.toInt) : 0 ≤ (x % y).toInt ∧ (x % y).toInt ≤ d := by
  have h := (c_irem x y (d + 1) hy).1 hx
  rw [h]
  have := Int.emod_nonneg x.toInt (show d + 1 ≠ 0 by omega)
  have := Int.emod_lt_of_pos x.toInt hd
  omega
theorem own_ne {a b : Addr} {h : Heap} (h1 : a < h.size) (h2 : b = h.size) : a ≠ b := fun q => by subst q; subst h2; exact Nat.lt_irrefl _ h1
theorem own_ge {Z : State} {n0 : Nat} {h : Heap} {a : Addr} (O : Old Z n0 h) (g : a = h.size) : n0 ≤ a := by rw [g, ← O.1]; exact O.2.1
theorem own_szO {Z : State} {n0 : Nat} {h : Heap} (O : Old Z n0 h) : n0 ≤ h.size := by rw [← O.1]; exact O.2.1
theorem own_sz {h h' : Heap} {a : Addr} (q : h.size ≤ h'.size) (g : a = h'.size) : h.size ≤ a := g ▸ q
theorem own_neO {Z : State} {n0 : Nat} {h : Heap} {a b : Addr} (q : a < Z.heap.size) (O : Old Z n0 h) (r : n0 ≤ b) : a ≠ b := O.ne q r
theorem own_sta {s : State} {args : Array Value} {C n d K : String} (h : (Jvm.Cond.exactly (.static C n d) K).value args s none s [] = some true) (hi : (Jvm.Cond.initializedFor C n d).before args s = true ∨ ((Jvm.Cond.initialized C).before args s = true ∧ (Jvm.Cond.laysStatic C n d).before args s = true)) : ∃ a, (Term.static C n d).eval args s none [] s = some (.ref a) ∧ Sta s s.heap C n d (.ref a) ∧ Exa s s.heap a K := by
  obtain ⟨a, ev⟩ := exa_v h
  exact ⟨a, ev, Sta.start ev hi, Exa.start ev h⟩
theorem own_fldI {s : State} {args : Array Value} {t : Term} {C n d : String} {v : Int32} {a : Addr} (ev : t.eval args s none [] s = some (.ref a)) (h : (Jvm.Cond.eq (.field t C n d) (.int v)).value args s none s [] = some true) : Fld s s.heap a C n d (.int v) := by
  apply Fld.start
  cases hf : s.fieldOf? a C n d with
  | none => simp [Cond.value, Term.eval, ev, hf] at h
  | some x => cases x <;> simp [Cond.value, Term.eval, ev, hf] at h; subst h; rfl
theorem own_fldN {s : State} {args : Array Value} {t : Term} {C n d : String} {a : Addr} (ev : t.eval args s none [] s = some (.ref a)) (h : (Jvm.Cond.eq (.field t C n d) .null).value args s none s [] = some true) : Fld s s.heap a C n d .null := by
  apply Fld.start
  have := null_v h
  rw [fld_at ev] at this
  exact this
theorem own_fldR {s : State} {args : Array Value} {t : Term} {C n d K : String} {a : Addr} (ev : t.eval args s none [] s = some (.ref a)) (h : (Jvm.Cond.exactly (.field t C n d) K).value args s none s [] = some true) : ∃ b, (Term.field t C n d).eval args s none [] s = some (.ref b) ∧ Fld s s.heap a C n d (.ref b) ∧ Exa s s.heap b K := by
  obtain ⟨b, e2⟩ := exa_v h
  refine ⟨b, e2, Fld.start ?_, Exa.start e2 h⟩
  rw [← fld_at ev]; exact e2
theorem own_split3 {v : Int32} (h1 : 0 ≤ v.toInt) (h2 : v.toInt < 3) : v = 0 ∨ v = 1 ∨ v = 2 := by
  have h : v.toInt = 0 ∨ v.toInt = 1 ∨ v.toInt = 2 := by omega
  rcases h with h | h | h
  · exact Or.inl (own_i32 h)
  · exact Or.inr (Or.inl (own_i32 h))
  · exact Or.inr (Or.inr (own_i32 h))
theorem own_m3 (x : Int32) : (x &&& 2147483647) % 3 = 0 ∨ (x &&& 2147483647) % 3 = 1 ∨ (x &&& 2147483647) % 3 = 2 := by
  have h := c_and x 2147483647 (by decide)
  have h2 := (c_irem (x &&& 2147483647) 3 3 (by decide)).1 h.1
  exact own_split3 (by omega) (by omega)
def Wd (Z : State) (a_SANDBOX : Addr) (a_ALL : Addr) (a_J2EE_CLIENT : Addr) (a_Access_ALL_element : Addr) (a_Access_J2EE_CLIENT_element : Addr) (mr : Addr) : Prop := Sta Z Z.heap "com/example/jetway/jetway/Access" "SANDBOX" "Lcom/example/jetway/jetway/Access;" (.ref a_SANDBOX) ∧ Exa Z Z.heap a_SANDBOX "com/example/jetway/jetway/Access" ∧ Fld Z Z.heap a_SANDBOX "java/lang/Enum" "ordinal" "I" (.int (0 : Int32)) ∧ Fld Z Z.heap a_SANDBOX "com/example/jetway/jetway/Access" "element" "Ljava/lang/String;" .null ∧ Sta Z Z.heap "com/example/jetway/jetway/Access" "ALL" "Lcom/example/jetway/jetway/Access;" (.ref a_ALL) ∧ Exa Z Z.heap a_ALL "com/example/jetway/jetway/Access" ∧ Sta Z Z.heap "com/example/jetway/jetway/Access" "J2EE_CLIENT" "Lcom/example/jetway/jetway/Access;" (.ref a_J2EE_CLIENT) ∧ Exa Z Z.heap a_J2EE_CLIENT "com/example/jetway/jetway/Access" ∧ Fld Z Z.heap a_ALL "java/lang/Enum" "ordinal" "I" (.int (2 : Int32)) ∧ Fld Z Z.heap a_J2EE_CLIENT "java/lang/Enum" "ordinal" "I" (.int (1 : Int32)) ∧ Fld Z Z.heap a_ALL "com/example/jetway/jetway/Access" "element" "Ljava/lang/String;" (.ref a_Access_ALL_element) ∧ Exa Z Z.heap a_Access_ALL_element "java/lang/String" ∧ Fld Z Z.heap a_J2EE_CLIENT "com/example/jetway/jetway/Access" "element" "Ljava/lang/String;" (.ref a_Access_J2EE_CLIENT_element) ∧ Exa Z Z.heap a_Access_J2EE_CLIENT_element "java/lang/String" ∧ (∃ c k, Z.vm.findClass "com/example/jetway/jetway/Access" = some c ∧ Z.vm.classes[c]? = some k ∧ k.mirror = some mr)
theorem w6 {Z : State} {a0 : Array Value} (hw : ∀ d ∈ tables_1, d.before a0 Z = true) : (Jvm.Cond.initialized "com/example/jetway/jetway/Access").before a0 Z = true := hw _ (List.mem_of_getElem? (i := 6) rfl)
theorem w7 {Z : State} {a0 : Array Value} (hw : ∀ d ∈ tables_1, d.before a0 Z = true) : (Jvm.Cond.laysStatic "com/example/jetway/jetway/Access" "SANDBOX" "Lcom/example/jetway/jetway/Access;").before a0 Z = true := hw _ (List.mem_of_getElem? (i := 7) rfl)
theorem w42 {Z : State} {a0 : Array Value} (hw : ∀ d ∈ tables_1, d.before a0 Z = true) : (Jvm.Cond.laysStatic "com/example/jetway/jetway/Access" "ALL" "Lcom/example/jetway/jetway/Access;").before a0 Z = true := hw _ (List.mem_of_getElem? (i := 42) rfl)
theorem w44 {Z : State} {a0 : Array Value} (hw : ∀ d ∈ tables_1, d.before a0 Z = true) : (Jvm.Cond.laysStatic "com/example/jetway/jetway/Access" "J2EE_CLIENT" "Lcom/example/jetway/jetway/Access;").before a0 Z = true := hw _ (List.mem_of_getElem? (i := 44) rfl)
theorem w0 {Z : State} {a0 : Array Value} (hw : ∀ d ∈ tables_1, d.before a0 Z = true) : (Jvm.Cond.constant "com/example/jetway/jetway/AccessSignerRequiredPinLaw" (19 : Nat) (2147483647 : Int32)).before a0 Z = true := hw _ (List.mem_of_getElem? (i := 0) rfl)
theorem w1 {Z : State} {a0 : Array Value} (hw : ∀ d ∈ tables_1, d.before a0 Z = true) : (Jvm.Cond.methodLink "com/example/jetway/jetway/AccessSignerRequiredPinLaw" (20 : Nat) ({ cls := "com/example/jetway/jetway/AccessSignerRequiredPinLaw", name := "pick", desc := "(I)Lcom/example/jetway/jetway/Access;" } : Jvm.MethodName)).before a0 Z = true := hw _ (List.mem_of_getElem? (i := 1) rfl)
theorem d1_0 : decode method_2_code 0 = .ok (.iload_n 0, 1) := by decide +kernel
theorem d1_1 : decode method_2_code 1 = .ok (.ifCond .ne 7, 3) := by decide +kernel
theorem d1_4 : decode method_2_code 4 = .ok (.getstatic 7, 3) := by decide +kernel
theorem w5 {Z : State} {a0 : Array Value} (hw : ∀ d ∈ tables_1, d.before a0 Z = true) : (Jvm.Cond.fieldLink "com/example/jetway/jetway/AccessSignerRequiredPinLaw" (7 : Nat) "com/example/jetway/jetway/Access" "SANDBOX" "Lcom/example/jetway/jetway/Access;").before a0 Z = true := hw _ (List.mem_of_getElem? (i := 5) rfl)
theorem d1_7 : decode method_2_code 7 = .ok (.areturn, 1) := by decide +kernel
theorem pn_4 : plainName "com/example/jetway/jetway/AccessSignerRequiredPinLaw" = true := by first | (simp [plainName, overriddenIn]; done) | decide +kernel
theorem w4 {Z : State} {a0 : Array Value} (hw : ∀ d ∈ tables_1, d.before a0 Z = true) : (Jvm.Cond.code ({ cls := "com/example/jetway/jetway/AccessSignerRequiredPinLaw", name := "pick", desc := "(I)Lcom/example/jetway/jetway/Access;" } : Jvm.MethodName) method_2_code (1 : Nat) (Option.some (Jvm.ClassFile.FieldType.object "com/example/jetway/jetway/Access"))).before a0 Z = true := hw _ (List.mem_of_getElem? (i := 4) rfl)
theorem w3 {Z : State} {a0 : Array Value} (hw : ∀ d ∈ tables_1, d.before a0 Z = true) : (Jvm.Cond.initialized "com/example/jetway/jetway/AccessSignerRequiredPinLaw").before a0 Z = true := hw _ (List.mem_of_getElem? (i := 3) rfl)
theorem pd_5 : parseMethodDescriptor "(I)Lcom/example/jetway/jetway/Access;" = some ⟨[.int], some (.object "com/example/jetway/jetway/Access")⟩ := by decide +kernel
theorem w2 {Z : State} {a0 : Array Value} (hw : ∀ d ∈ tables_1, d.before a0 Z = true) : (Jvm.Cond.static ({ cls := "com/example/jetway/jetway/AccessSignerRequiredPinLaw", name := "pick", desc := "(I)Lcom/example/jetway/jetway/Access;" } : Jvm.MethodName)).before a0 Z = true := hw _ (List.mem_of_getElem? (i := 2) rfl)
theorem w8 {Z : State} {a0 : Array Value} (hw : ∀ d ∈ tables_1, d.before a0 Z = true) : (Jvm.Cond.methodLink "com/example/jetway/jetway/AccessSignerRequiredPinLaw" (26 : Nat) ({ cls := "com/example/jetway/jetway/Access", name := "signerRequired", desc := "()Z" } : Jvm.MethodName)).before a0 Z = true := hw _ (List.mem_of_getElem? (i := 8) rfl)
theorem d2_0 : decode prog_1_method_7_code 0 = .ok (.aload_n 0, 1) := by decide +kernel
theorem d2_1 : decode prog_1_method_7_code 1 = .ok (.getstatic 3, 3) := by decide +kernel
theorem w13 {Z : State} {a0 : Array Value} (hw : ∀ d ∈ tables_1, d.before a0 Z = true) : (Jvm.Cond.fieldLink "com/example/jetway/jetway/Access" (3 : Nat) "com/example/jetway/jetway/Access" "SANDBOX" "Lcom/example/jetway/jetway/Access;").before a0 Z = true := hw _ (List.mem_of_getElem? (i := 13) rfl)
theorem d2_4 : decode prog_1_method_7_code 4 = .ok (.if_acmp .eq 7, 3) := by decide +kernel
theorem d2_11 : decode prog_1_method_7_code 11 = .ok (.iconst 0, 1) := by decide +kernel
theorem d2_12 : decode prog_1_method_7_code 12 = .ok (.ireturn, 1) := by decide +kernel
theorem pn_11 : plainName "com/example/jetway/jetway/Access" = true := by first | (simp [plainName, overriddenIn]; done) | decide +kernel
theorem w12 {Z : State} {a0 : Array Value} (hw : ∀ d ∈ tables_1, d.before a0 Z = true) : (Jvm.Cond.code ({ cls := "com/example/jetway/jetway/Access", name := "signerRequired", desc := "()Z" } : Jvm.MethodName) prog_1_method_7_code (1 : Nat) (Option.some Jvm.ClassFile.FieldType.boolean)).before a0 Z = true := hw _ (List.mem_of_getElem? (i := 12) rfl)
theorem pd_12 : parseMethodDescriptor "()Z" = some ⟨[], some .boolean⟩ := by decide +kernel
theorem w9 {Z : State} {a0 : Array Value} (hw : ∀ d ∈ tables_1, d.before a0 Z = true) : (Jvm.Cond.declares ({ cls := "com/example/jetway/jetway/Access", name := "signerRequired", desc := "()Z" } : Jvm.MethodName)).before a0 Z = true := hw _ (List.mem_of_getElem? (i := 9) rfl)
theorem w11 {Z : State} {a0 : Array Value} (hw : ∀ d ∈ tables_1, d.before a0 Z = true) : (Jvm.Cond.selects "com/example/jetway/jetway/Access" ({ cls := "com/example/jetway/jetway/Access", name := "signerRequired", desc := "()Z" } : Jvm.MethodName) ({ cls := "com/example/jetway/jetway/Access", name := "signerRequired", desc := "()Z" } : Jvm.MethodName)).before a0 Z = true := hw _ (List.mem_of_getElem? (i := 11) rfl)
theorem w10 {Z : State} {a0 : Array Value} (hw : ∀ d ∈ tables_1, d.before a0 Z = true) : (Jvm.Cond.instanceMethod ({ cls := "com/example/jetway/jetway/Access", name := "signerRequired", desc := "()Z" } : Jvm.MethodName)).before a0 Z = true := hw _ (List.mem_of_getElem? (i := 10) rfl)
theorem w14 {Z : State} {a0 : Array Value} (hw : ∀ d ∈ tables_1, d.before a0 Z = true) : (Jvm.Cond.methodLink "com/example/jetway/jetway/AccessSignerRequiredPinLaw" (30 : Nat) ({ cls := "com/example/jetway/jetway/Access", name := "max", desc := "(Lcom/example/jetway/jetway/Access;)Lcom/example/jetway/jetway/Access;" } : Jvm.MethodName)).before a0 Z = true := hw _ (List.mem_of_getElem? (i := 14) rfl)
theorem d3_0 : decode prog_1_method_8_code 0 = .ok (.aload_n 0, 1) := by decide +kernel
theorem d3_1 : decode prog_1_method_8_code 1 = .ok (.aload_n 1, 1) := by decide +kernel
theorem d3_2 : decode prog_1_method_8_code 2 = .ok (.invokevirtual 42, 3) := by decide +kernel
theorem w19 {Z : State} {a0 : Array Value} (hw : ∀ d ∈ tables_1, d.before a0 Z = true) : (Jvm.Cond.methodLink "com/example/jetway/jetway/Access" (42 : Nat) ({ cls := "com/example/jetway/jetway/Access", name := "compareTo", desc := "(Ljava/lang/Enum;)I" } : Jvm.MethodName)).before a0 Z = true := hw _ (List.mem_of_getElem? (i := 19) rfl)
theorem d4_0 : decode jdk_37_method_8_code 0 = .ok (.aload_n 1, 1) := by decide +kernel
theorem d4_1 : decode jdk_37_method_8_code 1 = .ok (.astore_n 2, 1) := by decide +kernel
theorem d4_2 : decode jdk_37_method_8_code 2 = .ok (.aload_n 0, 1) := by decide +kernel
theorem d4_3 : decode jdk_37_method_8_code 3 = .ok (.astore_n 3, 1) := by decide +kernel
theorem d4_4 : decode jdk_37_method_8_code 4 = .ok (.aload_n 3, 1) := by decide +kernel
theorem d4_5 : decode jdk_37_method_8_code 5 = .ok (.invokevirtual 29, 3) := by decide +kernel
theorem w26 {Z : State} {a0 : Array Value} (hw : ∀ d ∈ tables_1, d.before a0 Z = true) : (Jvm.Cond.methodLink "java/lang/Enum" (29 : Nat) ({ cls := "java/lang/Object", name := "getClass", desc := "()Ljava/lang/Class;" } : Jvm.MethodName)).before a0 Z = true := hw _ (List.mem_of_getElem? (i := 26) rfl)
theorem w27 {Z : State} {a0 : Array Value} (hw : ∀ d ∈ tables_1, d.before a0 Z = true) : (Jvm.Cond.declares ({ cls := "java/lang/Object", name := "getClass", desc := "()Ljava/lang/Class;" } : Jvm.MethodName)).before a0 Z = true := hw _ (List.mem_of_getElem? (i := 27) rfl)
theorem w29 {Z : State} {a0 : Array Value} (hw : ∀ d ∈ tables_1, d.before a0 Z = true) : (Jvm.Cond.selects "com/example/jetway/jetway/Access" ({ cls := "java/lang/Object", name := "getClass", desc := "()Ljava/lang/Class;" } : Jvm.MethodName) ({ cls := "java/lang/Object", name := "getClass", desc := "()Ljava/lang/Class;" } : Jvm.MethodName)).before a0 Z = true := hw _ (List.mem_of_getElem? (i := 29) rfl)
theorem w28 {Z : State} {a0 : Array Value} (hw : ∀ d ∈ tables_1, d.before a0 Z = true) : (Jvm.Cond.instanceMethod ({ cls := "java/lang/Object", name := "getClass", desc := "()Ljava/lang/Class;" } : Jvm.MethodName)).before a0 Z = true := hw _ (List.mem_of_getElem? (i := 28) rfl)
theorem w30 {Z : State} {a0 : Array Value} (hw : ∀ d ∈ tables_1, d.before a0 Z = true) : (Jvm.Cond.native ({ cls := "java/lang/Object", name := "getClass", desc := "()Ljava/lang/Class;" } : Jvm.MethodName)).before a0 Z = true := hw _ (List.mem_of_getElem? (i := 30) rfl)
theorem d4_8 : decode jdk_37_method_8_code 8 = .ok (.aload_n 2, 1) := by decide +kernel
theorem d4_9 : decode jdk_37_method_8_code 9 = .ok (.invokevirtual 29, 3) := by decide +kernel
theorem d4_12 : decode jdk_37_method_8_code 12 = .ok (.if_acmp .eq 22, 3) := by decide +kernel
theorem d4_34 : decode jdk_37_method_8_code 34 = .ok (.aload_n 3, 1) := by decide +kernel
theorem d4_35 : decode jdk_37_method_8_code 35 = .ok (.getfield 7, 3) := by decide +kernel
theorem w32 {Z : State} {a0 : Array Value} (hw : ∀ d ∈ tables_1, d.before a0 Z = true) : (Jvm.Cond.fieldLink "java/lang/Enum" (7 : Nat) "java/lang/Enum" "ordinal" "I").before a0 Z = true := hw _ (List.mem_of_getElem? (i := 32) rfl)
theorem d4_38 : decode jdk_37_method_8_code 38 = .ok (.aload_n 2, 1) := by decide +kernel
theorem d4_39 : decode jdk_37_method_8_code 39 = .ok (.getfield 7, 3) := by decide +kernel
theorem d4_42 : decode jdk_37_method_8_code 42 = .ok (.isub, 1) := by decide +kernel
theorem d4_43 : decode jdk_37_method_8_code 43 = .ok (.ireturn, 1) := by decide +kernel
theorem pn_31 : plainName "java/lang/Enum" = true := by first | (simp [plainName, overriddenIn]; done) | decide +kernel
theorem w25 {Z : State} {a0 : Array Value} (hw : ∀ d ∈ tables_1, d.before a0 Z = true) : (Jvm.Cond.code ({ cls := "java/lang/Enum", name := "compareTo", desc := "(Ljava/lang/Enum;)I" } : Jvm.MethodName) jdk_37_method_8_code (4 : Nat) (Option.some Jvm.ClassFile.FieldType.int)).before a0 Z = true := hw _ (List.mem_of_getElem? (i := 25) rfl)
theorem w24 {Z : State} {a0 : Array Value} (hw : ∀ d ∈ tables_1, d.before a0 Z = true) : (Jvm.Cond.initialized "java/lang/Enum").before a0 Z = true := hw _ (List.mem_of_getElem? (i := 24) rfl)
theorem pd_32 : parseMethodDescriptor "(Ljava/lang/Enum;)I" = some ⟨[(.object "java/lang/Enum")], some .int⟩ := by decide +kernel
theorem w20 {Z : State} {a0 : Array Value} (hw : ∀ d ∈ tables_1, d.before a0 Z = true) : (Jvm.Cond.sameMethod "com/example/jetway/jetway/Access" "java/lang/Enum" "compareTo" "(Ljava/lang/Enum;)I").before a0 Z = true := hw _ (List.mem_of_getElem? (i := 20) rfl)
theorem w21 {Z : State} {a0 : Array Value} (hw : ∀ d ∈ tables_1, d.before a0 Z = true) : (Jvm.Cond.declares ({ cls := "java/lang/Enum", name := "compareTo", desc := "(Ljava/lang/Enum;)I" } : Jvm.MethodName)).before a0 Z = true := hw _ (List.mem_of_getElem? (i := 21) rfl)
theorem w23 {Z : State} {a0 : Array Value} (hw : ∀ d ∈ tables_1, d.before a0 Z = true) : (Jvm.Cond.selects "com/example/jetway/jetway/Access" ({ cls := "com/example/jetway/jetway/Access", name := "compareTo", desc := "(Ljava/lang/Enum;)I" } : Jvm.MethodName) ({ cls := "java/lang/Enum", name := "compareTo", desc := "(Ljava/lang/Enum;)I" } : Jvm.MethodName)).before a0 Z = true := hw _ (List.mem_of_getElem? (i := 23) rfl)
theorem w22 {Z : State} {a0 : Array Value} (hw : ∀ d ∈ tables_1, d.before a0 Z = true) : (Jvm.Cond.instanceMethod ({ cls := "java/lang/Enum", name := "compareTo", desc := "(Ljava/lang/Enum;)I" } : Jvm.MethodName)).before a0 Z = true := hw _ (List.mem_of_getElem? (i := 22) rfl)
theorem d3_5 : decode prog_1_method_8_code 5 = .ok (.ifCond .lt 7, 3) := by decide +kernel
theorem d3_8 : decode prog_1_method_8_code 8 = .ok (.aload_n 0, 1) := by decide +kernel
theorem d3_9 : decode prog_1_method_8_code 9 = .ok (.goto 4, 3) := by decide +kernel
theorem d3_13 : decode prog_1_method_8_code 13 = .ok (.areturn, 1) := by decide +kernel
theorem w18 {Z : State} {a0 : Array Value} (hw : ∀ d ∈ tables_1, d.before a0 Z = true) : (Jvm.Cond.code ({ cls := "com/example/jetway/jetway/Access", name := "max", desc := "(Lcom/example/jetway/jetway/Access;)Lcom/example/jetway/jetway/Access;" } : Jvm.MethodName) prog_1_method_8_code (2 : Nat) (Option.some (Jvm.ClassFile.FieldType.object "com/example/jetway/jetway/Access"))).before a0 Z = true := hw _ (List.mem_of_getElem? (i := 18) rfl)
theorem pd_37 : parseMethodDescriptor "(Lcom/example/jetway/jetway/Access;)Lcom/example/jetway/jetway/Access;" = some ⟨[(.object "com/example/jetway/jetway/Access")], some (.object "com/example/jetway/jetway/Access")⟩ := by decide +kernel
theorem w15 {Z : State} {a0 : Array Value} (hw : ∀ d ∈ tables_1, d.before a0 Z = true) : (Jvm.Cond.declares ({ cls := "com/example/jetway/jetway/Access", name := "max", desc := "(Lcom/example/jetway/jetway/Access;)Lcom/example/jetway/jetway/Access;" } : Jvm.MethodName)).before a0 Z = true := hw _ (List.mem_of_getElem? (i := 15) rfl)
theorem w17 {Z : State} {a0 : Array Value} (hw : ∀ d ∈ tables_1, d.before a0 Z = true) : (Jvm.Cond.selects "com/example/jetway/jetway/Access" ({ cls := "com/example/jetway/jetway/Access", name := "max", desc := "(Lcom/example/jetway/jetway/Access;)Lcom/example/jetway/jetway/Access;" } : Jvm.MethodName) ({ cls := "com/example/jetway/jetway/Access", name := "max", desc := "(Lcom/example/jetway/jetway/Access;)Lcom/example/jetway/jetway/Access;" } : Jvm.MethodName)).before a0 Z = true := hw _ (List.mem_of_getElem? (i := 17) rfl)
theorem w16 {Z : State} {a0 : Array Value} (hw : ∀ d ∈ tables_1, d.before a0 Z = true) : (Jvm.Cond.instanceMethod ({ cls := "com/example/jetway/jetway/Access", name := "max", desc := "(Lcom/example/jetway/jetway/Access;)Lcom/example/jetway/jetway/Access;" } : Jvm.MethodName)).before a0 Z = true := hw _ (List.mem_of_getElem? (i := 16) rfl)
theorem w34 {Z : State} {a0 : Array Value} (hw : ∀ d ∈ tables_1, d.before a0 Z = true) : (Jvm.Cond.methodLink "com/example/jetway/jetway/AccessSignerRequiredPinLaw" (34 : Nat) ({ cls := "com/example/jetway/jetway/Access", name := "element", desc := "()Ljava/lang/String;" } : Jvm.MethodName)).before a0 Z = true := hw _ (List.mem_of_getElem? (i := 34) rfl)
theorem d5_0 : decode prog_1_method_4_code 0 = .ok (.aload_n 0, 1) := by decide +kernel
theorem d5_1 : decode prog_1_method_4_code 1 = .ok (.getfield 32, 3) := by decide +kernel
theorem w39 {Z : State} {a0 : Array Value} (hw : ∀ d ∈ tables_1, d.before a0 Z = true) : (Jvm.Cond.fieldLink "com/example/jetway/jetway/Access" (32 : Nat) "com/example/jetway/jetway/Access" "element" "Ljava/lang/String;").before a0 Z = true := hw _ (List.mem_of_getElem? (i := 39) rfl)
theorem d5_4 : decode prog_1_method_4_code 4 = .ok (.areturn, 1) := by decide +kernel
theorem w38 {Z : State} {a0 : Array Value} (hw : ∀ d ∈ tables_1, d.before a0 Z = true) : (Jvm.Cond.code ({ cls := "com/example/jetway/jetway/Access", name := "element", desc := "()Ljava/lang/String;" } : Jvm.MethodName) prog_1_method_4_code (1 : Nat) (Option.some (Jvm.ClassFile.FieldType.object "java/lang/String"))).before a0 Z = true := hw _ (List.mem_of_getElem? (i := 38) rfl)
theorem pd_41 : parseMethodDescriptor "()Ljava/lang/String;" = some ⟨[], some (.object "java/lang/String")⟩ := by decide +kernel
theorem w35 {Z : State} {a0 : Array Value} (hw : ∀ d ∈ tables_1, d.before a0 Z = true) : (Jvm.Cond.declares ({ cls := "com/example/jetway/jetway/Access", name := "element", desc := "()Ljava/lang/String;" } : Jvm.MethodName)).before a0 Z = true := hw _ (List.mem_of_getElem? (i := 35) rfl)
theorem w37 {Z : State} {a0 : Array Value} (hw : ∀ d ∈ tables_1, d.before a0 Z = true) : (Jvm.Cond.selects "com/example/jetway/jetway/Access" ({ cls := "com/example/jetway/jetway/Access", name := "element", desc := "()Ljava/lang/String;" } : Jvm.MethodName) ({ cls := "com/example/jetway/jetway/Access", name := "element", desc := "()Ljava/lang/String;" } : Jvm.MethodName)).before a0 Z = true := hw _ (List.mem_of_getElem? (i := 37) rfl)
theorem w36 {Z : State} {a0 : Array Value} (hw : ∀ d ∈ tables_1, d.before a0 Z = true) : (Jvm.Cond.instanceMethod ({ cls := "com/example/jetway/jetway/Access", name := "element", desc := "()Ljava/lang/String;" } : Jvm.MethodName)).before a0 Z = true := hw _ (List.mem_of_getElem? (i := 36) rfl)
theorem d1_8 : decode method_2_code 8 = .ok (.iload_n 0, 1) := by decide +kernel
theorem d1_9 : decode method_2_code 9 = .ok (.iconst 1, 1) := by decide +kernel
theorem d1_10 : decode method_2_code 10 = .ok (.if_icmp .ne 7, 3) := by decide +kernel
theorem d1_13 : decode method_2_code 13 = .ok (.getstatic 13, 3) := by decide +kernel
theorem w43 {Z : State} {a0 : Array Value} (hw : ∀ d ∈ tables_1, d.before a0 Z = true) : (Jvm.Cond.fieldLink "com/example/jetway/jetway/AccessSignerRequiredPinLaw" (13 : Nat) "com/example/jetway/jetway/Access" "J2EE_CLIENT" "Lcom/example/jetway/jetway/Access;").before a0 Z = true := hw _ (List.mem_of_getElem? (i := 43) rfl)
theorem d1_16 : decode method_2_code 16 = .ok (.areturn, 1) := by decide +kernel
theorem d2_7 : decode prog_1_method_7_code 7 = .ok (.iconst 1, 1) := by decide +kernel
theorem d2_8 : decode prog_1_method_7_code 8 = .ok (.goto 4, 3) := by decide +kernel
theorem d3_12 : decode prog_1_method_8_code 12 = .ok (.aload_n 1, 1) := by decide +kernel
theorem d1_17 : decode method_2_code 17 = .ok (.getstatic 16, 3) := by decide +kernel
theorem w41 {Z : State} {a0 : Array Value} (hw : ∀ d ∈ tables_1, d.before a0 Z = true) : (Jvm.Cond.fieldLink "com/example/jetway/jetway/AccessSignerRequiredPinLaw" (16 : Nat) "com/example/jetway/jetway/Access" "ALL" "Lcom/example/jetway/jetway/Access;").before a0 Z = true := hw _ (List.mem_of_getElem? (i := 41) rfl)
theorem d1_20 : decode method_2_code 20 = .ok (.areturn, 1) := by decide +kernel
set_option maxRecDepth 65536 in
set_option maxHeartbeats 40000000 in
theorem rm_pick_0 {l : Launch} {Z : State} {a0 : Array Value} (hw : ∀ d ∈ tables_1, d.before a0 Z = true) {a_SANDBOX : Addr} {a_ALL : Addr} {a_J2EE_CLIENT : Addr} {a_Access_ALL_element : Addr} {a_Access_J2EE_CLIENT_element : Addr} {mr : Addr} {h0 : Heap} {n0 : Nat} (O : Old Z n0 h0) (W : Wd Z a_SANDBOX a_ALL a_J2EE_CLIENT a_Access_ALL_element a_Access_J2EE_CLIENT_element mr) :
    Met1 l Z (⟨"com/example/jetway/jetway/AccessSignerRequiredPinLaw", "pick", "(I)Lcom/example/jetway/jetway/Access;"⟩ : MethodName) method_2_code 1 (some (.object "com/example/jetway/jetway/Access")) ({ frames := 0, cells := 0, slots := 0, locals := 0 } : Room) #[(.int (0 : Int32))] h0 n0 (fun v h => v = (.ref a_SANDBOX) ∧ h0 = h) := by
  refine met_of (L := #[.val (.int (0 : Int32))]) (plainFor_of_name pn_4) (fun m => by first | (simp [entryFrame, mkF, argsToLocals, Value.category]; done) | rfl) ?_
  intro p e s m below meth c T C X
  change Cx p s m meth c Z "com/example/jetway/jetway/AccessSignerRequiredPinLaw" method_2_code 1 (some (.object "com/example/jetway/jetway/Access")) "pick" at C
  refine g_iloadN C X d1_0 (q := 1) rfl rfl ?_
  refine g_ifN C X d1_1 (q := 4) rfl (by decide) ?_
  refine g_getS C X (host := "") (Or.inl (w5 hw)) Via.refl (W.1.ext O.2) d1_4 (q := 7) rfl ?_
  intro T1 X2
  exact g_retA C X2 rfl rfl d1_7 (by decide) (by decide) ⟨_, rfl, rfl, rfl⟩
set_option maxRecDepth 65536 in
set_option maxHeartbeats 40000000 in
theorem rm_sr_0 {l : Launch} {Z : State} {a0 : Array Value} (hw : ∀ d ∈ tables_1, d.before a0 Z = true) {a_SANDBOX : Addr} {a_ALL : Addr} {a_J2EE_CLIENT : Addr} {a_Access_ALL_element : Addr} {a_Access_J2EE_CLIENT_element : Addr} {mr : Addr} {h0 : Heap} {n0 : Nat} (O : Old Z n0 h0) (W : Wd Z a_SANDBOX a_ALL a_J2EE_CLIENT a_Access_ALL_element a_Access_J2EE_CLIENT_element mr) :
    Met1 l Z (⟨"com/example/jetway/jetway/Access", "signerRequired", "()Z"⟩ : MethodName) prog_1_method_7_code 1 (some .boolean) ({ frames := 0, cells := 0, slots := 0, locals := 0 } : Room) #[(.ref a_SANDBOX)] h0 n0 (fun v h => v = (.int (0 : Int32)) ∧ h0 = h) := by
  refine met_of (L := #[.val (.ref a_SANDBOX)]) (plainFor_of_name pn_11) (fun m => by first | (simp [entryFrame, mkF, argsToLocals, Value.category]; done) | rfl) ?_
  intro p e s m below meth c T C X
  change Cx p s m meth c Z "com/example/jetway/jetway/Access" prog_1_method_7_code 1 (some .boolean) "signerRequired" at C
  refine g_aloadN C X d2_0 (q := 1) rfl rfl rfl ?_
  refine g_getS C X (host := "") (Or.inl (w13 hw)) Via.refl (W.1.ext O.2) d2_1 (q := 4) rfl ?_
  intro T1 X2
  refine g_acmp C X2 d2_4 rfl rfl (same := true) (decide_eq_true rfl) (by decide) (q := 11) (by decide) ?_
  refine g_iconst C X2 d2_11 (q := 12) rfl (z := (0 : Int32)) rfl ?_
  exact g_retN C X2 (Or.inl rfl) (z' := 0) (by decide) d2_12 (by decide) (by decide) ⟨_, rfl, rfl, rfl⟩
set_option maxRecDepth 65536 in
set_option maxHeartbeats 40000000 in
theorem rm_cmp_0 {l : Launch} {Z : State} {a0 : Array Value} (hw : ∀ d ∈ tables_1, d.before a0 Z = true) {a_SANDBOX : Addr} {a_ALL : Addr} {a_J2EE_CLIENT : Addr} {a_Access_ALL_element : Addr} {a_Access_J2EE_CLIENT_element : Addr} {mr : Addr} {h0 : Heap} {n0 : Nat} (O : Old Z n0 h0) (W : Wd Z a_SANDBOX a_ALL a_J2EE_CLIENT a_Access_ALL_element a_Access_J2EE_CLIENT_element mr) :
    Met1 l Z (⟨"java/lang/Enum", "compareTo", "(Ljava/lang/Enum;)I"⟩ : MethodName) jdk_37_method_8_code 4 (some .int) ({ frames := 1, cells := 0, slots := 0, locals := 41 } : Room) #[(.ref a_SANDBOX), (.ref a_SANDBOX)] h0 n0 (fun v h => v = (.int (0 : Int32)) ∧ h0 = h) := by
  refine met_of (L := #[.val (.ref a_SANDBOX), .val (.ref a_SANDBOX), .unset, .unset]) (plainFor_of_name pn_31) (fun m => by first | (simp [entryFrame, mkF, argsToLocals, Value.category]; done) | rfl) ?_
  intro p e s m below meth c T C X
  change Cx p s m meth c Z "java/lang/Enum" jdk_37_method_8_code 4 (some .int) "compareTo" at C
  refine g_aloadN C X d4_0 (q := 1) rfl rfl rfl ?_
  refine g_astoreN C X d4_1 (q := 2) rfl rfl (L' := #[.val (.ref a_SANDBOX), .val (.ref a_SANDBOX), .val (.ref a_SANDBOX), .unset]) rfl ?_
  refine g_aloadN C X d4_2 (q := 3) rfl rfl rfl ?_
  refine g_astoreN C X d4_3 (q := 4) rfl rfl (L' := #[.val (.ref a_SANDBOX), .val (.ref a_SANDBOX), .val (.ref a_SANDBOX), .val (.ref a_SANDBOX)]) rfl ?_
  refine g_aloadN C X d4_4 (q := 5) rfl rfl rfl ?_
  refine g_getClass C X (w26 hw) (w27 hw) (w29 hw) (w28 hw) (w30 hw) (W.2.1.ext O.2) W.2.2.2.2.2.2.2.2.2.2.2.2.2.2 rfl d4_5 (q := 8) rfl (by decide) (Nat.le_of_ble_eq_true rfl) ?_
  intro T1 X2
  refine g_aloadN C X2 d4_8 (q := 9) rfl rfl rfl ?_
  refine g_getClass C X2 (w26 hw) (w27 hw) (w29 hw) (w28 hw) (w30 hw) (W.2.1.ext O.2) W.2.2.2.2.2.2.2.2.2.2.2.2.2.2 rfl d4_9 (q := 12) rfl (by decide) (Nat.le_of_ble_eq_true rfl) ?_
  intro T3 X4
  refine g_acmp C X4 d4_12 rfl rfl (same := true) (decide_eq_true rfl) (by decide) (q := 34) (by decide) ?_
  refine g_aloadN C X4 d4_34 (q := 35) rfl rfl rfl ?_
  refine g_getF C X4 (host := "") (Or.inl (w32 hw)) Via.refl (W.2.2.1.ext O.2) d4_35 (q := 38) rfl ?_
  intro T5 X6
  refine g_aloadN C X6 d4_38 (q := 39) rfl rfl rfl ?_
  refine g_getF C X6 (host := "") (Or.inl (w32 hw)) Via.refl (W.2.2.1.ext O.2) d4_39 (q := 42) rfl ?_
  intro T7 X8
  refine g_isub C X8 d4_42 (q := 43) rfl (z := (0 : Int32)) (by decide) ?_
  exact g_retI C X8 d4_43 (by decide) (by decide) ⟨_, rfl, rfl, rfl⟩
set_option maxRecDepth 65536 in
set_option maxHeartbeats 40000000 in
theorem rm_max_0 {l : Launch} {Z : State} {a0 : Array Value} (hw : ∀ d ∈ tables_1, d.before a0 Z = true) {a_SANDBOX : Addr} {a_ALL : Addr} {a_J2EE_CLIENT : Addr} {a_Access_ALL_element : Addr} {a_Access_J2EE_CLIENT_element : Addr} {mr : Addr} {h0 : Heap} {n0 : Nat} (O : Old Z n0 h0) (W : Wd Z a_SANDBOX a_ALL a_J2EE_CLIENT a_Access_ALL_element a_Access_J2EE_CLIENT_element mr) :
    Met1 l Z (⟨"com/example/jetway/jetway/Access", "max", "(Lcom/example/jetway/jetway/Access;)Lcom/example/jetway/jetway/Access;"⟩ : MethodName) prog_1_method_8_code 2 (some (.object "com/example/jetway/jetway/Access")) ({ frames := 2, cells := 0, slots := 0, locals := 56 } : Room) #[(.ref a_SANDBOX), (.ref a_SANDBOX)] h0 n0 (fun v h => v = (.ref a_SANDBOX) ∧ h0 = h) := by
  refine met_of (L := #[.val (.ref a_SANDBOX), .val (.ref a_SANDBOX)]) (plainFor_of_name pn_11) (fun m => by first | (simp [entryFrame, mkF, argsToLocals, Value.category]; done) | rfl) ?_
  intro p e s m below meth c T C X
  change Cx p s m meth c Z "com/example/jetway/jetway/Access" prog_1_method_8_code 2 (some (.object "com/example/jetway/jetway/Access")) "max" at C
  refine g_aloadN C X d3_0 (q := 1) rfl rfl rfl ?_
  refine g_aloadN C X d3_1 (q := 2) rfl rfl rfl ?_
  refine g_callU1 C X (y := (⟨"com/example/jetway/jetway/Access", "compareTo", "(Ljava/lang/Enum;)I"⟩ : MethodName)) (z := (⟨"java/lang/Enum", "compareTo", "(Ljava/lang/Enum;)I"⟩ : MethodName)) (a := a_SANDBOX) (owner := "java/lang/Enum") (by decide) (w19 hw) (w20 hw) (w21 hw) (w23 hw) (w22 hw) (W.2.1.ext O.2) (w25 hw) (w24 hw) (rm_cmp_0 hw O W) (W := 0) (by decide) (by decide) (k' := 0) rfl (n' := 0) rfl (by decide) (by decide) rfl pd_32 (argsL := [(.ref a_SANDBOX)]) rfl (rest := []) rfl rfl rfl d3_2 (q := 5) rfl ?_
  rintro _ T1 _ X2 ⟨rfl, rfl⟩
  refine g_ifN C X2 d3_5 (q := 8) rfl (by decide) ?_
  refine g_aloadN C X2 d3_8 (q := 9) rfl rfl rfl ?_
  refine g_goto C X2 d3_9 (by decide) (q := 13) (by decide) ?_
  exact g_retA C X2 rfl rfl d3_13 (by decide) (by decide) ⟨_, rfl, rfl, rfl⟩
set_option maxRecDepth 65536 in
set_option maxHeartbeats 40000000 in
theorem rm_el_0 {l : Launch} {Z : State} {a0 : Array Value} (hw : ∀ d ∈ tables_1, d.before a0 Z = true) {a_SANDBOX : Addr} {a_ALL : Addr} {a_J2EE_CLIENT : Addr} {a_Access_ALL_element : Addr} {a_Access_J2EE_CLIENT_element : Addr} {mr : Addr} {h0 : Heap} {n0 : Nat} (O : Old Z n0 h0) (W : Wd Z a_SANDBOX a_ALL a_J2EE_CLIENT a_Access_ALL_element a_Access_J2EE_CLIENT_element mr) :
    Met1 l Z (⟨"com/example/jetway/jetway/Access", "element", "()Ljava/lang/String;"⟩ : MethodName) prog_1_method_4_code 1 (some (.object "java/lang/String")) ({ frames := 0, cells := 0, slots := 0, locals := 0 } : Room) #[(.ref a_SANDBOX)] h0 n0 (fun v h => v = .null ∧ h0 = h) := by
  refine met_of (L := #[.val (.ref a_SANDBOX)]) (plainFor_of_name pn_11) (fun m => by first | (simp [entryFrame, mkF, argsToLocals, Value.category]; done) | rfl) ?_
  intro p e s m below meth c T C X
  change Cx p s m meth c Z "com/example/jetway/jetway/Access" prog_1_method_4_code 1 (some (.object "java/lang/String")) "element" at C
  refine g_aloadN C X d5_0 (q := 1) rfl rfl rfl ?_
  refine g_getF C X (host := "") (Or.inl (w39 hw)) Via.refl (W.2.2.2.1.ext O.2) d5_1 (q := 4) rfl ?_
  intro T1 X2
  exact g_retA C X2 rfl rfl d5_4 (by decide) (by decide) ⟨_, rfl, rfl, rfl⟩
set_option maxRecDepth 65536 in
set_option maxHeartbeats 40000000 in
theorem rm_pick_1 {l : Launch} {Z : State} {a0 : Array Value} (hw : ∀ d ∈ tables_1, d.before a0 Z = true) {a_SANDBOX : Addr} {a_ALL : Addr} {a_J2EE_CLIENT : Addr} {a_Access_ALL_element : Addr} {a_Access_J2EE_CLIENT_element : Addr} {mr : Addr} {h0 : Heap} {n0 : Nat} (O : Old Z n0 h0) (W : Wd Z a_SANDBOX a_ALL a_J2EE_CLIENT a_Access_ALL_element a_Access_J2EE_CLIENT_element mr) :
    Met1 l Z (⟨"com/example/jetway/jetway/AccessSignerRequiredPinLaw", "pick", "(I)Lcom/example/jetway/jetway/Access;"⟩ : MethodName) method_2_code 1 (some (.object "com/example/jetway/jetway/Access")) ({ frames := 0, cells := 0, slots := 0, locals := 0 } : Room) #[(.int (1 : Int32))] h0 n0 (fun v h => v = (.ref a_J2EE_CLIENT) ∧ h0 = h) := by
  refine met_of (L := #[.val (.int (1 : Int32))]) (plainFor_of_name pn_4) (fun m => by first | (simp [entryFrame, mkF, argsToLocals, Value.category]; done) | rfl) ?_
  intro p e s m below meth c T C X
  change Cx p s m meth c Z "com/example/jetway/jetway/AccessSignerRequiredPinLaw" method_2_code 1 (some (.object "com/example/jetway/jetway/Access")) "pick" at C
  refine g_iloadN C X d1_0 (q := 1) rfl rfl ?_
  refine g_ifY C X d1_1 (by decide) (q := 8) (by decide) (by decide) ?_
  refine g_iloadN C X d1_8 (q := 9) rfl rfl ?_
  refine g_iconst C X d1_9 (q := 10) rfl (z := (1 : Int32)) rfl ?_
  refine g_icN C X d1_10 (q := 13) rfl (by decide) ?_
  refine g_getS C X (host := "") (Or.inl (w43 hw)) Via.refl (W.2.2.2.2.2.2.1.ext O.2) d1_13 (q := 16) rfl ?_
  intro T1 X2
  exact g_retA C X2 rfl rfl d1_16 (by decide) (by decide) ⟨_, rfl, rfl, rfl⟩
set_option maxRecDepth 65536 in
set_option maxHeartbeats 40000000 in
theorem rm_sr_1 {l : Launch} {Z : State} {a0 : Array Value} (hw : ∀ d ∈ tables_1, d.before a0 Z = true) {a_SANDBOX : Addr} {a_ALL : Addr} {a_J2EE_CLIENT : Addr} {a_Access_ALL_element : Addr} {a_Access_J2EE_CLIENT_element : Addr} {mr : Addr} {h0 : Heap} {n0 : Nat} (O : Old Z n0 h0) (W : Wd Z a_SANDBOX a_ALL a_J2EE_CLIENT a_Access_ALL_element a_Access_J2EE_CLIENT_element mr) :
    Met1 l Z (⟨"com/example/jetway/jetway/Access", "signerRequired", "()Z"⟩ : MethodName) prog_1_method_7_code 1 (some .boolean) ({ frames := 0, cells := 0, slots := 0, locals := 0 } : Room) #[(.ref a_J2EE_CLIENT)] h0 n0 (fun v h => v = (.int (1 : Int32)) ∧ h0 = h) := by
  refine met_of (L := #[.val (.ref a_J2EE_CLIENT)]) (plainFor_of_name pn_11) (fun m => by first | (simp [entryFrame, mkF, argsToLocals, Value.category]; done) | rfl) ?_
  intro p e s m below meth c T C X
  change Cx p s m meth c Z "com/example/jetway/jetway/Access" prog_1_method_7_code 1 (some .boolean) "signerRequired" at C
  refine g_aloadN C X d2_0 (q := 1) rfl rfl rfl ?_
  refine g_getS C X (host := "") (Or.inl (w13 hw)) Via.refl (W.1.ext O.2) d2_1 (q := 4) rfl ?_
  intro T1 X2
  refine g_acmp C X2 d2_4 rfl rfl (same := false) (decide_eq_false fun z => (Ne.symm (Fld.ne W.2.2.1 W.2.2.2.2.2.2.2.2.2.1 (by decide))) (Value.ref.inj z)) (by decide) (q := 7) (by decide) ?_
  refine g_iconst C X2 d2_7 (q := 8) rfl (z := (1 : Int32)) rfl ?_
  refine g_goto C X2 d2_8 (by decide) (q := 12) (by decide) ?_
  exact g_retN C X2 (Or.inl rfl) (z' := 1) (by decide) d2_12 (by decide) (by decide) ⟨_, rfl, rfl, rfl⟩
set_option maxRecDepth 65536 in
set_option maxHeartbeats 40000000 in
theorem rm_cmp_1 {l : Launch} {Z : State} {a0 : Array Value} (hw : ∀ d ∈ tables_1, d.before a0 Z = true) {a_SANDBOX : Addr} {a_ALL : Addr} {a_J2EE_CLIENT : Addr} {a_Access_ALL_element : Addr} {a_Access_J2EE_CLIENT_element : Addr} {mr : Addr} {h0 : Heap} {n0 : Nat} (O : Old Z n0 h0) (W : Wd Z a_SANDBOX a_ALL a_J2EE_CLIENT a_Access_ALL_element a_Access_J2EE_CLIENT_element mr) :
    Met1 l Z (⟨"java/lang/Enum", "compareTo", "(Ljava/lang/Enum;)I"⟩ : MethodName) jdk_37_method_8_code 4 (some .int) ({ frames := 1, cells := 0, slots := 0, locals := 41 } : Room) #[(.ref a_SANDBOX), (.ref a_J2EE_CLIENT)] h0 n0 (fun v h => v = (.int (-1 : Int32)) ∧ h0 = h) := by
  refine met_of (L := #[.val (.ref a_SANDBOX), .val (.ref a_J2EE_CLIENT), .unset, .unset]) (plainFor_of_name pn_31) (fun m => by first | (simp [entryFrame, mkF, argsToLocals, Value.category]; done) | rfl) ?_
  intro p e s m below meth c T C X
  change Cx p s m meth c Z "java/lang/Enum" jdk_37_method_8_code 4 (some .int) "compareTo" at C
  refine g_aloadN C X d4_0 (q := 1) rfl rfl rfl ?_
  refine g_astoreN C X d4_1 (q := 2) rfl rfl (L' := #[.val (.ref a_SANDBOX), .val (.ref a_J2EE_CLIENT), .val (.ref a_J2EE_CLIENT), .unset]) rfl ?_
  refine g_aloadN C X d4_2 (q := 3) rfl rfl rfl ?_
  refine g_astoreN C X d4_3 (q := 4) rfl rfl (L' := #[.val (.ref a_SANDBOX), .val (.ref a_J2EE_CLIENT), .val (.ref a_J2EE_CLIENT), .val (.ref a_SANDBOX)]) rfl ?_
  refine g_aloadN C X d4_4 (q := 5) rfl rfl rfl ?_
  refine g_getClass C X (w26 hw) (w27 hw) (w29 hw) (w28 hw) (w30 hw) (W.2.1.ext O.2) W.2.2.2.2.2.2.2.2.2.2.2.2.2.2 rfl d4_5 (q := 8) rfl (by decide) (Nat.le_of_ble_eq_true rfl) ?_
  intro T1 X2
  refine g_aloadN C X2 d4_8 (q := 9) rfl rfl rfl ?_
  refine g_getClass C X2 (w26 hw) (w27 hw) (w29 hw) (w28 hw) (w30 hw) (W.2.2.2.2.2.2.2.1.ext O.2) W.2.2.2.2.2.2.2.2.2.2.2.2.2.2 rfl d4_9 (q := 12) rfl (by decide) (Nat.le_of_ble_eq_true rfl) ?_
  intro T3 X4
  refine g_acmp C X4 d4_12 rfl rfl (same := true) (decide_eq_true rfl) (by decide) (q := 34) (by decide) ?_
  refine g_aloadN C X4 d4_34 (q := 35) rfl rfl rfl ?_
  refine g_getF C X4 (host := "") (Or.inl (w32 hw)) Via.refl (W.2.2.1.ext O.2) d4_35 (q := 38) rfl ?_
  intro T5 X6
  refine g_aloadN C X6 d4_38 (q := 39) rfl rfl rfl ?_
  refine g_getF C X6 (host := "") (Or.inl (w32 hw)) Via.refl (W.2.2.2.2.2.2.2.2.2.1.ext O.2) d4_39 (q := 42) rfl ?_
  intro T7 X8
  refine g_isub C X8 d4_42 (q := 43) rfl (z := (-1 : Int32)) (by decide) ?_
  exact g_retI C X8 d4_43 (by decide) (by decide) ⟨_, rfl, rfl, rfl⟩
set_option maxRecDepth 65536 in
set_option maxHeartbeats 40000000 in
theorem rm_max_1 {l : Launch} {Z : State} {a0 : Array Value} (hw : ∀ d ∈ tables_1, d.before a0 Z = true) {a_SANDBOX : Addr} {a_ALL : Addr} {a_J2EE_CLIENT : Addr} {a_Access_ALL_element : Addr} {a_Access_J2EE_CLIENT_element : Addr} {mr : Addr} {h0 : Heap} {n0 : Nat} (O : Old Z n0 h0) (W : Wd Z a_SANDBOX a_ALL a_J2EE_CLIENT a_Access_ALL_element a_Access_J2EE_CLIENT_element mr) :
    Met1 l Z (⟨"com/example/jetway/jetway/Access", "max", "(Lcom/example/jetway/jetway/Access;)Lcom/example/jetway/jetway/Access;"⟩ : MethodName) prog_1_method_8_code 2 (some (.object "com/example/jetway/jetway/Access")) ({ frames := 2, cells := 0, slots := 0, locals := 56 } : Room) #[(.ref a_SANDBOX), (.ref a_J2EE_CLIENT)] h0 n0 (fun v h => v = (.ref a_J2EE_CLIENT) ∧ h0 = h) := by
  refine met_of (L := #[.val (.ref a_SANDBOX), .val (.ref a_J2EE_CLIENT)]) (plainFor_of_name pn_11) (fun m => by first | (simp [entryFrame, mkF, argsToLocals, Value.category]; done) | rfl) ?_
  intro p e s m below meth c T C X
  change Cx p s m meth c Z "com/example/jetway/jetway/Access" prog_1_method_8_code 2 (some (.object "com/example/jetway/jetway/Access")) "max" at C
  refine g_aloadN C X d3_0 (q := 1) rfl rfl rfl ?_
  refine g_aloadN C X d3_1 (q := 2) rfl rfl rfl ?_
  refine g_callU1 C X (y := (⟨"com/example/jetway/jetway/Access", "compareTo", "(Ljava/lang/Enum;)I"⟩ : MethodName)) (z := (⟨"java/lang/Enum", "compareTo", "(Ljava/lang/Enum;)I"⟩ : MethodName)) (a := a_SANDBOX) (owner := "java/lang/Enum") (by decide) (w19 hw) (w20 hw) (w21 hw) (w23 hw) (w22 hw) (W.2.1.ext O.2) (w25 hw) (w24 hw) (rm_cmp_1 hw O W) (W := 0) (by decide) (by decide) (k' := 0) rfl (n' := 0) rfl (by decide) (by decide) rfl pd_32 (argsL := [(.ref a_J2EE_CLIENT)]) rfl (rest := []) rfl rfl rfl d3_2 (q := 5) rfl ?_
  rintro _ T1 _ X2 ⟨rfl, rfl⟩
  refine g_ifY C X2 d3_5 (by decide) (q := 12) (by decide) (by decide) ?_
  refine g_aloadN C X2 d3_12 (q := 13) rfl rfl rfl ?_
  exact g_retA C X2 rfl rfl d3_13 (by decide) (by decide) ⟨_, rfl, rfl, rfl⟩
set_option maxRecDepth 65536 in
set_option maxHeartbeats 40000000 in
theorem rm_pick_2 {l : Launch} {Z : State} {a0 : Array Value} (hw : ∀ d ∈ tables_1, d.before a0 Z = true) {a_SANDBOX : Addr} {a_ALL : Addr} {a_J2EE_CLIENT : Addr} {a_Access_ALL_element : Addr} {a_Access_J2EE_CLIENT_element : Addr} {mr : Addr} {h0 : Heap} {n0 : Nat} (O : Old Z n0 h0) (W : Wd Z a_SANDBOX a_ALL a_J2EE_CLIENT a_Access_ALL_element a_Access_J2EE_CLIENT_element mr) :
    Met1 l Z (⟨"com/example/jetway/jetway/AccessSignerRequiredPinLaw", "pick", "(I)Lcom/example/jetway/jetway/Access;"⟩ : MethodName) method_2_code 1 (some (.object "com/example/jetway/jetway/Access")) ({ frames := 0, cells := 0, slots := 0, locals := 0 } : Room) #[(.int (2 : Int32))] h0 n0 (fun v h => v = (.ref a_ALL) ∧ h0 = h) := by
  refine met_of (L := #[.val (.int (2 : Int32))]) (plainFor_of_name pn_4) (fun m => by first | (simp [entryFrame, mkF, argsToLocals, Value.category]; done) | rfl) ?_
  intro p e s m below meth c T C X
  change Cx p s m meth c Z "com/example/jetway/jetway/AccessSignerRequiredPinLaw" method_2_code 1 (some (.object "com/example/jetway/jetway/Access")) "pick" at C
  refine g_iloadN C X d1_0 (q := 1) rfl rfl ?_
  refine g_ifY C X d1_1 (by decide) (q := 8) (by decide) (by decide) ?_
  refine g_iloadN C X d1_8 (q := 9) rfl rfl ?_
  refine g_iconst C X d1_9 (q := 10) rfl (z := (1 : Int32)) rfl ?_
  refine g_icY C X d1_10 (by decide) (q := 17) (by decide) (by decide) ?_
  refine g_getS C X (host := "") (Or.inl (w41 hw)) Via.refl (W.2.2.2.2.1.ext O.2) d1_17 (q := 20) rfl ?_
  intro T1 X2
  exact g_retA C X2 rfl rfl d1_20 (by decide) (by decide) ⟨_, rfl, rfl, rfl⟩
set_option maxRecDepth 65536 in
set_option maxHeartbeats 40000000 in
theorem rm_sr_2 {l : Launch} {Z : State} {a0 : Array Value} (hw : ∀ d ∈ tables_1, d.before a0 Z = true) {a_SANDBOX : Addr} {a_ALL : Addr} {a_J2EE_CLIENT : Addr} {a_Access_ALL_element : Addr} {a_Access_J2EE_CLIENT_element : Addr} {mr : Addr} {h0 : Heap} {n0 : Nat} (O : Old Z n0 h0) (W : Wd Z a_SANDBOX a_ALL a_J2EE_CLIENT a_Access_ALL_element a_Access_J2EE_CLIENT_element mr) :
    Met1 l Z (⟨"com/example/jetway/jetway/Access", "signerRequired", "()Z"⟩ : MethodName) prog_1_method_7_code 1 (some .boolean) ({ frames := 0, cells := 0, slots := 0, locals := 0 } : Room) #[(.ref a_ALL)] h0 n0 (fun v h => v = (.int (1 : Int32)) ∧ h0 = h) := by
  refine met_of (L := #[.val (.ref a_ALL)]) (plainFor_of_name pn_11) (fun m => by first | (simp [entryFrame, mkF, argsToLocals, Value.category]; done) | rfl) ?_
  intro p e s m below meth c T C X
  change Cx p s m meth c Z "com/example/jetway/jetway/Access" prog_1_method_7_code 1 (some .boolean) "signerRequired" at C
  refine g_aloadN C X d2_0 (q := 1) rfl rfl rfl ?_
  refine g_getS C X (host := "") (Or.inl (w13 hw)) Via.refl (W.1.ext O.2) d2_1 (q := 4) rfl ?_
  intro T1 X2
  refine g_acmp C X2 d2_4 rfl rfl (same := false) (decide_eq_false fun z => (Ne.symm (Fld.ne W.2.2.1 W.2.2.2.2.2.2.2.2.1 (by decide))) (Value.ref.inj z)) (by decide) (q := 7) (by decide) ?_
  refine g_iconst C X2 d2_7 (q := 8) rfl (z := (1 : Int32)) rfl ?_
  refine g_goto C X2 d2_8 (by decide) (q := 12) (by decide) ?_
  exact g_retN C X2 (Or.inl rfl) (z' := 1) (by decide) d2_12 (by decide) (by decide) ⟨_, rfl, rfl, rfl⟩
set_option maxRecDepth 65536 in
set_option maxHeartbeats 40000000 in
theorem rm_cmp_2 {l : Launch} {Z : State} {a0 : Array Value} (hw : ∀ d ∈ tables_1, d.before a0 Z = true) {a_SANDBOX : Addr} {a_ALL : Addr} {a_J2EE_CLIENT : Addr} {a_Access_ALL_element : Addr} {a_Access_J2EE_CLIENT_element : Addr} {mr : Addr} {h0 : Heap} {n0 : Nat} (O : Old Z n0 h0) (W : Wd Z a_SANDBOX a_ALL a_J2EE_CLIENT a_Access_ALL_element a_Access_J2EE_CLIENT_element mr) :
    Met1 l Z (⟨"java/lang/Enum", "compareTo", "(Ljava/lang/Enum;)I"⟩ : MethodName) jdk_37_method_8_code 4 (some .int) ({ frames := 1, cells := 0, slots := 0, locals := 41 } : Room) #[(.ref a_SANDBOX), (.ref a_ALL)] h0 n0 (fun v h => v = (.int (-2 : Int32)) ∧ h0 = h) := by
  refine met_of (L := #[.val (.ref a_SANDBOX), .val (.ref a_ALL), .unset, .unset]) (plainFor_of_name pn_31) (fun m => by first | (simp [entryFrame, mkF, argsToLocals, Value.category]; done) | rfl) ?_
  intro p e s m below meth c T C X
  change Cx p s m meth c Z "java/lang/Enum" jdk_37_method_8_code 4 (some .int) "compareTo" at C
  refine g_aloadN C X d4_0 (q := 1) rfl rfl rfl ?_
  refine g_astoreN C X d4_1 (q := 2) rfl rfl (L' := #[.val (.ref a_SANDBOX), .val (.ref a_ALL), .val (.ref a_ALL), .unset]) rfl ?_
  refine g_aloadN C X d4_2 (q := 3) rfl rfl rfl ?_
  refine g_astoreN C X d4_3 (q := 4) rfl rfl (L' := #[.val (.ref a_SANDBOX), .val (.ref a_ALL), .val (.ref a_ALL), .val (.ref a_SANDBOX)]) rfl ?_
  refine g_aloadN C X d4_4 (q := 5) rfl rfl rfl ?_
  refine g_getClass C X (w26 hw) (w27 hw) (w29 hw) (w28 hw) (w30 hw) (W.2.1.ext O.2) W.2.2.2.2.2.2.2.2.2.2.2.2.2.2 rfl d4_5 (q := 8) rfl (by decide) (Nat.le_of_ble_eq_true rfl) ?_
  intro T1 X2
  refine g_aloadN C X2 d4_8 (q := 9) rfl rfl rfl ?_
  refine g_getClass C X2 (w26 hw) (w27 hw) (w29 hw) (w28 hw) (w30 hw) (W.2.2.2.2.2.1.ext O.2) W.2.2.2.2.2.2.2.2.2.2.2.2.2.2 rfl d4_9 (q := 12) rfl (by decide) (Nat.le_of_ble_eq_true rfl) ?_
  intro T3 X4
  refine g_acmp C X4 d4_12 rfl rfl (same := true) (decide_eq_true rfl) (by decide) (q := 34) (by decide) ?_
  refine g_aloadN C X4 d4_34 (q := 35) rfl rfl rfl ?_
  refine g_getF C X4 (host := "") (Or.inl (w32 hw)) Via.refl (W.2.2.1.ext O.2) d4_35 (q := 38) rfl ?_
  intro T5 X6
  refine g_aloadN C X6 d4_38 (q := 39) rfl rfl rfl ?_
  refine g_getF C X6 (host := "") (Or.inl (w32 hw)) Via.refl (W.2.2.2.2.2.2.2.2.1.ext O.2) d4_39 (q := 42) rfl ?_
  intro T7 X8
  refine g_isub C X8 d4_42 (q := 43) rfl (z := (-2 : Int32)) (by decide) ?_
  exact g_retI C X8 d4_43 (by decide) (by decide) ⟨_, rfl, rfl, rfl⟩
set_option maxRecDepth 65536 in
set_option maxHeartbeats 40000000 in
theorem rm_max_2 {l : Launch} {Z : State} {a0 : Array Value} (hw : ∀ d ∈ tables_1, d.before a0 Z = true) {a_SANDBOX : Addr} {a_ALL : Addr} {a_J2EE_CLIENT : Addr} {a_Access_ALL_element : Addr} {a_Access_J2EE_CLIENT_element : Addr} {mr : Addr} {h0 : Heap} {n0 : Nat} (O : Old Z n0 h0) (W : Wd Z a_SANDBOX a_ALL a_J2EE_CLIENT a_Access_ALL_element a_Access_J2EE_CLIENT_element mr) :
    Met1 l Z (⟨"com/example/jetway/jetway/Access", "max", "(Lcom/example/jetway/jetway/Access;)Lcom/example/jetway/jetway/Access;"⟩ : MethodName) prog_1_method_8_code 2 (some (.object "com/example/jetway/jetway/Access")) ({ frames := 2, cells := 0, slots := 0, locals := 56 } : Room) #[(.ref a_SANDBOX), (.ref a_ALL)] h0 n0 (fun v h => v = (.ref a_ALL) ∧ h0 = h) := by
  refine met_of (L := #[.val (.ref a_SANDBOX), .val (.ref a_ALL)]) (plainFor_of_name pn_11) (fun m => by first | (simp [entryFrame, mkF, argsToLocals, Value.category]; done) | rfl) ?_
  intro p e s m below meth c T C X
  change Cx p s m meth c Z "com/example/jetway/jetway/Access" prog_1_method_8_code 2 (some (.object "com/example/jetway/jetway/Access")) "max" at C
  refine g_aloadN C X d3_0 (q := 1) rfl rfl rfl ?_
  refine g_aloadN C X d3_1 (q := 2) rfl rfl rfl ?_
  refine g_callU1 C X (y := (⟨"com/example/jetway/jetway/Access", "compareTo", "(Ljava/lang/Enum;)I"⟩ : MethodName)) (z := (⟨"java/lang/Enum", "compareTo", "(Ljava/lang/Enum;)I"⟩ : MethodName)) (a := a_SANDBOX) (owner := "java/lang/Enum") (by decide) (w19 hw) (w20 hw) (w21 hw) (w23 hw) (w22 hw) (W.2.1.ext O.2) (w25 hw) (w24 hw) (rm_cmp_2 hw O W) (W := 0) (by decide) (by decide) (k' := 0) rfl (n' := 0) rfl (by decide) (by decide) rfl pd_32 (argsL := [(.ref a_ALL)]) rfl (rest := []) rfl rfl rfl d3_2 (q := 5) rfl ?_
  rintro _ T1 _ X2 ⟨rfl, rfl⟩
  refine g_ifY C X2 d3_5 (by decide) (q := 12) (by decide) (by decide) ?_
  refine g_aloadN C X2 d3_12 (q := 13) rfl rfl rfl ?_
  exact g_retA C X2 rfl rfl d3_13 (by decide) (by decide) ⟨_, rfl, rfl, rfl⟩
set_option maxRecDepth 65536 in
set_option maxHeartbeats 40000000 in
theorem rm_cmp_3 {l : Launch} {Z : State} {a0 : Array Value} (hw : ∀ d ∈ tables_1, d.before a0 Z = true) {a_SANDBOX : Addr} {a_ALL : Addr} {a_J2EE_CLIENT : Addr} {a_Access_ALL_element : Addr} {a_Access_J2EE_CLIENT_element : Addr} {mr : Addr} {h0 : Heap} {n0 : Nat} (O : Old Z n0 h0) (W : Wd Z a_SANDBOX a_ALL a_J2EE_CLIENT a_Access_ALL_element a_Access_J2EE_CLIENT_element mr) :
    Met1 l Z (⟨"java/lang/Enum", "compareTo", "(Ljava/lang/Enum;)I"⟩ : MethodName) jdk_37_method_8_code 4 (some .int) ({ frames := 1, cells := 0, slots := 0, locals := 41 } : Room) #[(.ref a_J2EE_CLIENT), (.ref a_SANDBOX)] h0 n0 (fun v h => v = (.int (1 : Int32)) ∧ h0 = h) := by
  refine met_of (L := #[.val (.ref a_J2EE_CLIENT), .val (.ref a_SANDBOX), .unset, .unset]) (plainFor_of_name pn_31) (fun m => by first | (simp [entryFrame, mkF, argsToLocals, Value.category]; done) | rfl) ?_
  intro p e s m below meth c T C X
  change Cx p s m meth c Z "java/lang/Enum" jdk_37_method_8_code 4 (some .int) "compareTo" at C
  refine g_aloadN C X d4_0 (q := 1) rfl rfl rfl ?_
  refine g_astoreN C X d4_1 (q := 2) rfl rfl (L' := #[.val (.ref a_J2EE_CLIENT), .val (.ref a_SANDBOX), .val (.ref a_SANDBOX), .unset]) rfl ?_
  refine g_aloadN C X d4_2 (q := 3) rfl rfl rfl ?_
  refine g_astoreN C X d4_3 (q := 4) rfl rfl (L' := #[.val (.ref a_J2EE_CLIENT), .val (.ref a_SANDBOX), .val (.ref a_SANDBOX), .val (.ref a_J2EE_CLIENT)]) rfl ?_
  refine g_aloadN C X d4_4 (q := 5) rfl rfl rfl ?_
  refine g_getClass C X (w26 hw) (w27 hw) (w29 hw) (w28 hw) (w30 hw) (W.2.2.2.2.2.2.2.1.ext O.2) W.2.2.2.2.2.2.2.2.2.2.2.2.2.2 rfl d4_5 (q := 8) rfl (by decide) (Nat.le_of_ble_eq_true rfl) ?_
  intro T1 X2
  refine g_aloadN C X2 d4_8 (q := 9) rfl rfl rfl ?_
  refine g_getClass C X2 (w26 hw) (w27 hw) (w29 hw) (w28 hw) (w30 hw) (W.2.1.ext O.2) W.2.2.2.2.2.2.2.2.2.2.2.2.2.2 rfl d4_9 (q := 12) rfl (by decide) (Nat.le_of_ble_eq_true rfl) ?_
  intro T3 X4
  refine g_acmp C X4 d4_12 rfl rfl (same := true) (decide_eq_true rfl) (by decide) (q := 34) (by decide) ?_
  refine g_aloadN C X4 d4_34 (q := 35) rfl rfl rfl ?_
  refine g_getF C X4 (host := "") (Or.inl (w32 hw)) Via.refl (W.2.2.2.2.2.2.2.2.2.1.ext O.2) d4_35 (q := 38) rfl ?_
  intro T5 X6
  refine g_aloadN C X6 d4_38 (q := 39) rfl rfl rfl ?_
  refine g_getF C X6 (host := "") (Or.inl (w32 hw)) Via.refl (W.2.2.1.ext O.2) d4_39 (q := 42) rfl ?_
  intro T7 X8
  refine g_isub C X8 d4_42 (q := 43) rfl (z := (1 : Int32)) (by decide) ?_
  exact g_retI C X8 d4_43 (by decide) (by decide) ⟨_, rfl, rfl, rfl⟩
set_option maxRecDepth 65536 in
set_option maxHeartbeats 40000000 in
theorem rm_max_3 {l : Launch} {Z : State} {a0 : Array Value} (hw : ∀ d ∈ tables_1, d.before a0 Z = true) {a_SANDBOX : Addr} {a_ALL : Addr} {a_J2EE_CLIENT : Addr} {a_Access_ALL_element : Addr} {a_Access_J2EE_CLIENT_element : Addr} {mr : Addr} {h0 : Heap} {n0 : Nat} (O : Old Z n0 h0) (W : Wd Z a_SANDBOX a_ALL a_J2EE_CLIENT a_Access_ALL_element a_Access_J2EE_CLIENT_element mr) :
    Met1 l Z (⟨"com/example/jetway/jetway/Access", "max", "(Lcom/example/jetway/jetway/Access;)Lcom/example/jetway/jetway/Access;"⟩ : MethodName) prog_1_method_8_code 2 (some (.object "com/example/jetway/jetway/Access")) ({ frames := 2, cells := 0, slots := 0, locals := 56 } : Room) #[(.ref a_J2EE_CLIENT), (.ref a_SANDBOX)] h0 n0 (fun v h => v = (.ref a_J2EE_CLIENT) ∧ h0 = h) := by
  refine met_of (L := #[.val (.ref a_J2EE_CLIENT), .val (.ref a_SANDBOX)]) (plainFor_of_name pn_11) (fun m => by first | (simp [entryFrame, mkF, argsToLocals, Value.category]; done) | rfl) ?_
  intro p e s m below meth c T C X
  change Cx p s m meth c Z "com/example/jetway/jetway/Access" prog_1_method_8_code 2 (some (.object "com/example/jetway/jetway/Access")) "max" at C
  refine g_aloadN C X d3_0 (q := 1) rfl rfl rfl ?_
  refine g_aloadN C X d3_1 (q := 2) rfl rfl rfl ?_
  refine g_callU1 C X (y := (⟨"com/example/jetway/jetway/Access", "compareTo", "(Ljava/lang/Enum;)I"⟩ : MethodName)) (z := (⟨"java/lang/Enum", "compareTo", "(Ljava/lang/Enum;)I"⟩ : MethodName)) (a := a_J2EE_CLIENT) (owner := "java/lang/Enum") (by decide) (w19 hw) (w20 hw) (w21 hw) (w23 hw) (w22 hw) (W.2.2.2.2.2.2.2.1.ext O.2) (w25 hw) (w24 hw) (rm_cmp_3 hw O W) (W := 0) (by decide) (by decide) (k' := 0) rfl (n' := 0) rfl (by decide) (by decide) rfl pd_32 (argsL := [(.ref a_SANDBOX)]) rfl (rest := []) rfl rfl rfl d3_2 (q := 5) rfl ?_
  rintro _ T1 _ X2 ⟨rfl, rfl⟩
  refine g_ifN C X2 d3_5 (q := 8) rfl (by decide) ?_
  refine g_aloadN C X2 d3_8 (q := 9) rfl rfl rfl ?_
  refine g_goto C X2 d3_9 (by decide) (q := 13) (by decide) ?_
  exact g_retA C X2 rfl rfl d3_13 (by decide) (by decide) ⟨_, rfl, rfl, rfl⟩
set_option maxRecDepth 65536 in
set_option maxHeartbeats 40000000 in
theorem rm_el_1 {l : Launch} {Z : State} {a0 : Array Value} (hw : ∀ d ∈ tables_1, d.before a0 Z = true) {a_SANDBOX : Addr} {a_ALL : Addr} {a_J2EE_CLIENT : Addr} {a_Access_ALL_element : Addr} {a_Access_J2EE_CLIENT_element : Addr} {mr : Addr} {h0 : Heap} {n0 : Nat} (O : Old Z n0 h0) (W : Wd Z a_SANDBOX a_ALL a_J2EE_CLIENT a_Access_ALL_element a_Access_J2EE_CLIENT_element mr) :
    Met1 l Z (⟨"com/example/jetway/jetway/Access", "element", "()Ljava/lang/String;"⟩ : MethodName) prog_1_method_4_code 1 (some (.object "java/lang/String")) ({ frames := 0, cells := 0, slots := 0, locals := 0 } : Room) #[(.ref a_J2EE_CLIENT)] h0 n0 (fun v h => v = (.ref a_Access_J2EE_CLIENT_element) ∧ h0 = h) := by
  refine met_of (L := #[.val (.ref a_J2EE_CLIENT)]) (plainFor_of_name pn_11) (fun m => by first | (simp [entryFrame, mkF, argsToLocals, Value.category]; done) | rfl) ?_
  intro p e s m below meth c T C X
  change Cx p s m meth c Z "com/example/jetway/jetway/Access" prog_1_method_4_code 1 (some (.object "java/lang/String")) "element" at C
  refine g_aloadN C X d5_0 (q := 1) rfl rfl rfl ?_
  refine g_getF C X (host := "") (Or.inl (w39 hw)) Via.refl (W.2.2.2.2.2.2.2.2.2.2.2.2.1.ext O.2) d5_1 (q := 4) rfl ?_
  intro T1 X2
  exact g_retA C X2 rfl rfl d5_4 (by decide) (by decide) ⟨_, rfl, rfl, rfl⟩
set_option maxRecDepth 65536 in
set_option maxHeartbeats 40000000 in
theorem rm_cmp_4 {l : Launch} {Z : State} {a0 : Array Value} (hw : ∀ d ∈ tables_1, d.before a0 Z = true) {a_SANDBOX : Addr} {a_ALL : Addr} {a_J2EE_CLIENT : Addr} {a_Access_ALL_element : Addr} {a_Access_J2EE_CLIENT_element : Addr} {mr : Addr} {h0 : Heap} {n0 : Nat} (O : Old Z n0 h0) (W : Wd Z a_SANDBOX a_ALL a_J2EE_CLIENT a_Access_ALL_element a_Access_J2EE_CLIENT_element mr) :
    Met1 l Z (⟨"java/lang/Enum", "compareTo", "(Ljava/lang/Enum;)I"⟩ : MethodName) jdk_37_method_8_code 4 (some .int) ({ frames := 1, cells := 0, slots := 0, locals := 41 } : Room) #[(.ref a_J2EE_CLIENT), (.ref a_J2EE_CLIENT)] h0 n0 (fun v h => v = (.int (0 : Int32)) ∧ h0 = h) := by
  refine met_of (L := #[.val (.ref a_J2EE_CLIENT), .val (.ref a_J2EE_CLIENT), .unset, .unset]) (plainFor_of_name pn_31) (fun m => by first | (simp [entryFrame, mkF, argsToLocals, Value.category]; done) | rfl) ?_
  intro p e s m below meth c T C X
  change Cx p s m meth c Z "java/lang/Enum" jdk_37_method_8_code 4 (some .int) "compareTo" at C
  refine g_aloadN C X d4_0 (q := 1) rfl rfl rfl ?_
  refine g_astoreN C X d4_1 (q := 2) rfl rfl (L' := #[.val (.ref a_J2EE_CLIENT), .val (.ref a_J2EE_CLIENT), .val (.ref a_J2EE_CLIENT), .unset]) rfl ?_
  refine g_aloadN C X d4_2 (q := 3) rfl rfl rfl ?_
  refine g_astoreN C X d4_3 (q := 4) rfl rfl (L' := #[.val (.ref a_J2EE_CLIENT), .val (.ref a_J2EE_CLIENT), .val (.ref a_J2EE_CLIENT), .val (.ref a_J2EE_CLIENT)]) rfl ?_
  refine g_aloadN C X d4_4 (q := 5) rfl rfl rfl ?_
  refine g_getClass C X (w26 hw) (w27 hw) (w29 hw) (w28 hw) (w30 hw) (W.2.2.2.2.2.2.2.1.ext O.2) W.2.2.2.2.2.2.2.2.2.2.2.2.2.2 rfl d4_5 (q := 8) rfl (by decide) (Nat.le_of_ble_eq_true rfl) ?_
  intro T1 X2
  refine g_aloadN C X2 d4_8 (q := 9) rfl rfl rfl ?_
  refine g_getClass C X2 (w26 hw) (w27 hw) (w29 hw) (w28 hw) (w30 hw) (W.2.2.2.2.2.2.2.1.ext O.2) W.2.2.2.2.2.2.2.2.2.2.2.2.2.2 rfl d4_9 (q := 12) rfl (by decide) (Nat.le_of_ble_eq_true rfl) ?_
  intro T3 X4
  refine g_acmp C X4 d4_12 rfl rfl (same := true) (decide_eq_true rfl) (by decide) (q := 34) (by decide) ?_
  refine g_aloadN C X4 d4_34 (q := 35) rfl rfl rfl ?_
  refine g_getF C X4 (host := "") (Or.inl (w32 hw)) Via.refl (W.2.2.2.2.2.2.2.2.2.1.ext O.2) d4_35 (q := 38) rfl ?_
  intro T5 X6
  refine g_aloadN C X6 d4_38 (q := 39) rfl rfl rfl ?_
  refine g_getF C X6 (host := "") (Or.inl (w32 hw)) Via.refl (W.2.2.2.2.2.2.2.2.2.1.ext O.2) d4_39 (q := 42) rfl ?_
  intro T7 X8
  refine g_isub C X8 d4_42 (q := 43) rfl (z := (0 : Int32)) (by decide) ?_
  exact g_retI C X8 d4_43 (by decide) (by decide) ⟨_, rfl, rfl, rfl⟩
set_option maxRecDepth 65536 in
set_option maxHeartbeats 40000000 in
theorem rm_max_4 {l : Launch} {Z : State} {a0 : Array Value} (hw : ∀ d ∈ tables_1, d.before a0 Z = true) {a_SANDBOX : Addr} {a_ALL : Addr} {a_J2EE_CLIENT : Addr} {a_Access_ALL_element : Addr} {a_Access_J2EE_CLIENT_element : Addr} {mr : Addr} {h0 : Heap} {n0 : Nat} (O : Old Z n0 h0) (W : Wd Z a_SANDBOX a_ALL a_J2EE_CLIENT a_Access_ALL_element a_Access_J2EE_CLIENT_element mr) :
    Met1 l Z (⟨"com/example/jetway/jetway/Access", "max", "(Lcom/example/jetway/jetway/Access;)Lcom/example/jetway/jetway/Access;"⟩ : MethodName) prog_1_method_8_code 2 (some (.object "com/example/jetway/jetway/Access")) ({ frames := 2, cells := 0, slots := 0, locals := 56 } : Room) #[(.ref a_J2EE_CLIENT), (.ref a_J2EE_CLIENT)] h0 n0 (fun v h => v = (.ref a_J2EE_CLIENT) ∧ h0 = h) := by
  refine met_of (L := #[.val (.ref a_J2EE_CLIENT), .val (.ref a_J2EE_CLIENT)]) (plainFor_of_name pn_11) (fun m => by first | (simp [entryFrame, mkF, argsToLocals, Value.category]; done) | rfl) ?_
  intro p e s m below meth c T C X
  change Cx p s m meth c Z "com/example/jetway/jetway/Access" prog_1_method_8_code 2 (some (.object "com/example/jetway/jetway/Access")) "max" at C
  refine g_aloadN C X d3_0 (q := 1) rfl rfl rfl ?_
  refine g_aloadN C X d3_1 (q := 2) rfl rfl rfl ?_
  refine g_callU1 C X (y := (⟨"com/example/jetway/jetway/Access", "compareTo", "(Ljava/lang/Enum;)I"⟩ : MethodName)) (z := (⟨"java/lang/Enum", "compareTo", "(Ljava/lang/Enum;)I"⟩ : MethodName)) (a := a_J2EE_CLIENT) (owner := "java/lang/Enum") (by decide) (w19 hw) (w20 hw) (w21 hw) (w23 hw) (w22 hw) (W.2.2.2.2.2.2.2.1.ext O.2) (w25 hw) (w24 hw) (rm_cmp_4 hw O W) (W := 0) (by decide) (by decide) (k' := 0) rfl (n' := 0) rfl (by decide) (by decide) rfl pd_32 (argsL := [(.ref a_J2EE_CLIENT)]) rfl (rest := []) rfl rfl rfl d3_2 (q := 5) rfl ?_
  rintro _ T1 _ X2 ⟨rfl, rfl⟩
  refine g_ifN C X2 d3_5 (q := 8) rfl (by decide) ?_
  refine g_aloadN C X2 d3_8 (q := 9) rfl rfl rfl ?_
  refine g_goto C X2 d3_9 (by decide) (q := 13) (by decide) ?_
  exact g_retA C X2 rfl rfl d3_13 (by decide) (by decide) ⟨_, rfl, rfl, rfl⟩
set_option maxRecDepth 65536 in
set_option maxHeartbeats 40000000 in
theorem rm_cmp_5 {l : Launch} {Z : State} {a0 : Array Value} (hw : ∀ d ∈ tables_1, d.before a0 Z = true) {a_SANDBOX : Addr} {a_ALL : Addr} {a_J2EE_CLIENT : Addr} {a_Access_ALL_element : Addr} {a_Access_J2EE_CLIENT_element : Addr} {mr : Addr} {h0 : Heap} {n0 : Nat} (O : Old Z n0 h0) (W : Wd Z a_SANDBOX a_ALL a_J2EE_CLIENT a_Access_ALL_element a_Access_J2EE_CLIENT_element mr) :
    Met1 l Z (⟨"java/lang/Enum", "compareTo", "(Ljava/lang/Enum;)I"⟩ : MethodName) jdk_37_method_8_code 4 (some .int) ({ frames := 1, cells := 0, slots := 0, locals := 41 } : Room) #[(.ref a_J2EE_CLIENT), (.ref a_ALL)] h0 n0 (fun v h => v = (.int (-1 : Int32)) ∧ h0 = h) := by
  refine met_of (L := #[.val (.ref a_J2EE_CLIENT), .val (.ref a_ALL), .unset, .unset]) (plainFor_of_name pn_31) (fun m => by first | (simp [entryFrame, mkF, argsToLocals, Value.category]; done) | rfl) ?_
  intro p e s m below meth c T C X
  change Cx p s m meth c Z "java/lang/Enum" jdk_37_method_8_code 4 (some .int) "compareTo" at C
  refine g_aloadN C X d4_0 (q := 1) rfl rfl rfl ?_
  refine g_astoreN C X d4_1 (q := 2) rfl rfl (L' := #[.val (.ref a_J2EE_CLIENT), .val (.ref a_ALL), .val (.ref a_ALL), .unset]) rfl ?_
  refine g_aloadN C X d4_2 (q := 3) rfl rfl rfl ?_
  refine g_astoreN C X d4_3 (q := 4) rfl rfl (L' := #[.val (.ref a_J2EE_CLIENT), .val (.ref a_ALL), .val (.ref a_ALL), .val (.ref a_J2EE_CLIENT)]) rfl ?_
  refine g_aloadN C X d4_4 (q := 5) rfl rfl rfl ?_
  refine g_getClass C X (w26 hw) (w27 hw) (w29 hw) (w28 hw) (w30 hw) (W.2.2.2.2.2.2.2.1.ext O.2) W.2.2.2.2.2.2.2.2.2.2.2.2.2.2 rfl d4_5 (q := 8) rfl (by decide) (Nat.le_of_ble_eq_true rfl) ?_
  intro T1 X2
  refine g_aloadN C X2 d4_8 (q := 9) rfl rfl rfl ?_
  refine g_getClass C X2 (w26 hw) (w27 hw) (w29 hw) (w28 hw) (w30 hw) (W.2.2.2.2.2.1.ext O.2) W.2.2.2.2.2.2.2.2.2.2.2.2.2.2 rfl d4_9 (q := 12) rfl (by decide) (Nat.le_of_ble_eq_true rfl) ?_
  intro T3 X4
  refine g_acmp C X4 d4_12 rfl rfl (same := true) (decide_eq_true rfl) (by decide) (q := 34) (by decide) ?_
  refine g_aloadN C X4 d4_34 (q := 35) rfl rfl rfl ?_
  refine g_getF C X4 (host := "") (Or.inl (w32 hw)) Via.refl (W.2.2.2.2.2.2.2.2.2.1.ext O.2) d4_35 (q := 38) rfl ?_
  intro T5 X6
  refine g_aloadN C X6 d4_38 (q := 39) rfl rfl rfl ?_
  refine g_getF C X6 (host := "") (Or.inl (w32 hw)) Via.refl (W.2.2.2.2.2.2.2.2.1.ext O.2) d4_39 (q := 42) rfl ?_
  intro T7 X8
  refine g_isub C X8 d4_42 (q := 43) rfl (z := (-1 : Int32)) (by decide) ?_
  exact g_retI C X8 d4_43 (by decide) (by decide) ⟨_, rfl, rfl, rfl⟩
set_option maxRecDepth 65536 in
set_option maxHeartbeats 40000000 in
theorem rm_max_5 {l : Launch} {Z : State} {a0 : Array Value} (hw : ∀ d ∈ tables_1, d.before a0 Z = true) {a_SANDBOX : Addr} {a_ALL : Addr} {a_J2EE_CLIENT : Addr} {a_Access_ALL_element : Addr} {a_Access_J2EE_CLIENT_element : Addr} {mr : Addr} {h0 : Heap} {n0 : Nat} (O : Old Z n0 h0) (W : Wd Z a_SANDBOX a_ALL a_J2EE_CLIENT a_Access_ALL_element a_Access_J2EE_CLIENT_element mr) :
    Met1 l Z (⟨"com/example/jetway/jetway/Access", "max", "(Lcom/example/jetway/jetway/Access;)Lcom/example/jetway/jetway/Access;"⟩ : MethodName) prog_1_method_8_code 2 (some (.object "com/example/jetway/jetway/Access")) ({ frames := 2, cells := 0, slots := 0, locals := 56 } : Room) #[(.ref a_J2EE_CLIENT), (.ref a_ALL)] h0 n0 (fun v h => v = (.ref a_ALL) ∧ h0 = h) := by
  refine met_of (L := #[.val (.ref a_J2EE_CLIENT), .val (.ref a_ALL)]) (plainFor_of_name pn_11) (fun m => by first | (simp [entryFrame, mkF, argsToLocals, Value.category]; done) | rfl) ?_
  intro p e s m below meth c T C X
  change Cx p s m meth c Z "com/example/jetway/jetway/Access" prog_1_method_8_code 2 (some (.object "com/example/jetway/jetway/Access")) "max" at C
  refine g_aloadN C X d3_0 (q := 1) rfl rfl rfl ?_
  refine g_aloadN C X d3_1 (q := 2) rfl rfl rfl ?_
  refine g_callU1 C X (y := (⟨"com/example/jetway/jetway/Access", "compareTo", "(Ljava/lang/Enum;)I"⟩ : MethodName)) (z := (⟨"java/lang/Enum", "compareTo", "(Ljava/lang/Enum;)I"⟩ : MethodName)) (a := a_J2EE_CLIENT) (owner := "java/lang/Enum") (by decide) (w19 hw) (w20 hw) (w21 hw) (w23 hw) (w22 hw) (W.2.2.2.2.2.2.2.1.ext O.2) (w25 hw) (w24 hw) (rm_cmp_5 hw O W) (W := 0) (by decide) (by decide) (k' := 0) rfl (n' := 0) rfl (by decide) (by decide) rfl pd_32 (argsL := [(.ref a_ALL)]) rfl (rest := []) rfl rfl rfl d3_2 (q := 5) rfl ?_
  rintro _ T1 _ X2 ⟨rfl, rfl⟩
  refine g_ifY C X2 d3_5 (by decide) (q := 12) (by decide) (by decide) ?_
  refine g_aloadN C X2 d3_12 (q := 13) rfl rfl rfl ?_
  exact g_retA C X2 rfl rfl d3_13 (by decide) (by decide) ⟨_, rfl, rfl, rfl⟩
set_option maxRecDepth 65536 in
set_option maxHeartbeats 40000000 in
theorem rm_cmp_6 {l : Launch} {Z : State} {a0 : Array Value} (hw : ∀ d ∈ tables_1, d.before a0 Z = true) {a_SANDBOX : Addr} {a_ALL : Addr} {a_J2EE_CLIENT : Addr} {a_Access_ALL_element : Addr} {a_Access_J2EE_CLIENT_element : Addr} {mr : Addr} {h0 : Heap} {n0 : Nat} (O : Old Z n0 h0) (W : Wd Z a_SANDBOX a_ALL a_J2EE_CLIENT a_Access_ALL_element a_Access_J2EE_CLIENT_element mr) :
    Met1 l Z (⟨"java/lang/Enum", "compareTo", "(Ljava/lang/Enum;)I"⟩ : MethodName) jdk_37_method_8_code 4 (some .int) ({ frames := 1, cells := 0, slots := 0, locals := 41 } : Room) #[(.ref a_ALL), (.ref a_SANDBOX)] h0 n0 (fun v h => v = (.int (2 : Int32)) ∧ h0 = h) := by
  refine met_of (L := #[.val (.ref a_ALL), .val (.ref a_SANDBOX), .unset, .unset]) (plainFor_of_name pn_31) (fun m => by first | (simp [entryFrame, mkF, argsToLocals, Value.category]; done) | rfl) ?_
  intro p e s m below meth c T C X
  change Cx p s m meth c Z "java/lang/Enum" jdk_37_method_8_code 4 (some .int) "compareTo" at C
  refine g_aloadN C X d4_0 (q := 1) rfl rfl rfl ?_
  refine g_astoreN C X d4_1 (q := 2) rfl rfl (L' := #[.val (.ref a_ALL), .val (.ref a_SANDBOX), .val (.ref a_SANDBOX), .unset]) rfl ?_
  refine g_aloadN C X d4_2 (q := 3) rfl rfl rfl ?_
  refine g_astoreN C X d4_3 (q := 4) rfl rfl (L' := #[.val (.ref a_ALL), .val (.ref a_SANDBOX), .val (.ref a_SANDBOX), .val (.ref a_ALL)]) rfl ?_
  refine g_aloadN C X d4_4 (q := 5) rfl rfl rfl ?_
  refine g_getClass C X (w26 hw) (w27 hw) (w29 hw) (w28 hw) (w30 hw) (W.2.2.2.2.2.1.ext O.2) W.2.2.2.2.2.2.2.2.2.2.2.2.2.2 rfl d4_5 (q := 8) rfl (by decide) (Nat.le_of_ble_eq_true rfl) ?_
  intro T1 X2
  refine g_aloadN C X2 d4_8 (q := 9) rfl rfl rfl ?_
  refine g_getClass C X2 (w26 hw) (w27 hw) (w29 hw) (w28 hw) (w30 hw) (W.2.1.ext O.2) W.2.2.2.2.2.2.2.2.2.2.2.2.2.2 rfl d4_9 (q := 12) rfl (by decide) (Nat.le_of_ble_eq_true rfl) ?_
  intro T3 X4
  refine g_acmp C X4 d4_12 rfl rfl (same := true) (decide_eq_true rfl) (by decide) (q := 34) (by decide) ?_
  refine g_aloadN C X4 d4_34 (q := 35) rfl rfl rfl ?_
  refine g_getF C X4 (host := "") (Or.inl (w32 hw)) Via.refl (W.2.2.2.2.2.2.2.2.1.ext O.2) d4_35 (q := 38) rfl ?_
  intro T5 X6
  refine g_aloadN C X6 d4_38 (q := 39) rfl rfl rfl ?_
  refine g_getF C X6 (host := "") (Or.inl (w32 hw)) Via.refl (W.2.2.1.ext O.2) d4_39 (q := 42) rfl ?_
  intro T7 X8
  refine g_isub C X8 d4_42 (q := 43) rfl (z := (2 : Int32)) (by decide) ?_
  exact g_retI C X8 d4_43 (by decide) (by decide) ⟨_, rfl, rfl, rfl⟩
set_option maxRecDepth 65536 in
set_option maxHeartbeats 40000000 in
theorem rm_max_6 {l : Launch} {Z : State} {a0 : Array Value} (hw : ∀ d ∈ tables_1, d.before a0 Z = true) {a_SANDBOX : Addr} {a_ALL : Addr} {a_J2EE_CLIENT : Addr} {a_Access_ALL_element : Addr} {a_Access_J2EE_CLIENT_element : Addr} {mr : Addr} {h0 : Heap} {n0 : Nat} (O : Old Z n0 h0) (W : Wd Z a_SANDBOX a_ALL a_J2EE_CLIENT a_Access_ALL_element a_Access_J2EE_CLIENT_element mr) :
    Met1 l Z (⟨"com/example/jetway/jetway/Access", "max", "(Lcom/example/jetway/jetway/Access;)Lcom/example/jetway/jetway/Access;"⟩ : MethodName) prog_1_method_8_code 2 (some (.object "com/example/jetway/jetway/Access")) ({ frames := 2, cells := 0, slots := 0, locals := 56 } : Room) #[(.ref a_ALL), (.ref a_SANDBOX)] h0 n0 (fun v h => v = (.ref a_ALL) ∧ h0 = h) := by
  refine met_of (L := #[.val (.ref a_ALL), .val (.ref a_SANDBOX)]) (plainFor_of_name pn_11) (fun m => by first | (simp [entryFrame, mkF, argsToLocals, Value.category]; done) | rfl) ?_
  intro p e s m below meth c T C X
  change Cx p s m meth c Z "com/example/jetway/jetway/Access" prog_1_method_8_code 2 (some (.object "com/example/jetway/jetway/Access")) "max" at C
  refine g_aloadN C X d3_0 (q := 1) rfl rfl rfl ?_
  refine g_aloadN C X d3_1 (q := 2) rfl rfl rfl ?_
  refine g_callU1 C X (y := (⟨"com/example/jetway/jetway/Access", "compareTo", "(Ljava/lang/Enum;)I"⟩ : MethodName)) (z := (⟨"java/lang/Enum", "compareTo", "(Ljava/lang/Enum;)I"⟩ : MethodName)) (a := a_ALL) (owner := "java/lang/Enum") (by decide) (w19 hw) (w20 hw) (w21 hw) (w23 hw) (w22 hw) (W.2.2.2.2.2.1.ext O.2) (w25 hw) (w24 hw) (rm_cmp_6 hw O W) (W := 0) (by decide) (by decide) (k' := 0) rfl (n' := 0) rfl (by decide) (by decide) rfl pd_32 (argsL := [(.ref a_SANDBOX)]) rfl (rest := []) rfl rfl rfl d3_2 (q := 5) rfl ?_
  rintro _ T1 _ X2 ⟨rfl, rfl⟩
  refine g_ifN C X2 d3_5 (q := 8) rfl (by decide) ?_
  refine g_aloadN C X2 d3_8 (q := 9) rfl rfl rfl ?_
  refine g_goto C X2 d3_9 (by decide) (q := 13) (by decide) ?_
  exact g_retA C X2 rfl rfl d3_13 (by decide) (by decide) ⟨_, rfl, rfl, rfl⟩
set_option maxRecDepth 65536 in
set_option maxHeartbeats 40000000 in
theorem rm_el_2 {l : Launch} {Z : State} {a0 : Array Value} (hw : ∀ d ∈ tables_1, d.before a0 Z = true) {a_SANDBOX : Addr} {a_ALL : Addr} {a_J2EE_CLIENT : Addr} {a_Access_ALL_element : Addr} {a_Access_J2EE_CLIENT_element : Addr} {mr : Addr} {h0 : Heap} {n0 : Nat} (O : Old Z n0 h0) (W : Wd Z a_SANDBOX a_ALL a_J2EE_CLIENT a_Access_ALL_element a_Access_J2EE_CLIENT_element mr) :
    Met1 l Z (⟨"com/example/jetway/jetway/Access", "element", "()Ljava/lang/String;"⟩ : MethodName) prog_1_method_4_code 1 (some (.object "java/lang/String")) ({ frames := 0, cells := 0, slots := 0, locals := 0 } : Room) #[(.ref a_ALL)] h0 n0 (fun v h => v = (.ref a_Access_ALL_element) ∧ h0 = h) := by
  refine met_of (L := #[.val (.ref a_ALL)]) (plainFor_of_name pn_11) (fun m => by first | (simp [entryFrame, mkF, argsToLocals, Value.category]; done) | rfl) ?_
  intro p e s m below meth c T C X
  change Cx p s m meth c Z "com/example/jetway/jetway/Access" prog_1_method_4_code 1 (some (.object "java/lang/String")) "element" at C
  refine g_aloadN C X d5_0 (q := 1) rfl rfl rfl ?_
  refine g_getF C X (host := "") (Or.inl (w39 hw)) Via.refl (W.2.2.2.2.2.2.2.2.2.2.1.ext O.2) d5_1 (q := 4) rfl ?_
  intro T1 X2
  exact g_retA C X2 rfl rfl d5_4 (by decide) (by decide) ⟨_, rfl, rfl, rfl⟩
set_option maxRecDepth 65536 in
set_option maxHeartbeats 40000000 in
theorem rm_cmp_7 {l : Launch} {Z : State} {a0 : Array Value} (hw : ∀ d ∈ tables_1, d.before a0 Z = true) {a_SANDBOX : Addr} {a_ALL : Addr} {a_J2EE_CLIENT : Addr} {a_Access_ALL_element : Addr} {a_Access_J2EE_CLIENT_element : Addr} {mr : Addr} {h0 : Heap} {n0 : Nat} (O : Old Z n0 h0) (W : Wd Z a_SANDBOX a_ALL a_J2EE_CLIENT a_Access_ALL_element a_Access_J2EE_CLIENT_element mr) :
    Met1 l Z (⟨"java/lang/Enum", "compareTo", "(Ljava/lang/Enum;)I"⟩ : MethodName) jdk_37_method_8_code 4 (some .int) ({ frames := 1, cells := 0, slots := 0, locals := 41 } : Room) #[(.ref a_ALL), (.ref a_J2EE_CLIENT)] h0 n0 (fun v h => v = (.int (1 : Int32)) ∧ h0 = h) := by
  refine met_of (L := #[.val (.ref a_ALL), .val (.ref a_J2EE_CLIENT), .unset, .unset]) (plainFor_of_name pn_31) (fun m => by first | (simp [entryFrame, mkF, argsToLocals, Value.category]; done) | rfl) ?_
  intro p e s m below meth c T C X
  change Cx p s m meth c Z "java/lang/Enum" jdk_37_method_8_code 4 (some .int) "compareTo" at C
  refine g_aloadN C X d4_0 (q := 1) rfl rfl rfl ?_
  refine g_astoreN C X d4_1 (q := 2) rfl rfl (L' := #[.val (.ref a_ALL), .val (.ref a_J2EE_CLIENT), .val (.ref a_J2EE_CLIENT), .unset]) rfl ?_
  refine g_aloadN C X d4_2 (q := 3) rfl rfl rfl ?_
  refine g_astoreN C X d4_3 (q := 4) rfl rfl (L' := #[.val (.ref a_ALL), .val (.ref a_J2EE_CLIENT), .val (.ref a_J2EE_CLIENT), .val (.ref a_ALL)]) rfl ?_
  refine g_aloadN C X d4_4 (q := 5) rfl rfl rfl ?_
  refine g_getClass C X (w26 hw) (w27 hw) (w29 hw) (w28 hw) (w30 hw) (W.2.2.2.2.2.1.ext O.2) W.2.2.2.2.2.2.2.2.2.2.2.2.2.2 rfl d4_5 (q := 8) rfl (by decide) (Nat.le_of_ble_eq_true rfl) ?_
  intro T1 X2
  refine g_aloadN C X2 d4_8 (q := 9) rfl rfl rfl ?_
  refine g_getClass C X2 (w26 hw) (w27 hw) (w29 hw) (w28 hw) (w30 hw) (W.2.2.2.2.2.2.2.1.ext O.2) W.2.2.2.2.2.2.2.2.2.2.2.2.2.2 rfl d4_9 (q := 12) rfl (by decide) (Nat.le_of_ble_eq_true rfl) ?_
  intro T3 X4
  refine g_acmp C X4 d4_12 rfl rfl (same := true) (decide_eq_true rfl) (by decide) (q := 34) (by decide) ?_
  refine g_aloadN C X4 d4_34 (q := 35) rfl rfl rfl ?_
  refine g_getF C X4 (host := "") (Or.inl (w32 hw)) Via.refl (W.2.2.2.2.2.2.2.2.1.ext O.2) d4_35 (q := 38) rfl ?_
  intro T5 X6
  refine g_aloadN C X6 d4_38 (q := 39) rfl rfl rfl ?_
  refine g_getF C X6 (host := "") (Or.inl (w32 hw)) Via.refl (W.2.2.2.2.2.2.2.2.2.1.ext O.2) d4_39 (q := 42) rfl ?_
  intro T7 X8
  refine g_isub C X8 d4_42 (q := 43) rfl (z := (1 : Int32)) (by decide) ?_
  exact g_retI C X8 d4_43 (by decide) (by decide) ⟨_, rfl, rfl, rfl⟩
set_option maxRecDepth 65536 in
set_option maxHeartbeats 40000000 in
theorem rm_max_7 {l : Launch} {Z : State} {a0 : Array Value} (hw : ∀ d ∈ tables_1, d.before a0 Z = true) {a_SANDBOX : Addr} {a_ALL : Addr} {a_J2EE_CLIENT : Addr} {a_Access_ALL_element : Addr} {a_Access_J2EE_CLIENT_element : Addr} {mr : Addr} {h0 : Heap} {n0 : Nat} (O : Old Z n0 h0) (W : Wd Z a_SANDBOX a_ALL a_J2EE_CLIENT a_Access_ALL_element a_Access_J2EE_CLIENT_element mr) :
    Met1 l Z (⟨"com/example/jetway/jetway/Access", "max", "(Lcom/example/jetway/jetway/Access;)Lcom/example/jetway/jetway/Access;"⟩ : MethodName) prog_1_method_8_code 2 (some (.object "com/example/jetway/jetway/Access")) ({ frames := 2, cells := 0, slots := 0, locals := 56 } : Room) #[(.ref a_ALL), (.ref a_J2EE_CLIENT)] h0 n0 (fun v h => v = (.ref a_ALL) ∧ h0 = h) := by
  refine met_of (L := #[.val (.ref a_ALL), .val (.ref a_J2EE_CLIENT)]) (plainFor_of_name pn_11) (fun m => by first | (simp [entryFrame, mkF, argsToLocals, Value.category]; done) | rfl) ?_
  intro p e s m below meth c T C X
  change Cx p s m meth c Z "com/example/jetway/jetway/Access" prog_1_method_8_code 2 (some (.object "com/example/jetway/jetway/Access")) "max" at C
  refine g_aloadN C X d3_0 (q := 1) rfl rfl rfl ?_
  refine g_aloadN C X d3_1 (q := 2) rfl rfl rfl ?_
  refine g_callU1 C X (y := (⟨"com/example/jetway/jetway/Access", "compareTo", "(Ljava/lang/Enum;)I"⟩ : MethodName)) (z := (⟨"java/lang/Enum", "compareTo", "(Ljava/lang/Enum;)I"⟩ : MethodName)) (a := a_ALL) (owner := "java/lang/Enum") (by decide) (w19 hw) (w20 hw) (w21 hw) (w23 hw) (w22 hw) (W.2.2.2.2.2.1.ext O.2) (w25 hw) (w24 hw) (rm_cmp_7 hw O W) (W := 0) (by decide) (by decide) (k' := 0) rfl (n' := 0) rfl (by decide) (by decide) rfl pd_32 (argsL := [(.ref a_J2EE_CLIENT)]) rfl (rest := []) rfl rfl rfl d3_2 (q := 5) rfl ?_
  rintro _ T1 _ X2 ⟨rfl, rfl⟩
  refine g_ifN C X2 d3_5 (q := 8) rfl (by decide) ?_
  refine g_aloadN C X2 d3_8 (q := 9) rfl rfl rfl ?_
  refine g_goto C X2 d3_9 (by decide) (q := 13) (by decide) ?_
  exact g_retA C X2 rfl rfl d3_13 (by decide) (by decide) ⟨_, rfl, rfl, rfl⟩
set_option maxRecDepth 65536 in
set_option maxHeartbeats 40000000 in
theorem rm_cmp_8 {l : Launch} {Z : State} {a0 : Array Value} (hw : ∀ d ∈ tables_1, d.before a0 Z = true) {a_SANDBOX : Addr} {a_ALL : Addr} {a_J2EE_CLIENT : Addr} {a_Access_ALL_element : Addr} {a_Access_J2EE_CLIENT_element : Addr} {mr : Addr} {h0 : Heap} {n0 : Nat} (O : Old Z n0 h0) (W : Wd Z a_SANDBOX a_ALL a_J2EE_CLIENT a_Access_ALL_element a_Access_J2EE_CLIENT_element mr) :
    Met1 l Z (⟨"java/lang/Enum", "compareTo", "(Ljava/lang/Enum;)I"⟩ : MethodName) jdk_37_method_8_code 4 (some .int) ({ frames := 1, cells := 0, slots := 0, locals := 41 } : Room) #[(.ref a_ALL), (.ref a_ALL)] h0 n0 (fun v h => v = (.int (0 : Int32)) ∧ h0 = h) := by
  refine met_of (L := #[.val (.ref a_ALL), .val (.ref a_ALL), .unset, .unset]) (plainFor_of_name pn_31) (fun m => by first | (simp [entryFrame, mkF, argsToLocals, Value.category]; done) | rfl) ?_
  intro p e s m below meth c T C X
  change Cx p s m meth c Z "java/lang/Enum" jdk_37_method_8_code 4 (some .int) "compareTo" at C
  refine g_aloadN C X d4_0 (q := 1) rfl rfl rfl ?_
  refine g_astoreN C X d4_1 (q := 2) rfl rfl (L' := #[.val (.ref a_ALL), .val (.ref a_ALL), .val (.ref a_ALL), .unset]) rfl ?_
  refine g_aloadN C X d4_2 (q := 3) rfl rfl rfl ?_
  refine g_astoreN C X d4_3 (q := 4) rfl rfl (L' := #[.val (.ref a_ALL), .val (.ref a_ALL), .val (.ref a_ALL), .val (.ref a_ALL)]) rfl ?_
  refine g_aloadN C X d4_4 (q := 5) rfl rfl rfl ?_
  refine g_getClass C X (w26 hw) (w27 hw) (w29 hw) (w28 hw) (w30 hw) (W.2.2.2.2.2.1.ext O.2) W.2.2.2.2.2.2.2.2.2.2.2.2.2.2 rfl d4_5 (q := 8) rfl (by decide) (Nat.le_of_ble_eq_true rfl) ?_
  intro T1 X2
  refine g_aloadN C X2 d4_8 (q := 9) rfl rfl rfl ?_
  refine g_getClass C X2 (w26 hw) (w27 hw) (w29 hw) (w28 hw) (w30 hw) (W.2.2.2.2.2.1.ext O.2) W.2.2.2.2.2.2.2.2.2.2.2.2.2.2 rfl d4_9 (q := 12) rfl (by decide) (Nat.le_of_ble_eq_true rfl) ?_
  intro T3 X4
  refine g_acmp C X4 d4_12 rfl rfl (same := true) (decide_eq_true rfl) (by decide) (q := 34) (by decide) ?_
  refine g_aloadN C X4 d4_34 (q := 35) rfl rfl rfl ?_
  refine g_getF C X4 (host := "") (Or.inl (w32 hw)) Via.refl (W.2.2.2.2.2.2.2.2.1.ext O.2) d4_35 (q := 38) rfl ?_
  intro T5 X6
  refine g_aloadN C X6 d4_38 (q := 39) rfl rfl rfl ?_
  refine g_getF C X6 (host := "") (Or.inl (w32 hw)) Via.refl (W.2.2.2.2.2.2.2.2.1.ext O.2) d4_39 (q := 42) rfl ?_
  intro T7 X8
  refine g_isub C X8 d4_42 (q := 43) rfl (z := (0 : Int32)) (by decide) ?_
  exact g_retI C X8 d4_43 (by decide) (by decide) ⟨_, rfl, rfl, rfl⟩
set_option maxRecDepth 65536 in
set_option maxHeartbeats 40000000 in
theorem rm_max_8 {l : Launch} {Z : State} {a0 : Array Value} (hw : ∀ d ∈ tables_1, d.before a0 Z = true) {a_SANDBOX : Addr} {a_ALL : Addr} {a_J2EE_CLIENT : Addr} {a_Access_ALL_element : Addr} {a_Access_J2EE_CLIENT_element : Addr} {mr : Addr} {h0 : Heap} {n0 : Nat} (O : Old Z n0 h0) (W : Wd Z a_SANDBOX a_ALL a_J2EE_CLIENT a_Access_ALL_element a_Access_J2EE_CLIENT_element mr) :
    Met1 l Z (⟨"com/example/jetway/jetway/Access", "max", "(Lcom/example/jetway/jetway/Access;)Lcom/example/jetway/jetway/Access;"⟩ : MethodName) prog_1_method_8_code 2 (some (.object "com/example/jetway/jetway/Access")) ({ frames := 2, cells := 0, slots := 0, locals := 56 } : Room) #[(.ref a_ALL), (.ref a_ALL)] h0 n0 (fun v h => v = (.ref a_ALL) ∧ h0 = h) := by
  refine met_of (L := #[.val (.ref a_ALL), .val (.ref a_ALL)]) (plainFor_of_name pn_11) (fun m => by first | (simp [entryFrame, mkF, argsToLocals, Value.category]; done) | rfl) ?_
  intro p e s m below meth c T C X
  change Cx p s m meth c Z "com/example/jetway/jetway/Access" prog_1_method_8_code 2 (some (.object "com/example/jetway/jetway/Access")) "max" at C
  refine g_aloadN C X d3_0 (q := 1) rfl rfl rfl ?_
  refine g_aloadN C X d3_1 (q := 2) rfl rfl rfl ?_
  refine g_callU1 C X (y := (⟨"com/example/jetway/jetway/Access", "compareTo", "(Ljava/lang/Enum;)I"⟩ : MethodName)) (z := (⟨"java/lang/Enum", "compareTo", "(Ljava/lang/Enum;)I"⟩ : MethodName)) (a := a_ALL) (owner := "java/lang/Enum") (by decide) (w19 hw) (w20 hw) (w21 hw) (w23 hw) (w22 hw) (W.2.2.2.2.2.1.ext O.2) (w25 hw) (w24 hw) (rm_cmp_8 hw O W) (W := 0) (by decide) (by decide) (k' := 0) rfl (n' := 0) rfl (by decide) (by decide) rfl pd_32 (argsL := [(.ref a_ALL)]) rfl (rest := []) rfl rfl rfl d3_2 (q := 5) rfl ?_
  rintro _ T1 _ X2 ⟨rfl, rfl⟩
  refine g_ifN C X2 d3_5 (q := 8) rfl (by decide) ?_
  refine g_aloadN C X2 d3_8 (q := 9) rfl rfl rfl ?_
  refine g_goto C X2 d3_9 (by decide) (q := 13) (by decide) ?_
  exact g_retA C X2 rfl rfl d3_13 (by decide) (by decide) ⟨_, rfl, rfl, rfl⟩
set_option maxRecDepth 65536 in
set_option maxHeartbeats 40000000 in
theorem rmLaw {l : Launch} {Z : State} {a0 : Array Value} (hw : ∀ d ∈ tables_1, d.before a0 Z = true) {p0 p1 : Int32} {a_SANDBOX : Addr} {a_ALL : Addr} {a_J2EE_CLIENT : Addr} {a_Access_ALL_element : Addr} {a_Access_J2EE_CLIENT_element : Addr} {mr : Addr} {h0 : Heap} {n0 : Nat} (O : Old Z n0 h0) (W : Wd Z a_SANDBOX a_ALL a_J2EE_CLIENT a_Access_ALL_element a_Access_J2EE_CLIENT_element mr) :
    Met1 l Z x code maxLocals ret room_1 #[(.int p0), (.int p1)] h0 n0 (fun v h => v = .int 1 ∧ True) := by
  refine met_of (L := #[.val (.int p0), .val (.int p1), .unset, .unset, .unset, .unset, .unset, .unset, .unset]) (plainFor_of_name pn_4) (fun m => by first | (simp [entryFrame, mkF, argsToLocals, Value.category, maxLocals]; done) | rfl) ?_
  intro p e s m below meth c T C X
  change Cx p s m meth c Z "com/example/jetway/jetway/AccessSignerRequiredPinLaw" code 9 (some .boolean) "law" at C
  change Goes p e below (FinN _ s n0 0 0) _
  rcases own_m3 p0 with hk | hk | hk
  · rcases own_m3 p1 with hj | hj | hj
    · refine g_iloadN C X at_0 (q := 1) rfl rfl ?_
      refine g_ldcI C X (w0 hw) at_1 (q := 3) rfl ?_
      refine g_iand C X at_3 (q := 4) rfl (z := (p0 &&& (2147483647 : Int32))) rfl ?_
      refine g_iconst C X at_4 (q := 5) rfl (z := (3 : Int32)) rfl ?_
      refine g_irem C X at_5 (q := 6) rfl (by decide) (z := (0 : Int32)) hk ?_
      refine g_istoreN C X at_6 (q := 7) rfl (L' := #[.val (.int p0), .val (.int p1), .val (.int (0 : Int32)), .unset, .unset, .unset, .unset, .unset, .unset]) rfl ?_
      refine g_iloadN C X at_7 (q := 8) rfl rfl ?_
      refine g_ldcI C X (w0 hw) at_8 (q := 10) rfl ?_
      refine g_iand C X at_10 (q := 11) rfl (z := (p1 &&& (2147483647 : Int32))) rfl ?_
      refine g_iconst C X at_11 (q := 12) rfl (z := (3 : Int32)) rfl ?_
      refine g_irem C X at_12 (q := 13) rfl (by decide) (z := (0 : Int32)) hj ?_
      refine g_istoreN C X at_13 (q := 14) rfl (L' := #[.val (.int p0), .val (.int p1), .val (.int (0 : Int32)), .val (.int (0 : Int32)), .unset, .unset, .unset, .unset, .unset]) rfl ?_
      refine g_iloadN C X at_14 (q := 15) rfl rfl ?_
      refine g_callS1 C X (y := (⟨"com/example/jetway/jetway/AccessSignerRequiredPinLaw", "pick", "(I)Lcom/example/jetway/jetway/Access;"⟩ : MethodName)) (by decide) (w1 hw) (w2 hw) (w4 hw) (w3 hw) (rm_pick_0 hw O W) (W := 0) (by decide) (by decide) (k' := 0) rfl (n' := 0) rfl (by decide) (by decide) rfl pd_5 (argsL := [(.int (0 : Int32))]) rfl (rest := []) rfl rfl rfl at_15 (q := 18) rfl ?_
      rintro _ T1 _ X2 ⟨rfl, rfl⟩
      refine g_astore C X2 at_18 (q := 20) rfl rfl (L' := #[.val (.int p0), .val (.int p1), .val (.int (0 : Int32)), .val (.int (0 : Int32)), .val (.ref a_SANDBOX), .unset, .unset, .unset, .unset]) rfl ?_
      refine g_iloadN C X2 at_20 (q := 21) rfl rfl ?_
      refine g_callS1 C X2 (y := (⟨"com/example/jetway/jetway/AccessSignerRequiredPinLaw", "pick", "(I)Lcom/example/jetway/jetway/Access;"⟩ : MethodName)) (by decide) (w1 hw) (w2 hw) (w4 hw) (w3 hw) (rm_pick_0 hw O W) (W := 0) (by decide) (by decide) (k' := 0) rfl (n' := 0) rfl (by decide) (by decide) rfl pd_5 (argsL := [(.int (0 : Int32))]) rfl (rest := []) rfl rfl rfl at_21 (q := 24) rfl ?_
      rintro _ T3 _ X4 ⟨rfl, rfl⟩
      refine g_astore C X4 at_24 (q := 26) rfl rfl (L' := #[.val (.int p0), .val (.int p1), .val (.int (0 : Int32)), .val (.int (0 : Int32)), .val (.ref a_SANDBOX), .val (.ref a_SANDBOX), .unset, .unset, .unset]) rfl ?_
      refine g_aload C X4 at_26 (q := 28) rfl rfl rfl ?_
      refine g_callV1 C X4 (y := (⟨"com/example/jetway/jetway/Access", "signerRequired", "()Z"⟩ : MethodName)) (z := (⟨"com/example/jetway/jetway/Access", "signerRequired", "()Z"⟩ : MethodName)) (a := a_SANDBOX) (by decide) (w8 hw) (w9 hw) (w11 hw) (w10 hw) (nf_sel (w11 hw)) (W.2.1.ext O.2) (w12 hw) (w6 hw) (rm_sr_0 hw O W) (W := 0) (by decide) (by decide) (k' := 0) rfl (n' := 0) rfl (by decide) (by decide) rfl pd_12 (argsL := []) rfl (rest := []) rfl rfl rfl at_28 (q := 31) rfl ?_
      rintro _ T5 _ X6 ⟨rfl, rfl⟩
      refine g_istore C X6 at_31 (q := 33) rfl (L' := #[.val (.int p0), .val (.int p1), .val (.int (0 : Int32)), .val (.int (0 : Int32)), .val (.ref a_SANDBOX), .val (.ref a_SANDBOX), .val (.int (0 : Int32)), .unset, .unset]) rfl ?_
      refine g_aload C X6 at_33 (q := 35) rfl rfl rfl ?_
      refine g_callV1 C X6 (y := (⟨"com/example/jetway/jetway/Access", "signerRequired", "()Z"⟩ : MethodName)) (z := (⟨"com/example/jetway/jetway/Access", "signerRequired", "()Z"⟩ : MethodName)) (a := a_SANDBOX) (by decide) (w8 hw) (w9 hw) (w11 hw) (w10 hw) (nf_sel (w11 hw)) (W.2.1.ext O.2) (w12 hw) (w6 hw) (rm_sr_0 hw O W) (W := 0) (by decide) (by decide) (k' := 0) rfl (n' := 0) rfl (by decide) (by decide) rfl pd_12 (argsL := []) rfl (rest := []) rfl rfl rfl at_35 (q := 38) rfl ?_
      rintro _ T7 _ X8 ⟨rfl, rfl⟩
      refine g_istore C X8 at_38 (q := 40) rfl (L' := #[.val (.int p0), .val (.int p1), .val (.int (0 : Int32)), .val (.int (0 : Int32)), .val (.ref a_SANDBOX), .val (.ref a_SANDBOX), .val (.int (0 : Int32)), .val (.int (0 : Int32)), .unset]) rfl ?_
      refine g_aload C X8 at_40 (q := 42) rfl rfl rfl ?_
      refine g_aload C X8 at_42 (q := 44) rfl rfl rfl ?_
      refine g_callV1 C X8 (y := (⟨"com/example/jetway/jetway/Access", "max", "(Lcom/example/jetway/jetway/Access;)Lcom/example/jetway/jetway/Access;"⟩ : MethodName)) (z := (⟨"com/example/jetway/jetway/Access", "max", "(Lcom/example/jetway/jetway/Access;)Lcom/example/jetway/jetway/Access;"⟩ : MethodName)) (a := a_SANDBOX) (by decide) (w14 hw) (w15 hw) (w17 hw) (w16 hw) (nf_sel (w17 hw)) (W.2.1.ext O.2) (w18 hw) (w6 hw) (rm_max_0 hw O W) (W := 0) (by decide) (by decide) (k' := 0) rfl (n' := 0) rfl (by decide) (by decide) rfl pd_37 (argsL := [(.ref a_SANDBOX)]) rfl (rest := []) rfl rfl rfl at_44 (q := 47) rfl ?_
      rintro _ T9 _ X10 ⟨rfl, rfl⟩
      refine g_callV1 C X10 (y := (⟨"com/example/jetway/jetway/Access", "signerRequired", "()Z"⟩ : MethodName)) (z := (⟨"com/example/jetway/jetway/Access", "signerRequired", "()Z"⟩ : MethodName)) (a := a_SANDBOX) (by decide) (w8 hw) (w9 hw) (w11 hw) (w10 hw) (nf_sel (w11 hw)) (W.2.1.ext O.2) (w12 hw) (w6 hw) (rm_sr_0 hw O W) (W := 0) (by decide) (by decide) (k' := 0) rfl (n' := 0) rfl (by decide) (by decide) rfl pd_12 (argsL := []) rfl (rest := []) rfl rfl rfl at_47 (q := 50) rfl ?_
      rintro _ T11 _ X12 ⟨rfl, rfl⟩
      refine g_istore C X12 at_50 (q := 52) rfl (L' := #[.val (.int p0), .val (.int p1), .val (.int (0 : Int32)), .val (.int (0 : Int32)), .val (.ref a_SANDBOX), .val (.ref a_SANDBOX), .val (.int (0 : Int32)), .val (.int (0 : Int32)), .val (.int (0 : Int32))]) rfl ?_
      refine g_iload C X12 at_52 (q := 54) rfl rfl ?_
      refine g_iloadN C X12 at_54 (q := 55) rfl rfl ?_
      refine g_ifY C X12 at_55 (by decide) (q := 62) (by decide) (by decide) ?_
      refine g_iconst C X12 at_62 (q := 63) rfl (z := (0 : Int32)) rfl ?_
      refine g_icN C X12 at_63 (q := 66) rfl (by decide) ?_
      refine g_iload C X12 at_66 (q := 68) rfl rfl ?_
      refine g_iloadN C X12 at_68 (q := 69) rfl rfl ?_
      refine g_ifY C X12 at_69 (by decide) (q := 76) (by decide) (by decide) ?_
      refine g_iconst C X12 at_76 (q := 77) rfl (z := (0 : Int32)) rfl ?_
      refine g_icN C X12 at_77 (q := 80) rfl (by decide) ?_
      refine g_iload C X12 at_80 (q := 82) rfl rfl ?_
      refine g_aload C X12 at_82 (q := 84) rfl rfl rfl ?_
      refine g_callV1 C X12 (y := (⟨"com/example/jetway/jetway/Access", "element", "()Ljava/lang/String;"⟩ : MethodName)) (z := (⟨"com/example/jetway/jetway/Access", "element", "()Ljava/lang/String;"⟩ : MethodName)) (a := a_SANDBOX) (by decide) (w34 hw) (w35 hw) (w37 hw) (w36 hw) (nf_sel (w37 hw)) (W.2.1.ext O.2) (w38 hw) (w6 hw) (rm_el_0 hw O W) (W := 1) (by decide) (by decide) (k' := 0) rfl (n' := 0) rfl (by decide) (by decide) rfl pd_41 (argsL := []) rfl (rest := [(.int (0 : Int32))]) rfl rfl rfl at_84 (q := 87) rfl ?_
      rintro _ T13 _ X14 ⟨rfl, rfl⟩
      refine g_nulY C X14 at_87 (by decide) (q := 94) (by decide) ?_
      refine g_iconst C X14 at_94 (q := 95) rfl (z := (0 : Int32)) rfl ?_
      refine g_icN C X14 at_95 (q := 98) rfl (by decide) ?_
      refine g_iload C X14 at_98 (q := 100) rfl rfl ?_
      refine g_iload C X14 at_100 (q := 102) rfl rfl ?_
      refine g_ifN C X14 at_102 (q := 105) rfl (by decide) ?_
      refine g_iload C X14 at_105 (q := 107) rfl rfl ?_
      refine g_ifY C X14 at_107 (by decide) (q := 114) (by decide) (by decide) ?_
      refine g_iconst C X14 at_114 (q := 115) rfl (z := (0 : Int32)) rfl ?_
      refine g_icN C X14 at_115 (q := 118) rfl (by decide) ?_
      refine g_iconst C X14 at_118 (q := 119) rfl (z := (1 : Int32)) rfl ?_
      refine g_goto C X14 at_119 (by decide) (q := 123) (by decide) ?_
      exact g_retN C X14 (Or.inl rfl) (z' := 1) (by decide) at_123 (by decide) (by decide) ⟨_, rfl, rfl, trivial⟩
    · refine g_iloadN C X at_0 (q := 1) rfl rfl ?_
      refine g_ldcI C X (w0 hw) at_1 (q := 3) rfl ?_
      refine g_iand C X at_3 (q := 4) rfl (z := (p0 &&& (2147483647 : Int32))) rfl ?_
      refine g_iconst C X at_4 (q := 5) rfl (z := (3 : Int32)) rfl ?_
      refine g_irem C X at_5 (q := 6) rfl (by decide) (z := (0 : Int32)) hk ?_
      refine g_istoreN C X at_6 (q := 7) rfl (L' := #[.val (.int p0), .val (.int p1), .val (.int (0 : Int32)), .unset, .unset, .unset, .unset, .unset, .unset]) rfl ?_
      refine g_iloadN C X at_7 (q := 8) rfl rfl ?_
      refine g_ldcI C X (w0 hw) at_8 (q := 10) rfl ?_
      refine g_iand C X at_10 (q := 11) rfl (z := (p1 &&& (2147483647 : Int32))) rfl ?_
      refine g_iconst C X at_11 (q := 12) rfl (z := (3 : Int32)) rfl ?_
      refine g_irem C X at_12 (q := 13) rfl (by decide) (z := (1 : Int32)) hj ?_
      refine g_istoreN C X at_13 (q := 14) rfl (L' := #[.val (.int p0), .val (.int p1), .val (.int (0 : Int32)), .val (.int (1 : Int32)), .unset, .unset, .unset, .unset, .unset]) rfl ?_
      refine g_iloadN C X at_14 (q := 15) rfl rfl ?_
      refine g_callS1 C X (y := (⟨"com/example/jetway/jetway/AccessSignerRequiredPinLaw", "pick", "(I)Lcom/example/jetway/jetway/Access;"⟩ : MethodName)) (by decide) (w1 hw) (w2 hw) (w4 hw) (w3 hw) (rm_pick_0 hw O W) (W := 0) (by decide) (by decide) (k' := 0) rfl (n' := 0) rfl (by decide) (by decide) rfl pd_5 (argsL := [(.int (0 : Int32))]) rfl (rest := []) rfl rfl rfl at_15 (q := 18) rfl ?_
      rintro _ T15 _ X16 ⟨rfl, rfl⟩
      refine g_astore C X16 at_18 (q := 20) rfl rfl (L' := #[.val (.int p0), .val (.int p1), .val (.int (0 : Int32)), .val (.int (1 : Int32)), .val (.ref a_SANDBOX), .unset, .unset, .unset, .unset]) rfl ?_
      refine g_iloadN C X16 at_20 (q := 21) rfl rfl ?_
      refine g_callS1 C X16 (y := (⟨"com/example/jetway/jetway/AccessSignerRequiredPinLaw", "pick", "(I)Lcom/example/jetway/jetway/Access;"⟩ : MethodName)) (by decide) (w1 hw) (w2 hw) (w4 hw) (w3 hw) (rm_pick_1 hw O W) (W := 0) (by decide) (by decide) (k' := 0) rfl (n' := 0) rfl (by decide) (by decide) rfl pd_5 (argsL := [(.int (1 : Int32))]) rfl (rest := []) rfl rfl rfl at_21 (q := 24) rfl ?_
      rintro _ T17 _ X18 ⟨rfl, rfl⟩
      refine g_astore C X18 at_24 (q := 26) rfl rfl (L' := #[.val (.int p0), .val (.int p1), .val (.int (0 : Int32)), .val (.int (1 : Int32)), .val (.ref a_SANDBOX), .val (.ref a_J2EE_CLIENT), .unset, .unset, .unset]) rfl ?_
      refine g_aload C X18 at_26 (q := 28) rfl rfl rfl ?_
      refine g_callV1 C X18 (y := (⟨"com/example/jetway/jetway/Access", "signerRequired", "()Z"⟩ : MethodName)) (z := (⟨"com/example/jetway/jetway/Access", "signerRequired", "()Z"⟩ : MethodName)) (a := a_SANDBOX) (by decide) (w8 hw) (w9 hw) (w11 hw) (w10 hw) (nf_sel (w11 hw)) (W.2.1.ext O.2) (w12 hw) (w6 hw) (rm_sr_0 hw O W) (W := 0) (by decide) (by decide) (k' := 0) rfl (n' := 0) rfl (by decide) (by decide) rfl pd_12 (argsL := []) rfl (rest := []) rfl rfl rfl at_28 (q := 31) rfl ?_
      rintro _ T19 _ X20 ⟨rfl, rfl⟩
      refine g_istore C X20 at_31 (q := 33) rfl (L' := #[.val (.int p0), .val (.int p1), .val (.int (0 : Int32)), .val (.int (1 : Int32)), .val (.ref a_SANDBOX), .val (.ref a_J2EE_CLIENT), .val (.int (0 : Int32)), .unset, .unset]) rfl ?_
      refine g_aload C X20 at_33 (q := 35) rfl rfl rfl ?_
      refine g_callV1 C X20 (y := (⟨"com/example/jetway/jetway/Access", "signerRequired", "()Z"⟩ : MethodName)) (z := (⟨"com/example/jetway/jetway/Access", "signerRequired", "()Z"⟩ : MethodName)) (a := a_J2EE_CLIENT) (by decide) (w8 hw) (w9 hw) (w11 hw) (w10 hw) (nf_sel (w11 hw)) (W.2.2.2.2.2.2.2.1.ext O.2) (w12 hw) (w6 hw) (rm_sr_1 hw O W) (W := 0) (by decide) (by decide) (k' := 0) rfl (n' := 0) rfl (by decide) (by decide) rfl pd_12 (argsL := []) rfl (rest := []) rfl rfl rfl at_35 (q := 38) rfl ?_
      rintro _ T21 _ X22 ⟨rfl, rfl⟩
      refine g_istore C X22 at_38 (q := 40) rfl (L' := #[.val (.int p0), .val (.int p1), .val (.int (0 : Int32)), .val (.int (1 : Int32)), .val (.ref a_SANDBOX), .val (.ref a_J2EE_CLIENT), .val (.int (0 : Int32)), .val (.int (1 : Int32)), .unset]) rfl ?_
      refine g_aload C X22 at_40 (q := 42) rfl rfl rfl ?_
      refine g_aload C X22 at_42 (q := 44) rfl rfl rfl ?_
      refine g_callV1 C X22 (y := (⟨"com/example/jetway/jetway/Access", "max", "(Lcom/example/jetway/jetway/Access;)Lcom/example/jetway/jetway/Access;"⟩ : MethodName)) (z := (⟨"com/example/jetway/jetway/Access", "max", "(Lcom/example/jetway/jetway/Access;)Lcom/example/jetway/jetway/Access;"⟩ : MethodName)) (a := a_SANDBOX) (by decide) (w14 hw) (w15 hw) (w17 hw) (w16 hw) (nf_sel (w17 hw)) (W.2.1.ext O.2) (w18 hw) (w6 hw) (rm_max_1 hw O W) (W := 0) (by decide) (by decide) (k' := 0) rfl (n' := 0) rfl (by decide) (by decide) rfl pd_37 (argsL := [(.ref a_J2EE_CLIENT)]) rfl (rest := []) rfl rfl rfl at_44 (q := 47) rfl ?_
      rintro _ T23 _ X24 ⟨rfl, rfl⟩
      refine g_callV1 C X24 (y := (⟨"com/example/jetway/jetway/Access", "signerRequired", "()Z"⟩ : MethodName)) (z := (⟨"com/example/jetway/jetway/Access", "signerRequired", "()Z"⟩ : MethodName)) (a := a_J2EE_CLIENT) (by decide) (w8 hw) (w9 hw) (w11 hw) (w10 hw) (nf_sel (w11 hw)) (W.2.2.2.2.2.2.2.1.ext O.2) (w12 hw) (w6 hw) (rm_sr_1 hw O W) (W := 0) (by decide) (by decide) (k' := 0) rfl (n' := 0) rfl (by decide) (by decide) rfl pd_12 (argsL := []) rfl (rest := []) rfl rfl rfl at_47 (q := 50) rfl ?_
      rintro _ T25 _ X26 ⟨rfl, rfl⟩
      refine g_istore C X26 at_50 (q := 52) rfl (L' := #[.val (.int p0), .val (.int p1), .val (.int (0 : Int32)), .val (.int (1 : Int32)), .val (.ref a_SANDBOX), .val (.ref a_J2EE_CLIENT), .val (.int (0 : Int32)), .val (.int (1 : Int32)), .val (.int (1 : Int32))]) rfl ?_
      refine g_iload C X26 at_52 (q := 54) rfl rfl ?_
      refine g_iloadN C X26 at_54 (q := 55) rfl rfl ?_
      refine g_ifY C X26 at_55 (by decide) (q := 62) (by decide) (by decide) ?_
      refine g_iconst C X26 at_62 (q := 63) rfl (z := (0 : Int32)) rfl ?_
      refine g_icN C X26 at_63 (q := 66) rfl (by decide) ?_
      refine g_iload C X26 at_66 (q := 68) rfl rfl ?_
      refine g_iloadN C X26 at_68 (q := 69) rfl rfl ?_
      refine g_ifN C X26 at_69 (q := 72) rfl (by decide) ?_
      refine g_iconst C X26 at_72 (q := 73) rfl (z := (1 : Int32)) rfl ?_
      refine g_goto C X26 at_73 (by decide) (q := 77) (by decide) ?_
      refine g_icN C X26 at_77 (q := 80) rfl (by decide) ?_
      refine g_iload C X26 at_80 (q := 82) rfl rfl ?_
      refine g_aload C X26 at_82 (q := 84) rfl rfl rfl ?_
      refine g_callV1 C X26 (y := (⟨"com/example/jetway/jetway/Access", "element", "()Ljava/lang/String;"⟩ : MethodName)) (z := (⟨"com/example/jetway/jetway/Access", "element", "()Ljava/lang/String;"⟩ : MethodName)) (a := a_SANDBOX) (by decide) (w34 hw) (w35 hw) (w37 hw) (w36 hw) (nf_sel (w37 hw)) (W.2.1.ext O.2) (w38 hw) (w6 hw) (rm_el_0 hw O W) (W := 1) (by decide) (by decide) (k' := 0) rfl (n' := 0) rfl (by decide) (by decide) rfl pd_41 (argsL := []) rfl (rest := [(.int (0 : Int32))]) rfl rfl rfl at_84 (q := 87) rfl ?_
      rintro _ T27 _ X28 ⟨rfl, rfl⟩
      refine g_nulY C X28 at_87 (by decide) (q := 94) (by decide) ?_
      refine g_iconst C X28 at_94 (q := 95) rfl (z := (0 : Int32)) rfl ?_
      refine g_icN C X28 at_95 (q := 98) rfl (by decide) ?_
      refine g_iload C X28 at_98 (q := 100) rfl rfl ?_
      refine g_iload C X28 at_100 (q := 102) rfl rfl ?_
      refine g_ifN C X28 at_102 (q := 105) rfl (by decide) ?_
      refine g_iload C X28 at_105 (q := 107) rfl rfl ?_
      refine g_ifN C X28 at_107 (q := 110) rfl (by decide) ?_
      refine g_iconst C X28 at_110 (q := 111) rfl (z := (1 : Int32)) rfl ?_
      refine g_goto C X28 at_111 (by decide) (q := 115) (by decide) ?_
      refine g_icN C X28 at_115 (q := 118) rfl (by decide) ?_
      refine g_iconst C X28 at_118 (q := 119) rfl (z := (1 : Int32)) rfl ?_
      refine g_goto C X28 at_119 (by decide) (q := 123) (by decide) ?_
      exact g_retN C X28 (Or.inl rfl) (z' := 1) (by decide) at_123 (by decide) (by decide) ⟨_, rfl, rfl, trivial⟩
    · refine g_iloadN C X at_0 (q := 1) rfl rfl ?_
      refine g_ldcI C X (w0 hw) at_1 (q := 3) rfl ?_
      refine g_iand C X at_3 (q := 4) rfl (z := (p0 &&& (2147483647 : Int32))) rfl ?_
      refine g_iconst C X at_4 (q := 5) rfl (z := (3 : Int32)) rfl ?_
      refine g_irem C X at_5 (q := 6) rfl (by decide) (z := (0 : Int32)) hk ?_
      refine g_istoreN C X at_6 (q := 7) rfl (L' := #[.val (.int p0), .val (.int p1), .val (.int (0 : Int32)), .unset, .unset, .unset, .unset, .unset, .unset]) rfl ?_
      refine g_iloadN C X at_7 (q := 8) rfl rfl ?_
      refine g_ldcI C X (w0 hw) at_8 (q := 10) rfl ?_
      refine g_iand C X at_10 (q := 11) rfl (z := (p1 &&& (2147483647 : Int32))) rfl ?_
      refine g_iconst C X at_11 (q := 12) rfl (z := (3 : Int32)) rfl ?_
      refine g_irem C X at_12 (q := 13) rfl (by decide) (z := (2 : Int32)) hj ?_
      refine g_istoreN C X at_13 (q := 14) rfl (L' := #[.val (.int p0), .val (.int p1), .val (.int (0 : Int32)), .val (.int (2 : Int32)), .unset, .unset, .unset, .unset, .unset]) rfl ?_
      refine g_iloadN C X at_14 (q := 15) rfl rfl ?_
      refine g_callS1 C X (y := (⟨"com/example/jetway/jetway/AccessSignerRequiredPinLaw", "pick", "(I)Lcom/example/jetway/jetway/Access;"⟩ : MethodName)) (by decide) (w1 hw) (w2 hw) (w4 hw) (w3 hw) (rm_pick_0 hw O W) (W := 0) (by decide) (by decide) (k' := 0) rfl (n' := 0) rfl (by decide) (by decide) rfl pd_5 (argsL := [(.int (0 : Int32))]) rfl (rest := []) rfl rfl rfl at_15 (q := 18) rfl ?_
      rintro _ T29 _ X30 ⟨rfl, rfl⟩
      refine g_astore C X30 at_18 (q := 20) rfl rfl (L' := #[.val (.int p0), .val (.int p1), .val (.int (0 : Int32)), .val (.int (2 : Int32)), .val (.ref a_SANDBOX), .unset, .unset, .unset, .unset]) rfl ?_
      refine g_iloadN C X30 at_20 (q := 21) rfl rfl ?_
      refine g_callS1 C X30 (y := (⟨"com/example/jetway/jetway/AccessSignerRequiredPinLaw", "pick", "(I)Lcom/example/jetway/jetway/Access;"⟩ : MethodName)) (by decide) (w1 hw) (w2 hw) (w4 hw) (w3 hw) (rm_pick_2 hw O W) (W := 0) (by decide) (by decide) (k' := 0) rfl (n' := 0) rfl (by decide) (by decide) rfl pd_5 (argsL := [(.int (2 : Int32))]) rfl (rest := []) rfl rfl rfl at_21 (q := 24) rfl ?_
      rintro _ T31 _ X32 ⟨rfl, rfl⟩
      refine g_astore C X32 at_24 (q := 26) rfl rfl (L' := #[.val (.int p0), .val (.int p1), .val (.int (0 : Int32)), .val (.int (2 : Int32)), .val (.ref a_SANDBOX), .val (.ref a_ALL), .unset, .unset, .unset]) rfl ?_
      refine g_aload C X32 at_26 (q := 28) rfl rfl rfl ?_
      refine g_callV1 C X32 (y := (⟨"com/example/jetway/jetway/Access", "signerRequired", "()Z"⟩ : MethodName)) (z := (⟨"com/example/jetway/jetway/Access", "signerRequired", "()Z"⟩ : MethodName)) (a := a_SANDBOX) (by decide) (w8 hw) (w9 hw) (w11 hw) (w10 hw) (nf_sel (w11 hw)) (W.2.1.ext O.2) (w12 hw) (w6 hw) (rm_sr_0 hw O W) (W := 0) (by decide) (by decide) (k' := 0) rfl (n' := 0) rfl (by decide) (by decide) rfl pd_12 (argsL := []) rfl (rest := []) rfl rfl rfl at_28 (q := 31) rfl ?_
      rintro _ T33 _ X34 ⟨rfl, rfl⟩
      refine g_istore C X34 at_31 (q := 33) rfl (L' := #[.val (.int p0), .val (.int p1), .val (.int (0 : Int32)), .val (.int (2 : Int32)), .val (.ref a_SANDBOX), .val (.ref a_ALL), .val (.int (0 : Int32)), .unset, .unset]) rfl ?_
      refine g_aload C X34 at_33 (q := 35) rfl rfl rfl ?_
      refine g_callV1 C X34 (y := (⟨"com/example/jetway/jetway/Access", "signerRequired", "()Z"⟩ : MethodName)) (z := (⟨"com/example/jetway/jetway/Access", "signerRequired", "()Z"⟩ : MethodName)) (a := a_ALL) (by decide) (w8 hw) (w9 hw) (w11 hw) (w10 hw) (nf_sel (w11 hw)) (W.2.2.2.2.2.1.ext O.2) (w12 hw) (w6 hw) (rm_sr_2 hw O W) (W := 0) (by decide) (by decide) (k' := 0) rfl (n' := 0) rfl (by decide) (by decide) rfl pd_12 (argsL := []) rfl (rest := []) rfl rfl rfl at_35 (q := 38) rfl ?_
      rintro _ T35 _ X36 ⟨rfl, rfl⟩
      refine g_istore C X36 at_38 (q := 40) rfl (L' := #[.val (.int p0), .val (.int p1), .val (.int (0 : Int32)), .val (.int (2 : Int32)), .val (.ref a_SANDBOX), .val (.ref a_ALL), .val (.int (0 : Int32)), .val (.int (1 : Int32)), .unset]) rfl ?_
      refine g_aload C X36 at_40 (q := 42) rfl rfl rfl ?_
      refine g_aload C X36 at_42 (q := 44) rfl rfl rfl ?_
      refine g_callV1 C X36 (y := (⟨"com/example/jetway/jetway/Access", "max", "(Lcom/example/jetway/jetway/Access;)Lcom/example/jetway/jetway/Access;"⟩ : MethodName)) (z := (⟨"com/example/jetway/jetway/Access", "max", "(Lcom/example/jetway/jetway/Access;)Lcom/example/jetway/jetway/Access;"⟩ : MethodName)) (a := a_SANDBOX) (by decide) (w14 hw) (w15 hw) (w17 hw) (w16 hw) (nf_sel (w17 hw)) (W.2.1.ext O.2) (w18 hw) (w6 hw) (rm_max_2 hw O W) (W := 0) (by decide) (by decide) (k' := 0) rfl (n' := 0) rfl (by decide) (by decide) rfl pd_37 (argsL := [(.ref a_ALL)]) rfl (rest := []) rfl rfl rfl at_44 (q := 47) rfl ?_
      rintro _ T37 _ X38 ⟨rfl, rfl⟩
      refine g_callV1 C X38 (y := (⟨"com/example/jetway/jetway/Access", "signerRequired", "()Z"⟩ : MethodName)) (z := (⟨"com/example/jetway/jetway/Access", "signerRequired", "()Z"⟩ : MethodName)) (a := a_ALL) (by decide) (w8 hw) (w9 hw) (w11 hw) (w10 hw) (nf_sel (w11 hw)) (W.2.2.2.2.2.1.ext O.2) (w12 hw) (w6 hw) (rm_sr_2 hw O W) (W := 0) (by decide) (by decide) (k' := 0) rfl (n' := 0) rfl (by decide) (by decide) rfl pd_12 (argsL := []) rfl (rest := []) rfl rfl rfl at_47 (q := 50) rfl ?_
      rintro _ T39 _ X40 ⟨rfl, rfl⟩
      refine g_istore C X40 at_50 (q := 52) rfl (L' := #[.val (.int p0), .val (.int p1), .val (.int (0 : Int32)), .val (.int (2 : Int32)), .val (.ref a_SANDBOX), .val (.ref a_ALL), .val (.int (0 : Int32)), .val (.int (1 : Int32)), .val (.int (1 : Int32))]) rfl ?_
      refine g_iload C X40 at_52 (q := 54) rfl rfl ?_
      refine g_iloadN C X40 at_54 (q := 55) rfl rfl ?_
      refine g_ifY C X40 at_55 (by decide) (q := 62) (by decide) (by decide) ?_
      refine g_iconst C X40 at_62 (q := 63) rfl (z := (0 : Int32)) rfl ?_
      refine g_icN C X40 at_63 (q := 66) rfl (by decide) ?_
      refine g_iload C X40 at_66 (q := 68) rfl rfl ?_
      refine g_iloadN C X40 at_68 (q := 69) rfl rfl ?_
      refine g_ifN C X40 at_69 (q := 72) rfl (by decide) ?_
      refine g_iconst C X40 at_72 (q := 73) rfl (z := (1 : Int32)) rfl ?_
      refine g_goto C X40 at_73 (by decide) (q := 77) (by decide) ?_
      refine g_icN C X40 at_77 (q := 80) rfl (by decide) ?_
      refine g_iload C X40 at_80 (q := 82) rfl rfl ?_
      refine g_aload C X40 at_82 (q := 84) rfl rfl rfl ?_
      refine g_callV1 C X40 (y := (⟨"com/example/jetway/jetway/Access", "element", "()Ljava/lang/String;"⟩ : MethodName)) (z := (⟨"com/example/jetway/jetway/Access", "element", "()Ljava/lang/String;"⟩ : MethodName)) (a := a_SANDBOX) (by decide) (w34 hw) (w35 hw) (w37 hw) (w36 hw) (nf_sel (w37 hw)) (W.2.1.ext O.2) (w38 hw) (w6 hw) (rm_el_0 hw O W) (W := 1) (by decide) (by decide) (k' := 0) rfl (n' := 0) rfl (by decide) (by decide) rfl pd_41 (argsL := []) rfl (rest := [(.int (0 : Int32))]) rfl rfl rfl at_84 (q := 87) rfl ?_
      rintro _ T41 _ X42 ⟨rfl, rfl⟩
      refine g_nulY C X42 at_87 (by decide) (q := 94) (by decide) ?_
      refine g_iconst C X42 at_94 (q := 95) rfl (z := (0 : Int32)) rfl ?_
      refine g_icN C X42 at_95 (q := 98) rfl (by decide) ?_
      refine g_iload C X42 at_98 (q := 100) rfl rfl ?_
      refine g_iload C X42 at_100 (q := 102) rfl rfl ?_
      refine g_ifN C X42 at_102 (q := 105) rfl (by decide) ?_
      refine g_iload C X42 at_105 (q := 107) rfl rfl ?_
      refine g_ifN C X42 at_107 (q := 110) rfl (by decide) ?_
      refine g_iconst C X42 at_110 (q := 111) rfl (z := (1 : Int32)) rfl ?_
      refine g_goto C X42 at_111 (by decide) (q := 115) (by decide) ?_
      refine g_icN C X42 at_115 (q := 118) rfl (by decide) ?_
      refine g_iconst C X42 at_118 (q := 119) rfl (z := (1 : Int32)) rfl ?_
      refine g_goto C X42 at_119 (by decide) (q := 123) (by decide) ?_
      exact g_retN C X42 (Or.inl rfl) (z' := 1) (by decide) at_123 (by decide) (by decide) ⟨_, rfl, rfl, trivial⟩
  · rcases own_m3 p1 with hj | hj | hj
    · refine g_iloadN C X at_0 (q := 1) rfl rfl ?_
      refine g_ldcI C X (w0 hw) at_1 (q := 3) rfl ?_
      refine g_iand C X at_3 (q := 4) rfl (z := (p0 &&& (2147483647 : Int32))) rfl ?_
      refine g_iconst C X at_4 (q := 5) rfl (z := (3 : Int32)) rfl ?_
      refine g_irem C X at_5 (q := 6) rfl (by decide) (z := (1 : Int32)) hk ?_
      refine g_istoreN C X at_6 (q := 7) rfl (L' := #[.val (.int p0), .val (.int p1), .val (.int (1 : Int32)), .unset, .unset, .unset, .unset, .unset, .unset]) rfl ?_
      refine g_iloadN C X at_7 (q := 8) rfl rfl ?_
      refine g_ldcI C X (w0 hw) at_8 (q := 10) rfl ?_
      refine g_iand C X at_10 (q := 11) rfl (z := (p1 &&& (2147483647 : Int32))) rfl ?_
      refine g_iconst C X at_11 (q := 12) rfl (z := (3 : Int32)) rfl ?_
      refine g_irem C X at_12 (q := 13) rfl (by decide) (z := (0 : Int32)) hj ?_
      refine g_istoreN C X at_13 (q := 14) rfl (L' := #[.val (.int p0), .val (.int p1), .val (.int (1 : Int32)), .val (.int (0 : Int32)), .unset, .unset, .unset, .unset, .unset]) rfl ?_
      refine g_iloadN C X at_14 (q := 15) rfl rfl ?_
      refine g_callS1 C X (y := (⟨"com/example/jetway/jetway/AccessSignerRequiredPinLaw", "pick", "(I)Lcom/example/jetway/jetway/Access;"⟩ : MethodName)) (by decide) (w1 hw) (w2 hw) (w4 hw) (w3 hw) (rm_pick_1 hw O W) (W := 0) (by decide) (by decide) (k' := 0) rfl (n' := 0) rfl (by decide) (by decide) rfl pd_5 (argsL := [(.int (1 : Int32))]) rfl (rest := []) rfl rfl rfl at_15 (q := 18) rfl ?_
      rintro _ T43 _ X44 ⟨rfl, rfl⟩
      refine g_astore C X44 at_18 (q := 20) rfl rfl (L' := #[.val (.int p0), .val (.int p1), .val (.int (1 : Int32)), .val (.int (0 : Int32)), .val (.ref a_J2EE_CLIENT), .unset, .unset, .unset, .unset]) rfl ?_
      refine g_iloadN C X44 at_20 (q := 21) rfl rfl ?_
      refine g_callS1 C X44 (y := (⟨"com/example/jetway/jetway/AccessSignerRequiredPinLaw", "pick", "(I)Lcom/example/jetway/jetway/Access;"⟩ : MethodName)) (by decide) (w1 hw) (w2 hw) (w4 hw) (w3 hw) (rm_pick_0 hw O W) (W := 0) (by decide) (by decide) (k' := 0) rfl (n' := 0) rfl (by decide) (by decide) rfl pd_5 (argsL := [(.int (0 : Int32))]) rfl (rest := []) rfl rfl rfl at_21 (q := 24) rfl ?_
      rintro _ T45 _ X46 ⟨rfl, rfl⟩
      refine g_astore C X46 at_24 (q := 26) rfl rfl (L' := #[.val (.int p0), .val (.int p1), .val (.int (1 : Int32)), .val (.int (0 : Int32)), .val (.ref a_J2EE_CLIENT), .val (.ref a_SANDBOX), .unset, .unset, .unset]) rfl ?_
      refine g_aload C X46 at_26 (q := 28) rfl rfl rfl ?_
      refine g_callV1 C X46 (y := (⟨"com/example/jetway/jetway/Access", "signerRequired", "()Z"⟩ : MethodName)) (z := (⟨"com/example/jetway/jetway/Access", "signerRequired", "()Z"⟩ : MethodName)) (a := a_J2EE_CLIENT) (by decide) (w8 hw) (w9 hw) (w11 hw) (w10 hw) (nf_sel (w11 hw)) (W.2.2.2.2.2.2.2.1.ext O.2) (w12 hw) (w6 hw) (rm_sr_1 hw O W) (W := 0) (by decide) (by decide) (k' := 0) rfl (n' := 0) rfl (by decide) (by decide) rfl pd_12 (argsL := []) rfl (rest := []) rfl rfl rfl at_28 (q := 31) rfl ?_
      rintro _ T47 _ X48 ⟨rfl, rfl⟩
      refine g_istore C X48 at_31 (q := 33) rfl (L' := #[.val (.int p0), .val (.int p1), .val (.int (1 : Int32)), .val (.int (0 : Int32)), .val (.ref a_J2EE_CLIENT), .val (.ref a_SANDBOX), .val (.int (1 : Int32)), .unset, .unset]) rfl ?_
      refine g_aload C X48 at_33 (q := 35) rfl rfl rfl ?_
      refine g_callV1 C X48 (y := (⟨"com/example/jetway/jetway/Access", "signerRequired", "()Z"⟩ : MethodName)) (z := (⟨"com/example/jetway/jetway/Access", "signerRequired", "()Z"⟩ : MethodName)) (a := a_SANDBOX) (by decide) (w8 hw) (w9 hw) (w11 hw) (w10 hw) (nf_sel (w11 hw)) (W.2.1.ext O.2) (w12 hw) (w6 hw) (rm_sr_0 hw O W) (W := 0) (by decide) (by decide) (k' := 0) rfl (n' := 0) rfl (by decide) (by decide) rfl pd_12 (argsL := []) rfl (rest := []) rfl rfl rfl at_35 (q := 38) rfl ?_
      rintro _ T49 _ X50 ⟨rfl, rfl⟩
      refine g_istore C X50 at_38 (q := 40) rfl (L' := #[.val (.int p0), .val (.int p1), .val (.int (1 : Int32)), .val (.int (0 : Int32)), .val (.ref a_J2EE_CLIENT), .val (.ref a_SANDBOX), .val (.int (1 : Int32)), .val (.int (0 : Int32)), .unset]) rfl ?_
      refine g_aload C X50 at_40 (q := 42) rfl rfl rfl ?_
      refine g_aload C X50 at_42 (q := 44) rfl rfl rfl ?_
      refine g_callV1 C X50 (y := (⟨"com/example/jetway/jetway/Access", "max", "(Lcom/example/jetway/jetway/Access;)Lcom/example/jetway/jetway/Access;"⟩ : MethodName)) (z := (⟨"com/example/jetway/jetway/Access", "max", "(Lcom/example/jetway/jetway/Access;)Lcom/example/jetway/jetway/Access;"⟩ : MethodName)) (a := a_J2EE_CLIENT) (by decide) (w14 hw) (w15 hw) (w17 hw) (w16 hw) (nf_sel (w17 hw)) (W.2.2.2.2.2.2.2.1.ext O.2) (w18 hw) (w6 hw) (rm_max_3 hw O W) (W := 0) (by decide) (by decide) (k' := 0) rfl (n' := 0) rfl (by decide) (by decide) rfl pd_37 (argsL := [(.ref a_SANDBOX)]) rfl (rest := []) rfl rfl rfl at_44 (q := 47) rfl ?_
      rintro _ T51 _ X52 ⟨rfl, rfl⟩
      refine g_callV1 C X52 (y := (⟨"com/example/jetway/jetway/Access", "signerRequired", "()Z"⟩ : MethodName)) (z := (⟨"com/example/jetway/jetway/Access", "signerRequired", "()Z"⟩ : MethodName)) (a := a_J2EE_CLIENT) (by decide) (w8 hw) (w9 hw) (w11 hw) (w10 hw) (nf_sel (w11 hw)) (W.2.2.2.2.2.2.2.1.ext O.2) (w12 hw) (w6 hw) (rm_sr_1 hw O W) (W := 0) (by decide) (by decide) (k' := 0) rfl (n' := 0) rfl (by decide) (by decide) rfl pd_12 (argsL := []) rfl (rest := []) rfl rfl rfl at_47 (q := 50) rfl ?_
      rintro _ T53 _ X54 ⟨rfl, rfl⟩
      refine g_istore C X54 at_50 (q := 52) rfl (L' := #[.val (.int p0), .val (.int p1), .val (.int (1 : Int32)), .val (.int (0 : Int32)), .val (.ref a_J2EE_CLIENT), .val (.ref a_SANDBOX), .val (.int (1 : Int32)), .val (.int (0 : Int32)), .val (.int (1 : Int32))]) rfl ?_
      refine g_iload C X54 at_52 (q := 54) rfl rfl ?_
      refine g_iloadN C X54 at_54 (q := 55) rfl rfl ?_
      refine g_ifN C X54 at_55 (q := 58) rfl (by decide) ?_
      refine g_iconst C X54 at_58 (q := 59) rfl (z := (1 : Int32)) rfl ?_
      refine g_goto C X54 at_59 (by decide) (q := 63) (by decide) ?_
      refine g_icN C X54 at_63 (q := 66) rfl (by decide) ?_
      refine g_iload C X54 at_66 (q := 68) rfl rfl ?_
      refine g_iloadN C X54 at_68 (q := 69) rfl rfl ?_
      refine g_ifY C X54 at_69 (by decide) (q := 76) (by decide) (by decide) ?_
      refine g_iconst C X54 at_76 (q := 77) rfl (z := (0 : Int32)) rfl ?_
      refine g_icN C X54 at_77 (q := 80) rfl (by decide) ?_
      refine g_iload C X54 at_80 (q := 82) rfl rfl ?_
      refine g_aload C X54 at_82 (q := 84) rfl rfl rfl ?_
      refine g_callV1 C X54 (y := (⟨"com/example/jetway/jetway/Access", "element", "()Ljava/lang/String;"⟩ : MethodName)) (z := (⟨"com/example/jetway/jetway/Access", "element", "()Ljava/lang/String;"⟩ : MethodName)) (a := a_J2EE_CLIENT) (by decide) (w34 hw) (w35 hw) (w37 hw) (w36 hw) (nf_sel (w37 hw)) (W.2.2.2.2.2.2.2.1.ext O.2) (w38 hw) (w6 hw) (rm_el_1 hw O W) (W := 1) (by decide) (by decide) (k' := 0) rfl (n' := 0) rfl (by decide) (by decide) rfl pd_41 (argsL := []) rfl (rest := [(.int (1 : Int32))]) rfl rfl rfl at_84 (q := 87) rfl ?_
      rintro _ T55 _ X56 ⟨rfl, rfl⟩
      refine g_nulN C X56 at_87 (q := 90) rfl ?_
      refine g_iconst C X56 at_90 (q := 91) rfl (z := (1 : Int32)) rfl ?_
      refine g_goto C X56 at_91 (by decide) (q := 95) (by decide) ?_
      refine g_icN C X56 at_95 (q := 98) rfl (by decide) ?_
      refine g_iload C X56 at_98 (q := 100) rfl rfl ?_
      refine g_iload C X56 at_100 (q := 102) rfl rfl ?_
      refine g_ifY C X56 at_102 (by decide) (q := 110) (by decide) (by decide) ?_
      refine g_iconst C X56 at_110 (q := 111) rfl (z := (1 : Int32)) rfl ?_
      refine g_goto C X56 at_111 (by decide) (q := 115) (by decide) ?_
      refine g_icN C X56 at_115 (q := 118) rfl (by decide) ?_
      refine g_iconst C X56 at_118 (q := 119) rfl (z := (1 : Int32)) rfl ?_
      refine g_goto C X56 at_119 (by decide) (q := 123) (by decide) ?_
      exact g_retN C X56 (Or.inl rfl) (z' := 1) (by decide) at_123 (by decide) (by decide) ⟨_, rfl, rfl, trivial⟩
    · refine g_iloadN C X at_0 (q := 1) rfl rfl ?_
      refine g_ldcI C X (w0 hw) at_1 (q := 3) rfl ?_
      refine g_iand C X at_3 (q := 4) rfl (z := (p0 &&& (2147483647 : Int32))) rfl ?_
      refine g_iconst C X at_4 (q := 5) rfl (z := (3 : Int32)) rfl ?_
      refine g_irem C X at_5 (q := 6) rfl (by decide) (z := (1 : Int32)) hk ?_
      refine g_istoreN C X at_6 (q := 7) rfl (L' := #[.val (.int p0), .val (.int p1), .val (.int (1 : Int32)), .unset, .unset, .unset, .unset, .unset, .unset]) rfl ?_
      refine g_iloadN C X at_7 (q := 8) rfl rfl ?_
      refine g_ldcI C X (w0 hw) at_8 (q := 10) rfl ?_
      refine g_iand C X at_10 (q := 11) rfl (z := (p1 &&& (2147483647 : Int32))) rfl ?_
      refine g_iconst C X at_11 (q := 12) rfl (z := (3 : Int32)) rfl ?_
      refine g_irem C X at_12 (q := 13) rfl (by decide) (z := (1 : Int32)) hj ?_
      refine g_istoreN C X at_13 (q := 14) rfl (L' := #[.val (.int p0), .val (.int p1), .val (.int (1 : Int32)), .val (.int (1 : Int32)), .unset, .unset, .unset, .unset, .unset]) rfl ?_
      refine g_iloadN C X at_14 (q := 15) rfl rfl ?_
      refine g_callS1 C X (y := (⟨"com/example/jetway/jetway/AccessSignerRequiredPinLaw", "pick", "(I)Lcom/example/jetway/jetway/Access;"⟩ : MethodName)) (by decide) (w1 hw) (w2 hw) (w4 hw) (w3 hw) (rm_pick_1 hw O W) (W := 0) (by decide) (by decide) (k' := 0) rfl (n' := 0) rfl (by decide) (by decide) rfl pd_5 (argsL := [(.int (1 : Int32))]) rfl (rest := []) rfl rfl rfl at_15 (q := 18) rfl ?_
      rintro _ T57 _ X58 ⟨rfl, rfl⟩
      refine g_astore C X58 at_18 (q := 20) rfl rfl (L' := #[.val (.int p0), .val (.int p1), .val (.int (1 : Int32)), .val (.int (1 : Int32)), .val (.ref a_J2EE_CLIENT), .unset, .unset, .unset, .unset]) rfl ?_
      refine g_iloadN C X58 at_20 (q := 21) rfl rfl ?_
      refine g_callS1 C X58 (y := (⟨"com/example/jetway/jetway/AccessSignerRequiredPinLaw", "pick", "(I)Lcom/example/jetway/jetway/Access;"⟩ : MethodName)) (by decide) (w1 hw) (w2 hw) (w4 hw) (w3 hw) (rm_pick_1 hw O W) (W := 0) (by decide) (by decide) (k' := 0) rfl (n' := 0) rfl (by decide) (by decide) rfl pd_5 (argsL := [(.int (1 : Int32))]) rfl (rest := []) rfl rfl rfl at_21 (q := 24) rfl ?_
      rintro _ T59 _ X60 ⟨rfl, rfl⟩
      refine g_astore C X60 at_24 (q := 26) rfl rfl (L' := #[.val (.int p0), .val (.int p1), .val (.int (1 : Int32)), .val (.int (1 : Int32)), .val (.ref a_J2EE_CLIENT), .val (.ref a_J2EE_CLIENT), .unset, .unset, .unset]) rfl ?_
      refine g_aload C X60 at_26 (q := 28) rfl rfl rfl ?_
      refine g_callV1 C X60 (y := (⟨"com/example/jetway/jetway/Access", "signerRequired", "()Z"⟩ : MethodName)) (z := (⟨"com/example/jetway/jetway/Access", "signerRequired", "()Z"⟩ : MethodName)) (a := a_J2EE_CLIENT) (by decide) (w8 hw) (w9 hw) (w11 hw) (w10 hw) (nf_sel (w11 hw)) (W.2.2.2.2.2.2.2.1.ext O.2) (w12 hw) (w6 hw) (rm_sr_1 hw O W) (W := 0) (by decide) (by decide) (k' := 0) rfl (n' := 0) rfl (by decide) (by decide) rfl pd_12 (argsL := []) rfl (rest := []) rfl rfl rfl at_28 (q := 31) rfl ?_
      rintro _ T61 _ X62 ⟨rfl, rfl⟩
      refine g_istore C X62 at_31 (q := 33) rfl (L' := #[.val (.int p0), .val (.int p1), .val (.int (1 : Int32)), .val (.int (1 : Int32)), .val (.ref a_J2EE_CLIENT), .val (.ref a_J2EE_CLIENT), .val (.int (1 : Int32)), .unset, .unset]) rfl ?_
      refine g_aload C X62 at_33 (q := 35) rfl rfl rfl ?_
      refine g_callV1 C X62 (y := (⟨"com/example/jetway/jetway/Access", "signerRequired", "()Z"⟩ : MethodName)) (z := (⟨"com/example/jetway/jetway/Access", "signerRequired", "()Z"⟩ : MethodName)) (a := a_J2EE_CLIENT) (by decide) (w8 hw) (w9 hw) (w11 hw) (w10 hw) (nf_sel (w11 hw)) (W.2.2.2.2.2.2.2.1.ext O.2) (w12 hw) (w6 hw) (rm_sr_1 hw O W) (W := 0) (by decide) (by decide) (k' := 0) rfl (n' := 0) rfl (by decide) (by decide) rfl pd_12 (argsL := []) rfl (rest := []) rfl rfl rfl at_35 (q := 38) rfl ?_
      rintro _ T63 _ X64 ⟨rfl, rfl⟩
      refine g_istore C X64 at_38 (q := 40) rfl (L' := #[.val (.int p0), .val (.int p1), .val (.int (1 : Int32)), .val (.int (1 : Int32)), .val (.ref a_J2EE_CLIENT), .val (.ref a_J2EE_CLIENT), .val (.int (1 : Int32)), .val (.int (1 : Int32)), .unset]) rfl ?_
      refine g_aload C X64 at_40 (q := 42) rfl rfl rfl ?_
      refine g_aload C X64 at_42 (q := 44) rfl rfl rfl ?_
      refine g_callV1 C X64 (y := (⟨"com/example/jetway/jetway/Access", "max", "(Lcom/example/jetway/jetway/Access;)Lcom/example/jetway/jetway/Access;"⟩ : MethodName)) (z := (⟨"com/example/jetway/jetway/Access", "max", "(Lcom/example/jetway/jetway/Access;)Lcom/example/jetway/jetway/Access;"⟩ : MethodName)) (a := a_J2EE_CLIENT) (by decide) (w14 hw) (w15 hw) (w17 hw) (w16 hw) (nf_sel (w17 hw)) (W.2.2.2.2.2.2.2.1.ext O.2) (w18 hw) (w6 hw) (rm_max_4 hw O W) (W := 0) (by decide) (by decide) (k' := 0) rfl (n' := 0) rfl (by decide) (by decide) rfl pd_37 (argsL := [(.ref a_J2EE_CLIENT)]) rfl (rest := []) rfl rfl rfl at_44 (q := 47) rfl ?_
      rintro _ T65 _ X66 ⟨rfl, rfl⟩
      refine g_callV1 C X66 (y := (⟨"com/example/jetway/jetway/Access", "signerRequired", "()Z"⟩ : MethodName)) (z := (⟨"com/example/jetway/jetway/Access", "signerRequired", "()Z"⟩ : MethodName)) (a := a_J2EE_CLIENT) (by decide) (w8 hw) (w9 hw) (w11 hw) (w10 hw) (nf_sel (w11 hw)) (W.2.2.2.2.2.2.2.1.ext O.2) (w12 hw) (w6 hw) (rm_sr_1 hw O W) (W := 0) (by decide) (by decide) (k' := 0) rfl (n' := 0) rfl (by decide) (by decide) rfl pd_12 (argsL := []) rfl (rest := []) rfl rfl rfl at_47 (q := 50) rfl ?_
      rintro _ T67 _ X68 ⟨rfl, rfl⟩
      refine g_istore C X68 at_50 (q := 52) rfl (L' := #[.val (.int p0), .val (.int p1), .val (.int (1 : Int32)), .val (.int (1 : Int32)), .val (.ref a_J2EE_CLIENT), .val (.ref a_J2EE_CLIENT), .val (.int (1 : Int32)), .val (.int (1 : Int32)), .val (.int (1 : Int32))]) rfl ?_
      refine g_iload C X68 at_52 (q := 54) rfl rfl ?_
      refine g_iloadN C X68 at_54 (q := 55) rfl rfl ?_
      refine g_ifN C X68 at_55 (q := 58) rfl (by decide) ?_
      refine g_iconst C X68 at_58 (q := 59) rfl (z := (1 : Int32)) rfl ?_
      refine g_goto C X68 at_59 (by decide) (q := 63) (by decide) ?_
      refine g_icN C X68 at_63 (q := 66) rfl (by decide) ?_
      refine g_iload C X68 at_66 (q := 68) rfl rfl ?_
      refine g_iloadN C X68 at_68 (q := 69) rfl rfl ?_
      refine g_ifN C X68 at_69 (q := 72) rfl (by decide) ?_
      refine g_iconst C X68 at_72 (q := 73) rfl (z := (1 : Int32)) rfl ?_
      refine g_goto C X68 at_73 (by decide) (q := 77) (by decide) ?_
      refine g_icN C X68 at_77 (q := 80) rfl (by decide) ?_
      refine g_iload C X68 at_80 (q := 82) rfl rfl ?_
      refine g_aload C X68 at_82 (q := 84) rfl rfl rfl ?_
      refine g_callV1 C X68 (y := (⟨"com/example/jetway/jetway/Access", "element", "()Ljava/lang/String;"⟩ : MethodName)) (z := (⟨"com/example/jetway/jetway/Access", "element", "()Ljava/lang/String;"⟩ : MethodName)) (a := a_J2EE_CLIENT) (by decide) (w34 hw) (w35 hw) (w37 hw) (w36 hw) (nf_sel (w37 hw)) (W.2.2.2.2.2.2.2.1.ext O.2) (w38 hw) (w6 hw) (rm_el_1 hw O W) (W := 1) (by decide) (by decide) (k' := 0) rfl (n' := 0) rfl (by decide) (by decide) rfl pd_41 (argsL := []) rfl (rest := [(.int (1 : Int32))]) rfl rfl rfl at_84 (q := 87) rfl ?_
      rintro _ T69 _ X70 ⟨rfl, rfl⟩
      refine g_nulN C X70 at_87 (q := 90) rfl ?_
      refine g_iconst C X70 at_90 (q := 91) rfl (z := (1 : Int32)) rfl ?_
      refine g_goto C X70 at_91 (by decide) (q := 95) (by decide) ?_
      refine g_icN C X70 at_95 (q := 98) rfl (by decide) ?_
      refine g_iload C X70 at_98 (q := 100) rfl rfl ?_
      refine g_iload C X70 at_100 (q := 102) rfl rfl ?_
      refine g_ifY C X70 at_102 (by decide) (q := 110) (by decide) (by decide) ?_
      refine g_iconst C X70 at_110 (q := 111) rfl (z := (1 : Int32)) rfl ?_
      refine g_goto C X70 at_111 (by decide) (q := 115) (by decide) ?_
      refine g_icN C X70 at_115 (q := 118) rfl (by decide) ?_
      refine g_iconst C X70 at_118 (q := 119) rfl (z := (1 : Int32)) rfl ?_
      refine g_goto C X70 at_119 (by decide) (q := 123) (by decide) ?_
      exact g_retN C X70 (Or.inl rfl) (z' := 1) (by decide) at_123 (by decide) (by decide) ⟨_, rfl, rfl, trivial⟩
    · refine g_iloadN C X at_0 (q := 1) rfl rfl ?_
      refine g_ldcI C X (w0 hw) at_1 (q := 3) rfl ?_
      refine g_iand C X at_3 (q := 4) rfl (z := (p0 &&& (2147483647 : Int32))) rfl ?_
      refine g_iconst C X at_4 (q := 5) rfl (z := (3 : Int32)) rfl ?_
      refine g_irem C X at_5 (q := 6) rfl (by decide) (z := (1 : Int32)) hk ?_
      refine g_istoreN C X at_6 (q := 7) rfl (L' := #[.val (.int p0), .val (.int p1), .val (.int (1 : Int32)), .unset, .unset, .unset, .unset, .unset, .unset]) rfl ?_
      refine g_iloadN C X at_7 (q := 8) rfl rfl ?_
      refine g_ldcI C X (w0 hw) at_8 (q := 10) rfl ?_
      refine g_iand C X at_10 (q := 11) rfl (z := (p1 &&& (2147483647 : Int32))) rfl ?_
      refine g_iconst C X at_11 (q := 12) rfl (z := (3 : Int32)) rfl ?_
      refine g_irem C X at_12 (q := 13) rfl (by decide) (z := (2 : Int32)) hj ?_
      refine g_istoreN C X at_13 (q := 14) rfl (L' := #[.val (.int p0), .val (.int p1), .val (.int (1 : Int32)), .val (.int (2 : Int32)), .unset, .unset, .unset, .unset, .unset]) rfl ?_
      refine g_iloadN C X at_14 (q := 15) rfl rfl ?_
      refine g_callS1 C X (y := (⟨"com/example/jetway/jetway/AccessSignerRequiredPinLaw", "pick", "(I)Lcom/example/jetway/jetway/Access;"⟩ : MethodName)) (by decide) (w1 hw) (w2 hw) (w4 hw) (w3 hw) (rm_pick_1 hw O W) (W := 0) (by decide) (by decide) (k' := 0) rfl (n' := 0) rfl (by decide) (by decide) rfl pd_5 (argsL := [(.int (1 : Int32))]) rfl (rest := []) rfl rfl rfl at_15 (q := 18) rfl ?_
      rintro _ T71 _ X72 ⟨rfl, rfl⟩
      refine g_astore C X72 at_18 (q := 20) rfl rfl (L' := #[.val (.int p0), .val (.int p1), .val (.int (1 : Int32)), .val (.int (2 : Int32)), .val (.ref a_J2EE_CLIENT), .unset, .unset, .unset, .unset]) rfl ?_
      refine g_iloadN C X72 at_20 (q := 21) rfl rfl ?_
      refine g_callS1 C X72 (y := (⟨"com/example/jetway/jetway/AccessSignerRequiredPinLaw", "pick", "(I)Lcom/example/jetway/jetway/Access;"⟩ : MethodName)) (by decide) (w1 hw) (w2 hw) (w4 hw) (w3 hw) (rm_pick_2 hw O W) (W := 0) (by decide) (by decide) (k' := 0) rfl (n' := 0) rfl (by decide) (by decide) rfl pd_5 (argsL := [(.int (2 : Int32))]) rfl (rest := []) rfl rfl rfl at_21 (q := 24) rfl ?_
      rintro _ T73 _ X74 ⟨rfl, rfl⟩
      refine g_astore C X74 at_24 (q := 26) rfl rfl (L' := #[.val (.int p0), .val (.int p1), .val (.int (1 : Int32)), .val (.int (2 : Int32)), .val (.ref a_J2EE_CLIENT), .val (.ref a_ALL), .unset, .unset, .unset]) rfl ?_
      refine g_aload C X74 at_26 (q := 28) rfl rfl rfl ?_
      refine g_callV1 C X74 (y := (⟨"com/example/jetway/jetway/Access", "signerRequired", "()Z"⟩ : MethodName)) (z := (⟨"com/example/jetway/jetway/Access", "signerRequired", "()Z"⟩ : MethodName)) (a := a_J2EE_CLIENT) (by decide) (w8 hw) (w9 hw) (w11 hw) (w10 hw) (nf_sel (w11 hw)) (W.2.2.2.2.2.2.2.1.ext O.2) (w12 hw) (w6 hw) (rm_sr_1 hw O W) (W := 0) (by decide) (by decide) (k' := 0) rfl (n' := 0) rfl (by decide) (by decide) rfl pd_12 (argsL := []) rfl (rest := []) rfl rfl rfl at_28 (q := 31) rfl ?_
      rintro _ T75 _ X76 ⟨rfl, rfl⟩
      refine g_istore C X76 at_31 (q := 33) rfl (L' := #[.val (.int p0), .val (.int p1), .val (.int (1 : Int32)), .val (.int (2 : Int32)), .val (.ref a_J2EE_CLIENT), .val (.ref a_ALL), .val (.int (1 : Int32)), .unset, .unset]) rfl ?_
      refine g_aload C X76 at_33 (q := 35) rfl rfl rfl ?_
      refine g_callV1 C X76 (y := (⟨"com/example/jetway/jetway/Access", "signerRequired", "()Z"⟩ : MethodName)) (z := (⟨"com/example/jetway/jetway/Access", "signerRequired", "()Z"⟩ : MethodName)) (a := a_ALL) (by decide) (w8 hw) (w9 hw) (w11 hw) (w10 hw) (nf_sel (w11 hw)) (W.2.2.2.2.2.1.ext O.2) (w12 hw) (w6 hw) (rm_sr_2 hw O W) (W := 0) (by decide) (by decide) (k' := 0) rfl (n' := 0) rfl (by decide) (by decide) rfl pd_12 (argsL := []) rfl (rest := []) rfl rfl rfl at_35 (q := 38) rfl ?_
      rintro _ T77 _ X78 ⟨rfl, rfl⟩
      refine g_istore C X78 at_38 (q := 40) rfl (L' := #[.val (.int p0), .val (.int p1), .val (.int (1 : Int32)), .val (.int (2 : Int32)), .val (.ref a_J2EE_CLIENT), .val (.ref a_ALL), .val (.int (1 : Int32)), .val (.int (1 : Int32)), .unset]) rfl ?_
      refine g_aload C X78 at_40 (q := 42) rfl rfl rfl ?_
      refine g_aload C X78 at_42 (q := 44) rfl rfl rfl ?_
      refine g_callV1 C X78 (y := (⟨"com/example/jetway/jetway/Access", "max", "(Lcom/example/jetway/jetway/Access;)Lcom/example/jetway/jetway/Access;"⟩ : MethodName)) (z := (⟨"com/example/jetway/jetway/Access", "max", "(Lcom/example/jetway/jetway/Access;)Lcom/example/jetway/jetway/Access;"⟩ : MethodName)) (a := a_J2EE_CLIENT) (by decide) (w14 hw) (w15 hw) (w17 hw) (w16 hw) (nf_sel (w17 hw)) (W.2.2.2.2.2.2.2.1.ext O.2) (w18 hw) (w6 hw) (rm_max_5 hw O W) (W := 0) (by decide) (by decide) (k' := 0) rfl (n' := 0) rfl (by decide) (by decide) rfl pd_37 (argsL := [(.ref a_ALL)]) rfl (rest := []) rfl rfl rfl at_44 (q := 47) rfl ?_
      rintro _ T79 _ X80 ⟨rfl, rfl⟩
      refine g_callV1 C X80 (y := (⟨"com/example/jetway/jetway/Access", "signerRequired", "()Z"⟩ : MethodName)) (z := (⟨"com/example/jetway/jetway/Access", "signerRequired", "()Z"⟩ : MethodName)) (a := a_ALL) (by decide) (w8 hw) (w9 hw) (w11 hw) (w10 hw) (nf_sel (w11 hw)) (W.2.2.2.2.2.1.ext O.2) (w12 hw) (w6 hw) (rm_sr_2 hw O W) (W := 0) (by decide) (by decide) (k' := 0) rfl (n' := 0) rfl (by decide) (by decide) rfl pd_12 (argsL := []) rfl (rest := []) rfl rfl rfl at_47 (q := 50) rfl ?_
      rintro _ T81 _ X82 ⟨rfl, rfl⟩
      refine g_istore C X82 at_50 (q := 52) rfl (L' := #[.val (.int p0), .val (.int p1), .val (.int (1 : Int32)), .val (.int (2 : Int32)), .val (.ref a_J2EE_CLIENT), .val (.ref a_ALL), .val (.int (1 : Int32)), .val (.int (1 : Int32)), .val (.int (1 : Int32))]) rfl ?_
      refine g_iload C X82 at_52 (q := 54) rfl rfl ?_
      refine g_iloadN C X82 at_54 (q := 55) rfl rfl ?_
      refine g_ifN C X82 at_55 (q := 58) rfl (by decide) ?_
      refine g_iconst C X82 at_58 (q := 59) rfl (z := (1 : Int32)) rfl ?_
      refine g_goto C X82 at_59 (by decide) (q := 63) (by decide) ?_
      refine g_icN C X82 at_63 (q := 66) rfl (by decide) ?_
      refine g_iload C X82 at_66 (q := 68) rfl rfl ?_
      refine g_iloadN C X82 at_68 (q := 69) rfl rfl ?_
      refine g_ifN C X82 at_69 (q := 72) rfl (by decide) ?_
      refine g_iconst C X82 at_72 (q := 73) rfl (z := (1 : Int32)) rfl ?_
      refine g_goto C X82 at_73 (by decide) (q := 77) (by decide) ?_
      refine g_icN C X82 at_77 (q := 80) rfl (by decide) ?_
      refine g_iload C X82 at_80 (q := 82) rfl rfl ?_
      refine g_aload C X82 at_82 (q := 84) rfl rfl rfl ?_
      refine g_callV1 C X82 (y := (⟨"com/example/jetway/jetway/Access", "element", "()Ljava/lang/String;"⟩ : MethodName)) (z := (⟨"com/example/jetway/jetway/Access", "element", "()Ljava/lang/String;"⟩ : MethodName)) (a := a_J2EE_CLIENT) (by decide) (w34 hw) (w35 hw) (w37 hw) (w36 hw) (nf_sel (w37 hw)) (W.2.2.2.2.2.2.2.1.ext O.2) (w38 hw) (w6 hw) (rm_el_1 hw O W) (W := 1) (by decide) (by decide) (k' := 0) rfl (n' := 0) rfl (by decide) (by decide) rfl pd_41 (argsL := []) rfl (rest := [(.int (1 : Int32))]) rfl rfl rfl at_84 (q := 87) rfl ?_
      rintro _ T83 _ X84 ⟨rfl, rfl⟩
      refine g_nulN C X84 at_87 (q := 90) rfl ?_
      refine g_iconst C X84 at_90 (q := 91) rfl (z := (1 : Int32)) rfl ?_
      refine g_goto C X84 at_91 (by decide) (q := 95) (by decide) ?_
      refine g_icN C X84 at_95 (q := 98) rfl (by decide) ?_
      refine g_iload C X84 at_98 (q := 100) rfl rfl ?_
      refine g_iload C X84 at_100 (q := 102) rfl rfl ?_
      refine g_ifY C X84 at_102 (by decide) (q := 110) (by decide) (by decide) ?_
      refine g_iconst C X84 at_110 (q := 111) rfl (z := (1 : Int32)) rfl ?_
      refine g_goto C X84 at_111 (by decide) (q := 115) (by decide) ?_
      refine g_icN C X84 at_115 (q := 118) rfl (by decide) ?_
      refine g_iconst C X84 at_118 (q := 119) rfl (z := (1 : Int32)) rfl ?_
      refine g_goto C X84 at_119 (by decide) (q := 123) (by decide) ?_
      exact g_retN C X84 (Or.inl rfl) (z' := 1) (by decide) at_123 (by decide) (by decide) ⟨_, rfl, rfl, trivial⟩
  · rcases own_m3 p1 with hj | hj | hj
    · refine g_iloadN C X at_0 (q := 1) rfl rfl ?_
      refine g_ldcI C X (w0 hw) at_1 (q := 3) rfl ?_
      refine g_iand C X at_3 (q := 4) rfl (z := (p0 &&& (2147483647 : Int32))) rfl ?_
      refine g_iconst C X at_4 (q := 5) rfl (z := (3 : Int32)) rfl ?_
      refine g_irem C X at_5 (q := 6) rfl (by decide) (z := (2 : Int32)) hk ?_
      refine g_istoreN C X at_6 (q := 7) rfl (L' := #[.val (.int p0), .val (.int p1), .val (.int (2 : Int32)), .unset, .unset, .unset, .unset, .unset, .unset]) rfl ?_
      refine g_iloadN C X at_7 (q := 8) rfl rfl ?_
      refine g_ldcI C X (w0 hw) at_8 (q := 10) rfl ?_
      refine g_iand C X at_10 (q := 11) rfl (z := (p1 &&& (2147483647 : Int32))) rfl ?_
      refine g_iconst C X at_11 (q := 12) rfl (z := (3 : Int32)) rfl ?_
      refine g_irem C X at_12 (q := 13) rfl (by decide) (z := (0 : Int32)) hj ?_
      refine g_istoreN C X at_13 (q := 14) rfl (L' := #[.val (.int p0), .val (.int p1), .val (.int (2 : Int32)), .val (.int (0 : Int32)), .unset, .unset, .unset, .unset, .unset]) rfl ?_
      refine g_iloadN C X at_14 (q := 15) rfl rfl ?_
      refine g_callS1 C X (y := (⟨"com/example/jetway/jetway/AccessSignerRequiredPinLaw", "pick", "(I)Lcom/example/jetway/jetway/Access;"⟩ : MethodName)) (by decide) (w1 hw) (w2 hw) (w4 hw) (w3 hw) (rm_pick_2 hw O W) (W := 0) (by decide) (by decide) (k' := 0) rfl (n' := 0) rfl (by decide) (by decide) rfl pd_5 (argsL := [(.int (2 : Int32))]) rfl (rest := []) rfl rfl rfl at_15 (q := 18) rfl ?_
      rintro _ T85 _ X86 ⟨rfl, rfl⟩
      refine g_astore C X86 at_18 (q := 20) rfl rfl (L' := #[.val (.int p0), .val (.int p1), .val (.int (2 : Int32)), .val (.int (0 : Int32)), .val (.ref a_ALL), .unset, .unset, .unset, .unset]) rfl ?_
      refine g_iloadN C X86 at_20 (q := 21) rfl rfl ?_
      refine g_callS1 C X86 (y := (⟨"com/example/jetway/jetway/AccessSignerRequiredPinLaw", "pick", "(I)Lcom/example/jetway/jetway/Access;"⟩ : MethodName)) (by decide) (w1 hw) (w2 hw) (w4 hw) (w3 hw) (rm_pick_0 hw O W) (W := 0) (by decide) (by decide) (k' := 0) rfl (n' := 0) rfl (by decide) (by decide) rfl pd_5 (argsL := [(.int (0 : Int32))]) rfl (rest := []) rfl rfl rfl at_21 (q := 24) rfl ?_
      rintro _ T87 _ X88 ⟨rfl, rfl⟩
      refine g_astore C X88 at_24 (q := 26) rfl rfl (L' := #[.val (.int p0), .val (.int p1), .val (.int (2 : Int32)), .val (.int (0 : Int32)), .val (.ref a_ALL), .val (.ref a_SANDBOX), .unset, .unset, .unset]) rfl ?_
      refine g_aload C X88 at_26 (q := 28) rfl rfl rfl ?_
      refine g_callV1 C X88 (y := (⟨"com/example/jetway/jetway/Access", "signerRequired", "()Z"⟩ : MethodName)) (z := (⟨"com/example/jetway/jetway/Access", "signerRequired", "()Z"⟩ : MethodName)) (a := a_ALL) (by decide) (w8 hw) (w9 hw) (w11 hw) (w10 hw) (nf_sel (w11 hw)) (W.2.2.2.2.2.1.ext O.2) (w12 hw) (w6 hw) (rm_sr_2 hw O W) (W := 0) (by decide) (by decide) (k' := 0) rfl (n' := 0) rfl (by decide) (by decide) rfl pd_12 (argsL := []) rfl (rest := []) rfl rfl rfl at_28 (q := 31) rfl ?_
      rintro _ T89 _ X90 ⟨rfl, rfl⟩
      refine g_istore C X90 at_31 (q := 33) rfl (L' := #[.val (.int p0), .val (.int p1), .val (.int (2 : Int32)), .val (.int (0 : Int32)), .val (.ref a_ALL), .val (.ref a_SANDBOX), .val (.int (1 : Int32)), .unset, .unset]) rfl ?_
      refine g_aload C X90 at_33 (q := 35) rfl rfl rfl ?_
      refine g_callV1 C X90 (y := (⟨"com/example/jetway/jetway/Access", "signerRequired", "()Z"⟩ : MethodName)) (z := (⟨"com/example/jetway/jetway/Access", "signerRequired", "()Z"⟩ : MethodName)) (a := a_SANDBOX) (by decide) (w8 hw) (w9 hw) (w11 hw) (w10 hw) (nf_sel (w11 hw)) (W.2.1.ext O.2) (w12 hw) (w6 hw) (rm_sr_0 hw O W) (W := 0) (by decide) (by decide) (k' := 0) rfl (n' := 0) rfl (by decide) (by decide) rfl pd_12 (argsL := []) rfl (rest := []) rfl rfl rfl at_35 (q := 38) rfl ?_
      rintro _ T91 _ X92 ⟨rfl, rfl⟩
      refine g_istore C X92 at_38 (q := 40) rfl (L' := #[.val (.int p0), .val (.int p1), .val (.int (2 : Int32)), .val (.int (0 : Int32)), .val (.ref a_ALL), .val (.ref a_SANDBOX), .val (.int (1 : Int32)), .val (.int (0 : Int32)), .unset]) rfl ?_
      refine g_aload C X92 at_40 (q := 42) rfl rfl rfl ?_
      refine g_aload C X92 at_42 (q := 44) rfl rfl rfl ?_
      refine g_callV1 C X92 (y := (⟨"com/example/jetway/jetway/Access", "max", "(Lcom/example/jetway/jetway/Access;)Lcom/example/jetway/jetway/Access;"⟩ : MethodName)) (z := (⟨"com/example/jetway/jetway/Access", "max", "(Lcom/example/jetway/jetway/Access;)Lcom/example/jetway/jetway/Access;"⟩ : MethodName)) (a := a_ALL) (by decide) (w14 hw) (w15 hw) (w17 hw) (w16 hw) (nf_sel (w17 hw)) (W.2.2.2.2.2.1.ext O.2) (w18 hw) (w6 hw) (rm_max_6 hw O W) (W := 0) (by decide) (by decide) (k' := 0) rfl (n' := 0) rfl (by decide) (by decide) rfl pd_37 (argsL := [(.ref a_SANDBOX)]) rfl (rest := []) rfl rfl rfl at_44 (q := 47) rfl ?_
      rintro _ T93 _ X94 ⟨rfl, rfl⟩
      refine g_callV1 C X94 (y := (⟨"com/example/jetway/jetway/Access", "signerRequired", "()Z"⟩ : MethodName)) (z := (⟨"com/example/jetway/jetway/Access", "signerRequired", "()Z"⟩ : MethodName)) (a := a_ALL) (by decide) (w8 hw) (w9 hw) (w11 hw) (w10 hw) (nf_sel (w11 hw)) (W.2.2.2.2.2.1.ext O.2) (w12 hw) (w6 hw) (rm_sr_2 hw O W) (W := 0) (by decide) (by decide) (k' := 0) rfl (n' := 0) rfl (by decide) (by decide) rfl pd_12 (argsL := []) rfl (rest := []) rfl rfl rfl at_47 (q := 50) rfl ?_
      rintro _ T95 _ X96 ⟨rfl, rfl⟩
      refine g_istore C X96 at_50 (q := 52) rfl (L' := #[.val (.int p0), .val (.int p1), .val (.int (2 : Int32)), .val (.int (0 : Int32)), .val (.ref a_ALL), .val (.ref a_SANDBOX), .val (.int (1 : Int32)), .val (.int (0 : Int32)), .val (.int (1 : Int32))]) rfl ?_
      refine g_iload C X96 at_52 (q := 54) rfl rfl ?_
      refine g_iloadN C X96 at_54 (q := 55) rfl rfl ?_
      refine g_ifN C X96 at_55 (q := 58) rfl (by decide) ?_
      refine g_iconst C X96 at_58 (q := 59) rfl (z := (1 : Int32)) rfl ?_
      refine g_goto C X96 at_59 (by decide) (q := 63) (by decide) ?_
      refine g_icN C X96 at_63 (q := 66) rfl (by decide) ?_
      refine g_iload C X96 at_66 (q := 68) rfl rfl ?_
      refine g_iloadN C X96 at_68 (q := 69) rfl rfl ?_
      refine g_ifY C X96 at_69 (by decide) (q := 76) (by decide) (by decide) ?_
      refine g_iconst C X96 at_76 (q := 77) rfl (z := (0 : Int32)) rfl ?_
      refine g_icN C X96 at_77 (q := 80) rfl (by decide) ?_
      refine g_iload C X96 at_80 (q := 82) rfl rfl ?_
      refine g_aload C X96 at_82 (q := 84) rfl rfl rfl ?_
      refine g_callV1 C X96 (y := (⟨"com/example/jetway/jetway/Access", "element", "()Ljava/lang/String;"⟩ : MethodName)) (z := (⟨"com/example/jetway/jetway/Access", "element", "()Ljava/lang/String;"⟩ : MethodName)) (a := a_ALL) (by decide) (w34 hw) (w35 hw) (w37 hw) (w36 hw) (nf_sel (w37 hw)) (W.2.2.2.2.2.1.ext O.2) (w38 hw) (w6 hw) (rm_el_2 hw O W) (W := 1) (by decide) (by decide) (k' := 0) rfl (n' := 0) rfl (by decide) (by decide) rfl pd_41 (argsL := []) rfl (rest := [(.int (1 : Int32))]) rfl rfl rfl at_84 (q := 87) rfl ?_
      rintro _ T97 _ X98 ⟨rfl, rfl⟩
      refine g_nulN C X98 at_87 (q := 90) rfl ?_
      refine g_iconst C X98 at_90 (q := 91) rfl (z := (1 : Int32)) rfl ?_
      refine g_goto C X98 at_91 (by decide) (q := 95) (by decide) ?_
      refine g_icN C X98 at_95 (q := 98) rfl (by decide) ?_
      refine g_iload C X98 at_98 (q := 100) rfl rfl ?_
      refine g_iload C X98 at_100 (q := 102) rfl rfl ?_
      refine g_ifY C X98 at_102 (by decide) (q := 110) (by decide) (by decide) ?_
      refine g_iconst C X98 at_110 (q := 111) rfl (z := (1 : Int32)) rfl ?_
      refine g_goto C X98 at_111 (by decide) (q := 115) (by decide) ?_
      refine g_icN C X98 at_115 (q := 118) rfl (by decide) ?_
      refine g_iconst C X98 at_118 (q := 119) rfl (z := (1 : Int32)) rfl ?_
      refine g_goto C X98 at_119 (by decide) (q := 123) (by decide) ?_
      exact g_retN C X98 (Or.inl rfl) (z' := 1) (by decide) at_123 (by decide) (by decide) ⟨_, rfl, rfl, trivial⟩
    · refine g_iloadN C X at_0 (q := 1) rfl rfl ?_
      refine g_ldcI C X (w0 hw) at_1 (q := 3) rfl ?_
      refine g_iand C X at_3 (q := 4) rfl (z := (p0 &&& (2147483647 : Int32))) rfl ?_
      refine g_iconst C X at_4 (q := 5) rfl (z := (3 : Int32)) rfl ?_
      refine g_irem C X at_5 (q := 6) rfl (by decide) (z := (2 : Int32)) hk ?_
      refine g_istoreN C X at_6 (q := 7) rfl (L' := #[.val (.int p0), .val (.int p1), .val (.int (2 : Int32)), .unset, .unset, .unset, .unset, .unset, .unset]) rfl ?_
      refine g_iloadN C X at_7 (q := 8) rfl rfl ?_
      refine g_ldcI C X (w0 hw) at_8 (q := 10) rfl ?_
      refine g_iand C X at_10 (q := 11) rfl (z := (p1 &&& (2147483647 : Int32))) rfl ?_
      refine g_iconst C X at_11 (q := 12) rfl (z := (3 : Int32)) rfl ?_
      refine g_irem C X at_12 (q := 13) rfl (by decide) (z := (1 : Int32)) hj ?_
      refine g_istoreN C X at_13 (q := 14) rfl (L' := #[.val (.int p0), .val (.int p1), .val (.int (2 : Int32)), .val (.int (1 : Int32)), .unset, .unset, .unset, .unset, .unset]) rfl ?_
      refine g_iloadN C X at_14 (q := 15) rfl rfl ?_
      refine g_callS1 C X (y := (⟨"com/example/jetway/jetway/AccessSignerRequiredPinLaw", "pick", "(I)Lcom/example/jetway/jetway/Access;"⟩ : MethodName)) (by decide) (w1 hw) (w2 hw) (w4 hw) (w3 hw) (rm_pick_2 hw O W) (W := 0) (by decide) (by decide) (k' := 0) rfl (n' := 0) rfl (by decide) (by decide) rfl pd_5 (argsL := [(.int (2 : Int32))]) rfl (rest := []) rfl rfl rfl at_15 (q := 18) rfl ?_
      rintro _ T99 _ X100 ⟨rfl, rfl⟩
      refine g_astore C X100 at_18 (q := 20) rfl rfl (L' := #[.val (.int p0), .val (.int p1), .val (.int (2 : Int32)), .val (.int (1 : Int32)), .val (.ref a_ALL), .unset, .unset, .unset, .unset]) rfl ?_
      refine g_iloadN C X100 at_20 (q := 21) rfl rfl ?_
      refine g_callS1 C X100 (y := (⟨"com/example/jetway/jetway/AccessSignerRequiredPinLaw", "pick", "(I)Lcom/example/jetway/jetway/Access;"⟩ : MethodName)) (by decide) (w1 hw) (w2 hw) (w4 hw) (w3 hw) (rm_pick_1 hw O W) (W := 0) (by decide) (by decide) (k' := 0) rfl (n' := 0) rfl (by decide) (by decide) rfl pd_5 (argsL := [(.int (1 : Int32))]) rfl (rest := []) rfl rfl rfl at_21 (q := 24) rfl ?_
      rintro _ T101 _ X102 ⟨rfl, rfl⟩
      refine g_astore C X102 at_24 (q := 26) rfl rfl (L' := #[.val (.int p0), .val (.int p1), .val (.int (2 : Int32)), .val (.int (1 : Int32)), .val (.ref a_ALL), .val (.ref a_J2EE_CLIENT), .unset, .unset, .unset]) rfl ?_
      refine g_aload C X102 at_26 (q := 28) rfl rfl rfl ?_
      refine g_callV1 C X102 (y := (⟨"com/example/jetway/jetway/Access", "signerRequired", "()Z"⟩ : MethodName)) (z := (⟨"com/example/jetway/jetway/Access", "signerRequired", "()Z"⟩ : MethodName)) (a := a_ALL) (by decide) (w8 hw) (w9 hw) (w11 hw) (w10 hw) (nf_sel (w11 hw)) (W.2.2.2.2.2.1.ext O.2) (w12 hw) (w6 hw) (rm_sr_2 hw O W) (W := 0) (by decide) (by decide) (k' := 0) rfl (n' := 0) rfl (by decide) (by decide) rfl pd_12 (argsL := []) rfl (rest := []) rfl rfl rfl at_28 (q := 31) rfl ?_
      rintro _ T103 _ X104 ⟨rfl, rfl⟩
      refine g_istore C X104 at_31 (q := 33) rfl (L' := #[.val (.int p0), .val (.int p1), .val (.int (2 : Int32)), .val (.int (1 : Int32)), .val (.ref a_ALL), .val (.ref a_J2EE_CLIENT), .val (.int (1 : Int32)), .unset, .unset]) rfl ?_
      refine g_aload C X104 at_33 (q := 35) rfl rfl rfl ?_
      refine g_callV1 C X104 (y := (⟨"com/example/jetway/jetway/Access", "signerRequired", "()Z"⟩ : MethodName)) (z := (⟨"com/example/jetway/jetway/Access", "signerRequired", "()Z"⟩ : MethodName)) (a := a_J2EE_CLIENT) (by decide) (w8 hw) (w9 hw) (w11 hw) (w10 hw) (nf_sel (w11 hw)) (W.2.2.2.2.2.2.2.1.ext O.2) (w12 hw) (w6 hw) (rm_sr_1 hw O W) (W := 0) (by decide) (by decide) (k' := 0) rfl (n' := 0) rfl (by decide) (by decide) rfl pd_12 (argsL := []) rfl (rest := []) rfl rfl rfl at_35 (q := 38) rfl ?_
      rintro _ T105 _ X106 ⟨rfl, rfl⟩
      refine g_istore C X106 at_38 (q := 40) rfl (L' := #[.val (.int p0), .val (.int p1), .val (.int (2 : Int32)), .val (.int (1 : Int32)), .val (.ref a_ALL), .val (.ref a_J2EE_CLIENT), .val (.int (1 : Int32)), .val (.int (1 : Int32)), .unset]) rfl ?_
      refine g_aload C X106 at_40 (q := 42) rfl rfl rfl ?_
      refine g_aload C X106 at_42 (q := 44) rfl rfl rfl ?_
      refine g_callV1 C X106 (y := (⟨"com/example/jetway/jetway/Access", "max", "(Lcom/example/jetway/jetway/Access;)Lcom/example/jetway/jetway/Access;"⟩ : MethodName)) (z := (⟨"com/example/jetway/jetway/Access", "max", "(Lcom/example/jetway/jetway/Access;)Lcom/example/jetway/jetway/Access;"⟩ : MethodName)) (a := a_ALL) (by decide) (w14 hw) (w15 hw) (w17 hw) (w16 hw) (nf_sel (w17 hw)) (W.2.2.2.2.2.1.ext O.2) (w18 hw) (w6 hw) (rm_max_7 hw O W) (W := 0) (by decide) (by decide) (k' := 0) rfl (n' := 0) rfl (by decide) (by decide) rfl pd_37 (argsL := [(.ref a_J2EE_CLIENT)]) rfl (rest := []) rfl rfl rfl at_44 (q := 47) rfl ?_
      rintro _ T107 _ X108 ⟨rfl, rfl⟩
      refine g_callV1 C X108 (y := (⟨"com/example/jetway/jetway/Access", "signerRequired", "()Z"⟩ : MethodName)) (z := (⟨"com/example/jetway/jetway/Access", "signerRequired", "()Z"⟩ : MethodName)) (a := a_ALL) (by decide) (w8 hw) (w9 hw) (w11 hw) (w10 hw) (nf_sel (w11 hw)) (W.2.2.2.2.2.1.ext O.2) (w12 hw) (w6 hw) (rm_sr_2 hw O W) (W := 0) (by decide) (by decide) (k' := 0) rfl (n' := 0) rfl (by decide) (by decide) rfl pd_12 (argsL := []) rfl (rest := []) rfl rfl rfl at_47 (q := 50) rfl ?_
      rintro _ T109 _ X110 ⟨rfl, rfl⟩
      refine g_istore C X110 at_50 (q := 52) rfl (L' := #[.val (.int p0), .val (.int p1), .val (.int (2 : Int32)), .val (.int (1 : Int32)), .val (.ref a_ALL), .val (.ref a_J2EE_CLIENT), .val (.int (1 : Int32)), .val (.int (1 : Int32)), .val (.int (1 : Int32))]) rfl ?_
      refine g_iload C X110 at_52 (q := 54) rfl rfl ?_
      refine g_iloadN C X110 at_54 (q := 55) rfl rfl ?_
      refine g_ifN C X110 at_55 (q := 58) rfl (by decide) ?_
      refine g_iconst C X110 at_58 (q := 59) rfl (z := (1 : Int32)) rfl ?_
      refine g_goto C X110 at_59 (by decide) (q := 63) (by decide) ?_
      refine g_icN C X110 at_63 (q := 66) rfl (by decide) ?_
      refine g_iload C X110 at_66 (q := 68) rfl rfl ?_
      refine g_iloadN C X110 at_68 (q := 69) rfl rfl ?_
      refine g_ifN C X110 at_69 (q := 72) rfl (by decide) ?_
      refine g_iconst C X110 at_72 (q := 73) rfl (z := (1 : Int32)) rfl ?_
      refine g_goto C X110 at_73 (by decide) (q := 77) (by decide) ?_
      refine g_icN C X110 at_77 (q := 80) rfl (by decide) ?_
      refine g_iload C X110 at_80 (q := 82) rfl rfl ?_
      refine g_aload C X110 at_82 (q := 84) rfl rfl rfl ?_
      refine g_callV1 C X110 (y := (⟨"com/example/jetway/jetway/Access", "element", "()Ljava/lang/String;"⟩ : MethodName)) (z := (⟨"com/example/jetway/jetway/Access", "element", "()Ljava/lang/String;"⟩ : MethodName)) (a := a_ALL) (by decide) (w34 hw) (w35 hw) (w37 hw) (w36 hw) (nf_sel (w37 hw)) (W.2.2.2.2.2.1.ext O.2) (w38 hw) (w6 hw) (rm_el_2 hw O W) (W := 1) (by decide) (by decide) (k' := 0) rfl (n' := 0) rfl (by decide) (by decide) rfl pd_41 (argsL := []) rfl (rest := [(.int (1 : Int32))]) rfl rfl rfl at_84 (q := 87) rfl ?_
      rintro _ T111 _ X112 ⟨rfl, rfl⟩
      refine g_nulN C X112 at_87 (q := 90) rfl ?_
      refine g_iconst C X112 at_90 (q := 91) rfl (z := (1 : Int32)) rfl ?_
      refine g_goto C X112 at_91 (by decide) (q := 95) (by decide) ?_
      refine g_icN C X112 at_95 (q := 98) rfl (by decide) ?_
      refine g_iload C X112 at_98 (q := 100) rfl rfl ?_
      refine g_iload C X112 at_100 (q := 102) rfl rfl ?_
      refine g_ifY C X112 at_102 (by decide) (q := 110) (by decide) (by decide) ?_
      refine g_iconst C X112 at_110 (q := 111) rfl (z := (1 : Int32)) rfl ?_
      refine g_goto C X112 at_111 (by decide) (q := 115) (by decide) ?_
      refine g_icN C X112 at_115 (q := 118) rfl (by decide) ?_
      refine g_iconst C X112 at_118 (q := 119) rfl (z := (1 : Int32)) rfl ?_
      refine g_goto C X112 at_119 (by decide) (q := 123) (by decide) ?_
      exact g_retN C X112 (Or.inl rfl) (z' := 1) (by decide) at_123 (by decide) (by decide) ⟨_, rfl, rfl, trivial⟩
    · refine g_iloadN C X at_0 (q := 1) rfl rfl ?_
      refine g_ldcI C X (w0 hw) at_1 (q := 3) rfl ?_
      refine g_iand C X at_3 (q := 4) rfl (z := (p0 &&& (2147483647 : Int32))) rfl ?_
      refine g_iconst C X at_4 (q := 5) rfl (z := (3 : Int32)) rfl ?_
      refine g_irem C X at_5 (q := 6) rfl (by decide) (z := (2 : Int32)) hk ?_
      refine g_istoreN C X at_6 (q := 7) rfl (L' := #[.val (.int p0), .val (.int p1), .val (.int (2 : Int32)), .unset, .unset, .unset, .unset, .unset, .unset]) rfl ?_
      refine g_iloadN C X at_7 (q := 8) rfl rfl ?_
      refine g_ldcI C X (w0 hw) at_8 (q := 10) rfl ?_
      refine g_iand C X at_10 (q := 11) rfl (z := (p1 &&& (2147483647 : Int32))) rfl ?_
      refine g_iconst C X at_11 (q := 12) rfl (z := (3 : Int32)) rfl ?_
      refine g_irem C X at_12 (q := 13) rfl (by decide) (z := (2 : Int32)) hj ?_
      refine g_istoreN C X at_13 (q := 14) rfl (L' := #[.val (.int p0), .val (.int p1), .val (.int (2 : Int32)), .val (.int (2 : Int32)), .unset, .unset, .unset, .unset, .unset]) rfl ?_
      refine g_iloadN C X at_14 (q := 15) rfl rfl ?_
      refine g_callS1 C X (y := (⟨"com/example/jetway/jetway/AccessSignerRequiredPinLaw", "pick", "(I)Lcom/example/jetway/jetway/Access;"⟩ : MethodName)) (by decide) (w1 hw) (w2 hw) (w4 hw) (w3 hw) (rm_pick_2 hw O W) (W := 0) (by decide) (by decide) (k' := 0) rfl (n' := 0) rfl (by decide) (by decide) rfl pd_5 (argsL := [(.int (2 : Int32))]) rfl (rest := []) rfl rfl rfl at_15 (q := 18) rfl ?_
      rintro _ T113 _ X114 ⟨rfl, rfl⟩
      refine g_astore C X114 at_18 (q := 20) rfl rfl (L' := #[.val (.int p0), .val (.int p1), .val (.int (2 : Int32)), .val (.int (2 : Int32)), .val (.ref a_ALL), .unset, .unset, .unset, .unset]) rfl ?_
      refine g_iloadN C X114 at_20 (q := 21) rfl rfl ?_
      refine g_callS1 C X114 (y := (⟨"com/example/jetway/jetway/AccessSignerRequiredPinLaw", "pick", "(I)Lcom/example/jetway/jetway/Access;"⟩ : MethodName)) (by decide) (w1 hw) (w2 hw) (w4 hw) (w3 hw) (rm_pick_2 hw O W) (W := 0) (by decide) (by decide) (k' := 0) rfl (n' := 0) rfl (by decide) (by decide) rfl pd_5 (argsL := [(.int (2 : Int32))]) rfl (rest := []) rfl rfl rfl at_21 (q := 24) rfl ?_
      rintro _ T115 _ X116 ⟨rfl, rfl⟩
      refine g_astore C X116 at_24 (q := 26) rfl rfl (L' := #[.val (.int p0), .val (.int p1), .val (.int (2 : Int32)), .val (.int (2 : Int32)), .val (.ref a_ALL), .val (.ref a_ALL), .unset, .unset, .unset]) rfl ?_
      refine g_aload C X116 at_26 (q := 28) rfl rfl rfl ?_
      refine g_callV1 C X116 (y := (⟨"com/example/jetway/jetway/Access", "signerRequired", "()Z"⟩ : MethodName)) (z := (⟨"com/example/jetway/jetway/Access", "signerRequired", "()Z"⟩ : MethodName)) (a := a_ALL) (by decide) (w8 hw) (w9 hw) (w11 hw) (w10 hw) (nf_sel (w11 hw)) (W.2.2.2.2.2.1.ext O.2) (w12 hw) (w6 hw) (rm_sr_2 hw O W) (W := 0) (by decide) (by decide) (k' := 0) rfl (n' := 0) rfl (by decide) (by decide) rfl pd_12 (argsL := []) rfl (rest := []) rfl rfl rfl at_28 (q := 31) rfl ?_
      rintro _ T117 _ X118 ⟨rfl, rfl⟩
      refine g_istore C X118 at_31 (q := 33) rfl (L' := #[.val (.int p0), .val (.int p1), .val (.int (2 : Int32)), .val (.int (2 : Int32)), .val (.ref a_ALL), .val (.ref a_ALL), .val (.int (1 : Int32)), .unset, .unset]) rfl ?_
      refine g_aload C X118 at_33 (q := 35) rfl rfl rfl ?_
      refine g_callV1 C X118 (y := (⟨"com/example/jetway/jetway/Access", "signerRequired", "()Z"⟩ : MethodName)) (z := (⟨"com/example/jetway/jetway/Access", "signerRequired", "()Z"⟩ : MethodName)) (a := a_ALL) (by decide) (w8 hw) (w9 hw) (w11 hw) (w10 hw) (nf_sel (w11 hw)) (W.2.2.2.2.2.1.ext O.2) (w12 hw) (w6 hw) (rm_sr_2 hw O W) (W := 0) (by decide) (by decide) (k' := 0) rfl (n' := 0) rfl (by decide) (by decide) rfl pd_12 (argsL := []) rfl (rest := []) rfl rfl rfl at_35 (q := 38) rfl ?_
      rintro _ T119 _ X120 ⟨rfl, rfl⟩
      refine g_istore C X120 at_38 (q := 40) rfl (L' := #[.val (.int p0), .val (.int p1), .val (.int (2 : Int32)), .val (.int (2 : Int32)), .val (.ref a_ALL), .val (.ref a_ALL), .val (.int (1 : Int32)), .val (.int (1 : Int32)), .unset]) rfl ?_
      refine g_aload C X120 at_40 (q := 42) rfl rfl rfl ?_
      refine g_aload C X120 at_42 (q := 44) rfl rfl rfl ?_
      refine g_callV1 C X120 (y := (⟨"com/example/jetway/jetway/Access", "max", "(Lcom/example/jetway/jetway/Access;)Lcom/example/jetway/jetway/Access;"⟩ : MethodName)) (z := (⟨"com/example/jetway/jetway/Access", "max", "(Lcom/example/jetway/jetway/Access;)Lcom/example/jetway/jetway/Access;"⟩ : MethodName)) (a := a_ALL) (by decide) (w14 hw) (w15 hw) (w17 hw) (w16 hw) (nf_sel (w17 hw)) (W.2.2.2.2.2.1.ext O.2) (w18 hw) (w6 hw) (rm_max_8 hw O W) (W := 0) (by decide) (by decide) (k' := 0) rfl (n' := 0) rfl (by decide) (by decide) rfl pd_37 (argsL := [(.ref a_ALL)]) rfl (rest := []) rfl rfl rfl at_44 (q := 47) rfl ?_
      rintro _ T121 _ X122 ⟨rfl, rfl⟩
      refine g_callV1 C X122 (y := (⟨"com/example/jetway/jetway/Access", "signerRequired", "()Z"⟩ : MethodName)) (z := (⟨"com/example/jetway/jetway/Access", "signerRequired", "()Z"⟩ : MethodName)) (a := a_ALL) (by decide) (w8 hw) (w9 hw) (w11 hw) (w10 hw) (nf_sel (w11 hw)) (W.2.2.2.2.2.1.ext O.2) (w12 hw) (w6 hw) (rm_sr_2 hw O W) (W := 0) (by decide) (by decide) (k' := 0) rfl (n' := 0) rfl (by decide) (by decide) rfl pd_12 (argsL := []) rfl (rest := []) rfl rfl rfl at_47 (q := 50) rfl ?_
      rintro _ T123 _ X124 ⟨rfl, rfl⟩
      refine g_istore C X124 at_50 (q := 52) rfl (L' := #[.val (.int p0), .val (.int p1), .val (.int (2 : Int32)), .val (.int (2 : Int32)), .val (.ref a_ALL), .val (.ref a_ALL), .val (.int (1 : Int32)), .val (.int (1 : Int32)), .val (.int (1 : Int32))]) rfl ?_
      refine g_iload C X124 at_52 (q := 54) rfl rfl ?_
      refine g_iloadN C X124 at_54 (q := 55) rfl rfl ?_
      refine g_ifN C X124 at_55 (q := 58) rfl (by decide) ?_
      refine g_iconst C X124 at_58 (q := 59) rfl (z := (1 : Int32)) rfl ?_
      refine g_goto C X124 at_59 (by decide) (q := 63) (by decide) ?_
      refine g_icN C X124 at_63 (q := 66) rfl (by decide) ?_
      refine g_iload C X124 at_66 (q := 68) rfl rfl ?_
      refine g_iloadN C X124 at_68 (q := 69) rfl rfl ?_
      refine g_ifN C X124 at_69 (q := 72) rfl (by decide) ?_
      refine g_iconst C X124 at_72 (q := 73) rfl (z := (1 : Int32)) rfl ?_
      refine g_goto C X124 at_73 (by decide) (q := 77) (by decide) ?_
      refine g_icN C X124 at_77 (q := 80) rfl (by decide) ?_
      refine g_iload C X124 at_80 (q := 82) rfl rfl ?_
      refine g_aload C X124 at_82 (q := 84) rfl rfl rfl ?_
      refine g_callV1 C X124 (y := (⟨"com/example/jetway/jetway/Access", "element", "()Ljava/lang/String;"⟩ : MethodName)) (z := (⟨"com/example/jetway/jetway/Access", "element", "()Ljava/lang/String;"⟩ : MethodName)) (a := a_ALL) (by decide) (w34 hw) (w35 hw) (w37 hw) (w36 hw) (nf_sel (w37 hw)) (W.2.2.2.2.2.1.ext O.2) (w38 hw) (w6 hw) (rm_el_2 hw O W) (W := 1) (by decide) (by decide) (k' := 0) rfl (n' := 0) rfl (by decide) (by decide) rfl pd_41 (argsL := []) rfl (rest := [(.int (1 : Int32))]) rfl rfl rfl at_84 (q := 87) rfl ?_
      rintro _ T125 _ X126 ⟨rfl, rfl⟩
      refine g_nulN C X126 at_87 (q := 90) rfl ?_
      refine g_iconst C X126 at_90 (q := 91) rfl (z := (1 : Int32)) rfl ?_
      refine g_goto C X126 at_91 (by decide) (q := 95) (by decide) ?_
      refine g_icN C X126 at_95 (q := 98) rfl (by decide) ?_
      refine g_iload C X126 at_98 (q := 100) rfl rfl ?_
      refine g_iload C X126 at_100 (q := 102) rfl rfl ?_
      refine g_ifY C X126 at_102 (by decide) (q := 110) (by decide) (by decide) ?_
      refine g_iconst C X126 at_110 (q := 111) rfl (z := (1 : Int32)) rfl ?_
      refine g_goto C X126 at_111 (by decide) (q := 115) (by decide) ?_
      refine g_icN C X126 at_115 (q := 118) rfl (by decide) ?_
      refine g_iconst C X126 at_118 (q := 119) rfl (z := (1 : Int32)) rfl ?_
      refine g_goto C X126 at_119 (by decide) (q := 123) (by decide) ?_
      exact g_retN C X126 (Or.inl rfl) (z' := 1) (by decide) at_123 (by decide) (by decide) ⟨_, rfl, rfl, trivial⟩
set_option maxRecDepth 65536 in
set_option maxHeartbeats 40000000 in
theorem comes_1 {Post : Tables → Env → Array Value → State → Outcome → State → Prop} (hpost : ∀ tb e args s v u, (limb_1_1.after args s (.returned v) u = true ∧ limb_1_2.after args s (.returned v) u = true ∧ True) → FrameEnd s (.returned v) u (Jvm.fieldLocs frame_1_writes args s ++ Jvm.arrayLocs frame_1_arrays args s ++ Jvm.staticLocs frame_1_statics s) 0 0 → Post tb e args s (.returned v) u) :
    ArmFor flags0 classFile x code maxLocals ret World_1 tables_1 room_1 Calls_1 rest_1 Pre_1 Post := by
  intro l hfl _ _ p e ha hc hk s m args below hf hA hF happ hP
  obtain ⟨hcalls, hrest, hpre⟩ := hP
  obtain ⟨-, -, -, hnamed, -, -, -, hat⟩ := (Spec.applies_iff hf).mp happ
  obtain ⟨hg, hn⟩ := and_e (Cond.before_iff.mp (show (Jvm.Cond.and given_1 narrow_1).before args s = true from hpre))
  obtain ⟨y1, y2⟩ := and_e hg
  obtain ⟨y3, y4⟩ := and_e y2
  obtain ⟨u0, u1, rfl⟩ : ∃ u0 u1 : Value, args = #[u0, u1] := by
    have hs : args.size = 2 := by simpa [Cond.value, given_1] using y1
    obtain ⟨L⟩ := args
    match L, hs with
    | [u0, u1], _ => exact ⟨u0, u1, rfl⟩
  have hw := fun d (hd : d ∈ tables_1) => atoms_spec (ws := Jvm.Cond.code x code maxLocals ret :: tables_1) hat d (List.mem_cons_of_mem _ hd)
  have hfit : Fit s := fun {y c} hc i hi => by
    obtain ⟨ha, rfl⟩ := Array.getElem?_eq_some_iff.mp hc
    have q := List.all_eq_true.mp ((Array.all_eq_true_iff_forall_mem.mp hF) _ (Array.getElem_mem ha)) i (List.mem_range.mpr hi)
    simpa [Array.getElem?_eq_getElem hi] using q
  obtain ⟨i0, ei0⟩ := is_v y3
  obtain rfl : u0 = (.int i0) := Option.some.inj ei0
  obtain ⟨i1, ei1⟩ := is_v y4
  obtain rfl : u1 = (.int i1) := Option.some.inj ei1
  obtain ⟨y1, y2⟩ := and_e hn
  obtain ⟨o3, ev4, S5, E6⟩ := own_sta y1 (Or.inr ⟨(w6 hw), (w7 hw)⟩)
  obtain ⟨y7, y8⟩ := and_e y2
  have F9 := own_fldI ev4 y7
  obtain ⟨y10, y11⟩ := and_e y8
  have F12 := own_fldN ev4 y10
  obtain ⟨y13, y14⟩ := and_e y11
  obtain ⟨o15, ev16, S17, E18⟩ := own_sta y13 (Or.inr ⟨(w6 hw), (w42 hw)⟩)
  obtain ⟨y19, y20⟩ := and_e y14
  obtain ⟨o21, ev22, S23, E24⟩ := own_sta y19 (Or.inr ⟨(w6 hw), (w44 hw)⟩)
  obtain ⟨y25, y26⟩ := and_e y20
  have F27 := own_fldI ev16 y25
  obtain ⟨y28, y29⟩ := and_e y26
  have F30 := own_fldI ev22 y28
  obtain ⟨y31, y32⟩ := and_e y29
  obtain ⟨o33, ev34, F35, E36⟩ := own_fldR ev16 y31
  obtain ⟨o37, ev38, F39, E40⟩ := own_fldR ev22 y32
  obtain ⟨c0, k0, mr, hm1, hm2, hm3, -⟩ := hcalls.1
  have hM := rmLaw (l := l) hw (p0 := i0) (p1 := i1) (Old.start s) (show Wd s o3 o15 o21 o33 o37 mr from ⟨S5, E6, F9, F12, S17, E18, S23, E24, F27, F30, F35, E36, F39, E40, ⟨c0, k0, hm1, hm2, hm3⟩⟩)
  obtain ⟨n, o, h1, h2, h3, _, L, rfl, ⟨N, _, rfl, rfl, -⟩, hq⟩ := hM tables_1 p e ha hc hk s m _ below hf ((Spec.applies_iff_loose hf).mp happ).1 ⟨rfl, State.Warmed39.refl s, rfl⟩ trivial
  refine ⟨n, _, h1, h2, h3, hpost _ _ _ _ _ _ ⟨Cond.after_iff.mpr rfl, Cond.after_iff.mpr (eq_i res_at (Term.int_eval (1)) rfl), trivial⟩ ⟨hq.1, hq.2.1, (hq.2.2.sift fun y hy => Or.inr (N y hy)).mono (by decide) (by decide)⟩⟩
theorem main_1_1 : Claimed_1_1 := comes_1 fun _ _ _ _ _ _ h hF => ⟨h.1, hF⟩
theorem main_1_2 : Claimed_1_2 := comes_1 fun _ _ _ _ _ _ h hF => ⟨h.2.1, hF⟩
end Jvm.Pilot.@@N@@
namespace Jvm.Pilot.@@N@@
open Jvm Jvm.ClassFile Sem Op Lib Jvm.Free Jvm.Stand Jvm.Pilot.@@N@@.Jvm.D
/-! MADE BY PROGRAM (witnessworld.py) out of the Statement's table words and the real class files: 16 classes; the members and pool entries that the words name. The judged class is class 1, her method 2. -/
namespace start1
open Jvm.ClassFile
def u (s : String) : CpInfo := .utf8 (stringToUtf16 s)
/-- a pool by its gaps: so many unusable entries, then the entry; so many at the end -/
def gap : Nat → List CpInfo → List CpInfo
  | 0, r => r
  | n + 1, r => .unusable :: gap n r
def poolList (es : List (Nat × CpInfo)) (last : Nat) : List CpInfo := es.foldr (fun e r => gap e.1 (e.2 :: r)) (gap last [])
def pool (es : List (Nat × CpInfo)) (last : Nat) : Array CpInfo := ⟨poolList es last⟩
def fileOf (pool : Array CpInfo) (this : Nat) (attrs : Array Attribute := #[]) (ms : Array MethodInfo := #[]) (fl : Nat := 33) (sup : Nat := 0) (ifs : Array Nat := #[]) (fds : Array FieldInfo := #[]) : ClassFile where
  minorVersion := 0
  majorVersion := 65
  constantPool := pool
  accessFlags := fl
  thisClass := this
  superClass := sup
  interfaces := ifs
  fields := fds
  methods := ms
  attributes := attrs
def plain (name : String) (sup : Option ClassId) : Class where
  name := name
  kind := .ordinary
  loader := none
  accessFlags := 33
  super := sup
  interfaces := #[]
  cf := none
  fields := #[]
  methods := #[]
  instanceTypes := #[]
  staticTypes := #[]
  resolved := #[]
  callSites := []
  init := .initialized
  statics := none
  mirror := none

def pool0 : Array CpInfo := pool [(5, u "<init>"), (0, u "()V"), (1, .class_ 10), (1, u "java/lang/Object"), (0, u "getClass"), (0, u "()Ljava/lang/Class;")] 111

def k0m0 : Method := { name := "<init>", desc := "()V", sig := { parameters := [], returnType := none }, accessFlags := 1, code := none }
def k0m1 : Method := { name := "getClass", desc := "()Ljava/lang/Class;", sig := { parameters := [], returnType := some (.object "java/lang/Class") }, accessFlags := 273, code := none }
/-- java/lang/Object -/
def k0 : Class := { plain "java/lang/Object" none with
  accessFlags := 33
  interfaces := #[]
  cf := some (fileOf pool0 8 #[] #[{ accessFlags := 1, nameIndex := 5, descriptorIndex := 6, attributes := #[] }, { accessFlags := 273, nameIndex := 11, descriptorIndex := 12, attributes := #[] }] 33 0 #[] #[])
  fields := #[]
  methods := #[k0m0, k0m1]
  instanceTypes := #[]
  staticTypes := #[]
  resolved := Array.replicate 124 none
  statics := none }

def pool1 : Array CpInfo := pool [(2, .class_ 4), (1, u "java/lang/Object"), (0, u "<init>"), (0, u "()V"), (0, .fieldref 8 9), (0, .class_ 10), (0, .nameAndType 11 12), (0, u "com/example/jetway/jetway/Access"), (0, u "SANDBOX"), (0, u "Lcom/example/jetway/jetway/Access;"), (0, .fieldref 8 14), (0, .nameAndType 15 12), (0, u "J2EE_CLIENT"), (0, .fieldref 8 17), (0, .nameAndType 18 12), (0, u "ALL"), (0, .integer 2147483647), (0, .methodref 21 22), (0, .class_ 23), (0, .nameAndType 24 25), (0, u "com/example/jetway/jetway/AccessSignerRequiredPinLaw"), (0, u "pick"), (0, u "(I)Lcom/example/jetway/jetway/Access;"), (0, .methodref 8 27), (0, .nameAndType 28 29), (0, u "signerRequired"), (0, u "()Z"), (0, .methodref 8 31), (0, .nameAndType 32 33), (0, u "max"), (0, u "(Lcom/example/jetway/jetway/Access;)Lcom/example/jetway/jetway/Access;"), (0, .methodref 8 35), (0, .nameAndType 36 37), (0, u "element"), (0, u "()Ljava/lang/String;"), (3, u "law"), (0, u "(II)Z")] 2

def k1m0 : Method := { name := "<init>", desc := "()V", sig := { parameters := [], returnType := none }, accessFlags := 1, code := none }
def k1c1 : Code := { maxStack := 2, maxLocals := 1, code := method_2_code, exceptionTable := #[], attributes := #[] }
def k1m1 : Method := { name := "pick", desc := "(I)Lcom/example/jetway/jetway/Access;", sig := { parameters := [.int], returnType := some (.object "com/example/jetway/jetway/Access") }, accessFlags := 10, code := some k1c1 }
def k1c2 : Code := { maxStack := 2, maxLocals := 9, code := code, exceptionTable := #[], attributes := #[] }
def k1m2 : Method := { name := "law", desc := "(II)Z", sig := { parameters := [.int, .int], returnType := some .boolean }, accessFlags := 9, code := some k1c2 }
/-- com/example/jetway/jetway/AccessSignerRequiredPinLaw -/
def k1 : Class := { plain "com/example/jetway/jetway/AccessSignerRequiredPinLaw" (some 0) with
  accessFlags := 49
  interfaces := #[]
  cf := some (fileOf pool1 21 #[] #[{ accessFlags := 1, nameIndex := 5, descriptorIndex := 6, attributes := #[] }, { accessFlags := 10, nameIndex := 24, descriptorIndex := 25, attributes := #[] }, { accessFlags := 9, nameIndex := 41, descriptorIndex := 42, attributes := #[] }] 49 2 #[] #[])
  fields := #[]
  methods := #[k1m0, k1m1, k1m2]
  instanceTypes := #[]
  staticTypes := #[]
  resolved := Array.replicate 45 none
  statics := none }

def pool2 : Array CpInfo := pool [(1, .class_ 2), (0, u "java/lang/constant/Constable"), (0, .class_ 4), (0, u "java/lang/Object")] 6

/-- java/lang/constant/Constable -/
def k2 : Class := { plain "java/lang/constant/Constable" (some 0) with
  accessFlags := 1537
  interfaces := #[]
  cf := some (fileOf pool2 1 #[] #[] 1537 3 #[] #[])
  fields := #[]
  methods := #[]
  instanceTypes := #[]
  staticTypes := #[]
  resolved := Array.replicate 11 none
  statics := none }

def pool3 : Array CpInfo := pool [(1, .class_ 2), (0, u "java/lang/Comparable"), (0, .class_ 4), (0, u "java/lang/Object")] 7

/-- java/lang/Comparable -/
def k3 : Class := { plain "java/lang/Comparable" (some 0) with
  accessFlags := 1537
  interfaces := #[]
  cf := some (fileOf pool3 1 #[] #[] 1537 3 #[] #[])
  fields := #[]
  methods := #[]
  instanceTypes := #[]
  staticTypes := #[]
  resolved := Array.replicate 12 none
  statics := none }

def pool4 : Array CpInfo := pool [(1, .class_ 2), (0, u "java/io/Serializable"), (0, .class_ 4), (0, u "java/lang/Object")] 2

/-- java/io/Serializable -/
def k4 : Class := { plain "java/io/Serializable" (some 0) with
  accessFlags := 1537
  interfaces := #[]
  cf := some (fileOf pool4 1 #[] #[] 1537 3 #[] #[])
  fields := #[]
  methods := #[]
  instanceTypes := #[]
  staticTypes := #[]
  resolved := Array.replicate 7 none
  statics := none }

def pool5 : Array CpInfo := pool [(2, .class_ 4), (1, u "java/lang/Enum"), (0, u "name"), (0, u "Ljava/lang/String;"), (0, .fieldref 2 8), (0, .nameAndType 9 10), (0, u "ordinal"), (0, u "I"), (1, .class_ 14), (1, u "java/lang/Object"), (4, u "hash"), (9, .methodref 12 30), (0, .nameAndType 31 32), (0, u "getClass"), (0, u "()Ljava/lang/Class;"), (70, u "compareTo"), (0, u "(Ljava/lang/Enum;)I"), (1, .class_ 108), (1, u "java/lang/Enum$EnumDesc"), (2, .class_ 112), (0, u "java/lang/constant/Constable"), (0, .class_ 114), (0, u "java/lang/Comparable"), (0, .class_ 116), (0, u "java/io/Serializable")] 87

def k5c0 : Code := { maxStack := 2, maxLocals := 4, code := jdk_37_method_8_code, exceptionTable := #[], attributes := #[] }
def k5m0 : Method := { name := "compareTo", desc := "(Ljava/lang/Enum;)I", sig := { parameters := [(.object "java/lang/Enum")], returnType := some .int }, accessFlags := 17, code := some k5c0 }
/-- java/lang/Enum -/
def k5 : Class := { plain "java/lang/Enum" (some 0) with
  accessFlags := 1057
  interfaces := #[2, 3, 4]
  cf := some (fileOf pool5 2 #[.nestMembers #[106]] #[{ accessFlags := 17, nameIndex := 103, descriptorIndex := 104, attributes := #[] }] 1057 12 #[111, 113, 115] #[{ accessFlags := 18, nameIndex := 5, descriptorIndex := 6, attributes := #[] }, { accessFlags := 18, nameIndex := 9, descriptorIndex := 10, attributes := #[] }, { accessFlags := 2, nameIndex := 19, descriptorIndex := 10, attributes := #[] }])
  fields := #[{ name := "name", type := (.object "java/lang/String"), accessFlags := 18, slot := 0, constantValue := 0 }, { name := "ordinal", type := .int, accessFlags := 18, slot := 1, constantValue := 0 }, { name := "hash", type := .int, accessFlags := 2, slot := 2, constantValue := 0 }]
  methods := #[k5m0]
  instanceTypes := #[(.object "java/lang/String"), .int, .int]
  staticTypes := #[]
  resolved := Array.replicate 204 none
  statics := none }

def pool6 : Array CpInfo := pool [(1, .class_ 2), (0, u "com/example/jetway/jetway/Access"), (0, .fieldref 1 4), (0, .nameAndType 5 6), (0, u "SANDBOX"), (0, u "Lcom/example/jetway/jetway/Access;"), (2, u "J2EE_CLIENT"), (2, u "ALL"), (2, u "$VALUES"), (0, u "[Lcom/example/jetway/jetway/Access;"), (6, .class_ 25), (1, u "java/lang/Enum"), (6, .fieldref 1 33), (0, .nameAndType 34 35), (0, u "element"), (0, u "Ljava/lang/String;"), (2, u "permissionsAttribute"), (2, u "description"), (0, .methodref 1 43), (0, .nameAndType 44 45), (0, u "compareTo"), (0, u "(Ljava/lang/Enum;)I"), (29, u "()Ljava/lang/String;"), (0, u "signerRequired"), (0, u "()Z"), (1, u "max"), (0, u "(Lcom/example/jetway/jetway/Access;)Lcom/example/jetway/jetway/Access;")] 5

def k6c0 : Code := { maxStack := 1, maxLocals := 1, code := prog_1_method_4_code, exceptionTable := #[], attributes := #[] }
def k6m0 : Method := { name := "element", desc := "()Ljava/lang/String;", sig := { parameters := [], returnType := some (.object "java/lang/String") }, accessFlags := 0, code := some k6c0 }
def k6c1 : Code := { maxStack := 2, maxLocals := 1, code := prog_1_method_7_code, exceptionTable := #[], attributes := #[] }
def k6m1 : Method := { name := "signerRequired", desc := "()Z", sig := { parameters := [], returnType := some .boolean }, accessFlags := 0, code := some k6c1 }
def k6c2 : Code := { maxStack := 2, maxLocals := 2, code := prog_1_method_8_code, exceptionTable := #[], attributes := #[] }
def k6m2 : Method := { name := "max", desc := "(Lcom/example/jetway/jetway/Access;)Lcom/example/jetway/jetway/Access;", sig := { parameters := [(.object "com/example/jetway/jetway/Access")], returnType := some (.object "com/example/jetway/jetway/Access") }, accessFlags := 0, code := some k6c2 }
/-- com/example/jetway/jetway/Access -/
def k6 : Class := { plain "com/example/jetway/jetway/Access" (some 5) with
  accessFlags := 16432
  interfaces := #[]
  cf := some (fileOf pool6 1 #[] #[{ accessFlags := 0, nameIndex := 34, descriptorIndex := 75, attributes := #[] }, { accessFlags := 0, nameIndex := 76, descriptorIndex := 77, attributes := #[] }, { accessFlags := 0, nameIndex := 79, descriptorIndex := 80, attributes := #[] }] 16432 23 #[] #[{ accessFlags := 16409, nameIndex := 5, descriptorIndex := 6, attributes := #[] }, { accessFlags := 16409, nameIndex := 9, descriptorIndex := 6, attributes := #[] }, { accessFlags := 16409, nameIndex := 12, descriptorIndex := 6, attributes := #[] }, { accessFlags := 18, nameIndex := 34, descriptorIndex := 35, attributes := #[] }, { accessFlags := 18, nameIndex := 38, descriptorIndex := 35, attributes := #[] }, { accessFlags := 18, nameIndex := 41, descriptorIndex := 35, attributes := #[] }, { accessFlags := 4122, nameIndex := 15, descriptorIndex := 16, attributes := #[] }])
  fields := #[{ name := "SANDBOX", type := (.object "com/example/jetway/jetway/Access"), accessFlags := 16409, slot := 0, constantValue := 0 }, { name := "J2EE_CLIENT", type := (.object "com/example/jetway/jetway/Access"), accessFlags := 16409, slot := 1, constantValue := 0 }, { name := "ALL", type := (.object "com/example/jetway/jetway/Access"), accessFlags := 16409, slot := 2, constantValue := 0 }, { name := "element", type := (.object "java/lang/String"), accessFlags := 18, slot := 3, constantValue := 0 }, { name := "permissionsAttribute", type := (.object "java/lang/String"), accessFlags := 18, slot := 4, constantValue := 0 }, { name := "description", type := (.object "java/lang/String"), accessFlags := 18, slot := 5, constantValue := 0 }, { name := "$VALUES", type := (.array (.object "com/example/jetway/jetway/Access")), accessFlags := 4122, slot := 3, constantValue := 0 }]
  methods := #[k6m0, k6m1, k6m2]
  instanceTypes := #[(.object "java/lang/String"), .int, .int, (.object "java/lang/String"), (.object "java/lang/String"), (.object "java/lang/String")]
  staticTypes := #[(.object "com/example/jetway/jetway/Access"), (.object "com/example/jetway/jetway/Access"), (.object "com/example/jetway/jetway/Access"), (.array (.object "com/example/jetway/jetway/Access"))]
  resolved := Array.replicate 86 none
  mirror := some 1
  statics := some 0 }

def pool7 : Array CpInfo := pool [(2, .class_ 4), (1, u "java/lang/CharSequence"), (42, .class_ 48), (0, u "java/lang/CharSequence$1CodePointIterator"), (10, .class_ 60), (0, u "java/lang/CharSequence$1CharIterator"), (5, .class_ 67), (0, u "java/lang/Object")] 63

/-- java/lang/CharSequence -/
def k7 : Class := { plain "java/lang/CharSequence" (some 0) with
  accessFlags := 1537
  interfaces := #[]
  cf := some (fileOf pool7 2 #[.nestMembers #[47, 59]] #[] 1537 66 #[] #[])
  fields := #[]
  methods := #[]
  instanceTypes := #[]
  staticTypes := #[]
  resolved := Array.replicate 131 none
  statics := none }

def pool8 : Array CpInfo := pool [(1, .class_ 2), (0, u "java/lang/constant/ConstantDesc"), (0, .class_ 4), (0, u "java/lang/Object")] 32

/-- java/lang/constant/ConstantDesc -/
def k8 : Class := { plain "java/lang/constant/ConstantDesc" (some 0) with
  accessFlags := 1537
  interfaces := #[]
  cf := some (fileOf pool8 1 #[] #[] 1537 3 #[] #[])
  fields := #[]
  methods := #[]
  instanceTypes := #[]
  staticTypes := #[]
  resolved := Array.replicate 37 none
  statics := none }

def pool9 : Array CpInfo := pool [(2, .class_ 4), (1, u "java/lang/Object"), (0, u "<init>"), (0, u "()V"), (3, .class_ 12), (1, u "java/lang/String"), (0, u "value"), (0, u "[B"), (2, u "coder"), (0, u "B"), (2, u "hash"), (0, u "I"), (2, u "hashIsZero"), (0, u "Z"), (13, u "COMPACT_STRINGS"), (534, .class_ 576), (0, u "java/lang/CharSequence"), (22, u "CASE_INSENSITIVE_ORDER"), (0, u "Ljava/util/Comparator;"), (500, u "serialPersistentFields"), (0, u "[Ljava/io/ObjectStreamField;"), (0, .class_ 1104), (0, u "java/lang/String$CaseInsensitiveComparator"), (1, .class_ 1107), (0, u "java/io/Serializable"), (0, .class_ 1109), (0, u "java/lang/Comparable"), (0, .class_ 1111), (0, u "java/lang/constant/Constable"), (0, .class_ 1113), (0, u "java/lang/constant/ConstantDesc"), (2, u "serialVersionUID"), (0, u "J"), (3, u "REPL"), (0, u "C"), (2, u "LATIN1"), (1, u "UTF16")] 323

def k9m0 : Method := { name := "<init>", desc := "()V", sig := { parameters := [], returnType := none }, accessFlags := 1, code := none }
/-- java/lang/String -/
def k9 : Class := { plain "java/lang/String" (some 0) with
  accessFlags := 49
  interfaces := #[4, 3, 7, 2, 8]
  cf := some (fileOf pool9 10 #[.nestMembers #[1103]] #[{ accessFlags := 1, nameIndex := 5, descriptorIndex := 6, attributes := #[] }] 49 2 #[1106, 1108, 575, 1110, 1112] #[{ accessFlags := 18, nameIndex := 13, descriptorIndex := 14, attributes := #[] }, { accessFlags := 18, nameIndex := 17, descriptorIndex := 18, attributes := #[] }, { accessFlags := 2, nameIndex := 21, descriptorIndex := 22, attributes := #[] }, { accessFlags := 2, nameIndex := 25, descriptorIndex := 26, attributes := #[] }, { accessFlags := 26, nameIndex := 1116, descriptorIndex := 1117, attributes := #[] }, { accessFlags := 24, nameIndex := 40, descriptorIndex := 26, attributes := #[] }, { accessFlags := 26, nameIndex := 1101, descriptorIndex := 1102, attributes := #[] }, { accessFlags := 26, nameIndex := 1121, descriptorIndex := 1122, attributes := #[] }, { accessFlags := 25, nameIndex := 599, descriptorIndex := 600, attributes := #[] }, { accessFlags := 24, nameIndex := 1125, descriptorIndex := 18, attributes := #[] }, { accessFlags := 24, nameIndex := 1127, descriptorIndex := 18, attributes := #[] }])
  fields := #[{ name := "value", type := (.array .byte), accessFlags := 18, slot := 0, constantValue := 0 }, { name := "coder", type := .byte, accessFlags := 18, slot := 1, constantValue := 0 }, { name := "hash", type := .int, accessFlags := 2, slot := 2, constantValue := 0 }, { name := "hashIsZero", type := .boolean, accessFlags := 2, slot := 3, constantValue := 0 }, { name := "serialVersionUID", type := .long, accessFlags := 26, slot := 0, constantValue := 0 }, { name := "COMPACT_STRINGS", type := .boolean, accessFlags := 24, slot := 1, constantValue := 0 }, { name := "serialPersistentFields", type := (.array (.object "java/io/ObjectStreamField")), accessFlags := 26, slot := 2, constantValue := 0 }, { name := "REPL", type := .char, accessFlags := 26, slot := 3, constantValue := 0 }, { name := "CASE_INSENSITIVE_ORDER", type := (.object "java/util/Comparator"), accessFlags := 25, slot := 4, constantValue := 0 }, { name := "LATIN1", type := .byte, accessFlags := 24, slot := 5, constantValue := 0 }, { name := "UTF16", type := .byte, accessFlags := 24, slot := 6, constantValue := 0 }]
  methods := #[k9m0]
  instanceTypes := #[(.array .byte), .byte, .int, .boolean]
  staticTypes := #[.long, .boolean, (.array (.object "java/io/ObjectStreamField")), .char, (.object "java/util/Comparator"), .byte, .byte]
  resolved := Array.replicate 1451 none
  statics := none }

def pool10 : Array CpInfo := pool [(1, u "java/lang/Class"), (0, .class_ 1), (0, u "java/lang/Object"), (0, .class_ 3)] 0

/-- java/lang/Class -/
def k10 : Class := { plain "java/lang/Class" (some 0) with
  accessFlags := 49
  interfaces := #[]
  cf := some (fileOf pool10 2 #[] #[] 49 4 #[] #[])
  fields := #[]
  methods := #[]
  instanceTypes := #[]
  staticTypes := #[]
  resolved := Array.replicate 5 none
  statics := none }

def pool11 : Array CpInfo := pool [(1, u "java/lang/Cloneable"), (0, .class_ 1), (0, u "java/lang/Object"), (0, .class_ 3)] 3

/-- java/lang/Cloneable -/
def k11 : Class := { plain "java/lang/Cloneable" (some 0) with
  accessFlags := 1537
  interfaces := #[]
  cf := some (fileOf pool11 2 #[] #[] 1537 4 #[] #[])
  fields := #[]
  methods := #[]
  instanceTypes := #[]
  staticTypes := #[]
  resolved := Array.replicate 8 none
  statics := none }

/-- the primitive byte -/
def k12 : Class := { plain "byte" none with kind := .primitive 'B', accessFlags := 0x411 }
/-- [B -/
def k13 : Class := { plain "[B" (some 0) with kind := .array 12 .byte, interfaces := #[11, 4], accessFlags := 1041 }

/-- the primitive int -/
def k14 : Class := { plain "int" none with kind := .primitive 'I', accessFlags := 0x411 }
/-- [I -/
def k15 : Class := { plain "[I" (some 0) with kind := .array 14 .int, interfaces := #[11, 4], accessFlags := 1041 }

def heap : Heap := #[{ cls := 6, slots := #[.ref 2, .ref 4, .ref 3, .null], vm := .statics 6 },
  { cls := 10, slots := #[], vm := .mirror 6 },
  { cls := 6, slots := #[.null, .int 0, .int 0, .null, .null, .null], vm := .none },
  { cls := 6, slots := #[.null, .int 2, .int 0, .ref 5, .null, .null], vm := .none },
  { cls := 6, slots := #[.null, .int 1, .int 0, .ref 6, .null, .null], vm := .none },
  { cls := 9, slots := #[.null, .int 0, .int 0, .int 0], vm := .none },
  { cls := 9, slots := #[.null, .int 0, .int 0, .int 0], vm := .none }]
def classes : Array Class := #[k0, k1, k2, k3, k4, k5, k6, k7, k8, k9, k10, k11, k12, k13, k14, k15]
def interned : List (Array UInt16 × Addr) := []
def slotsUsed : Nat := 30
def theMethod : MethodId := ⟨1, 2⟩
def args0 : Array Value := #[.int 5, .int 3]
def aboutOver (below : List Frame) : State where
  vm := { classes := classes, interned := interned.toArray }
  heap := heap
  slotsUsed := slotsUsed
  threads := #[{ frames := .invoking theMethod args0 :: below }]
def below0 : List Frame := [.native { method := ⟨0, 0⟩, args := #[] }]
def about1 : State := aboutOver below0
def p0 : Program := .bare "" "" ""
def e0 : Env := launch0.env 0 0 0
theorem w_frames : about1.frames = Frame.invoking theMethod args0 :: below0 := rfl
set_option maxRecDepth 65536 in
theorem w_args : argsFit about1.vm theMethod args0 = true := by decide +kernel
set_option maxRecDepth 65536 in
theorem w_heap : heapFits about1 = true := by decide +kernel
set_option maxRecDepth 65536 in
theorem w_runnable : about1.curStatus? = some .runnable := by decide +kernel
set_option maxRecDepth 65536 in
theorem w_alone : about1.alone = true := by decide +kernel
set_option maxRecDepth 65536 in
theorem w_named : about1.methodNamed? x = some theMethod := by decide +kernel
set_option maxRecDepth 65536 in
theorem w_hears : about1.hears theMethod below0 = true := by decide +kernel
set_option maxRecDepth 65536 in
theorem w_ripe : about1.ripe theMethod args0 below0 = true := by decide +kernel
theorem w_running : about1.status = .running := rfl
set_option maxRecDepth 65536 in
theorem w_room : about1.hasRoom e0.platform room_1 = true :=
  launch0.hasRoom_least _ room_1 (by decide +kernel) (by decide +kernel) (by decide +kernel) (by decide +kernel) (by decide +kernel) (by decide +kernel)
theorem allAtoms_all (ts : List Jvm.Cond) (a : Array Jvm.Value) (st : Jvm.State) : (allAtoms ts).before a st = ts.all (fun c => c.before a st) := by
  induction ts with
  | nil => rfl
  | cons c t ih =>
    show (Jvm.Cond.and c (allAtoms t)).before a st = _
    rw [Jvm.Cond.before_and, ih, List.all_cons]
def words1 : List Jvm.Cond := Jvm.Cond.code x code maxLocals ret :: tables_1
/-- a 'code' word, met by the world's own term for the bytes: nothing is compared byte by byte -/
theorem code_word {y : MethodName} {bytes : ByteArray} {mx : Nat} {rt : Option FieldType} {a : Array Value} {s : State} {m : MethodId} {meth : Method} {c : Code} (h1 : s.methodNamed? y = some m) (h2 : s.vm.method? m = some meth) (h3 : meth.code = some c) (h4 : c.code = bytes)
    (h5 : (c.maxLocals == mx && c.exceptionTable.isEmpty && decide (c.maxStack ≤ mostOperands) && decide (meth.sig.returnType = rt) && !meth.locks && decide (parseMethodDescriptor y.desc = some meth.sig)) = true) : (Jvm.Cond.code y bytes mx rt).before a s = true := by
  simp only [Bool.and_eq_true, beq_iff_eq, Bool.not_eq_true', decide_eq_true_eq] at h5
  obtain ⟨⟨⟨⟨⟨g1, g2⟩, g3⟩, g4⟩, g5⟩, g6⟩ := h5
  simp [Cond.before, Cond.holds, Cond.value, h1, h2, h3, h4, g1, g2, g3, g4, g5, g6]
def isCode : Jvm.Cond → Bool
  | .code _ _ _ _ => true
  | _ => false
theorem all_split {L : List Jvm.Cond} {P : Jvm.Cond → Bool} (h1 : L.all (fun c => isCode c || P c) = true) (h2 : ∀ c ∈ L.filter isCode, P c = true) : L.all P = true := by
  refine List.all_eq_true.mpr fun c hc => ?_
  have h := List.all_eq_true.mp h1 c hc
  rcases Bool.eq_false_or_eq_true (isCode c) with hi | hi
  · exact h2 c (List.mem_filter.mpr ⟨hc, hi⟩)
  · simpa [hi] using h
set_option maxRecDepth 65536 in
theorem w_c0 : (Jvm.Cond.code x code maxLocals ret).before args0 about1 = true := code_word (m := ⟨1, 2⟩) (meth := k1m2) (c := k1c2) (by decide +kernel) rfl rfl rfl (by decide +kernel)
set_option maxRecDepth 65536 in
theorem w_c1 : (Jvm.Cond.code ({ cls := "com/example/jetway/jetway/AccessSignerRequiredPinLaw", name := "pick", desc := "(I)Lcom/example/jetway/jetway/Access;" } : Jvm.MethodName) method_2_code (1 : Nat) (Option.some (Jvm.ClassFile.FieldType.object "com/example/jetway/jetway/Access"))).before args0 about1 = true := code_word (m := ⟨1, 1⟩) (meth := k1m1) (c := k1c1) (by decide +kernel) rfl rfl rfl (by decide +kernel)
set_option maxRecDepth 65536 in
theorem w_c2 : (Jvm.Cond.code ({ cls := "com/example/jetway/jetway/Access", name := "signerRequired", desc := "()Z" } : Jvm.MethodName) prog_1_method_7_code (1 : Nat) (Option.some Jvm.ClassFile.FieldType.boolean)).before args0 about1 = true := code_word (m := ⟨6, 1⟩) (meth := k6m1) (c := k6c1) (by decide +kernel) rfl rfl rfl (by decide +kernel)
set_option maxRecDepth 65536 in
theorem w_c3 : (Jvm.Cond.code ({ cls := "com/example/jetway/jetway/Access", name := "max", desc := "(Lcom/example/jetway/jetway/Access;)Lcom/example/jetway/jetway/Access;" } : Jvm.MethodName) prog_1_method_8_code (2 : Nat) (Option.some (Jvm.ClassFile.FieldType.object "com/example/jetway/jetway/Access"))).before args0 about1 = true := code_word (m := ⟨6, 2⟩) (meth := k6m2) (c := k6c2) (by decide +kernel) rfl rfl rfl (by decide +kernel)
set_option maxRecDepth 65536 in
theorem w_c4 : (Jvm.Cond.code ({ cls := "java/lang/Enum", name := "compareTo", desc := "(Ljava/lang/Enum;)I" } : Jvm.MethodName) jdk_37_method_8_code (4 : Nat) (Option.some Jvm.ClassFile.FieldType.int)).before args0 about1 = true := code_word (m := ⟨5, 0⟩) (meth := k5m0) (c := k5c0) (by decide +kernel) rfl rfl rfl (by decide +kernel)
set_option maxRecDepth 65536 in
theorem w_c5 : (Jvm.Cond.code ({ cls := "com/example/jetway/jetway/Access", name := "element", desc := "()Ljava/lang/String;" } : Jvm.MethodName) prog_1_method_4_code (1 : Nat) (Option.some (Jvm.ClassFile.FieldType.object "java/lang/String"))).before args0 about1 = true := code_word (m := ⟨6, 0⟩) (meth := k6m0) (c := k6c0) (by decide +kernel) rfl rfl rfl (by decide +kernel)
def codes1 : List Jvm.Cond := [Jvm.Cond.code x code maxLocals ret, Jvm.Cond.code ({ cls := "com/example/jetway/jetway/AccessSignerRequiredPinLaw", name := "pick", desc := "(I)Lcom/example/jetway/jetway/Access;" } : Jvm.MethodName) method_2_code (1 : Nat) (Option.some (Jvm.ClassFile.FieldType.object "com/example/jetway/jetway/Access")), Jvm.Cond.code ({ cls := "com/example/jetway/jetway/Access", name := "signerRequired", desc := "()Z" } : Jvm.MethodName) prog_1_method_7_code (1 : Nat) (Option.some Jvm.ClassFile.FieldType.boolean), Jvm.Cond.code ({ cls := "com/example/jetway/jetway/Access", name := "max", desc := "(Lcom/example/jetway/jetway/Access;)Lcom/example/jetway/jetway/Access;" } : Jvm.MethodName) prog_1_method_8_code (2 : Nat) (Option.some (Jvm.ClassFile.FieldType.object "com/example/jetway/jetway/Access")), Jvm.Cond.code ({ cls := "java/lang/Enum", name := "compareTo", desc := "(Ljava/lang/Enum;)I" } : Jvm.MethodName) jdk_37_method_8_code (4 : Nat) (Option.some Jvm.ClassFile.FieldType.int), Jvm.Cond.code ({ cls := "com/example/jetway/jetway/Access", name := "element", desc := "()Ljava/lang/String;" } : Jvm.MethodName) prog_1_method_4_code (1 : Nat) (Option.some (Jvm.ClassFile.FieldType.object "java/lang/String"))]
set_option maxRecDepth 65536 in
theorem codes_eq : words1.filter isCode = codes1 := rfl
theorem w_codes : ∀ c ∈ words1.filter isCode, c.before args0 about1 = true := by
  rw [codes_eq]
  intro c hc
  simp only [codes1, List.mem_cons, List.not_mem_nil, or_false] at hc
  rcases hc with rfl | rfl | rfl | rfl | rfl | rfl
  · exact w_c0
  · exact w_c1
  · exact w_c2
  · exact w_c3
  · exact w_c4
  · exact w_c5
set_option maxRecDepth 65536 in
theorem w_t1 : (words1.take 24).all (fun c => isCode c || c.before args0 about1) = true := by decide +kernel
set_option maxRecDepth 65536 in
theorem w_t2 : (words1.drop 24).all (fun c => isCode c || c.before args0 about1) = true := by decide +kernel
theorem w_tables : (allAtoms (Jvm.Cond.code x code maxLocals ret :: tables_1)).before args0 about1 = true := by
  rw [allAtoms_all]
  show words1.all (fun c => c.before args0 about1) = true
  refine all_split ?_ w_codes
  rw [← List.take_append_drop 24 words1, List.all_append, w_t1, w_t2]
  rfl
set_option maxRecDepth 65536 in
theorem w_case : (Jvm.Cond.and given_1 narrow_1).before args0 about1 = true := by decide +kernel
theorem w_applies : (headSpec (Jvm.Cond.code x code maxLocals ret :: tables_1) room_1).applies x e0.platform about1 = true :=
  (Spec.applies_iff w_frames).mpr ⟨w_running, w_runnable, w_alone, w_named, w_hears, w_ripe, w_room, w_tables⟩
theorem atStart : AtStart classFile x code maxLocals ret World_1 tables_1 room_1 Calls_1 rest_1 Pre_1 launch0 p0 e0 about1 theMethod args0 below0 :=
  ⟨lists_1, trivial, launch0.admits_env _ _ _, launch0.least_env, fairChoices_fair.cas, fairChoices_fair.clock, w_frames, w_args, w_heap, w_applies, ⟨⟨6, k6, 1, by decide +kernel, rfl, rfl, _, rfl, rfl⟩, trivial⟩, trivial, w_case⟩
end start1
theorem witness_1 : WitnessClaimed_1 := ⟨start1.p0, start1.e0, start1.about1, start1.theMethod, start1.args0, start1.below0, start1.atStart⟩
end Jvm.Pilot.@@N@@
