import JvmDerived
import JvmDerived.Pilot.@@N@@Statement
import JvmDerived.Pilot.@@N@@Code
set_option linter.unusedVariables false
set_option linter.unusedSimpArgs false
namespace Jvm.Pilot.@@N@@
open Jvm Jvm.ClassFile Sem Op Lib Jvm.Free Jvm.Stand Jvm.LawKit Jvm.RoadKit Bundle Jvm.Pilot.@@N@@.Jvm.D
section OwnKit
variable {p : Program} {l : Launch} {e : Env} {R : Room} {s : State} {m : MethodId} {args : Array Value} {below : List Frame} {meth : Method} {c : Code} {T : State} {Z : State} {own mn : String} {bytes : ByteArray} {ml n0 k n : Nat} {rt : Option FieldType} {h : Heap} {G : Outcome → State → Prop} {pc q : Nat} {L : Array Slot} {st rest : List Value} {a0 : Array Value}
/-- the run from S comes to an end of which G speaks -/
def Goes (p : Program) (e : Env) (below : List Frame) (G : Outcome → State → Prop) (S : State) : Prop := ∃ s₂ o, Steps p.tables e below S s₂ ∧ s₂.status = .running ∧ Ended s₂ below o ∧ G o s₂
theorem go_st {S S' : State} (f : ∀ t, Steps p.tables e below S' t → Steps p.tables e below S t) (r : Goes p e below G S') : Goes p e below G S := by
  obtain ⟨s₂, o, a, b⟩ := r; exact ⟨s₂, o, f _ a, b⟩
theorem go_tr {S S' : State} (f : Steps p.tables e below S S') (r : Goes p e below G S') : Goes p e below G S := by
  obtain ⟨s₂, o, a, b⟩ := r; exact ⟨s₂, o, f.trans a, b⟩
/-- what a body's walk knows from its start on -/
def Cx (p : Program) (s : State) (m : MethodId) (meth : Method) (c : Code) (Z : State) (own : String) (bytes : ByteArray) (ml : Nat) (rt : Option FieldType) (mn : String) : Prop :=
  p.tables.exec = Jvm.exec ∧ Z.Warmed39 s.vm ∧ s.vm.findClass own = some m.cls ∧ c.code = bytes ∧ c.maxLocals = ml ∧ meth.sig.returnType = rt ∧ meth.locks = false ∧ meth.name = mn
/-- where it stands: the heap is h; all that was written lies at n0 or above; at most k cells and n slots are new -/
def St (p : Program) (l : Launch) (e : Env) (R : Room) (s : State) (m : MethodId) (args : Array Value) (below : List Frame) (meth : Method) (c : Code) (n0 : Nat) (T : State) (h : Heap) (k n : Nat) : Prop :=
  ∃ locs cells slots, Stand p l e R s m args below meth c T locs cells slots ∧ Fr n0 locs ∧ T.heap = h ∧ cells ≤ k ∧ slots ≤ n
def FinN (Q : Option Value → Heap → Prop) (s : State) (n0 k n : Nat) (o : Outcome) (U : State) : Prop := ∃ v L, o = .returned v ∧ (Fr n0 L ∧ Q v U.heap) ∧ FrameEnd s o U L k n
def Met (l : Launch) (Z : State) (y : MethodName) (bytes : ByteArray) (ml : Nat) (rt : Option FieldType) (rm : Room) (as' : Array Value) (h0 : Heap) (n0 : Nat) (Q : Option Value → Heap → Prop) : Prop :=
  ∀ ws : List Jvm.Cond, MetFree l y (head1 (Jvm.Cond.code y bytes ml rt :: ws) rm) (fun a U => a = as' ∧ Z.Warmed39 U.vm ∧ U.heap = h0) (fun _ _ _ _ _ => True) (fun _ U o U' => ∃ v L, o = .returned v ∧ (Fr n0 L ∧ Q v U'.heap) ∧ FrameEnd U o U' L rm.cells rm.slots)
abbrev Met1 (l : Launch) (Z : State) (y : MethodName) (bytes : ByteArray) (ml : Nat) (rt : Option FieldType) (rm : Room) (as' : Array Value) (h0 : Heap) (n0 : Nat) (Q : Value → Heap → Prop) : Prop := Met l Z y bytes ml rt rm as' h0 n0 (fun v h => ∃ w, v = some w ∧ Q w h)
abbrev Met0 (l : Launch) (Z : State) (y : MethodName) (bytes : ByteArray) (ml : Nat) (rt : Option FieldType) (rm : Room) (as' : Array Value) (h0 : Heap) (n0 : Nat) (Q : Heap → Prop) : Prop := Met l Z y bytes ml rt rm as' h0 n0 (fun v h => v = none ∧ Q h)
theorem met_of {y : MethodName} {rm : Room} {as' : Array Value} {Q : Option Value → Heap → Prop} (hp : plainFor y = true) (hef : ∀ m, entryFrame m as' ml = mkF m 0 L [])
    (body : ∀ (p : Program) (e : Env) (s : State) (m : MethodId) (below : List Frame) (meth : Method) (c : Code) (T : State), Cx p s m meth c Z y.cls bytes ml rt y.name → St p l e rm s m as' below meth c n0 T h 0 0 → Goes p e below (FinN Q s n0 rm.cells rm.slots) (T.setTop (mkF m 0 L []))) :
    Met l Z y bytes ml rt rm as' h n0 Q := by
  intro ws
  refine MetFree.of_bodySF hp hisR ?_
  intro p e s m args below meth c s₁ Bd hml hP hK
  obtain ⟨rfl, hZ, hh⟩ := hP
  have e0 : s₁.heap = h := by rw [← hh, Bd.state]; rfl
  have b := body p e s m below meth c s₁ ⟨Bd.exec, hZ, findClass_of_methodNamed Bd.named, Bd.bytes, hml, Bd.returns, BodyLoose.notSynchronized Bd, (name_of_methodNamed Bd.named Bd.method).1⟩ ⟨[], 0, 0, Stand.of_body Bd, Fr.nil _, e0, Nat.le_refl _, Nat.le_refl _⟩
  rw [hef m]
  exact b
theorem St.mono {k' n' : Nat} (X : St p l e R s m args below meth c n0 T h k n) (hk : k ≤ k') (hn : n ≤ n') : St p l e R s m args below meth c n0 T h k' n' := by
  obtain ⟨a, b, d, x, y, z, u, v⟩ := X; exact ⟨a, b, d, x, y, z, Nat.le_trans u hk, Nat.le_trans v hn⟩
theorem g_aloadN (C : Cx p s m meth c Z own bytes ml rt mn) (X : St p l e R s m args below meth c n0 T h k n) {j : Fin 4} {v : Value} (hd : decode bytes pc = .ok (.aload_n j, 1)) (hq : pc + 1 = q) (hl : L[j.val]? = some (.val v)) (hv : v.isRef = true) (r : Goes p e below G (T.setTop (mkF m q L (v :: st)))) : Goes p e below G (T.setTop (mkF m pc L (st))) := by
  obtain ⟨hx, -, -, hby, -⟩ := C
  obtain ⟨_, _, _, X, -⟩ := X
  subst hq 
  exact go_st (fun t k => XS.aloadN X.here hx rfl (hb hby hd) hl hv k) r
theorem g_aload (C : Cx p s m meth c Z own bytes ml rt mn) (X : St p l e R s m args below meth c n0 T h k n) {j : Nat} {v : Value} (hd : decode bytes pc = .ok (.aload j, 2)) (hq : pc + 2 = q) (hl : L[j]? = some (.val v)) (hv : v.isRef = true) (r : Goes p e below G (T.setTop (mkF m q L (v :: st)))) : Goes p e below G (T.setTop (mkF m pc L (st))) := by
  obtain ⟨hx, -, -, hby, -⟩ := C
  obtain ⟨_, _, _, X, -⟩ := X
  subst hq 
  exact go_st (fun t k => XS.aload X.here hx rfl (hb hby hd) hl hv k) r
theorem g_iloadN (C : Cx p s m meth c Z own bytes ml rt mn) (X : St p l e R s m args below meth c n0 T h k n) {j : Fin 4} {v : Int32} (hd : decode bytes pc = .ok (.iload_n j, 1)) (hq : pc + 1 = q) (hl : L[j.val]? = some (.val (.int v))) (r : Goes p e below G (T.setTop (mkF m q L (.int v :: st)))) : Goes p e below G (T.setTop (mkF m pc L (st))) := by
  obtain ⟨hx, -, -, hby, -⟩ := C
  obtain ⟨_, _, _, X, -⟩ := X
  subst hq 
  exact go_st (fun t k => XS.iloadN X.here hx rfl (hb hby hd) hl k) r
theorem g_iload (C : Cx p s m meth c Z own bytes ml rt mn) (X : St p l e R s m args below meth c n0 T h k n) {j : Nat} {v : Int32} (hd : decode bytes pc = .ok (.iload j, 2)) (hq : pc + 2 = q) (hl : L[j]? = some (.val (.int v))) (r : Goes p e below G (T.setTop (mkF m q L (.int v :: st)))) : Goes p e below G (T.setTop (mkF m pc L (st))) := by
  obtain ⟨hx, -, -, hby, -⟩ := C
  obtain ⟨_, _, _, X, -⟩ := X
  subst hq 
  exact go_st (fun t k => XS.iload X.here hx rfl (hb hby hd) hl k) r
theorem g_lloadN (C : Cx p s m meth c Z own bytes ml rt mn) (X : St p l e R s m args below meth c n0 T h k n) {j : Fin 4} {v : Int64} (hd : decode bytes pc = .ok (.lload_n j, 1)) (hq : pc + 1 = q) (hl : L[j.val]? = some (.val (.long v))) (r : Goes p e below G (T.setTop (mkF m q L (.long v :: st)))) : Goes p e below G (T.setTop (mkF m pc L (st))) := by
  obtain ⟨hx, -, -, hby, -⟩ := C
  obtain ⟨_, _, _, X, -⟩ := X
  subst hq 
  exact go_st (fun t k => XS.lloadN X.here hx rfl (hb hby hd) hl k) r
theorem g_lload (C : Cx p s m meth c Z own bytes ml rt mn) (X : St p l e R s m args below meth c n0 T h k n) {j : Nat} {v : Int64} (hd : decode bytes pc = .ok (.lload j, 2)) (hq : pc + 2 = q) (hl : L[j]? = some (.val (.long v))) (r : Goes p e below G (T.setTop (mkF m q L (.long v :: st)))) : Goes p e below G (T.setTop (mkF m pc L (st))) := by
  obtain ⟨hx, -, -, hby, -⟩ := C
  obtain ⟨_, _, _, X, -⟩ := X
  subst hq 
  exact go_st (fun t k => XS.lload X.here hx rfl (hb hby hd) hl k) r
theorem g_iconst (C : Cx p s m meth c Z own bytes ml rt mn) (X : St p l e R s m args below meth c n0 T h k n) {i : Int} {z : Int32} (hd : decode bytes pc = .ok (.iconst i, 1)) (hq : pc + 1 = q) (hz : Int32.ofInt i = z) (r : Goes p e below G (T.setTop (mkF m q L (.int z :: st)))) : Goes p e below G (T.setTop (mkF m pc L (st))) := by
  obtain ⟨hx, -, -, hby, -⟩ := C
  obtain ⟨_, _, _, X, -⟩ := X
  subst hq hz
  exact go_st (fun t k => XS.iconst X.here hx rfl (hb hby hd)  k) r
theorem g_bipush (C : Cx p s m meth c Z own bytes ml rt mn) (X : St p l e R s m args below meth c n0 T h k n) {i : Int} {z : Int32} (hd : decode bytes pc = .ok (.bipush i, 2)) (hq : pc + 2 = q) (hz : (Int8.ofInt i).toInt32 = z) (r : Goes p e below G (T.setTop (mkF m q L (.int z :: st)))) : Goes p e below G (T.setTop (mkF m pc L (st))) := by
  obtain ⟨hx, -, -, hby, -⟩ := C
  obtain ⟨_, _, _, X, -⟩ := X
  subst hq hz
  exact go_st (fun t k => XS.bipush X.here hx rfl (hb hby hd)  k) r
theorem g_sipush (C : Cx p s m meth c Z own bytes ml rt mn) (X : St p l e R s m args below meth c n0 T h k n) {i : Int} {z : Int32} (hd : decode bytes pc = .ok (.sipush i, 3)) (hq : pc + 3 = q) (hz : (Int16.ofInt i).toInt32 = z) (r : Goes p e below G (T.setTop (mkF m q L (.int z :: st)))) : Goes p e below G (T.setTop (mkF m pc L (st))) := by
  obtain ⟨hx, -, -, hby, -⟩ := C
  obtain ⟨_, _, _, X, -⟩ := X
  subst hq hz
  exact go_st (fun t k => XS.sipush X.here hx rfl (hb hby hd)  k) r
theorem g_aconstNull (C : Cx p s m meth c Z own bytes ml rt mn) (X : St p l e R s m args below meth c n0 T h k n)  (hd : decode bytes pc = .ok (.aconst_null, 1)) (hq : pc + 1 = q)  (r : Goes p e below G (T.setTop (mkF m q L (.null :: st)))) : Goes p e below G (T.setTop (mkF m pc L (st))) := by
  obtain ⟨hx, -, -, hby, -⟩ := C
  obtain ⟨_, _, _, X, -⟩ := X
  subst hq 
  exact go_st (fun t k => XS.aconstNull X.here hx rfl (hb hby hd)  k) r
theorem g_iadd (C : Cx p s m meth c Z own bytes ml rt mn) (X : St p l e R s m args below meth c n0 T h k n) {x y z : Int32} (hd : decode bytes pc = .ok (.iadd, 1)) (hq : pc + 1 = q) (hz : x + y = z) (r : Goes p e below G (T.setTop (mkF m q L (.int z :: st)))) : Goes p e below G (T.setTop (mkF m pc L (.int y :: .int x :: st))) := by
  obtain ⟨hx, -, -, hby, -⟩ := C
  obtain ⟨_, _, _, X, -⟩ := X
  subst hq hz
  exact go_st (fun t k => XS.iadd X.here hx rfl (hb hby hd) rfl k) r
theorem g_isub (C : Cx p s m meth c Z own bytes ml rt mn) (X : St p l e R s m args below meth c n0 T h k n) {x y z : Int32} (hd : decode bytes pc = .ok (.isub, 1)) (hq : pc + 1 = q) (hz : x - y = z) (r : Goes p e below G (T.setTop (mkF m q L (.int z :: st)))) : Goes p e below G (T.setTop (mkF m pc L (.int y :: .int x :: st))) := by
  obtain ⟨hx, -, -, hby, -⟩ := C
  obtain ⟨_, _, _, X, -⟩ := X
  subst hq hz
  exact go_st (fun t k => XS.isub X.here hx rfl (hb hby hd) rfl k) r
theorem g_imul (C : Cx p s m meth c Z own bytes ml rt mn) (X : St p l e R s m args below meth c n0 T h k n) {x y z : Int32} (hd : decode bytes pc = .ok (.imul, 1)) (hq : pc + 1 = q) (hz : x * y = z) (r : Goes p e below G (T.setTop (mkF m q L (.int z :: st)))) : Goes p e below G (T.setTop (mkF m pc L (.int y :: .int x :: st))) := by
  obtain ⟨hx, -, -, hby, -⟩ := C
  obtain ⟨_, _, _, X, -⟩ := X
  subst hq hz
  exact go_st (fun t k => XS.imul X.here hx rfl (hb hby hd) rfl k) r
theorem g_iand (C : Cx p s m meth c Z own bytes ml rt mn) (X : St p l e R s m args below meth c n0 T h k n) {x y z : Int32} (hd : decode bytes pc = .ok (.iand, 1)) (hq : pc + 1 = q) (hz : x &&& y = z) (r : Goes p e below G (T.setTop (mkF m q L (.int z :: st)))) : Goes p e below G (T.setTop (mkF m pc L (.int y :: .int x :: st))) := by
  obtain ⟨hx, -, -, hby, -⟩ := C
  obtain ⟨_, _, _, X, -⟩ := X
  subst hq hz
  exact go_st (fun t k => XS.iand X.here hx rfl (hb hby hd) rfl k) r
theorem g_ior (C : Cx p s m meth c Z own bytes ml rt mn) (X : St p l e R s m args below meth c n0 T h k n) {x y z : Int32} (hd : decode bytes pc = .ok (.ior, 1)) (hq : pc + 1 = q) (hz : x ||| y = z) (r : Goes p e below G (T.setTop (mkF m q L (.int z :: st)))) : Goes p e below G (T.setTop (mkF m pc L (.int y :: .int x :: st))) := by
  obtain ⟨hx, -, -, hby, -⟩ := C
  obtain ⟨_, _, _, X, -⟩ := X
  subst hq hz
  exact go_st (fun t k => XS.ior X.here hx rfl (hb hby hd) rfl k) r
theorem g_ixor (C : Cx p s m meth c Z own bytes ml rt mn) (X : St p l e R s m args below meth c n0 T h k n) {x y z : Int32} (hd : decode bytes pc = .ok (.ixor, 1)) (hq : pc + 1 = q) (hz : x ^^^ y = z) (r : Goes p e below G (T.setTop (mkF m q L (.int z :: st)))) : Goes p e below G (T.setTop (mkF m pc L (.int y :: .int x :: st))) := by
  obtain ⟨hx, -, -, hby, -⟩ := C
  obtain ⟨_, _, _, X, -⟩ := X
  subst hq hz
  exact go_st (fun t k => XS.ixor X.here hx rfl (hb hby hd) rfl k) r
theorem g_ishl (C : Cx p s m meth c Z own bytes ml rt mn) (X : St p l e R s m args below meth c n0 T h k n) {x y z : Int32} (hd : decode bytes pc = .ok (.ishl, 1)) (hq : pc + 1 = q) (hz : x <<< (y &&& 31) = z) (r : Goes p e below G (T.setTop (mkF m q L (.int z :: st)))) : Goes p e below G (T.setTop (mkF m pc L (.int y :: .int x :: st))) := by
  obtain ⟨hx, -, -, hby, -⟩ := C
  obtain ⟨_, _, _, X, -⟩ := X
  subst hq hz
  exact go_st (fun t k => XS.ishl X.here hx rfl (hb hby hd) rfl k) r
theorem g_ishr (C : Cx p s m meth c Z own bytes ml rt mn) (X : St p l e R s m args below meth c n0 T h k n) {x y z : Int32} (hd : decode bytes pc = .ok (.ishr, 1)) (hq : pc + 1 = q) (hz : x >>> (y &&& 31) = z) (r : Goes p e below G (T.setTop (mkF m q L (.int z :: st)))) : Goes p e below G (T.setTop (mkF m pc L (.int y :: .int x :: st))) := by
  obtain ⟨hx, -, -, hby, -⟩ := C
  obtain ⟨_, _, _, X, -⟩ := X
  subst hq hz
  exact go_st (fun t k => XS.ishr X.here hx rfl (hb hby hd) rfl k) r
theorem g_iushr (C : Cx p s m meth c Z own bytes ml rt mn) (X : St p l e R s m args below meth c n0 T h k n) {x y z : Int32} (hd : decode bytes pc = .ok (.iushr, 1)) (hq : pc + 1 = q) (hz : (x.toUInt32 >>> (y &&& 31).toUInt32).toInt32 = z) (r : Goes p e below G (T.setTop (mkF m q L (.int z :: st)))) : Goes p e below G (T.setTop (mkF m pc L (.int y :: .int x :: st))) := by
  obtain ⟨hx, -, -, hby, -⟩ := C
  obtain ⟨_, _, _, X, -⟩ := X
  subst hq hz
  exact go_st (fun t k => XS.iushr X.here hx rfl (hb hby hd) rfl k) r
theorem g_idiv (C : Cx p s m meth c Z own bytes ml rt mn) (X : St p l e R s m args below meth c n0 T h k n) {x y z : Int32} (hd : decode bytes pc = .ok (.idiv, 1)) (hq : pc + 1 = q) (hy : y ≠ 0) (hz : x / y = z) (r : Goes p e below G (T.setTop (mkF m q L (.int z :: st)))) : Goes p e below G (T.setTop (mkF m pc L (.int y :: .int x :: st))) := by
  obtain ⟨hx, -, -, hby, -⟩ := C
  obtain ⟨_, _, _, X, -⟩ := X
  subst hq hz
  exact go_st (fun t k => XS.idiv X.here hx rfl (hb hby hd) rfl hy k) r
theorem g_irem (C : Cx p s m meth c Z own bytes ml rt mn) (X : St p l e R s m args below meth c n0 T h k n) {x y z : Int32} (hd : decode bytes pc = .ok (.irem, 1)) (hq : pc + 1 = q) (hy : y ≠ 0) (hz : x % y = z) (r : Goes p e below G (T.setTop (mkF m q L (.int z :: st)))) : Goes p e below G (T.setTop (mkF m pc L (.int y :: .int x :: st))) := by
  obtain ⟨hx, -, -, hby, -⟩ := C
  obtain ⟨_, _, _, X, -⟩ := X
  subst hq hz
  exact go_st (fun t k => iremM X hx rfl (hb hby hd) rfl hy k) r
theorem g_ineg (C : Cx p s m meth c Z own bytes ml rt mn) (X : St p l e R s m args below meth c n0 T h k n) {x z : Int32} (hd : decode bytes pc = .ok (.ineg, 1)) (hq : pc + 1 = q) (hz : -x = z) (r : Goes p e below G (T.setTop (mkF m q L (.int z :: st)))) : Goes p e below G (T.setTop (mkF m pc L (.int x :: st))) := by
  obtain ⟨hx, -, -, hby, -⟩ := C
  obtain ⟨_, _, _, X, -⟩ := X
  subst hq hz
  exact go_st (fun t k => XS.ineg X.here hx rfl (hb hby hd) rfl k) r
theorem g_ladd (C : Cx p s m meth c Z own bytes ml rt mn) (X : St p l e R s m args below meth c n0 T h k n) {x y z : Int64} (hd : decode bytes pc = .ok (.ladd, 1)) (hq : pc + 1 = q) (hz : x + y = z) (r : Goes p e below G (T.setTop (mkF m q L (.long z :: st)))) : Goes p e below G (T.setTop (mkF m pc L (.long y :: .long x :: st))) := by
  obtain ⟨hx, -, -, hby, -⟩ := C
  obtain ⟨_, _, _, X, -⟩ := X
  subst hq hz
  exact go_st (fun t k => XS.ladd X.here hx rfl (hb hby hd) rfl k) r
theorem g_lsub (C : Cx p s m meth c Z own bytes ml rt mn) (X : St p l e R s m args below meth c n0 T h k n) {x y z : Int64} (hd : decode bytes pc = .ok (.lsub, 1)) (hq : pc + 1 = q) (hz : x - y = z) (r : Goes p e below G (T.setTop (mkF m q L (.long z :: st)))) : Goes p e below G (T.setTop (mkF m pc L (.long y :: .long x :: st))) := by
  obtain ⟨hx, -, -, hby, -⟩ := C
  obtain ⟨_, _, _, X, -⟩ := X
  subst hq hz
  exact go_st (fun t k => XS.lsub X.here hx rfl (hb hby hd) rfl k) r
theorem g_lmul (C : Cx p s m meth c Z own bytes ml rt mn) (X : St p l e R s m args below meth c n0 T h k n) {x y z : Int64} (hd : decode bytes pc = .ok (.lmul, 1)) (hq : pc + 1 = q) (hz : x * y = z) (r : Goes p e below G (T.setTop (mkF m q L (.long z :: st)))) : Goes p e below G (T.setTop (mkF m pc L (.long y :: .long x :: st))) := by
  obtain ⟨hx, -, -, hby, -⟩ := C
  obtain ⟨_, _, _, X, -⟩ := X
  subst hq hz
  exact go_st (fun t k => XS.lmul X.here hx rfl (hb hby hd) rfl k) r
theorem g_land (C : Cx p s m meth c Z own bytes ml rt mn) (X : St p l e R s m args below meth c n0 T h k n) {x y z : Int64} (hd : decode bytes pc = .ok (.land, 1)) (hq : pc + 1 = q) (hz : x &&& y = z) (r : Goes p e below G (T.setTop (mkF m q L (.long z :: st)))) : Goes p e below G (T.setTop (mkF m pc L (.long y :: .long x :: st))) := by
  obtain ⟨hx, -, -, hby, -⟩ := C
  obtain ⟨_, _, _, X, -⟩ := X
  subst hq hz
  exact go_st (fun t k => XS.land X.here hx rfl (hb hby hd) rfl k) r
theorem g_lor (C : Cx p s m meth c Z own bytes ml rt mn) (X : St p l e R s m args below meth c n0 T h k n) {x y z : Int64} (hd : decode bytes pc = .ok (.lor, 1)) (hq : pc + 1 = q) (hz : x ||| y = z) (r : Goes p e below G (T.setTop (mkF m q L (.long z :: st)))) : Goes p e below G (T.setTop (mkF m pc L (.long y :: .long x :: st))) := by
  obtain ⟨hx, -, -, hby, -⟩ := C
  obtain ⟨_, _, _, X, -⟩ := X
  subst hq hz
  exact go_st (fun t k => XS.lor X.here hx rfl (hb hby hd) rfl k) r
theorem g_lxor (C : Cx p s m meth c Z own bytes ml rt mn) (X : St p l e R s m args below meth c n0 T h k n) {x y z : Int64} (hd : decode bytes pc = .ok (.lxor, 1)) (hq : pc + 1 = q) (hz : x ^^^ y = z) (r : Goes p e below G (T.setTop (mkF m q L (.long z :: st)))) : Goes p e below G (T.setTop (mkF m pc L (.long y :: .long x :: st))) := by
  obtain ⟨hx, -, -, hby, -⟩ := C
  obtain ⟨_, _, _, X, -⟩ := X
  subst hq hz
  exact go_st (fun t k => XS.lxor X.here hx rfl (hb hby hd) rfl k) r
theorem g_lshl (C : Cx p s m meth c Z own bytes ml rt mn) (X : St p l e R s m args below meth c n0 T h k n) {x z : Int64} {y : Int32} (hd : decode bytes pc = .ok (.lshl, 1)) (hq : pc + 1 = q) (hz : x <<< (y &&& 0x3f).toInt64 = z) (r : Goes p e below G (T.setTop (mkF m q L (.long z :: st)))) : Goes p e below G (T.setTop (mkF m pc L (.int y :: .long x :: st))) := by
  obtain ⟨hx, -, -, hby, -⟩ := C
  obtain ⟨_, _, _, X, -⟩ := X
  subst hq hz
  exact go_st (fun t k => XS.lshl X.here hx rfl (hb hby hd) rfl k) r
theorem g_lshr (C : Cx p s m meth c Z own bytes ml rt mn) (X : St p l e R s m args below meth c n0 T h k n) {x z : Int64} {y : Int32} (hd : decode bytes pc = .ok (.lshr, 1)) (hq : pc + 1 = q) (hz : x >>> (y &&& 0x3f).toInt64 = z) (r : Goes p e below G (T.setTop (mkF m q L (.long z :: st)))) : Goes p e below G (T.setTop (mkF m pc L (.int y :: .long x :: st))) := by
  obtain ⟨hx, -, -, hby, -⟩ := C
  obtain ⟨_, _, _, X, -⟩ := X
  subst hq hz
  exact go_st (fun t k => XS.lshr X.here hx rfl (hb hby hd) rfl k) r
theorem g_lushr (C : Cx p s m meth c Z own bytes ml rt mn) (X : St p l e R s m args below meth c n0 T h k n) {x z : Int64} {y : Int32} (hd : decode bytes pc = .ok (.lushr, 1)) (hq : pc + 1 = q) (hz : (x.toUInt64 >>> (y &&& 0x3f).toInt64.toUInt64).toInt64 = z) (r : Goes p e below G (T.setTop (mkF m q L (.long z :: st)))) : Goes p e below G (T.setTop (mkF m pc L (.int y :: .long x :: st))) := by
  obtain ⟨hx, -, -, hby, -⟩ := C
  obtain ⟨_, _, _, X, -⟩ := X
  subst hq hz
  exact go_st (fun t k => XS.lushr X.here hx rfl (hb hby hd) rfl k) r
theorem g_ldiv (C : Cx p s m meth c Z own bytes ml rt mn) (X : St p l e R s m args below meth c n0 T h k n) {x y z : Int64} (hd : decode bytes pc = .ok (.ldiv, 1)) (hq : pc + 1 = q) (hy : y ≠ 0) (hz : x / y = z) (r : Goes p e below G (T.setTop (mkF m q L (.long z :: st)))) : Goes p e below G (T.setTop (mkF m pc L (.long y :: .long x :: st))) := by
  obtain ⟨hx, -, -, hby, -⟩ := C
  obtain ⟨_, _, _, X, -⟩ := X
  subst hq hz
  exact go_st (fun t k => XS.ldiv X.here hx rfl (hb hby hd) rfl hy k) r
theorem g_lrem (C : Cx p s m meth c Z own bytes ml rt mn) (X : St p l e R s m args below meth c n0 T h k n) {x y z : Int64} (hd : decode bytes pc = .ok (.lrem, 1)) (hq : pc + 1 = q) (hy : y ≠ 0) (hz : x % y = z) (r : Goes p e below G (T.setTop (mkF m q L (.long z :: st)))) : Goes p e below G (T.setTop (mkF m pc L (.long y :: .long x :: st))) := by
  obtain ⟨hx, -, -, hby, -⟩ := C
  obtain ⟨_, _, _, X, -⟩ := X
  subst hq hz
  have w := lrem_mod x y
  exact go_st (fun t k => XS.lrem X.here hx rfl (hb hby hd) rfl hy (by rw [w]; exact k)) r
theorem g_lneg (C : Cx p s m meth c Z own bytes ml rt mn) (X : St p l e R s m args below meth c n0 T h k n) {x z : Int64} (hd : decode bytes pc = .ok (.lneg, 1)) (hq : pc + 1 = q) (hz : -x = z) (r : Goes p e below G (T.setTop (mkF m q L (.long z :: st)))) : Goes p e below G (T.setTop (mkF m pc L (.long x :: st))) := by
  obtain ⟨hx, -, -, hby, -⟩ := C
  obtain ⟨_, _, _, X, -⟩ := X
  subst hq hz
  exact go_st (fun t k => XS.lneg X.here hx rfl (hb hby hd) rfl k) r
theorem g_i2l (C : Cx p s m meth c Z own bytes ml rt mn) (X : St p l e R s m args below meth c n0 T h k n) {x : Int32} {z : Int64} (hd : decode bytes pc = .ok (.i2l, 1)) (hq : pc + 1 = q) (hz : x.toInt64 = z) (r : Goes p e below G (T.setTop (mkF m q L (.long z :: st)))) : Goes p e below G (T.setTop (mkF m pc L (.int x :: st))) := by
  obtain ⟨hx, -, -, hby, -⟩ := C
  obtain ⟨_, _, _, X, -⟩ := X
  subst hq hz
  exact go_st (fun t k => XS.i2l X.here hx rfl (hb hby hd) rfl k) r
theorem g_l2i (C : Cx p s m meth c Z own bytes ml rt mn) (X : St p l e R s m args below meth c n0 T h k n) {x : Int64} {z : Int32} (hd : decode bytes pc = .ok (.l2i, 1)) (hq : pc + 1 = q) (hz : x.toInt32 = z) (r : Goes p e below G (T.setTop (mkF m q L (.int z :: st)))) : Goes p e below G (T.setTop (mkF m pc L (.long x :: st))) := by
  obtain ⟨hx, -, -, hby, -⟩ := C
  obtain ⟨_, _, _, X, -⟩ := X
  subst hq hz
  exact go_st (fun t k => XS.l2i X.here hx rfl (hb hby hd) rfl k) r
theorem g_i2b (C : Cx p s m meth c Z own bytes ml rt mn) (X : St p l e R s m args below meth c n0 T h k n) {x z : Int32} (hd : decode bytes pc = .ok (.i2b, 1)) (hq : pc + 1 = q) (hz : x.toInt8.toInt32 = z) (r : Goes p e below G (T.setTop (mkF m q L (.int z :: st)))) : Goes p e below G (T.setTop (mkF m pc L (.int x :: st))) := by
  obtain ⟨hx, -, -, hby, -⟩ := C
  obtain ⟨_, _, _, X, -⟩ := X
  subst hq hz
  exact go_st (fun t k => XS.i2b X.here hx rfl (hb hby hd) rfl k) r
theorem g_i2s (C : Cx p s m meth c Z own bytes ml rt mn) (X : St p l e R s m args below meth c n0 T h k n) {x z : Int32} (hd : decode bytes pc = .ok (.i2s, 1)) (hq : pc + 1 = q) (hz : x.toInt16.toInt32 = z) (r : Goes p e below G (T.setTop (mkF m q L (.int z :: st)))) : Goes p e below G (T.setTop (mkF m pc L (.int x :: st))) := by
  obtain ⟨hx, -, -, hby, -⟩ := C
  obtain ⟨_, _, _, X, -⟩ := X
  subst hq hz
  exact go_st (fun t k => XS.i2s X.here hx rfl (hb hby hd) rfl k) r
theorem g_i2c (C : Cx p s m meth c Z own bytes ml rt mn) (X : St p l e R s m args below meth c n0 T h k n) {x z : Int32} (hd : decode bytes pc = .ok (.i2c, 1)) (hq : pc + 1 = q) (hz : x.toUInt32.toUInt16.toUInt32.toInt32 = z) (r : Goes p e below G (T.setTop (mkF m q L (.int z :: st)))) : Goes p e below G (T.setTop (mkF m pc L (.int x :: st))) := by
  obtain ⟨hx, -, -, hby, -⟩ := C
  obtain ⟨_, _, _, X, -⟩ := X
  subst hq hz
  exact go_st (fun t k => XS.i2c X.here hx rfl (hb hby hd) rfl k) r
theorem g_lconst (C : Cx p s m meth c Z own bytes ml rt mn) (X : St p l e R s m args below meth c n0 T h k n) {i : Fin 2} {z : Int64} (hd : decode bytes pc = .ok (.lconst i, 1)) (hq : pc + 1 = q) (hz : (i.val.toInt64) = z) (r : Goes p e below G (T.setTop (mkF m q L (.long z :: st)))) : Goes p e below G (T.setTop (mkF m pc L (st))) := by
  obtain ⟨hx, -, -, hby, -⟩ := C
  obtain ⟨_, _, _, X, -⟩ := X
  subst hq hz
  exact go_st (fun t k => XS.lconst X.here hx rfl (hb hby hd) k) r
theorem own_lcW (x y : Int64) : (if x > y then (1 : Int32) else if x = y then 0 else -1) = lcmpW x y := rfl
theorem g_lcmp (C : Cx p s m meth c Z own bytes ml rt mn) (X : St p l e R s m args below meth c n0 T h k n) {x y : Int64} {z : Int32} (hd : decode bytes pc = .ok (.lcmp, 1)) (hq : pc + 1 = q) (hz : lcmpW x y = z) (r : Goes p e below G (T.setTop (mkF m q L (.int z :: st)))) : Goes p e below G (T.setTop (mkF m pc L (.long y :: .long x :: st))) := by
  obtain ⟨hx, -, -, hby, -⟩ := C
  obtain ⟨_, _, _, X, -⟩ := X
  subst hq hz
  exact go_st (fun t k => XS.lcmp X.here hx rfl (hb hby hd) rfl k) r
theorem g_dup (C : Cx p s m meth c Z own bytes ml rt mn) (X : St p l e R s m args below meth c n0 T h k n) {x : Value} (hd : decode bytes pc = .ok (.dup, 1)) (hq : pc + 1 = q) (hc : x.category = 1) (r : Goes p e below G (T.setTop (mkF m q L (x :: x :: st)))) : Goes p e below G (T.setTop (mkF m pc L (x :: st))) := by
  obtain ⟨hx, -, -, hby, -⟩ := C
  obtain ⟨_, _, _, X, -⟩ := X
  subst hq 
  exact go_st (fun t k => XS.dup X.here hx rfl (hb hby hd) rfl hc k) r
theorem g_pop (C : Cx p s m meth c Z own bytes ml rt mn) (X : St p l e R s m args below meth c n0 T h k n) {x : Value} (hd : decode bytes pc = .ok (.pop, 1)) (hq : pc + 1 = q) (hc : x.category = 1) (r : Goes p e below G (T.setTop (mkF m q L (st)))) : Goes p e below G (T.setTop (mkF m pc L (x :: st))) := by
  obtain ⟨hx, -, -, hby, -⟩ := C
  obtain ⟨_, _, _, X, -⟩ := X
  subst hq 
  exact go_st (fun t k => XS.pop X.here hx rfl (hb hby hd) rfl hc k) r
theorem g_dupX1 (C : Cx p s m meth c Z own bytes ml rt mn) (X : St p l e R s m args below meth c n0 T h k n) {x y : Value} (hd : decode bytes pc = .ok (.dup_x1, 1)) (hq : pc + 1 = q) (hc : x.category = 1) (hc' : y.category = 1) (r : Goes p e below G (T.setTop (mkF m q L (x :: y :: x :: st)))) : Goes p e below G (T.setTop (mkF m pc L (x :: y :: st))) := by
  obtain ⟨hx, -, -, hby, -⟩ := C
  obtain ⟨_, _, _, X, -⟩ := X
  subst hq 
  exact go_st (fun t k => XS.dupX1 X.here hx rfl (hb hby hd) rfl hc hc' k) r
theorem g_dup2 (C : Cx p s m meth c Z own bytes ml rt mn) (X : St p l e R s m args below meth c n0 T h k n) {x y : Value} (hd : decode bytes pc = .ok (.dup2, 1)) (hq : pc + 1 = q) (hc : x.category = 1) (hc' : y.category = 1) (r : Goes p e below G (T.setTop (mkF m q L (x :: y :: x :: y :: st)))) : Goes p e below G (T.setTop (mkF m pc L (x :: y :: st))) := by
  obtain ⟨hx, -, -, hby, -⟩ := C
  obtain ⟨_, _, _, X, -⟩ := X
  subst hq 
  exact go_st (fun t k => Jvm.Free.XT.dup2 X.here hx rfl (hb hby hd) rfl hc hc' k) r
theorem g_istoreN (C : Cx p s m meth c Z own bytes ml rt mn) (X : St p l e R s m args below meth c n0 T h k n) {j : Fin 4} {x : Int32} {L' : Array Slot} (hd : decode bytes pc = .ok (.istore_n j, 1)) (hq : pc + 1 = q) (hl : storeLocals L j.val (.int x) = some L') (r : Goes p e below G (T.setTop (mkF m q L' (st)))) : Goes p e below G (T.setTop (mkF m pc L (.int x :: st))) := by
  obtain ⟨hx, -, -, hby, -⟩ := C
  obtain ⟨_, _, _, X, -⟩ := X
  subst hq 
  exact go_st (fun t k => XS.istoreN X.here hx rfl (hb hby hd) rfl hl k) r
theorem g_istore (C : Cx p s m meth c Z own bytes ml rt mn) (X : St p l e R s m args below meth c n0 T h k n) {j : Nat} {x : Int32} {L' : Array Slot} (hd : decode bytes pc = .ok (.istore j, 2)) (hq : pc + 2 = q) (hl : storeLocals L j (.int x) = some L') (r : Goes p e below G (T.setTop (mkF m q L' (st)))) : Goes p e below G (T.setTop (mkF m pc L (.int x :: st))) := by
  obtain ⟨hx, -, -, hby, -⟩ := C
  obtain ⟨_, _, _, X, -⟩ := X
  subst hq 
  exact go_st (fun t k => XS.istore X.here hx rfl (hb hby hd) rfl hl k) r
theorem g_lstoreN (C : Cx p s m meth c Z own bytes ml rt mn) (X : St p l e R s m args below meth c n0 T h k n) {j : Fin 4} {x : Int64} {L' : Array Slot} (hd : decode bytes pc = .ok (.lstore_n j, 1)) (hq : pc + 1 = q) (hl : storeLocals L j.val (.long x) = some L') (r : Goes p e below G (T.setTop (mkF m q L' (st)))) : Goes p e below G (T.setTop (mkF m pc L (.long x :: st))) := by
  obtain ⟨hx, -, -, hby, -⟩ := C
  obtain ⟨_, _, _, X, -⟩ := X
  subst hq 
  exact go_st (fun t k => XS.lstoreN X.here hx rfl (hb hby hd) rfl hl k) r
theorem g_lstore (C : Cx p s m meth c Z own bytes ml rt mn) (X : St p l e R s m args below meth c n0 T h k n) {j : Nat} {x : Int64} {L' : Array Slot} (hd : decode bytes pc = .ok (.lstore j, 2)) (hq : pc + 2 = q) (hl : storeLocals L j (.long x) = some L') (r : Goes p e below G (T.setTop (mkF m q L' (st)))) : Goes p e below G (T.setTop (mkF m pc L (.long x :: st))) := by
  obtain ⟨hx, -, -, hby, -⟩ := C
  obtain ⟨_, _, _, X, -⟩ := X
  subst hq 
  exact go_st (fun t k => XS.lstore X.here hx rfl (hb hby hd) rfl hl k) r
theorem g_astoreN (C : Cx p s m meth c Z own bytes ml rt mn) (X : St p l e R s m args below meth c n0 T h k n) {j : Fin 4} {x : Value} {L' : Array Slot} (hd : decode bytes pc = .ok (.astore_n j, 1)) (hq : pc + 1 = q) (hv : x.isRef = true) (hl : storeLocals L j.val x = some L') (r : Goes p e below G (T.setTop (mkF m q L' (st)))) : Goes p e below G (T.setTop (mkF m pc L (x :: st))) := by
  obtain ⟨hx, -, -, hby, -⟩ := C
  obtain ⟨_, _, _, X, -⟩ := X
  subst hq 
  exact go_st (fun t k => XS.astoreN X.here hx rfl (hb hby hd) rfl hv hl k) r
theorem g_astore (C : Cx p s m meth c Z own bytes ml rt mn) (X : St p l e R s m args below meth c n0 T h k n) {j : Nat} {x : Value} {L' : Array Slot} (hd : decode bytes pc = .ok (.astore j, 2)) (hq : pc + 2 = q) (hv : x.isRef = true) (hl : storeLocals L j x = some L') (r : Goes p e below G (T.setTop (mkF m q L' (st)))) : Goes p e below G (T.setTop (mkF m pc L (x :: st))) := by
  obtain ⟨hx, -, -, hby, -⟩ := C
  obtain ⟨_, _, _, X, -⟩ := X
  subst hq 
  exact go_st (fun t k => XS.astore X.here hx rfl (hb hby hd) rfl hv hl k) r
theorem g_iinc (C : Cx p s m meth c Z own bytes ml rt mn) (X : St p l e R s m args below meth c n0 T h k n) {j : Nat} {i : Int} {x z : Int32} {L' : Array Slot} (hd : decode bytes pc = .ok (.iinc j i, 3)) (hq : pc + 3 = q) (hl : L[j]? = some (.val (.int x))) (hz : x + Int32.ofInt i = z) (hl' : storeLocals L j (.int z) = some L') (r : Goes p e below G (T.setTop (mkF m q L' (st)))) : Goes p e below G (T.setTop (mkF m pc L (st))) := by
  obtain ⟨hx, -, -, hby, -⟩ := C
  obtain ⟨_, _, _, X, -⟩ := X
  subst hq hz
  exact go_st (fun t k => XS.iinc X.here hx rfl (hb hby hd) hl hl' k) r
theorem g_goto (C : Cx p s m meth c Z own bytes ml rt mn) (X : St p l e R s m args below meth c n0 T h k n)  {o : Int} (hd : decode bytes pc = .ok (.goto o, 3)) (ho : 0 ≤ (pc : Int) + o) (hq : ((pc : Int) + o).toNat = q)  (r : Goes p e below G (T.setTop (mkF m q L st))) : Goes p e below G (T.setTop (mkF m pc L (st))) := by
  obtain ⟨hx, -, -, hby, -⟩ := C
  obtain ⟨_, _, _, X, -⟩ := X
  exact go_st (fun t k => XS.goto X.here hx rfl rfl (hb hby hd) ho hq k) r
theorem g_ifY (C : Cx p s m meth c Z own bytes ml rt mn) (X : St p l e R s m args below meth c n0 T h k n) {cd : ClassFile.Cond} {x : Int32} {o : Int} (hd : decode bytes pc = .ok (.ifCond cd o, 3)) (ho : 0 ≤ (pc : Int) + o) (hq : ((pc : Int) + o).toNat = q) (hc : if_icmp.holds cd x 0 = true) (r : Goes p e below G (T.setTop (mkF m q L st))) : Goes p e below G (T.setTop (mkF m pc L (.int x :: st))) := by
  obtain ⟨hx, -, -, hby, -⟩ := C
  obtain ⟨_, _, _, X, -⟩ := X
  exact go_st (fun t k => XS.ifYes X.here hx rfl rfl (hb hby hd) rfl ((if0 _ _).trans hc) ho hq k) r
theorem g_ifN (C : Cx p s m meth c Z own bytes ml rt mn) (X : St p l e R s m args below meth c n0 T h k n) {cd : ClassFile.Cond} {x : Int32} {o : Int} (hd : decode bytes pc = .ok (.ifCond cd o, 3)) (hq : pc + 3 = q) (hc : if_icmp.holds cd x 0 = false) (r : Goes p e below G (T.setTop (mkF m q L st))) : Goes p e below G (T.setTop (mkF m pc L (.int x :: st))) := by
  obtain ⟨hx, -, -, hby, -⟩ := C
  obtain ⟨_, _, _, X, -⟩ := X
  subst hq
  exact go_st (fun t k => XS.ifNo X.here hx rfl (hb hby hd) rfl ((if0 _ _).trans hc) k) r
theorem g_icY (C : Cx p s m meth c Z own bytes ml rt mn) (X : St p l e R s m args below meth c n0 T h k n) {cd : ClassFile.Cond} {x y : Int32} {o : Int} (hd : decode bytes pc = .ok (.if_icmp cd o, 3)) (ho : 0 ≤ (pc : Int) + o) (hq : ((pc : Int) + o).toNat = q) (hc : if_icmp.holds cd x y = true) (r : Goes p e below G (T.setTop (mkF m q L st))) : Goes p e below G (T.setTop (mkF m pc L (.int y :: .int x :: st))) := by
  obtain ⟨hx, -, -, hby, -⟩ := C
  obtain ⟨_, _, _, X, -⟩ := X
  exact go_st (fun t k => XS.icmpYes X.here hx rfl rfl (hb hby hd) rfl hc ho hq k) r
theorem g_icN (C : Cx p s m meth c Z own bytes ml rt mn) (X : St p l e R s m args below meth c n0 T h k n) {cd : ClassFile.Cond} {x y : Int32} {o : Int} (hd : decode bytes pc = .ok (.if_icmp cd o, 3)) (hq : pc + 3 = q) (hc : if_icmp.holds cd x y = false) (r : Goes p e below G (T.setTop (mkF m q L st))) : Goes p e below G (T.setTop (mkF m pc L (.int y :: .int x :: st))) := by
  obtain ⟨hx, -, -, hby, -⟩ := C
  obtain ⟨_, _, _, X, -⟩ := X
  subst hq
  exact go_st (fun t k => XS.icmpNo X.here hx rfl (hb hby hd) rfl hc k) r
theorem g_nulY (C : Cx p s m meth c Z own bytes ml rt mn) (X : St p l e R s m args below meth c n0 T h k n)  {o : Int} (hd : decode bytes pc = .ok (.ifnull o, 3)) (ho : 0 ≤ (pc : Int) + o) (hq : ((pc : Int) + o).toNat = q)  (r : Goes p e below G (T.setTop (mkF m q L st))) : Goes p e below G (T.setTop (mkF m pc L (.null :: st))) := by
  obtain ⟨hx, -, -, hby, -⟩ := C
  obtain ⟨_, _, _, X, -⟩ := X
  exact go_st (fun t k => XS.ifnullYes X.here hx rfl rfl (hb hby hd) rfl ho hq k) r
theorem g_nulN (C : Cx p s m meth c Z own bytes ml rt mn) (X : St p l e R s m args below meth c n0 T h k n) {b : Addr} {o : Int} (hd : decode bytes pc = .ok (.ifnull o, 3)) (hq : pc + 3 = q)  (r : Goes p e below G (T.setTop (mkF m q L st))) : Goes p e below G (T.setTop (mkF m pc L (.ref b :: st))) := by
  obtain ⟨hx, -, -, hby, -⟩ := C
  obtain ⟨_, _, _, X, -⟩ := X
  subst hq
  exact go_st (fun t k => XS.ifnullNo X.here hx rfl (hb hby hd) rfl k) r
theorem g_nonY (C : Cx p s m meth c Z own bytes ml rt mn) (X : St p l e R s m args below meth c n0 T h k n) {b : Addr} {o : Int} (hd : decode bytes pc = .ok (.ifnonnull o, 3)) (ho : 0 ≤ (pc : Int) + o) (hq : ((pc : Int) + o).toNat = q)  (r : Goes p e below G (T.setTop (mkF m q L st))) : Goes p e below G (T.setTop (mkF m pc L (.ref b :: st))) := by
  obtain ⟨hx, -, -, hby, -⟩ := C
  obtain ⟨_, _, _, X, -⟩ := X
  exact go_st (fun t k => XS.ifnonnullYes X.here hx rfl rfl (hb hby hd) rfl ho hq k) r
theorem g_nonN (C : Cx p s m meth c Z own bytes ml rt mn) (X : St p l e R s m args below meth c n0 T h k n)  {o : Int} (hd : decode bytes pc = .ok (.ifnonnull o, 3)) (hq : pc + 3 = q)  (r : Goes p e below G (T.setTop (mkF m q L st))) : Goes p e below G (T.setTop (mkF m pc L (.null :: st))) := by
  obtain ⟨hx, -, -, hby, -⟩ := C
  obtain ⟨_, _, _, X, -⟩ := X
  subst hq
  exact go_st (fun t k => XS.ifnonnullNo X.here hx rfl (hb hby hd) rfl k) r
theorem g_boolF (C : Cx p s m meth c Z own bytes ml rt mn) (X : St p l e R s m args below meth c n0 T h k n) {cd : ClassFile.Cond} {x : Int32} (hd : decode bytes pc = .ok (.ifCond cd 7, 3)) (hd1 : decode bytes (pc + 3) = .ok (.iconst 1, 1)) (hd2 : decode bytes (pc + 4) = .ok (.goto 4, 3)) (hd3 : decode bytes (pc + 7) = .ok (.iconst 0, 1)) (hq : pc + 8 = q) (r : ∀ b : Int32, (if_icmp.holds cd x 0 = true → b = 0) → (if_icmp.holds cd x 0 = false → b = 1) → Goes p e below G (T.setTop (mkF m q L (.int b :: st)))) : Goes p e below G (T.setTop (mkF m pc L (.int x :: st))) := by
  subst hq
  cases hc : if_icmp.holds cd x 0
  · refine g_ifN C X hd (q := pc + 3) rfl hc ?_
    refine g_iconst C X hd1 (q := pc + 4) rfl (z := 1) rfl ?_
    refine g_goto C X hd2 (by omega) (q := pc + 8) (by omega) ?_
    exact r 1 (fun z => by rw [hc] at z; cases z) (fun _ => rfl)
  · refine g_ifY C X hd (by omega) (q := pc + 7) (by omega) hc ?_
    refine g_iconst C X hd3 (q := pc + 8) rfl (z := 0) rfl ?_
    exact r 0 (fun _ => rfl) (fun z => by rw [hc] at z; cases z)
theorem g_boolC (C : Cx p s m meth c Z own bytes ml rt mn) (X : St p l e R s m args below meth c n0 T h k n) {cd : ClassFile.Cond} {x y : Int32} (hd : decode bytes pc = .ok (.if_icmp cd 7, 3)) (hd1 : decode bytes (pc + 3) = .ok (.iconst 1, 1)) (hd2 : decode bytes (pc + 4) = .ok (.goto 4, 3)) (hd3 : decode bytes (pc + 7) = .ok (.iconst 0, 1)) (hq : pc + 8 = q) (r : ∀ b : Int32, (if_icmp.holds cd x y = true → b = 0) → (if_icmp.holds cd x y = false → b = 1) → Goes p e below G (T.setTop (mkF m q L (.int b :: st)))) : Goes p e below G (T.setTop (mkF m pc L (.int y :: .int x :: st))) := by
  subst hq
  cases hc : if_icmp.holds cd x y
  · refine g_icN C X hd (q := pc + 3) rfl hc ?_
    refine g_iconst C X hd1 (q := pc + 4) rfl (z := 1) rfl ?_
    refine g_goto C X hd2 (by omega) (q := pc + 8) (by omega) ?_
    exact r 1 (fun z => by rw [hc] at z; cases z) (fun _ => rfl)
  · refine g_icY C X hd (by omega) (q := pc + 7) (by omega) hc ?_
    refine g_iconst C X hd3 (q := pc + 8) rfl (z := 0) rfl ?_
    exact r 0 (fun _ => rfl) (fun z => by rw [hc] at z; cases z)
theorem g_acmp (C : Cx p s m meth c Z own bytes ml rt mn) (X : St p l e R s m args below meth c n0 T h k n) {cd : ACond} {x y : Value} {o : Int} {same : Bool} (hd : decode bytes pc = .ok (.if_acmp cd o, 3)) (h1 : x.isRef = true) (h2 : y.isRef = true) (hs : decide (x = y) = same) (ho : 0 ≤ (pc : Int) + o) (hq : q = if acV cd same = true then ((pc : Int) + o).toNat else pc + 3) (r : Goes p e below G (T.setTop (mkF m q L st))) : Goes p e below G (T.setTop (mkF m pc L (y :: x :: st))) := by
  obtain ⟨hx, -, -, hby, -⟩ := C
  obtain ⟨_, _, _, X, -⟩ := X
  exact go_st (fun t k => Jvm.RoadKit.acmp (g := mkF m pc L (y :: x :: st)) X hx rfl h1 h2 rfl (hb hby hd) rfl hs ho hq k) r
theorem g_lsw (C : Cx p s m meth c Z own bytes ml rt mn) (X : St p l e R s m args below meth c n0 T h k n) {d o : Int} {ps : Array (Int × Int)} {i : Int32} {len : Nat} (hd : decode bytes pc = .ok (.lookupswitch d ps, len)) (hinc : (ps.toList.zip (ps.toList.drop 1)).all (fun (a, next) => a.1 < next.1) = true) (hoff : lookupswitch.offset ps.toList d i.toInt = o) (ho : 0 ≤ (pc : Int) + o) (hq : ((pc : Int) + o).toNat = q) (r : Goes p e below G (T.setTop (mkF m q L st))) : Goes p e below G (T.setTop (mkF m pc L (.int i :: st))) := by
  obtain ⟨hx, -, -, hby, -⟩ := C
  obtain ⟨_, _, _, X, -⟩ := X
  subst hq
  refine go_st (fun t k => ?_) r
  have hd' := hb hby hd
  show Steps p.tables e below (T.setTop { method := m, pc := pc, locals := L, stack := .int i :: st, locked := none }) _
  jvm_step X.here [X.here.top, hx, hd', lookupswitch.wp_chain, hoff, ho]
  refine ⟨?_, k⟩
  intro a b a1 b1 hm
  simpa using List.all_eq_true.mp hinc ((a, b), a1, b1) (by simpa using hm)
theorem g_tswI (C : Cx p s m meth c Z own bytes ml rt mn) (X : St p l e R s m args below meth c n0 T h k n) {d lo hi o : Int} {offs : Array Int} {i : Int32} {len : Nat} (hd : decode bytes pc = .ok (.tableswitch d lo hi offs, len)) (hin : ¬ (i.toInt < lo ∨ i.toInt > hi)) (hoff : offs[(i.toInt - lo).toNat]? = some o) (ho : 0 ≤ (pc : Int) + o) (hq : ((pc : Int) + o).toNat = q) (r : Goes p e below G (T.setTop (mkF m q L st))) : Goes p e below G (T.setTop (mkF m pc L (.int i :: st))) := by
  obtain ⟨hx, -, -, hby, -⟩ := C
  obtain ⟨_, _, _, X, -⟩ := X
  exact go_st (fun t k => XS.tswIn X.here hx rfl rfl (hb hby hd) rfl hin hoff ho hq k) r
theorem g_tswO (C : Cx p s m meth c Z own bytes ml rt mn) (X : St p l e R s m args below meth c n0 T h k n) {d lo hi : Int} {offs : Array Int} {i : Int32} {len : Nat} (hd : decode bytes pc = .ok (.tableswitch d lo hi offs, len)) (hin : i.toInt < lo ∨ i.toInt > hi) (ho : 0 ≤ (pc : Int) + d) (hq : ((pc : Int) + d).toNat = q) (r : Goes p e below G (T.setTop (mkF m q L st))) : Goes p e below G (T.setTop (mkF m pc L (.int i :: st))) := by
  obtain ⟨hx, -, -, hby, -⟩ := C
  obtain ⟨_, _, _, X, -⟩ := X
  exact go_st (fun t k => XS.tswOut X.here hx rfl rfl (hb hby hd) rfl hin ho hq k) r
theorem g_ldcI (C : Cx p s m meth c Z own bytes ml rt mn) (X : St p l e R s m args below meth c n0 T h k n) {i : Nat} {v : Int32} (w : (Cond.constant own i v).before a0 Z = true) (hd : decode bytes pc = .ok (.ldc i, 2)) (hq : pc + 2 = q) (r : Goes p e below G (T.setTop (mkF m q L (.int v :: st)))) : Goes p e below G (T.setTop (mkF m pc L st)) := by
  obtain ⟨hx, hZ, hown, hby, -⟩ := C
  obtain ⟨_, _, _, X, -⟩ := X
  subst hq
  exact go_st (fun t k => X.ldcInt hx hown (mvT hZ w) (g := mkF m pc L st) rfl (hb hby hd) t k) r
theorem g_ldcJ (C : Cx p s m meth c Z own bytes ml rt mn) (X : St p l e R s m args below meth c n0 T h k n) {i : Nat} {v : Int64} (w : (Cond.constantLong own i v).before a0 Z = true) (hd : decode bytes pc = .ok (.ldc2_w i, 3)) (hq : pc + 3 = q) (r : Goes p e below G (T.setTop (mkF m q L (.long v :: st)))) : Goes p e below G (T.setTop (mkF m pc L st)) := by
  obtain ⟨hx, hZ, hown, hby, -⟩ := C
  obtain ⟨_, _, _, X, -⟩ := X
  subst hq
  exact go_st (fun t k => X.ldc2Long hx hown (mvT hZ w) (g := mkF m pc L st) rfl (hb hby hd) t k) r
theorem own_end (C : Cx p s m meth c Z own bytes ml rt mn) (X : St p l e R s m args below meth c n0 T h k n) {Q : Option Value → Heap → Prop} {K N : Nat} {S : State} {v : Option Value} (hv : rt = none → v = none) (hk : k ≤ K) (hn : n ≤ N) (hQ : Q v h)
    (f : ∀ locs cells slots fs, Stand p l e R s m args below meth c T locs cells slots → (∀ (f : JFrame) (acts : List Action), f.method = m → f.locked = none → f.entered = [] → (doReturn e (T.setTop f) acts v).1 = T.setFrames fs) → Steps p.tables e below S (T.setFrames fs)) : Goes p e below (FinN Q s n0 K N) S := by
  obtain ⟨hx, -, -, hby, -, hret, hlk, -⟩ := C
  obtain ⟨locs, cells, slots, X, hF, rfl, h1, h2⟩ := X
  obtain ⟨fs, hr, hrun, hended, hW, hsame⟩ := X.leave (v := v) (fun h => hv (hret.symm.trans h)) hlk
  exact ⟨_, _, f _ _ _ fs X hr, hrun, hended, _, _, rfl, ⟨hF, hQ⟩, ⟨_, rfl⟩, hW, hsame.mono (Nat.le_trans h1 hk) (Nat.le_trans h2 hn)⟩
theorem g_retI (C : Cx p s m meth c Z own bytes ml (some .int) mn) (X : St p l e R s m args below meth c n0 T h k n) {Q : Option Value → Heap → Prop} {K N : Nat} {z : Int32} (hd : decode bytes pc = .ok (.ireturn, 1)) (hk : k ≤ K) (hn : n ≤ N) (hQ : Q (some (.int z)) h) : Goes p e below (FinN Q s n0 K N) (T.setTop (mkF m pc L (.int z :: st))) := by
  refine own_end C X (by simp) hk hn hQ fun locs cells slots fs X hr => ?_
  obtain ⟨hx, -, -, hby, -, hret, hlk, -⟩ := C
  exact retOut X hx hret rfl (Or.inl ⟨rfl, Or.inl rfl, _, rfl⟩) (hb hby hd) hr
theorem g_retN {t : FieldType} (C : Cx p s m meth c Z own bytes ml (some t) mn) (X : St p l e R s m args below meth c n0 T h k n) {Q : Option Value → Heap → Prop} {K N : Nat} {z z' : Int32} (ht : t = .boolean ∨ t = .byte ∨ t = .char ∨ t = .short) (hz : nar t z = z') (hd : decode bytes pc = .ok (.ireturn, 1)) (hk : k ≤ K) (hn : n ≤ N) (hQ : Q (some (.int z')) h) : Goes p e below (FinN Q s n0 K N) (T.setTop (mkF m pc L (.int z :: st))) := by
  subst hz
  refine own_end C X (by simp) hk hn hQ fun locs cells slots fs X hr => ?_
  obtain ⟨hx, -, -, hby, -, hret, hlk, -⟩ := C
  exact retN X hx hret ht (hb hby hd) hr
theorem g_retA {t : FieldType} (C : Cx p s m meth c Z own bytes ml (some t) mn) (X : St p l e R s m args below meth c n0 T h k n) {Q : Option Value → Heap → Prop} {K N : Nat} {v : Value} (ht : t.isReference = true) (hv : v.isRef = true) (hd : decode bytes pc = .ok (.areturn, 1)) (hk : k ≤ K) (hn : n ≤ N) (hQ : Q (some v) h) : Goes p e below (FinN Q s n0 K N) (T.setTop (mkF m pc L (v :: st))) := by
  refine own_end C X (by simp) hk hn hQ fun locs cells slots fs X hr => ?_
  obtain ⟨hx, -, -, hby, -, hret, hlk, -⟩ := C
  have hn' : narrow t v = v := by rcases ref_cases hv with rfl | ⟨b, rfl⟩ <;> cases t <;> first | rfl | (cases ht)
  exact retOut X hx hret hn' (Or.inr (Or.inr (Or.inr (Or.inr ⟨rfl, ht, hv⟩)))) (hb hby hd) hr
theorem g_retJ (C : Cx p s m meth c Z own bytes ml (some .long) mn) (X : St p l e R s m args below meth c n0 T h k n) {Q : Option Value → Heap → Prop} {K N : Nat} {z : Int64} (hd : decode bytes pc = .ok (.lreturn, 1)) (hk : k ≤ K) (hn : n ≤ N) (hQ : Q (some (.long z)) h) : Goes p e below (FinN Q s n0 K N) (T.setTop (mkF m pc L (.long z :: st))) := by
  refine own_end C X (by simp) hk hn hQ fun locs cells slots fs X hr => ?_
  obtain ⟨hx, -, -, hby, -, hret, hlk, -⟩ := C
  exact retOut X hx hret rfl (Or.inr (Or.inl ⟨rfl, rfl, _, rfl⟩)) (hb hby hd) hr
theorem g_retV (C : Cx p s m meth c Z own bytes ml none mn) (X : St p l e R s m args below meth c n0 T h k n) {Q : Option Value → Heap → Prop} {K N : Nat} (hd : decode bytes pc = .ok (.return_, 1)) (hk : k ≤ K) (hn : n ≤ N) (hQ : Q none h) : Goes p e below (FinN Q s n0 K N) (T.setTop (mkF m pc L [])) := by
  refine own_end C X (fun _ => rfl) hk hn hQ fun locs cells slots fs X hr => ?_
  obtain ⟨hx, -, -, hby, -, hret, hlk, -⟩ := C
  exact X.returnOut hx hret (hb hby hd) hr
theorem g_dloadN (C : Cx p s m meth c Z own bytes ml rt mn) (X : St p l e R s m args below meth c n0 T h k n) {j : Fin 4} {v : UInt64} (hd : decode bytes pc = .ok (.dload_n j, 1)) (hq : pc + 1 = q) (hl : L[j.val]? = some (.val (.double v))) (r : Goes p e below G (T.setTop (mkF m q L (.double v :: st)))) : Goes p e below G (T.setTop (mkF m pc L (st))) := by
  obtain ⟨hx, -, -, hby, -⟩ := C
  obtain ⟨_, _, _, X, -⟩ := X
  subst hq 
  exact go_st (fun t k => XS.dloadN X.here hx rfl (hb hby hd) hl k) r
theorem g_dload (C : Cx p s m meth c Z own bytes ml rt mn) (X : St p l e R s m args below meth c n0 T h k n) {j : Nat} {v : UInt64} (hd : decode bytes pc = .ok (.dload j, 2)) (hq : pc + 2 = q) (hl : L[j]? = some (.val (.double v))) (r : Goes p e below G (T.setTop (mkF m q L (.double v :: st)))) : Goes p e below G (T.setTop (mkF m pc L (st))) := by
  obtain ⟨hx, -, -, hby, -⟩ := C
  obtain ⟨_, _, _, X, -⟩ := X
  subst hq 
  exact go_st (fun t k => XS.dload X.here hx rfl (hb hby hd) hl k) r
theorem g_dstoreN (C : Cx p s m meth c Z own bytes ml rt mn) (X : St p l e R s m args below meth c n0 T h k n) {j : Fin 4} {x : UInt64} {L' : Array Slot} (hd : decode bytes pc = .ok (.dstore_n j, 1)) (hq : pc + 1 = q) (hl : storeLocals L j.val (.double x) = some L') (r : Goes p e below G (T.setTop (mkF m q L' (st)))) : Goes p e below G (T.setTop (mkF m pc L (.double x :: st))) := by
  obtain ⟨hx, -, -, hby, -⟩ := C
  obtain ⟨_, _, _, X, -⟩ := X
  subst hq 
  exact go_st (fun t k => XS.dstoreN X.here hx rfl (hb hby hd) rfl hl k) r
theorem g_dstore (C : Cx p s m meth c Z own bytes ml rt mn) (X : St p l e R s m args below meth c n0 T h k n) {j : Nat} {x : UInt64} {L' : Array Slot} (hd : decode bytes pc = .ok (.dstore j, 2)) (hq : pc + 2 = q) (hl : storeLocals L j (.double x) = some L') (r : Goes p e below G (T.setTop (mkF m q L' (st)))) : Goes p e below G (T.setTop (mkF m pc L (.double x :: st))) := by
  obtain ⟨hx, -, -, hby, -⟩ := C
  obtain ⟨_, _, _, X, -⟩ := X
  subst hq 
  exact go_st (fun t k => XS.dstore X.here hx rfl (hb hby hd) rfl hl k) r
theorem g_i2d (C : Cx p s m meth c Z own bytes ml rt mn) (X : St p l e R s m args below meth c n0 T h k n) {x : Int32} {z : UInt64} (hd : decode bytes pc = .ok (.i2d, 1)) (hq : pc + 1 = q) (hz : FP.i2d x = z) (r : Goes p e below G (T.setTop (mkF m q L (.double z :: st)))) : Goes p e below G (T.setTop (mkF m pc L (.int x :: st))) := by
  obtain ⟨hx, -, -, hby, -⟩ := C
  obtain ⟨_, _, _, X, -⟩ := X
  subst hq 
  exact go_st (fun t k => XS.i2dS X.here hx rfl (hb hby hd) rfl hz k) r
theorem g_dcmp (C : Cx p s m meth c Z own bytes ml rt mn) (X : St p l e R s m args below meth c n0 T h k n) {o : CmpOp} {x y : UInt64} {z : Int32} (hd : decode bytes pc = .ok (.dcmp o, 1)) (hq : pc + 1 = q) (hz : cmpValue (FP.dcmp x y) o = z) (r : Goes p e below G (T.setTop (mkF m q L (.int z :: st)))) : Goes p e below G (T.setTop (mkF m pc L (.double y :: .double x :: st))) := by
  obtain ⟨hx, -, -, hby, -⟩ := C
  obtain ⟨_, _, _, X, -⟩ := X
  subst hq 
  exact go_st (fun t k => XS.dcmpS X.here hx rfl (hb hby hd) rfl hz k) r
theorem g_pop2 (C : Cx p s m meth c Z own bytes ml rt mn) (X : St p l e R s m args below meth c n0 T h k n) {x : Value} (hd : decode bytes pc = .ok (.pop2, 1)) (hq : pc + 1 = q) (hc : x.category = 2) (r : Goes p e below G (T.setTop (mkF m q L st))) : Goes p e below G (T.setTop (mkF m pc L (x :: st))) := by
  obtain ⟨hx, -, -, hby, -⟩ := C
  obtain ⟨_, _, _, X, -⟩ := X
  subst hq
  refine go_st (fun t k => ?_) r
  have hd' := hb hby hd
  show Steps p.tables e below (T.setTop { method := m, pc := pc, locals := L, stack := x :: st, locked := none }) _
  jvm_step X.here [X.here.top, hx, hd', hc]
  exact k
theorem g_dconst0 (C : Cx p s m meth c Z own bytes ml rt mn) (X : St p l e R s m args below meth c n0 T h k n) {z : UInt64} (hd : decode bytes pc = .ok (.dconst 0, 1)) (hq : pc + 1 = q) (hz : FP.dconst0 = z) (r : Goes p e below G (T.setTop (mkF m q L (.double z :: st)))) : Goes p e below G (T.setTop (mkF m pc L (st))) := by
  obtain ⟨hx, -, -, hby, -⟩ := C
  obtain ⟨_, _, _, X, -⟩ := X
  subst hq 
  exact go_st (fun t k => XS.dconst0 X.here hx rfl (hb hby hd) hz k) r
theorem g_dconst1 (C : Cx p s m meth c Z own bytes ml rt mn) (X : St p l e R s m args below meth c n0 T h k n) {z : UInt64} (hd : decode bytes pc = .ok (.dconst 1, 1)) (hq : pc + 1 = q) (hz : FP.dconst1 = z) (r : Goes p e below G (T.setTop (mkF m q L (.double z :: st)))) : Goes p e below G (T.setTop (mkF m pc L (st))) := by
  obtain ⟨hx, -, -, hby, -⟩ := C
  obtain ⟨_, _, _, X, -⟩ := X
  subst hq 
  exact go_st (fun t k => XS.dconst1 X.here hx rfl (hb hby hd) hz k) r
theorem g_retD (C : Cx p s m meth c Z own bytes ml (some .double) mn) (X : St p l e R s m args below meth c n0 T h k n) {Q : Option Value → Heap → Prop} {K N : Nat} {z : UInt64} (hd : decode bytes pc = .ok (.dreturn, 1)) (hk : k ≤ K) (hn : n ≤ N) (hQ : Q (some (.double z)) h) : Goes p e below (FinN Q s n0 K N) (T.setTop (mkF m pc L (.double z :: st))) := by
  refine own_end C X (by simp) hk hn hQ fun locs cells slots fs X hr => ?_
  obtain ⟨hx, -, -, hby, -, hret, hlk, -⟩ := C
  exact retOut X hx hret rfl (Or.inr (Or.inr (Or.inl ⟨rfl, rfl, _, rfl⟩))) (hb hby hd) hr
theorem g_getS (C : Cx p s m meth c Z own bytes ml rt mn) (X : St p l e R s m args below meth c n0 T h k n) {R0 O f d host : String} {i : Nat} {v : Value} (w : (Cond.fieldLink own i R0 f d).before a0 Z = true ∨ (Cond.fieldLinkNest own i R0 f d host).before a0 Z = true) (via : Via Z R0 O f d) (F : Sta Z h O f d v) (hd : decode bytes pc = .ok (.getstatic i, 3)) (hq : pc + 3 = q) (r : ∀ T', St p l e R s m args below meth c n0 T' h k n → Goes p e below G (T'.setTop (mkF m q L (v :: st)))) : Goes p e below G (T.setTop (mkF m pc L st)) := by
  obtain ⟨hx, hZ, hown, hby, -⟩ := C
  obtain ⟨_, _, _, X, hF, eT, h1, h2⟩ := X
  subst hq
  obtain ⟨T', X', e', st'⟩ := getS2 X hx hZ hown w via eT F (g := mkF m pc L st) rfl (hb hby hd)
  exact go_st st' (r T' ⟨_, _, _, X', hF, e', h1, h2⟩)
theorem g_getF (C : Cx p s m meth c Z own bytes ml rt mn) (X : St p l e R s m args below meth c n0 T h k n) {R0 O f d host : String} {i : Nat} {a : Addr} {v : Value} (w : (Cond.fieldLink own i R0 f d).before a0 Z = true ∨ (Cond.fieldLinkNest own i R0 f d host).before a0 Z = true) (via : Via Z R0 O f d) (F : Fld Z h a O f d v) (hd : decode bytes pc = .ok (.getfield i, 3)) (hq : pc + 3 = q) (r : ∀ T', St p l e R s m args below meth c n0 T' h k n → Goes p e below G (T'.setTop (mkF m q L (v :: st)))) : Goes p e below G (T.setTop (mkF m pc L (.ref a :: st))) := by
  obtain ⟨hx, hZ, hown, hby, -⟩ := C
  obtain ⟨_, _, _, X, hF, eT, h1, h2⟩ := X
  subst hq
  obtain ⟨T', X', e', st'⟩ := getF X hx hZ hown w via eT F (g := mkF m pc L (.ref a :: st)) rfl rfl (hb hby hd)
  exact go_st st' (r T' ⟨_, _, _, X', hF, e', h1, h2⟩)
theorem g_putF (C : Cx p s m meth c Z own bytes ml rt mn) (X : St p l e R s m args below meth c n0 T h k n) {R0 O f d host K : String} {i kk : Nat} {ty : FieldType} {a : Addr} {v old : Value} (w : (Cond.fieldLink own i R0 f d).before a0 Z = true ∨ (Cond.fieldLinkNest own i R0 f d host).before a0 Z = true) (via : Via Z R0 O f d) (F : Fld Z h a O f d old) (E : Exa Z h a K) (Ly : (Cond.lays K O f d).before a0 Z = true ∨ ((Cond.laysFinal K O f d).before a0 Z = true ∧ own = O ∧ mn = "<init>")) (wi : (Cond.instantiable K kk).before a0 Z = true)
    (hty : parseFieldDescriptor d = some ty) (hnn : narrow ty v = v) (hff : fits ty v = true) (hd : decode bytes pc = .ok (.putfield i, 3)) (hq : pc + 3 = q) (ha : n0 ≤ a) (r : ∀ T' h', St p l e R s m args below meth c n0 T' h' k n → Wr h h' a (Jvm.RoadKit.slotOf Z O f d) v → Goes p e below G (T'.setTop (mkF m q L st))) : Goes p e below G (T.setTop (mkF m pc L (v :: .ref a :: st))) := by
  obtain ⟨hx, hZ, hown, hby, -, -, -, hnm⟩ := C
  obtain ⟨_, _, _, X, hF, eT, h1, h2⟩ := X
  subst hq
  obtain ⟨T', h', X', e', W', st'⟩ := putF X hx hZ hown w via eT F E (Ly.imp id fun z => ⟨z.1, z.2.1, hnm.trans z.2.2⟩) wi hty hnn hff (g := mkF m pc L (v :: .ref a :: st)) rfl rfl (hb hby hd)
  exact go_st st' (r T' h' ⟨_, _, _, X', Fr.snoc X' hF ha, e', h1, h2⟩ W')
theorem g_putFN (C : Cx p s m meth c Z own bytes ml rt mn) (X : St p l e R s m args below meth c n0 T h k n) {R0 O f d K : String} {i kk : Nat} {ty : FieldType} {a : Addr} {v v' old : Value} (w : (Cond.fieldLink own i R0 f d).before a0 Z = true) (via : Via Z R0 O f d) (F : Fld Z h a O f d old) (E : Exa Z h a K) (Ly : (Cond.lays K O f d).before a0 Z = true ∨ ((Cond.laysFinal K O f d).before a0 Z = true ∧ own = O ∧ mn = "<init>")) (wi : (Cond.instantiable K kk).before a0 Z = true)
    (hty : parseFieldDescriptor d = some ty) (hnn : narrow ty v = v') (hff : fits ty v' = true) (hd : decode bytes pc = .ok (.putfield i, 3)) (hq : pc + 3 = q) (ha : n0 ≤ a) (r : ∀ T' h', St p l e R s m args below meth c n0 T' h' k n → Wr h h' a (Jvm.RoadKit.slotOf Z O f d) v' → Goes p e below G (T'.setTop (mkF m q L st))) : Goes p e below G (T.setTop (mkF m pc L (v :: .ref a :: st))) := by
  obtain ⟨hx, hZ, hown, hby, -, -, -, hnm⟩ := C
  obtain ⟨_, _, _, X, hF, eT, h1, h2⟩ := X
  subst hq
  obtain ⟨T', h', X', e', W', st'⟩ := putFN X hx hZ hown w via eT F E (Ly.imp id fun z => ⟨z.1, z.2.1, hnm.trans z.2.2⟩) wi hty hnn hff (g := mkF m pc L (v :: .ref a :: st)) rfl rfl (hb hby hd)
  exact go_st st' (r T' h' ⟨_, _, _, X', Fr.snoc X' hF ha, e', h1, h2⟩ W')
theorem g_new (C : Cx p s m meth c Z own bytes ml rt mn) (X : St p l e R s m args below meth c n0 T h k n) {K : String} {i z k' n' : Nat} (w : (Cond.classLink own i K).before a0 Z = true) (wi : (Cond.instantiable K z).before a0 Z = true) (wz : (Cond.initialized K).before a0 Z = true) (hd : decode bytes pc = .ok (.new i, 3)) (hq : pc + 3 = q) (hk : k + 1 = k') (hn : n + z = n') (hkR : k' ≤ R.cells) (hnR : n' ≤ R.slots)
    (r : ∀ T' h' a, a = h.size → St p l e R s m args below meth c n0 T' h' k' n' → Ext h h' → Exa Z h' a K → (∀ {O nm d : String} {ty : FieldType}, Laid Z a0 K O nm d → parseFieldDescriptor d = some ty → Fld Z h' a O nm d (defaultValue ty)) → Goes p e below G (T'.setTop (mkF m q L (.ref a :: st)))) : Goes p e below G (T.setTop (mkF m pc L st)) := by
  obtain ⟨hx, hZ, hown, hby, -⟩ := C
  obtain ⟨_, _, _, X, hF, eT, h1, h2⟩ := X
  subst hq hk hn
  obtain ⟨T', h', X', e', E', A', D', -, st'⟩ := newO X hx hZ hown w wi wz eT (g := mkF m pc L st) rfl (hb hby hd) (Nat.le_trans (Nat.add_le_add_right h1 1) hkR) (Nat.le_trans (Nat.add_le_add_right h2 z) hnR)
  exact go_st st' (r T' h' _ rfl ⟨_, _, _, X', hF, e', Nat.add_le_add_right h1 1, Nat.add_le_add_right h2 z⟩ E' A' D')
theorem g_newP (C : Cx p s m meth c Z own bytes ml rt mn) (X : St p l e R s m args below meth c n0 T h k n) {aty : ArrayType} {ty : FieldType} {z : Int32} {cap k' n' : Nat} (w : (Cond.arrayClass ty).before a0 Z = true) (hty : newarray.typeOf aty = ty) (hd : decode bytes pc = .ok (.newarray aty, 2)) (hq : pc + 2 = q) (hz : ¬ z < 0) (hcap : z.toNatClampNeg ≤ cap) (hcb : cap * 8 ≤ 536870912) (hk : k + 1 = k') (hn : n + cap = n') (hkR : k' ≤ R.cells) (hnR : n' ≤ R.slots)
    (r : ∀ T' h' cA a, a = h.size → St p l e R s m args below meth c n0 T' h' k' n' → Ext h h' → Arv Z h' a cA ty z [] (defaultValue ty) → Goes p e below G (T'.setTop (mkF m q L (.ref a :: st)))) : Goes p e below G (T.setTop (mkF m pc L (.int z :: st))) := by
  obtain ⟨hx, hZ, hown, hby, -⟩ := C
  obtain ⟨_, _, _, X, hF, eT, h1, h2⟩ := X
  subst hq hk hn hty
  obtain ⟨T', h', cA, X', e', E', A', st'⟩ := newP X hx hZ w eT (g := mkF m pc L (.int z :: st)) rfl (hb hby hd) rfl hz (cap := cap) hcap hcb (Nat.le_trans (Nat.add_le_add_right h1 1) hkR) (Nat.le_trans (Nat.add_le_add_right h2 cap) hnR)
  exact go_st st' (r T' h' cA _ rfl ⟨_, _, _, X', hF, e', Nat.add_le_add_right h1 1, Nat.add_le_add_right h2 cap⟩ E' (Arv.new A' hz))
theorem g_initO (C : Cx p s m meth c Z own bytes ml rt mn) (X : St p l e R s m args below meth c n0 T h k n) {i : Nat} {a : Addr} (w1 : (Cond.methodLink own i Lib.objectInit).before a0 Z = true) (w2 : (Cond.instanceMethod Lib.objectInit).before a0 Z = true) (w3 : (Cond.code Lib.objectInit ⟨#[0xb1]⟩ 1 none).before a0 Z = true) (hsz : L.size = ml) (hd : decode bytes pc = .ok (.invokespecial i, 3)) (hq : pc + 3 = q) (hf : 1 ≤ R.frames) (hW : (st.map fun v => v.category).sum + 12 ≤ R.locals)
    (r : ∀ T', St p l e R s m args below meth c n0 T' h k n → Goes p e below G (T'.setTop (mkF m q L st))) : Goes p e below G (T.setTop (mkF m pc L (.ref a :: st))) := by
  obtain ⟨hx, hZ, hown, hby, hml, -⟩ := C
  obtain ⟨_, _, _, X, hF, eT, h1, h2⟩ := X
  subst hq
  obtain ⟨T', X', e', st'⟩ := initO X hx hZ hown w1 w2 w3 eT (g := mkF m pc L (.ref a :: st)) rfl (hsz.trans hml.symm) rfl (hb hby hd) hf (W := (st.map fun v => v.category).sum) (by show 2 * 0 + _ ≤ _; omega) hW
  exact go_st st' (r T' ⟨_, _, _, X', hF, e', h1, h2⟩)
theorem g_iastore (C : Cx p s m meth c Z own bytes ml rt mn) (X : St p l e R s m args below meth c n0 T h k n) {a : Addr} {cA : ClassId} {z j : Int32} {vs vs' : List Value} {dv : Value} {i : Nat} {v : Int32} (V : Arv Z h a cA .int z vs dv) (hj : ¬ j < 0 ∧ j < z) (hi : j.toNatClampNeg = i) (hlt : i < vs.length) (hvs : vs.set i (.int v) = vs') (ha : n0 ≤ a) (hd : decode bytes pc = .ok (.iastore, 1)) (hq : pc + 1 = q)
    (r : ∀ T' h', St p l e R s m args below meth c n0 T' h' k n → Wr h h' a i (.int v) → Arv Z h' a cA .int z vs' dv → Goes p e below G (T'.setTop (mkF m q L st))) : Goes p e below G (T.setTop (mkF m pc L (.int v :: .int j :: .ref a :: st))) := by
  obtain ⟨hx, hZ, hown, hby, -⟩ := C
  obtain ⟨_, _, _, X, hF, eT, h1, h2⟩ := X
  subst hq hi hvs
  obtain ⟨cl, A, q1, Sz, q3, H, Gf⟩ := V
  obtain ⟨T', h', X', e', W', st'⟩ := stI X hx hZ eT A (j := j) (inb_of Sz hj) (g := mkF m pc L (.int v :: .int j :: .ref a :: st)) rfl rfl (hb hby hd)
  exact go_st st' (r T' h' ⟨_, _, _, X', Fr.snoc X' hF ha, e', h1, h2⟩ W' (Arv.set A q1 Sz q3 H Gf rfl W' _ rfl hlt))
theorem g_castore (C : Cx p s m meth c Z own bytes ml rt mn) (X : St p l e R s m args below meth c n0 T h k n) {a : Addr} {cA : ClassId} {z j : Int32} {vs vs' : List Value} {dv : Value} {i : Nat} {v : Int32} (V : Arv Z h a cA .char z vs dv) (hj : ¬ j < 0 ∧ j < z) (hi : j.toNatClampNeg = i) (hlt : i < vs.length) (hvs : vs.set i (.int (nar .char v)) = vs') (ha : n0 ≤ a) (hd : decode bytes pc = .ok (.castore, 1)) (hq : pc + 1 = q)
    (r : ∀ T' h', St p l e R s m args below meth c n0 T' h' k n → Wr h h' a i (.int (nar .char v)) → Arv Z h' a cA .char z vs' dv → Goes p e below G (T'.setTop (mkF m q L st))) : Goes p e below G (T.setTop (mkF m pc L (.int v :: .int j :: .ref a :: st))) := by
  obtain ⟨hx, hZ, hown, hby, -⟩ := C
  obtain ⟨_, _, _, X, hF, eT, h1, h2⟩ := X
  subst hq hi hvs
  obtain ⟨cl, A, q1, Sz, q3, H, Gf⟩ := V
  obtain ⟨T', h', X', e', W', st'⟩ := stC X hx hZ eT A (j := j) (inb_of Sz hj) (g := mkF m pc L (.int v :: .int j :: .ref a :: st)) rfl rfl (hb hby hd)
  exact go_st st' (r T' h' ⟨_, _, _, X', Fr.snoc X' hF ha, e', h1, h2⟩ W' (Arv.set A q1 Sz q3 H Gf (fits_nar_char _) W' _ rfl hlt))
theorem g_bastore (C : Cx p s m meth c Z own bytes ml rt mn) (X : St p l e R s m args below meth c n0 T h k n) {a : Addr} {cA : ClassId} {z j : Int32} {vs vs' : List Value} {dv : Value} {i : Nat} {v : Int32} (V : Arv Z h a cA .byte z vs dv) (hj : ¬ j < 0 ∧ j < z) (hi : j.toNatClampNeg = i) (hlt : i < vs.length) (hvs : vs.set i (.int (nar .byte v)) = vs') (ha : n0 ≤ a) (hd : decode bytes pc = .ok (.bastore, 1)) (hq : pc + 1 = q)
    (r : ∀ T' h', St p l e R s m args below meth c n0 T' h' k n → Wr h h' a i (.int (nar .byte v)) → Arv Z h' a cA .byte z vs' dv → Goes p e below G (T'.setTop (mkF m q L st))) : Goes p e below G (T.setTop (mkF m pc L (.int v :: .int j :: .ref a :: st))) := by
  obtain ⟨hx, hZ, hown, hby, -⟩ := C
  obtain ⟨_, _, _, X, hF, eT, h1, h2⟩ := X
  subst hq hi hvs
  obtain ⟨cl, A, q1, Sz, q3, H, Gf⟩ := V
  obtain ⟨T', h', X', e', W', st'⟩ := stB X hx hZ eT A (j := j) (inb_of Sz hj) (g := mkF m pc L (.int v :: .int j :: .ref a :: st)) rfl rfl (hb hby hd)
  exact go_st st' (r T' h' ⟨_, _, _, X', Fr.snoc X' hF ha, e', h1, h2⟩ W' (Arv.set A q1 Sz q3 H Gf (fits_nar_byte _) W' _ rfl hlt))
theorem g_zastore (C : Cx p s m meth c Z own bytes ml rt mn) (X : St p l e R s m args below meth c n0 T h k n) {a : Addr} {cA : ClassId} {z j : Int32} {vs vs' : List Value} {dv : Value} {i : Nat} {v : Int32} (V : Arv Z h a cA .boolean z vs dv) (hj : ¬ j < 0 ∧ j < z) (hi : j.toNatClampNeg = i) (hlt : i < vs.length) (hvs : vs.set i (.int (nar .boolean v)) = vs') (ha : n0 ≤ a) (hd : decode bytes pc = .ok (.bastore, 1)) (hq : pc + 1 = q)
    (r : ∀ T' h', St p l e R s m args below meth c n0 T' h' k n → Wr h h' a i (.int (nar .boolean v)) → Arv Z h' a cA .boolean z vs' dv → Goes p e below G (T'.setTop (mkF m q L st))) : Goes p e below G (T.setTop (mkF m pc L (.int v :: .int j :: .ref a :: st))) := by
  obtain ⟨hx, hZ, hown, hby, -⟩ := C
  obtain ⟨_, _, _, X, hF, eT, h1, h2⟩ := X
  subst hq hi hvs
  obtain ⟨cl, A, q1, Sz, q3, H, Gf⟩ := V
  obtain ⟨T', h', X', e', W', st'⟩ := stZ X hx hZ eT A (j := j) (inb_of Sz hj) (g := mkF m pc L (.int v :: .int j :: .ref a :: st)) rfl rfl (hb hby hd)
  exact go_st st' (r T' h' ⟨_, _, _, X', Fr.snoc X' hF ha, e', h1, h2⟩ W' (Arv.set A q1 Sz q3 H Gf (fits_nar_bool _) W' _ rfl hlt))
theorem g_lastore (C : Cx p s m meth c Z own bytes ml rt mn) (X : St p l e R s m args below meth c n0 T h k n) {a : Addr} {cA : ClassId} {z j : Int32} {vs vs' : List Value} {dv : Value} {i : Nat} {v : Int64} (V : Arv Z h a cA .long z vs dv) (hj : ¬ j < 0 ∧ j < z) (hi : j.toNatClampNeg = i) (hlt : i < vs.length) (hvs : vs.set i (.long v) = vs') (ha : n0 ≤ a) (hd : decode bytes pc = .ok (.lastore, 1)) (hq : pc + 1 = q)
    (r : ∀ T' h', St p l e R s m args below meth c n0 T' h' k n → Wr h h' a i (.long v) → Arv Z h' a cA .long z vs' dv → Goes p e below G (T'.setTop (mkF m q L st))) : Goes p e below G (T.setTop (mkF m pc L (.long v :: .int j :: .ref a :: st))) := by
  obtain ⟨hx, hZ, hown, hby, -⟩ := C
  obtain ⟨_, _, _, X, hF, eT, h1, h2⟩ := X
  subst hq hi hvs
  obtain ⟨cl, A, q1, Sz, q3, H, Gf⟩ := V
  obtain ⟨T', h', X', e', W', st'⟩ := stJ X hx hZ eT A (j := j) (inb_of Sz hj) (g := mkF m pc L (.long v :: .int j :: .ref a :: st)) rfl rfl (hb hby hd)
  exact go_st st' (r T' h' ⟨_, _, _, X', Fr.snoc X' hF ha, e', h1, h2⟩ W' (Arv.set A q1 Sz q3 H Gf rfl W' _ rfl hlt))
theorem g_dastore (C : Cx p s m meth c Z own bytes ml rt mn) (X : St p l e R s m args below meth c n0 T h k n) {a : Addr} {cA : ClassId} {z j : Int32} {vs vs' : List Value} {dv : Value} {i : Nat} {v : UInt64} (V : Arv Z h a cA .double z vs dv) (hj : ¬ j < 0 ∧ j < z) (hi : j.toNatClampNeg = i) (hlt : i < vs.length) (hvs : vs.set i (.double v) = vs') (ha : n0 ≤ a) (hd : decode bytes pc = .ok (.dastore, 1)) (hq : pc + 1 = q)
    (r : ∀ T' h', St p l e R s m args below meth c n0 T' h' k n → Wr h h' a i (.double v) → Arv Z h' a cA .double z vs' dv → Goes p e below G (T'.setTop (mkF m q L st))) : Goes p e below G (T.setTop (mkF m pc L (.double v :: .int j :: .ref a :: st))) := by
  obtain ⟨hx, hZ, hown, hby, -⟩ := C
  obtain ⟨_, _, _, X, hF, eT, h1, h2⟩ := X
  subst hq hi hvs
  obtain ⟨cl, A, q1, Sz, q3, H, Gf⟩ := V
  obtain ⟨T', h', X', e', W', st'⟩ := stD X hx hZ eT A (j := j) (inb_of Sz hj) (g := mkF m pc L (.double v :: .int j :: .ref a :: st)) rfl rfl (hb hby hd)
  exact go_st st' (r T' h' ⟨_, _, _, X', Fr.snoc X' hF ha, e', h1, h2⟩ W' (Arv.set A q1 Sz q3 H Gf rfl W' _ rfl hlt))
theorem g_aastore (C : Cx p s m meth c Z own bytes ml rt mn) (X : St p l e R s m args below meth c n0 T h k n) {a : Addr} {cA : ClassId} {z j : Int32} {vs vs' : List Value} {dv v : Value} {ty : FieldType} {i : Nat} (V : Arv Z h a cA ty z vs dv) (hty : ty.isReference = true) (F : Sto Z h a v) (hfv : fits ty v = true) (hj : ¬ j < 0 ∧ j < z) (hi : j.toNatClampNeg = i) (hlt : i < vs.length) (hvs : vs.set i v = vs') (ha : n0 ≤ a) (hd : decode bytes pc = .ok (.aastore, 1)) (hq : pc + 1 = q)
    (r : ∀ T' h', St p l e R s m args below meth c n0 T' h' k n → Wr h h' a i v → Arv Z h' a cA ty z vs' dv → Goes p e below G (T'.setTop (mkF m q L st))) : Goes p e below G (T.setTop (mkF m pc L (v :: .int j :: .ref a :: st))) := by
  obtain ⟨hx, hZ, hown, hby, -⟩ := C
  obtain ⟨_, _, _, X, hF, eT, h1, h2⟩ := X
  subst hq hi hvs
  obtain ⟨cl, A, q1, Sz, q3, H, Gf⟩ := V
  obtain ⟨T', h', X', e', W', st'⟩ := stR X hx hZ eT A (j := j) (inb_of Sz hj) hty F (g := mkF m pc L (v :: .int j :: .ref a :: st)) rfl rfl (hb hby hd)
  exact go_st st' (r T' h' ⟨_, _, _, X', Fr.snoc X' hF ha, e', h1, h2⟩ W' (Arv.set A q1 Sz q3 H Gf hfv W' _ rfl hlt))
theorem g_iaload (C : Cx p s m meth c Z own bytes ml rt mn) (X : St p l e R s m args below meth c n0 T h k n) {a : Addr} {cA : ClassId} {z j : Int32} {vs : List Value} {dv w : Value}  (V : Arv Z h a cA .int z vs dv) (hj : ¬ j < 0 ∧ j < z) (hv : vs.getD j.toNatClampNeg dv = w) (hd : decode bytes pc = .ok (.iaload, 1)) (hq : pc + 1 = q) (r : Goes p e below G (T.setTop (mkF m q L (w :: st)))) : Goes p e below G (T.setTop (mkF m pc L (.int j :: .ref a :: st))) := by
  obtain ⟨hx, hZ, hown, hby, -⟩ := C
  obtain ⟨_, _, _, X, hF, eT, h1, h2⟩ := X
  subst hq
  obtain ⟨cl, A, q1, Sz, q3, H, Gf⟩ := V
  exact go_st (fun t k => X.iaload hx (j := j) (v := w) (by rw [eT]; exact A.1) (State.isArrayOf_alike hZ.alike A.2.1) A.2.2 (inb_of Sz hj) (H.at (inb_of Sz hj) hv) (g := mkF m pc L (.int j :: .ref a :: st)) rfl rfl (hb hby hd) t k) r
theorem g_caload (C : Cx p s m meth c Z own bytes ml rt mn) (X : St p l e R s m args below meth c n0 T h k n) {a : Addr} {cA : ClassId} {z j : Int32} {vs : List Value} {dv w : Value}  (V : Arv Z h a cA .char z vs dv) (hj : ¬ j < 0 ∧ j < z) (hv : vs.getD j.toNatClampNeg dv = w) (hd : decode bytes pc = .ok (.caload, 1)) (hq : pc + 1 = q) (r : Goes p e below G (T.setTop (mkF m q L (w :: st)))) : Goes p e below G (T.setTop (mkF m pc L (.int j :: .ref a :: st))) := by
  obtain ⟨hx, hZ, hown, hby, -⟩ := C
  obtain ⟨_, _, _, X, hF, eT, h1, h2⟩ := X
  subst hq
  obtain ⟨cl, A, q1, Sz, q3, H, Gf⟩ := V
  exact go_st (fun t k => X.caload hx (j := j) (v := w) (by rw [eT]; exact A.1) (State.isArrayOf_alike hZ.alike A.2.1) A.2.2 (inb_of Sz hj) (H.at (inb_of Sz hj) hv) (g := mkF m pc L (.int j :: .ref a :: st)) rfl rfl (hb hby hd) t k) r
theorem g_baload (C : Cx p s m meth c Z own bytes ml rt mn) (X : St p l e R s m args below meth c n0 T h k n) {a : Addr} {cA : ClassId} {z j : Int32} {vs : List Value} {dv w : Value}  (V : Arv Z h a cA .byte z vs dv) (hj : ¬ j < 0 ∧ j < z) (hv : vs.getD j.toNatClampNeg dv = w) (hd : decode bytes pc = .ok (.baload, 1)) (hq : pc + 1 = q) (r : Goes p e below G (T.setTop (mkF m q L (w :: st)))) : Goes p e below G (T.setTop (mkF m pc L (.int j :: .ref a :: st))) := by
  obtain ⟨hx, hZ, hown, hby, -⟩ := C
  obtain ⟨_, _, _, X, hF, eT, h1, h2⟩ := X
  subst hq
  obtain ⟨cl, A, q1, Sz, q3, H, Gf⟩ := V
  exact go_st (fun t k => X.baloadBytes hx (j := j) (v := w) (by rw [eT]; exact A.1) (State.isArrayOf_alike hZ.alike A.2.1) A.2.2 (inb_of Sz hj) (H.at (inb_of Sz hj) hv) (g := mkF m pc L (.int j :: .ref a :: st)) rfl rfl (hb hby hd) t k) r
theorem g_zaload (C : Cx p s m meth c Z own bytes ml rt mn) (X : St p l e R s m args below meth c n0 T h k n) {a : Addr} {cA : ClassId} {z j : Int32} {vs : List Value} {dv w : Value}  (V : Arv Z h a cA .boolean z vs dv) (hj : ¬ j < 0 ∧ j < z) (hv : vs.getD j.toNatClampNeg dv = w) (hd : decode bytes pc = .ok (.baload, 1)) (hq : pc + 1 = q) (r : Goes p e below G (T.setTop (mkF m q L (w :: st)))) : Goes p e below G (T.setTop (mkF m pc L (.int j :: .ref a :: st))) := by
  obtain ⟨hx, hZ, hown, hby, -⟩ := C
  obtain ⟨_, _, _, X, hF, eT, h1, h2⟩ := X
  subst hq
  obtain ⟨cl, A, q1, Sz, q3, H, Gf⟩ := V
  exact go_st (fun t k => X.baloadBooleans hx (j := j) (v := w) (by rw [eT]; exact A.1) (State.isArrayOf_alike hZ.alike A.2.1) A.2.2 (inb_of Sz hj) (H.at (inb_of Sz hj) hv) (g := mkF m pc L (.int j :: .ref a :: st)) rfl rfl (hb hby hd) t k) r
theorem g_laload (C : Cx p s m meth c Z own bytes ml rt mn) (X : St p l e R s m args below meth c n0 T h k n) {a : Addr} {cA : ClassId} {z j : Int32} {vs : List Value} {dv w : Value}  (V : Arv Z h a cA .long z vs dv) (hj : ¬ j < 0 ∧ j < z) (hv : vs.getD j.toNatClampNeg dv = w) (hd : decode bytes pc = .ok (.laload, 1)) (hq : pc + 1 = q) (r : Goes p e below G (T.setTop (mkF m q L (w :: st)))) : Goes p e below G (T.setTop (mkF m pc L (.int j :: .ref a :: st))) := by
  obtain ⟨hx, hZ, hown, hby, -⟩ := C
  obtain ⟨_, _, _, X, hF, eT, h1, h2⟩ := X
  subst hq
  obtain ⟨cl, A, q1, Sz, q3, H, Gf⟩ := V
  exact go_st (fun t k => X.laload hx (j := j) (v := w) (by rw [eT]; exact A.1) (State.isArrayOf_alike hZ.alike A.2.1) A.2.2 (inb_of Sz hj) (H.at (inb_of Sz hj) hv) (g := mkF m pc L (.int j :: .ref a :: st)) rfl rfl (hb hby hd) t k) r
theorem g_daload (C : Cx p s m meth c Z own bytes ml rt mn) (X : St p l e R s m args below meth c n0 T h k n) {a : Addr} {cA : ClassId} {z j : Int32} {vs : List Value} {dv w : Value}  (V : Arv Z h a cA .double z vs dv) (hj : ¬ j < 0 ∧ j < z) (hv : vs.getD j.toNatClampNeg dv = w) (hd : decode bytes pc = .ok (.daload, 1)) (hq : pc + 1 = q) (r : Goes p e below G (T.setTop (mkF m q L (w :: st)))) : Goes p e below G (T.setTop (mkF m pc L (.int j :: .ref a :: st))) := by
  obtain ⟨hx, hZ, hown, hby, -⟩ := C
  obtain ⟨_, _, _, X, hF, eT, h1, h2⟩ := X
  subst hq
  obtain ⟨cl, A, q1, Sz, q3, H, Gf⟩ := V
  exact go_st (fun t k => X.daload hx (j := j) (v := w) (by rw [eT]; exact A.1) (State.isArrayOf_alike hZ.alike A.2.1) A.2.2 (inb_of Sz hj) (H.at (inb_of Sz hj) hv) (g := mkF m pc L (.int j :: .ref a :: st)) rfl rfl (hb hby hd) t k) r
theorem g_aaload (C : Cx p s m meth c Z own bytes ml rt mn) (X : St p l e R s m args below meth c n0 T h k n) {a : Addr} {cA : ClassId} {z j : Int32} {vs : List Value} {dv w : Value} {ty : FieldType} (hty : ty.isReference = true) (V : Arv Z h a cA ty z vs dv) (hj : ¬ j < 0 ∧ j < z) (hv : vs.getD j.toNatClampNeg dv = w) (hd : decode bytes pc = .ok (.aaload, 1)) (hq : pc + 1 = q) (r : Goes p e below G (T.setTop (mkF m q L (w :: st)))) : Goes p e below G (T.setTop (mkF m pc L (.int j :: .ref a :: st))) := by
  obtain ⟨hx, hZ, hown, hby, -⟩ := C
  obtain ⟨_, _, _, X, hF, eT, h1, h2⟩ := X
  subst hq
  obtain ⟨cl, A, q1, Sz, q3, H, Gf⟩ := V
  exact go_st (fun t k => X.aaload hx (j := j) (v := w) (by rw [eT]; exact A.1) (State.isArrayOf_alike hZ.alike A.2.1) hty A.2.2 (inb_of Sz hj) (H.at (inb_of Sz hj) hv) (g := mkF m pc L (.int j :: .ref a :: st)) rfl rfl (hb hby hd) t k) r
theorem g_alen (C : Cx p s m meth c Z own bytes ml rt mn) (X : St p l e R s m args below meth c n0 T h k n) {a : Addr} {cA : ClassId} {z : Int32} {vs : List Value} {dv : Value} {ty : FieldType} (V : Arv Z h a cA ty z vs dv) (hd : decode bytes pc = .ok (.arraylength, 1)) (hq : pc + 1 = q) (r : Goes p e below G (T.setTop (mkF m q L (.int z :: st)))) : Goes p e below G (T.setTop (mkF m pc L (.ref a :: st))) := by
  obtain ⟨hx, hZ, hown, hby, -⟩ := C
  obtain ⟨_, _, _, X, hF, eT, h1, h2⟩ := X
  subst hq
  obtain ⟨cl, A, q1, Sz, q3, H, Gf⟩ := V
  exact go_st (fun t k => X.arraylength hx (by rw [eT]; exact A.1) (State.isArrayOf_alike hZ.alike A.2.1) (g := mkF m pc L (.ref a :: st)) rfl rfl (hb hby hd) t (by rw [len_of Sz q3]; exact k)) r
theorem g_newR (C : Cx p s m meth c Z own bytes ml rt mn) (X : St p l e R s m args below meth c n0 T h k n) {K : String} {i cap k' n' : Nat} {z : Int32} (w1 : (Cond.classLink own i K).before a0 Z = true) (w2 : (Cond.arrayOver (.object K)).before a0 Z = true) (hd : decode bytes pc = .ok (.anewarray i, 3)) (hq : pc + 3 = q) (hz : ¬ z < 0) (hcap : z.toNatClampNeg ≤ cap) (hcb : cap * 8 ≤ 536870912) (hk : k + 1 = k') (hn : n + cap = n') (hkR : k' ≤ R.cells) (hnR : n' ≤ R.slots)
    (r : ∀ T' h' cA a, a = h.size → St p l e R s m args below meth c n0 T' h' k' n' → Ext h h' → Arv Z h' a cA (.object K) z [] .null → Ovr Z cA K → Goes p e below G (T'.setTop (mkF m q L (.ref a :: st)))) : Goes p e below G (T.setTop (mkF m pc L (.int z :: st))) := by
  obtain ⟨hx, hZ, hown, hby, -⟩ := C
  obtain ⟨_, _, _, X, hF, eT, h1, h2⟩ := X
  subst hq hk hn
  obtain ⟨T', h', cA, X', e', E', A', O', st'⟩ := newR X hx hZ hown w1 w2 eT (g := mkF m pc L (.int z :: st)) rfl (hb hby hd) rfl hz (cap := cap) hcap hcb (Nat.le_trans (Nat.add_le_add_right h1 1) hkR) (Nat.le_trans (Nat.add_le_add_right h2 cap) hnR)
  exact go_st st' (r T' h' cA _ rfl ⟨_, _, _, X', hF, e', Nat.add_le_add_right h1 1, Nat.add_le_add_right h2 cap⟩ E' (Arv.new A' hz) O')
theorem g_castY (C : Cx p s m meth c Z own bytes ml rt mn) (X : St p l e R s m args below meth c n0 T h k n) {K : String} {i : Nat} {a : Addr} (w : (Cond.classLink own i K).before a0 Z = true) (I : Ins Z h a K true) (hd : decode bytes pc = .ok (.checkcast i, 3)) (hq : pc + 3 = q) (r : ∀ T', St p l e R s m args below meth c n0 T' h k n → Goes p e below G (T'.setTop (mkF m q L (.ref a :: st)))) : Goes p e below G (T.setTop (mkF m pc L (.ref a :: st))) := by
  obtain ⟨hx, hZ, hown, hby, -⟩ := C
  obtain ⟨_, _, _, X, hF, eT, h1, h2⟩ := X
  subst hq
  obtain ⟨T', X', e', st'⟩ := castY X hx hZ hown w eT I (g := mkF m pc L (.ref a :: st)) rfl rfl (hb hby hd)
  exact go_st st' (r T' ⟨_, _, _, X', hF, e', h1, h2⟩)
theorem g_instY (C : Cx p s m meth c Z own bytes ml rt mn) (X : St p l e R s m args below meth c n0 T h k n) {K : String} {i : Nat} {a : Addr} (w : (Cond.classLink own i K).before a0 Z = true) (I : Ins Z h a K true) (hd : decode bytes pc = .ok (.instanceof i, 3)) (hq : pc + 3 = q) (r : ∀ T', St p l e R s m args below meth c n0 T' h k n → Goes p e below G (T'.setTop (mkF m q L (.int 1 :: st)))) : Goes p e below G (T.setTop (mkF m pc L (.ref a :: st))) := by
  obtain ⟨hx, hZ, hown, hby, -⟩ := C
  obtain ⟨_, _, _, X, hF, eT, h1, h2⟩ := X
  subst hq
  obtain ⟨T', X', e', st'⟩ := instY X hx hZ hown w eT I (g := mkF m pc L (.ref a :: st)) rfl rfl (hb hby hd)
  exact go_st st' (r T' ⟨_, _, _, X', hF, e', h1, h2⟩)
theorem g_instNo (C : Cx p s m meth c Z own bytes ml rt mn) (X : St p l e R s m args below meth c n0 T h k n) {K K' : String} {i : Nat} {a : Addr} (w : (Cond.classLink own i K).before a0 Z = true) (E : Exa Z h a K') (F : ∃ c t, Z.vm.findClass K' = some c ∧ Z.vm.findClass K = some t ∧ Z.vm.assignable c t = false) (hd : decode bytes pc = .ok (.instanceof i, 3)) (hq : pc + 3 = q) (r : ∀ T', St p l e R s m args below meth c n0 T' h k n → Goes p e below G (T'.setTop (mkF m q L (.int 0 :: st)))) : Goes p e below G (T.setTop (mkF m pc L (.ref a :: st))) := by
  obtain ⟨hx, hZ, hown, hby, -⟩ := C
  obtain ⟨_, _, _, X, hF, eT, h1, h2⟩ := X
  subst hq
  obtain ⟨T', X', e', st'⟩ := instNo X hx hZ hown w eT E F (g := mkF m pc L (.ref a :: st)) rfl rfl (hb hby hd)
  exact go_st st' (r T' ⟨_, _, _, X', hF, e', h1, h2⟩)
theorem g_instNull (C : Cx p s m meth c Z own bytes ml rt mn) (X : St p l e R s m args below meth c n0 T h k n) {i : Nat} (hd : decode bytes pc = .ok (.instanceof i, 3)) (hq : pc + 3 = q) (r : Goes p e below G (T.setTop (mkF m q L (.int 0 :: st)))) : Goes p e below G (T.setTop (mkF m pc L (.null :: st))) := by
  obtain ⟨hx, hZ, hown, hby, -⟩ := C
  obtain ⟨_, _, _, X, hF, eT, h1, h2⟩ := X
  subst hq
  exact go_st (fun t k => X.instanceofNull hx (g := mkF m pc L (.null :: st)) rfl rfl (hb hby hd) t k) r
theorem g_castNull (C : Cx p s m meth c Z own bytes ml rt mn) (X : St p l e R s m args below meth c n0 T h k n) {i : Nat} (hd : decode bytes pc = .ok (.checkcast i, 3)) (hq : pc + 3 = q) (r : Goes p e below G (T.setTop (mkF m q L (.null :: st)))) : Goes p e below G (T.setTop (mkF m pc L (.null :: st))) := by
  obtain ⟨hx, hZ, hown, hby, -⟩ := C
  obtain ⟨_, _, _, X, hF, eT, h1, h2⟩ := X
  subst hq
  exact go_st (fun t k => X.checkcastNull hx (g := mkF m pc L (.null :: st)) rfl rfl (hb hby hd) t k) r
theorem g_getClass (C : Cx p s m meth c Z own bytes ml rt mn) (X : St p l e R s m args below meth c n0 T h k n) {K : String} {i : Nat} {a mr : Addr} (w1 : (Cond.methodLink own i ⟨"java/lang/Object", "getClass", "()Ljava/lang/Class;"⟩).before a0 Z = true) (w2 : (Cond.declares ⟨"java/lang/Object", "getClass", "()Ljava/lang/Class;"⟩).before a0 Z = true) (w4 : (Cond.selects K ⟨"java/lang/Object", "getClass", "()Ljava/lang/Class;"⟩ ⟨"java/lang/Object", "getClass", "()Ljava/lang/Class;"⟩).before a0 Z = true)
    (w5 : (Cond.instanceMethod ⟨"java/lang/Object", "getClass", "()Ljava/lang/Class;"⟩).before a0 Z = true) (w6 : (Cond.native ⟨"java/lang/Object", "getClass", "()Ljava/lang/Class;"⟩).before a0 Z = true) (E : Exa Z h a K) (M : ∃ c k, Z.vm.findClass K = some c ∧ Z.vm.classes[c]? = some k ∧ k.mirror = some mr) (hsz : L.size = ml) (hd : decode bytes pc = .ok (.invokevirtual i, 3)) (hq : pc + 3 = q) (hf : 1 ≤ R.frames) (hl : (st.map fun v => v.category).sum + (nativeFrameWords "java/lang/Object" "getClass" 1 + 11) ≤ R.locals)
    (r : ∀ T', St p l e R s m args below meth c n0 T' h k n → Goes p e below G (T'.setTop (mkF m q L (.ref mr :: st)))) : Goes p e below G (T.setTop (mkF m pc L (.ref a :: st))) := by
  obtain ⟨hx, hZ, hown, hby, hml, -⟩ := C
  obtain ⟨_, _, _, X, hF, eT, h1, h2⟩ := X
  subst hq
  obtain ⟨cB, kB, i1, i2, i3⟩ := isOf hZ eT E
  obtain ⟨cc, kc, m1, m2, m3⟩ := M
  rw [hZ.alike.findClass] at i1
  cases i1.symm.trans m1
  obtain ⟨k', q, ek⟩ := hZ.alike.2.2 _ _ m2
  obtain ⟨vm', X', st'⟩ := X.getClassOf hx hown (mvT hZ w1) (mvT hZ w2) (notFace_of_selects (args := #[]) (mvT hZ w4)) (mvT hZ w4) (mvT hZ w5) (mvT hZ w6) (by rw [hZ.alike.findClass]; exact m1) i3 q (by rw [ek]; exact m3) (g := mkF m pc L (.ref a :: st)) rfl (hsz.trans hml.symm) rfl (hb hby hd) hf (by show 2 * 0 + _ + _ ≤ _; omega)
  exact go_st st' (r _ ⟨_, _, _, X', hF, eT, h1, h2⟩)
theorem g_callSb (C : Cx p s m meth c Z own bytes ml rt mn) (X : St p l e R s m args below meth c n0 T h k n) {as' : Array Value} {argsL : List Value} {ps : List FieldType} {rt' : Option FieldType} {k' n' W kc ks : Nat} {QL : Option Value → Heap → List Loc → Prop} {y : MethodName} {i : Nat} (hy : y.cls ≠ "java/lang/invoke/MethodHandle" ∧ y.cls ≠ "java/lang/invoke/VarHandle") (w1 : (Cond.methodLink own i y).before a0 Z = true) (w2 : (Cond.static y).before a0 Z = true) {bts : ByteArray} {mxl : Nat} {rty : Option FieldType} (w8 : (Cond.code y bts mxl rty).before a0 Z = true) (w9 : (Cond.initialized y.cls).before a0 Z = true) (bk : Back l R p e below s args y 3 W (fun A a => a = as' ∧ A.U.heap = h ∧ A.cells + kc ≤ R.cells ∧ A.slots + ks ≤ R.slots) (fun A _ v B => ∃ L, QL v B.U.heap L ∧ B.locs = A.locs ++ L ∧ B.cells = A.cells + kc ∧ B.slots = A.slots + ks)) (hk : k + kc = k') (hn : n + ks = n') (hkR : k' ≤ R.cells) (hnR : n' ≤ R.slots) (hsz : L.size = ml) (hdd : parseMethodDescriptor y.desc = some ⟨ps, rt'⟩) (hlen : argsL.length = ps.length) (hst : st = argsL.reverse ++ rest) (has : argsL.toArray = as') (hW : (rest.map fun v => v.category).sum = W) (hd : decode bytes pc = .ok (.invokestatic i, 3)) (hq : pc + 3 = q)
    (r : ∀ v T' h' L', St p l e R s m args below meth c n0 T' h' k' n' ∨ ¬ Fr n0 L' → QL v h' L' → Goes p e below G (T'.setTop (mkF m q L (v.toList ++ rest)))) : Goes p e below G (T.setTop (mkF m pc L st)) := by
  obtain ⟨hx, hZ, hown, hby, hml, -⟩ := C
  obtain ⟨_, cells, slots, X, hF, eT, h1, h2⟩ := X
  subst hq hk hn has hst hW
  obtain ⟨_, _, ⟨T', Lo, kk, nn⟩, -, X', ⟨Lc, hQ, q1, q2, q3⟩, st'⟩ := Jvm.LawKit.callS X hx hown (mvT hZ w1) (mvT hZ w2) (mvT hZ w9) (mvT hZ w8) hy bk (g := mkF m pc L (argsL.reverse ++ rest)) rfl (hsz.trans hml.symm) (argsL := argsL) (rest := rest) (lenOf hdd hlen) rfl (by show 2 * 0 + _ ≤ _; omega) (hb hby hd) (fun _ _ => ⟨rfl, eT, Nat.le_trans (Nat.add_le_add_right h1 _) hkR, Nat.le_trans (Nat.add_le_add_right h2 _) hnR⟩)
  dsimp only [Pt.U, Pt.locs, Pt.cells, Pt.slots] at X' q1 q2 q3 st' hQ
  subst q1 q2 q3
  refine go_st st' (r _ T' _ Lc ?_ hQ)
  by_cases hFr : Fr n0 Lc
  · exact Or.inl ⟨_, _, _, X', Fr.app hF hFr, rfl, Nat.add_le_add_right h1 _, Nat.add_le_add_right h2 _⟩
  · exact Or.inr hFr
theorem g_callS1 (C : Cx p s m meth c Z own bytes ml rt mn) (X : St p l e R s m args below meth c n0 T h k n) {rm : Room} {as' : Array Value} {bts : ByteArray} {mxl : Nat} {rty : Option FieldType} {argsL : List Value} {ps : List FieldType} {rt' : Option FieldType} {k' n' W : Nat} {Q : Value → Heap → Prop} {y : MethodName} {i : Nat} (hy : y.cls ≠ "java/lang/invoke/MethodHandle" ∧ y.cls ≠ "java/lang/invoke/VarHandle") (w1 : (Cond.methodLink own i y).before a0 Z = true) (w2 : (Cond.static y).before a0 Z = true) (w8 : (Cond.code y bts mxl rty).before a0 Z = true) (w9 : (Cond.initialized y.cls).before a0 Z = true) (hM : Met1 l Z y bts mxl rty rm as' h n0 Q) (hf : rm.frames + 1 ≤ R.frames) (hl : W + (mxl + 11) + rm.locals ≤ R.locals) (hk : k + rm.cells = k') (hn : n + rm.slots = n') (hkR : k' ≤ R.cells) (hnR : n' ≤ R.slots) (hsz : L.size = ml) (hdd : parseMethodDescriptor y.desc = some ⟨ps, rt'⟩) (hlen : argsL.length = ps.length) (hst : st = argsL.reverse ++ rest) (has : argsL.toArray = as') (hW : (rest.map fun v => v.category).sum = W) (hd : decode bytes pc = .ok (.invokestatic i, 3)) (hq : pc + 3 = q)
    (r : ∀ w T' h', St p l e R s m args below meth c n0 T' h' k' n' → Q w h' → Goes p e below G (T'.setTop (mkF m q L (w :: rest)))) : Goes p e below G (T.setTop (mkF m pc L st)) := by
  have bk := backOf (Q := fun v h L => Fr n0 L ∧ (∃ w, v = some w ∧ Q w h)) (R := R) (p := p) (e := e) (below := below) (s := s) (args := args) (len := 3) (W := W) (hM []) C.2.1 w8 w9 hf hl
  refine g_callSb C X (QL := fun v h L => Fr n0 L ∧ (∃ w, v = some w ∧ Q w h)) hy w1 w2 w8 w9 bk hk hn hkR hnR hsz hdd hlen hst has hW hd hq ?_
  rintro v T' h' L' hX ⟨hFr, hQ⟩
  obtain ⟨w, rfl, hQ⟩ := hQ
  exact r w T' h' (hX.resolve_right fun z => z hFr) hQ
theorem g_callS0 (C : Cx p s m meth c Z own bytes ml rt mn) (X : St p l e R s m args below meth c n0 T h k n) {rm : Room} {as' : Array Value} {bts : ByteArray} {mxl : Nat} {rty : Option FieldType} {argsL : List Value} {ps : List FieldType} {rt' : Option FieldType} {k' n' W : Nat} {Q : Heap → Prop} {y : MethodName} {i : Nat} (hy : y.cls ≠ "java/lang/invoke/MethodHandle" ∧ y.cls ≠ "java/lang/invoke/VarHandle") (w1 : (Cond.methodLink own i y).before a0 Z = true) (w2 : (Cond.static y).before a0 Z = true) (w8 : (Cond.code y bts mxl rty).before a0 Z = true) (w9 : (Cond.initialized y.cls).before a0 Z = true) (hM : Met0 l Z y bts mxl rty rm as' h n0 Q) (hf : rm.frames + 1 ≤ R.frames) (hl : W + (mxl + 11) + rm.locals ≤ R.locals) (hk : k + rm.cells = k') (hn : n + rm.slots = n') (hkR : k' ≤ R.cells) (hnR : n' ≤ R.slots) (hsz : L.size = ml) (hdd : parseMethodDescriptor y.desc = some ⟨ps, rt'⟩) (hlen : argsL.length = ps.length) (hst : st = argsL.reverse ++ rest) (has : argsL.toArray = as') (hW : (rest.map fun v => v.category).sum = W) (hd : decode bytes pc = .ok (.invokestatic i, 3)) (hq : pc + 3 = q)
    (r : ∀ T' h', St p l e R s m args below meth c n0 T' h' k' n' → Q h' → Goes p e below G (T'.setTop (mkF m q L rest))) : Goes p e below G (T.setTop (mkF m pc L st)) := by
  have bk := backOf (Q := fun v h L => Fr n0 L ∧ (v = none ∧ Q h)) (R := R) (p := p) (e := e) (below := below) (s := s) (args := args) (len := 3) (W := W) (hM []) C.2.1 w8 w9 hf hl
  refine g_callSb C X (QL := fun v h L => Fr n0 L ∧ (v = none ∧ Q h)) hy w1 w2 w8 w9 bk hk hn hkR hnR hsz hdd hlen hst has hW hd hq ?_
  rintro v T' h' L' hX ⟨hFr, hQ⟩
  obtain ⟨rfl, hQ⟩ := hQ
  exact r T' h' (hX.resolve_right fun z => z hFr) hQ
theorem g_callIb (C : Cx p s m meth c Z own bytes ml rt mn) (X : St p l e R s m args below meth c n0 T h k n) {as' : Array Value} {argsL : List Value} {ps : List FieldType} {rt' : Option FieldType} {k' n' W kc ks : Nat} {QL : Option Value → Heap → List Loc → Prop} {y : MethodName} {i : Nat} {a : Addr} (hy : y.cls ≠ "java/lang/invoke/MethodHandle" ∧ y.cls ≠ "java/lang/invoke/VarHandle") (hy1 : y.name = "<init>") (w1 : (Cond.methodLink own i y).before a0 Z = true) (w2 : (Cond.instanceMethod y).before a0 Z = true) {bts : ByteArray} {mxl : Nat} (w8 : (Cond.code y bts mxl none).before a0 Z = true) (bk : Back l R p e below s args y 3 W (fun A a => a = as' ∧ A.U.heap = h ∧ A.cells + kc ≤ R.cells ∧ A.slots + ks ≤ R.slots) (fun A _ v B => ∃ L, QL v B.U.heap L ∧ B.locs = A.locs ++ L ∧ B.cells = A.cells + kc ∧ B.slots = A.slots + ks)) (hk : k + kc = k') (hn : n + ks = n') (hkR : k' ≤ R.cells) (hnR : n' ≤ R.slots) (hsz : L.size = ml) (hdd : parseMethodDescriptor y.desc = some ⟨ps, rt'⟩) (hlen : argsL.length = ps.length) (hst : st = argsL.reverse ++ .ref a :: rest) (has : (.ref a :: argsL).toArray = as') (hW : (rest.map fun v => v.category).sum = W) (hd : decode bytes pc = .ok (.invokespecial i, 3)) (hq : pc + 3 = q)
    (r : ∀ v T' h' L', St p l e R s m args below meth c n0 T' h' k' n' ∨ ¬ Fr n0 L' → QL v h' L' → Goes p e below G (T'.setTop (mkF m q L (v.toList ++ rest)))) : Goes p e below G (T.setTop (mkF m pc L st)) := by
  obtain ⟨hx, hZ, hown, hby, hml, -⟩ := C
  obtain ⟨_, cells, slots, X, hF, eT, h1, h2⟩ := X
  subst hq hk hn has hst hW
  obtain ⟨_, _, ⟨T', Lo, kk, nn⟩, -, X', ⟨Lc, hQ, q1, q2, q3⟩, st'⟩ := X.specialBack hx hy1 hown (mvT hZ w1) (mvT hZ w2) (mvT hZ w8) hy bk (g := mkF m pc L (argsL.reverse ++ .ref a :: rest)) rfl (hsz.trans hml.symm) (Steps.refl _) (a := a) (argsL := argsL) (rest := rest) (lenOf hdd hlen) rfl (by show 2 * 0 + _ ≤ _; omega) (hb hby hd) (fun _ _ => ⟨rfl, eT, Nat.le_trans (Nat.add_le_add_right h1 _) hkR, Nat.le_trans (Nat.add_le_add_right h2 _) hnR⟩)
  dsimp only [Pt.U, Pt.locs, Pt.cells, Pt.slots] at X' q1 q2 q3 st' hQ
  subst q1 q2 q3
  refine go_tr st' (r _ T' _ Lc ?_ hQ)
  by_cases hFr : Fr n0 Lc
  · exact Or.inl ⟨_, _, _, X', Fr.app hF hFr, rfl, Nat.add_le_add_right h1 _, Nat.add_le_add_right h2 _⟩
  · exact Or.inr hFr
theorem g_callI0 (C : Cx p s m meth c Z own bytes ml rt mn) (X : St p l e R s m args below meth c n0 T h k n) {rm : Room} {as' : Array Value} {bts : ByteArray} {mxl : Nat} {argsL : List Value} {ps : List FieldType} {rt' : Option FieldType} {k' n' W : Nat} {Q : Heap → Prop} {y : MethodName} {i : Nat} {a : Addr} (hy : y.cls ≠ "java/lang/invoke/MethodHandle" ∧ y.cls ≠ "java/lang/invoke/VarHandle") (hy1 : y.name = "<init>") (w1 : (Cond.methodLink own i y).before a0 Z = true) (w2 : (Cond.instanceMethod y).before a0 Z = true) (w8 : (Cond.code y bts mxl none).before a0 Z = true) (w9 : (Cond.initialized y.cls).before a0 Z = true) (hM : Met0 l Z y bts mxl none rm as' h n0 Q) (hf : rm.frames + 1 ≤ R.frames) (hl : W + (mxl + 11) + rm.locals ≤ R.locals) (hk : k + rm.cells = k') (hn : n + rm.slots = n') (hkR : k' ≤ R.cells) (hnR : n' ≤ R.slots) (hsz : L.size = ml) (hdd : parseMethodDescriptor y.desc = some ⟨ps, rt'⟩) (hlen : argsL.length = ps.length) (hst : st = argsL.reverse ++ .ref a :: rest) (has : (.ref a :: argsL).toArray = as') (hW : (rest.map fun v => v.category).sum = W) (hd : decode bytes pc = .ok (.invokespecial i, 3)) (hq : pc + 3 = q)
    (r : ∀ T' h', St p l e R s m args below meth c n0 T' h' k' n' → Q h' → Goes p e below G (T'.setTop (mkF m q L rest))) : Goes p e below G (T.setTop (mkF m pc L st)) := by
  have bk := backOf (Q := fun v h L => Fr n0 L ∧ (v = none ∧ Q h)) (R := R) (p := p) (e := e) (below := below) (s := s) (args := args) (len := 3) (W := W) (hM []) C.2.1 w8 w9 hf hl
  refine g_callIb C X (QL := fun v h L => Fr n0 L ∧ (v = none ∧ Q h)) hy hy1 w1 w2 w8 bk hk hn hkR hnR hsz hdd hlen hst has hW hd hq ?_
  rintro v T' h' L' hX ⟨hFr, hQ⟩
  obtain ⟨rfl, hQ⟩ := hQ
  exact r T' h' (hX.resolve_right fun z => z hFr) hQ
theorem g_callVb (C : Cx p s m meth c Z own bytes ml rt mn) (X : St p l e R s m args below meth c n0 T h k n) {as' : Array Value} {argsL : List Value} {ps : List FieldType} {rt' : Option FieldType} {k' n' W kc ks : Nat} {QL : Option Value → Heap → List Loc → Prop} {y z : MethodName} {i : Nat} {a : Addr} {K : String} (hy : y.cls ≠ "java/lang/invoke/MethodHandle" ∧ y.cls ≠ "java/lang/invoke/VarHandle") (w1 : (Cond.methodLink own i y).before a0 Z = true) (w2 : (Cond.declares y).before a0 Z = true) (w3 : (Cond.selects K y z).before a0 Z = true) (w4 : (Cond.instanceMethod z).before a0 Z = true) (hnf : ∀ s' : State, Z.Warmed39 s'.vm → NotFace s' y) (E : Exa Z h a K) (bk : Back l R p e below s args z 3 W (fun A a => a = as' ∧ A.U.heap = h ∧ A.cells + kc ≤ R.cells ∧ A.slots + ks ≤ R.slots) (fun A _ v B => ∃ L, QL v B.U.heap L ∧ B.locs = A.locs ++ L ∧ B.cells = A.cells + kc ∧ B.slots = A.slots + ks)) (hk : k + kc = k') (hn : n + ks = n') (hkR : k' ≤ R.cells) (hnR : n' ≤ R.slots) (hsz : L.size = ml) (hdd : parseMethodDescriptor y.desc = some ⟨ps, rt'⟩) (hlen : argsL.length = ps.length) (hst : st = argsL.reverse ++ .ref a :: rest) (has : (.ref a :: argsL).toArray = as') (hW : (rest.map fun v => v.category).sum = W) (hd : decode bytes pc = .ok (.invokevirtual i, 3)) (hq : pc + 3 = q)
    (r : ∀ v T' h' L', St p l e R s m args below meth c n0 T' h' k' n' ∨ ¬ Fr n0 L' → QL v h' L' → Goes p e below G (T'.setTop (mkF m q L (v.toList ++ rest)))) : Goes p e below G (T.setTop (mkF m pc L st)) := by
  obtain ⟨hx, hZ, hown, hby, hml, -⟩ := C
  obtain ⟨_, cells, slots, X, hF, eT, h1, h2⟩ := X
  subst hq hk hn has hst hW
  obtain ⟨cB, kB, qa, qb, qc⟩ := isOf hZ eT E
  obtain ⟨_, _, ⟨T', Lo, kk, nn⟩, -, X', ⟨Lc, hQ, q1, q2, q3⟩, st'⟩ := X.virtualBack hx hown (mvT hZ w1) (mvT hZ w2) (hnf s hZ) (mvT hZ w3) (mvT hZ w4) hy bk qa qc (g := mkF m pc L (argsL.reverse ++ .ref a :: rest)) rfl (hsz.trans hml.symm) (Steps.refl _) (argsL := argsL) (rest := rest) (lenOf hdd hlen) rfl (by show 2 * 0 + _ ≤ _; omega) (hb hby hd) (fun _ _ => ⟨rfl, eT, Nat.le_trans (Nat.add_le_add_right h1 _) hkR, Nat.le_trans (Nat.add_le_add_right h2 _) hnR⟩)
  dsimp only [Pt.U, Pt.locs, Pt.cells, Pt.slots] at X' q1 q2 q3 st' hQ
  subst q1 q2 q3
  refine go_tr st' (r _ T' _ Lc ?_ hQ)
  by_cases hFr : Fr n0 Lc
  · exact Or.inl ⟨_, _, _, X', Fr.app hF hFr, rfl, Nat.add_le_add_right h1 _, Nat.add_le_add_right h2 _⟩
  · exact Or.inr hFr
theorem g_callV1 (C : Cx p s m meth c Z own bytes ml rt mn) (X : St p l e R s m args below meth c n0 T h k n) {rm : Room} {as' : Array Value} {bts : ByteArray} {mxl : Nat} {rty : Option FieldType} {argsL : List Value} {ps : List FieldType} {rt' : Option FieldType} {k' n' W : Nat} {Q : Value → Heap → Prop} {y z : MethodName} {i : Nat} {a : Addr} {K : String} (hy : y.cls ≠ "java/lang/invoke/MethodHandle" ∧ y.cls ≠ "java/lang/invoke/VarHandle") (w1 : (Cond.methodLink own i y).before a0 Z = true) (w2 : (Cond.declares y).before a0 Z = true) (w3 : (Cond.selects K y z).before a0 Z = true) (w4 : (Cond.instanceMethod z).before a0 Z = true) (hnf : ∀ s' : State, Z.Warmed39 s'.vm → NotFace s' y) (E : Exa Z h a K) (w8 : (Cond.code z bts mxl rty).before a0 Z = true) (w9 : (Cond.initialized z.cls).before a0 Z = true) (hM : Met1 l Z z bts mxl rty rm as' h n0 Q) (hf : rm.frames + 1 ≤ R.frames) (hl : W + (mxl + 11) + rm.locals ≤ R.locals) (hk : k + rm.cells = k') (hn : n + rm.slots = n') (hkR : k' ≤ R.cells) (hnR : n' ≤ R.slots) (hsz : L.size = ml) (hdd : parseMethodDescriptor y.desc = some ⟨ps, rt'⟩) (hlen : argsL.length = ps.length) (hst : st = argsL.reverse ++ .ref a :: rest) (has : (.ref a :: argsL).toArray = as') (hW : (rest.map fun v => v.category).sum = W) (hd : decode bytes pc = .ok (.invokevirtual i, 3)) (hq : pc + 3 = q)
    (r : ∀ w T' h', St p l e R s m args below meth c n0 T' h' k' n' → Q w h' → Goes p e below G (T'.setTop (mkF m q L (w :: rest)))) : Goes p e below G (T.setTop (mkF m pc L st)) := by
  have bk := backOf (Q := fun v h L => Fr n0 L ∧ (∃ w, v = some w ∧ Q w h)) (R := R) (p := p) (e := e) (below := below) (s := s) (args := args) (len := 3) (W := W) (hM []) C.2.1 w8 w9 hf hl
  refine g_callVb C X (QL := fun v h L => Fr n0 L ∧ (∃ w, v = some w ∧ Q w h)) hy w1 w2 w3 w4 hnf E bk hk hn hkR hnR hsz hdd hlen hst has hW hd hq ?_
  rintro v T' h' L' hX ⟨hFr, hQ⟩
  obtain ⟨w, rfl, hQ⟩ := hQ
  exact r w T' h' (hX.resolve_right fun z => z hFr) hQ
theorem g_callV0 (C : Cx p s m meth c Z own bytes ml rt mn) (X : St p l e R s m args below meth c n0 T h k n) {rm : Room} {as' : Array Value} {bts : ByteArray} {mxl : Nat} {rty : Option FieldType} {argsL : List Value} {ps : List FieldType} {rt' : Option FieldType} {k' n' W : Nat} {Q : Heap → Prop} {y z : MethodName} {i : Nat} {a : Addr} {K : String} (hy : y.cls ≠ "java/lang/invoke/MethodHandle" ∧ y.cls ≠ "java/lang/invoke/VarHandle") (w1 : (Cond.methodLink own i y).before a0 Z = true) (w2 : (Cond.declares y).before a0 Z = true) (w3 : (Cond.selects K y z).before a0 Z = true) (w4 : (Cond.instanceMethod z).before a0 Z = true) (hnf : ∀ s' : State, Z.Warmed39 s'.vm → NotFace s' y) (E : Exa Z h a K) (w8 : (Cond.code z bts mxl rty).before a0 Z = true) (w9 : (Cond.initialized z.cls).before a0 Z = true) (hM : Met0 l Z z bts mxl rty rm as' h n0 Q) (hf : rm.frames + 1 ≤ R.frames) (hl : W + (mxl + 11) + rm.locals ≤ R.locals) (hk : k + rm.cells = k') (hn : n + rm.slots = n') (hkR : k' ≤ R.cells) (hnR : n' ≤ R.slots) (hsz : L.size = ml) (hdd : parseMethodDescriptor y.desc = some ⟨ps, rt'⟩) (hlen : argsL.length = ps.length) (hst : st = argsL.reverse ++ .ref a :: rest) (has : (.ref a :: argsL).toArray = as') (hW : (rest.map fun v => v.category).sum = W) (hd : decode bytes pc = .ok (.invokevirtual i, 3)) (hq : pc + 3 = q)
    (r : ∀ T' h', St p l e R s m args below meth c n0 T' h' k' n' → Q h' → Goes p e below G (T'.setTop (mkF m q L rest))) : Goes p e below G (T.setTop (mkF m pc L st)) := by
  have bk := backOf (Q := fun v h L => Fr n0 L ∧ (v = none ∧ Q h)) (R := R) (p := p) (e := e) (below := below) (s := s) (args := args) (len := 3) (W := W) (hM []) C.2.1 w8 w9 hf hl
  refine g_callVb C X (QL := fun v h L => Fr n0 L ∧ (v = none ∧ Q h)) hy w1 w2 w3 w4 hnf E bk hk hn hkR hnR hsz hdd hlen hst has hW hd hq ?_
  rintro v T' h' L' hX ⟨hFr, hQ⟩
  obtain ⟨rfl, hQ⟩ := hQ
  exact r T' h' (hX.resolve_right fun z => z hFr) hQ
theorem g_callUb (C : Cx p s m meth c Z own bytes ml rt mn) (X : St p l e R s m args below meth c n0 T h k n) {as' : Array Value} {argsL : List Value} {ps : List FieldType} {rt' : Option FieldType} {k' n' W kc ks : Nat} {QL : Option Value → Heap → List Loc → Prop} {y z : MethodName} {i : Nat} {a : Addr} {K owner : String} (hy : owner ≠ "java/lang/invoke/MethodHandle" ∧ owner ≠ "java/lang/invoke/VarHandle") (w1 : (Cond.methodLink own i y).before a0 Z = true) (w2 : (Cond.sameMethod y.cls owner y.name y.desc).before a0 Z = true) (w2' : (Cond.declares ⟨owner, y.name, y.desc⟩).before a0 Z = true) (w3 : (Cond.selects K y z).before a0 Z = true) (w4 : (Cond.instanceMethod z).before a0 Z = true) (E : Exa Z h a K) (bk : Back l R p e below s args z 3 W (fun A a => a = as' ∧ A.U.heap = h ∧ A.cells + kc ≤ R.cells ∧ A.slots + ks ≤ R.slots) (fun A _ v B => ∃ L, QL v B.U.heap L ∧ B.locs = A.locs ++ L ∧ B.cells = A.cells + kc ∧ B.slots = A.slots + ks)) (hk : k + kc = k') (hn : n + ks = n') (hkR : k' ≤ R.cells) (hnR : n' ≤ R.slots) (hsz : L.size = ml) (hdd : parseMethodDescriptor y.desc = some ⟨ps, rt'⟩) (hlen : argsL.length = ps.length) (hst : st = argsL.reverse ++ .ref a :: rest) (has : (.ref a :: argsL).toArray = as') (hW : (rest.map fun v => v.category).sum = W) (hd : decode bytes pc = .ok (.invokevirtual i, 3)) (hq : pc + 3 = q)
    (r : ∀ v T' h' L', St p l e R s m args below meth c n0 T' h' k' n' ∨ ¬ Fr n0 L' → QL v h' L' → Goes p e below G (T'.setTop (mkF m q L (v.toList ++ rest)))) : Goes p e below G (T.setTop (mkF m pc L st)) := by
  obtain ⟨hx, hZ, hown, hby, hml, -⟩ := C
  obtain ⟨_, cells, slots, X, hF, eT, h1, h2⟩ := X
  subst hq hk hn has hst hW
  obtain ⟨cB, kB, qa, qb, qc⟩ := isOf hZ eT E
  obtain ⟨_, _, ⟨T', Lo, kk, nn⟩, -, X', ⟨Lc, hQ, q1, q2, q3⟩, st'⟩ := X.virtualBackUp hx hown (mvT hZ w1) (mvT hZ w2) (mvT hZ w2') hy (mvT hZ w3) (mvT hZ w4) bk qa qc (g := mkF m pc L (argsL.reverse ++ .ref a :: rest)) rfl (hsz.trans hml.symm) (Steps.refl _) (argsL := argsL) (rest := rest) (lenOf hdd hlen) rfl (by show 2 * 0 + _ ≤ _; omega) (hb hby hd) (fun _ _ => ⟨rfl, eT, Nat.le_trans (Nat.add_le_add_right h1 _) hkR, Nat.le_trans (Nat.add_le_add_right h2 _) hnR⟩)
  dsimp only [Pt.U, Pt.locs, Pt.cells, Pt.slots] at X' q1 q2 q3 st' hQ
  subst q1 q2 q3
  refine go_tr st' (r _ T' _ Lc ?_ hQ)
  by_cases hFr : Fr n0 Lc
  · exact Or.inl ⟨_, _, _, X', Fr.app hF hFr, rfl, Nat.add_le_add_right h1 _, Nat.add_le_add_right h2 _⟩
  · exact Or.inr hFr
theorem g_callU1 (C : Cx p s m meth c Z own bytes ml rt mn) (X : St p l e R s m args below meth c n0 T h k n) {rm : Room} {as' : Array Value} {bts : ByteArray} {mxl : Nat} {rty : Option FieldType} {argsL : List Value} {ps : List FieldType} {rt' : Option FieldType} {k' n' W : Nat} {Q : Value → Heap → Prop} {y z : MethodName} {i : Nat} {a : Addr} {K owner : String} (hy : owner ≠ "java/lang/invoke/MethodHandle" ∧ owner ≠ "java/lang/invoke/VarHandle") (w1 : (Cond.methodLink own i y).before a0 Z = true) (w2 : (Cond.sameMethod y.cls owner y.name y.desc).before a0 Z = true) (w2' : (Cond.declares ⟨owner, y.name, y.desc⟩).before a0 Z = true) (w3 : (Cond.selects K y z).before a0 Z = true) (w4 : (Cond.instanceMethod z).before a0 Z = true) (E : Exa Z h a K) (w8 : (Cond.code z bts mxl rty).before a0 Z = true) (w9 : (Cond.initialized z.cls).before a0 Z = true) (hM : Met1 l Z z bts mxl rty rm as' h n0 Q) (hf : rm.frames + 1 ≤ R.frames) (hl : W + (mxl + 11) + rm.locals ≤ R.locals) (hk : k + rm.cells = k') (hn : n + rm.slots = n') (hkR : k' ≤ R.cells) (hnR : n' ≤ R.slots) (hsz : L.size = ml) (hdd : parseMethodDescriptor y.desc = some ⟨ps, rt'⟩) (hlen : argsL.length = ps.length) (hst : st = argsL.reverse ++ .ref a :: rest) (has : (.ref a :: argsL).toArray = as') (hW : (rest.map fun v => v.category).sum = W) (hd : decode bytes pc = .ok (.invokevirtual i, 3)) (hq : pc + 3 = q)
    (r : ∀ w T' h', St p l e R s m args below meth c n0 T' h' k' n' → Q w h' → Goes p e below G (T'.setTop (mkF m q L (w :: rest)))) : Goes p e below G (T.setTop (mkF m pc L st)) := by
  have bk := backOf (Q := fun v h L => Fr n0 L ∧ (∃ w, v = some w ∧ Q w h)) (R := R) (p := p) (e := e) (below := below) (s := s) (args := args) (len := 3) (W := W) (hM []) C.2.1 w8 w9 hf hl
  refine g_callUb C X (QL := fun v h L => Fr n0 L ∧ (∃ w, v = some w ∧ Q w h)) hy w1 w2 w2' w3 w4 E bk hk hn hkR hnR hsz hdd hlen hst has hW hd hq ?_
  rintro v T' h' L' hX ⟨hFr, hQ⟩
  obtain ⟨w, rfl, hQ⟩ := hQ
  exact r w T' h' (hX.resolve_right fun z => z hFr) hQ
theorem g_callU0 (C : Cx p s m meth c Z own bytes ml rt mn) (X : St p l e R s m args below meth c n0 T h k n) {rm : Room} {as' : Array Value} {bts : ByteArray} {mxl : Nat} {rty : Option FieldType} {argsL : List Value} {ps : List FieldType} {rt' : Option FieldType} {k' n' W : Nat} {Q : Heap → Prop} {y z : MethodName} {i : Nat} {a : Addr} {K owner : String} (hy : owner ≠ "java/lang/invoke/MethodHandle" ∧ owner ≠ "java/lang/invoke/VarHandle") (w1 : (Cond.methodLink own i y).before a0 Z = true) (w2 : (Cond.sameMethod y.cls owner y.name y.desc).before a0 Z = true) (w2' : (Cond.declares ⟨owner, y.name, y.desc⟩).before a0 Z = true) (w3 : (Cond.selects K y z).before a0 Z = true) (w4 : (Cond.instanceMethod z).before a0 Z = true) (E : Exa Z h a K) (w8 : (Cond.code z bts mxl rty).before a0 Z = true) (w9 : (Cond.initialized z.cls).before a0 Z = true) (hM : Met0 l Z z bts mxl rty rm as' h n0 Q) (hf : rm.frames + 1 ≤ R.frames) (hl : W + (mxl + 11) + rm.locals ≤ R.locals) (hk : k + rm.cells = k') (hn : n + rm.slots = n') (hkR : k' ≤ R.cells) (hnR : n' ≤ R.slots) (hsz : L.size = ml) (hdd : parseMethodDescriptor y.desc = some ⟨ps, rt'⟩) (hlen : argsL.length = ps.length) (hst : st = argsL.reverse ++ .ref a :: rest) (has : (.ref a :: argsL).toArray = as') (hW : (rest.map fun v => v.category).sum = W) (hd : decode bytes pc = .ok (.invokevirtual i, 3)) (hq : pc + 3 = q)
    (r : ∀ T' h', St p l e R s m args below meth c n0 T' h' k' n' → Q h' → Goes p e below G (T'.setTop (mkF m q L rest))) : Goes p e below G (T.setTop (mkF m pc L st)) := by
  have bk := backOf (Q := fun v h L => Fr n0 L ∧ (v = none ∧ Q h)) (R := R) (p := p) (e := e) (below := below) (s := s) (args := args) (len := 3) (W := W) (hM []) C.2.1 w8 w9 hf hl
  refine g_callUb C X (QL := fun v h L => Fr n0 L ∧ (v = none ∧ Q h)) hy w1 w2 w2' w3 w4 E bk hk hn hkR hnR hsz hdd hlen hst has hW hd hq ?_
  rintro v T' h' L' hX ⟨hFr, hQ⟩
  obtain ⟨rfl, hQ⟩ := hQ
  exact r T' h' (hX.resolve_right fun z => z hFr) hQ
theorem g_callPb (C : Cx p s m meth c Z own bytes ml rt mn) (X : St p l e R s m args below meth c n0 T h k n) {as' : Array Value} {argsL : List Value} {ps : List FieldType} {rt' : Option FieldType} {k' n' W kc ks : Nat} {QL : Option Value → Heap → List Loc → Prop} {y : MethodName} {i : Nat} {a : Addr} {K : String} (hy : y.cls ≠ "java/lang/invoke/MethodHandle" ∧ y.cls ≠ "java/lang/invoke/VarHandle") (w1 : (Cond.methodLink own i y).before a0 Z = true) (w3 : (Cond.selects y.cls y y).before a0 Z = true) (w4 : (Cond.instanceMethod y).before a0 Z = true) (w5 : (Cond.privateMethod y).before a0 Z = true) (E : Exa Z h a K) {bts : ByteArray} {mxl : Nat} {rty : Option FieldType} (w8 : (Cond.code y bts mxl rty).before a0 Z = true) (bk : Back l R p e below s args y 3 W (fun A a => a = as' ∧ A.U.heap = h ∧ A.cells + kc ≤ R.cells ∧ A.slots + ks ≤ R.slots) (fun A _ v B => ∃ L, QL v B.U.heap L ∧ B.locs = A.locs ++ L ∧ B.cells = A.cells + kc ∧ B.slots = A.slots + ks)) (hk : k + kc = k') (hn : n + ks = n') (hkR : k' ≤ R.cells) (hnR : n' ≤ R.slots) (hsz : L.size = ml) (hdd : parseMethodDescriptor y.desc = some ⟨ps, rt'⟩) (hlen : argsL.length = ps.length) (hst : st = argsL.reverse ++ .ref a :: rest) (has : (.ref a :: argsL).toArray = as') (hW : (rest.map fun v => v.category).sum = W) (hd : decode bytes pc = .ok (.invokevirtual i, 3)) (hq : pc + 3 = q)
    (r : ∀ v T' h' L', St p l e R s m args below meth c n0 T' h' k' n' ∨ ¬ Fr n0 L' → QL v h' L' → Goes p e below G (T'.setTop (mkF m q L (v.toList ++ rest)))) : Goes p e below G (T.setTop (mkF m pc L st)) := by
  obtain ⟨hx, hZ, hown, hby, hml, -⟩ := C
  obtain ⟨_, cells, slots, X, hF, eT, h1, h2⟩ := X
  subst hq hk hn has hst hW
  obtain ⟨cq, qa, qb⟩ := E.cell
  obtain ⟨_, _, ⟨T', Lo, kk, nn⟩, -, X', ⟨Lc, hQ, q1, q2, q3⟩, st'⟩ := X.privateBack hx hown (mvT hZ w1) (mvT hZ w4) (mvT hZ w3) (Cond.privateMethod_at (mvP hZ w5 (args := #[]))) (mvT hZ w8) hy bk (g := mkF m pc L (argsL.reverse ++ .ref a :: rest)) rfl (hsz.trans hml.symm) (Steps.refl _) (a := a) (by rw [eT]; exact qa) qb (argsL := argsL) (rest := rest) (lenOf hdd hlen) rfl (by show 2 * 0 + _ ≤ _; omega) (hb hby hd) (fun _ _ => ⟨rfl, eT, Nat.le_trans (Nat.add_le_add_right h1 _) hkR, Nat.le_trans (Nat.add_le_add_right h2 _) hnR⟩)
  dsimp only [Pt.U, Pt.locs, Pt.cells, Pt.slots] at X' q1 q2 q3 st' hQ
  subst q1 q2 q3
  refine go_tr st' (r _ T' _ Lc ?_ hQ)
  by_cases hFr : Fr n0 Lc
  · exact Or.inl ⟨_, _, _, X', Fr.app hF hFr, rfl, Nat.add_le_add_right h1 _, Nat.add_le_add_right h2 _⟩
  · exact Or.inr hFr
theorem g_callP1 (C : Cx p s m meth c Z own bytes ml rt mn) (X : St p l e R s m args below meth c n0 T h k n) {rm : Room} {as' : Array Value} {bts : ByteArray} {mxl : Nat} {rty : Option FieldType} {argsL : List Value} {ps : List FieldType} {rt' : Option FieldType} {k' n' W : Nat} {Q : Value → Heap → Prop} {y : MethodName} {i : Nat} {a : Addr} {K : String} (hy : y.cls ≠ "java/lang/invoke/MethodHandle" ∧ y.cls ≠ "java/lang/invoke/VarHandle") (w1 : (Cond.methodLink own i y).before a0 Z = true) (w3 : (Cond.selects y.cls y y).before a0 Z = true) (w4 : (Cond.instanceMethod y).before a0 Z = true) (w5 : (Cond.privateMethod y).before a0 Z = true) (E : Exa Z h a K) (w8 : (Cond.code y bts mxl rty).before a0 Z = true) (w9 : (Cond.initialized y.cls).before a0 Z = true) (hM : Met1 l Z y bts mxl rty rm as' h n0 Q) (hf : rm.frames + 1 ≤ R.frames) (hl : W + (mxl + 11) + rm.locals ≤ R.locals) (hk : k + rm.cells = k') (hn : n + rm.slots = n') (hkR : k' ≤ R.cells) (hnR : n' ≤ R.slots) (hsz : L.size = ml) (hdd : parseMethodDescriptor y.desc = some ⟨ps, rt'⟩) (hlen : argsL.length = ps.length) (hst : st = argsL.reverse ++ .ref a :: rest) (has : (.ref a :: argsL).toArray = as') (hW : (rest.map fun v => v.category).sum = W) (hd : decode bytes pc = .ok (.invokevirtual i, 3)) (hq : pc + 3 = q)
    (r : ∀ w T' h', St p l e R s m args below meth c n0 T' h' k' n' → Q w h' → Goes p e below G (T'.setTop (mkF m q L (w :: rest)))) : Goes p e below G (T.setTop (mkF m pc L st)) := by
  have bk := backOf (Q := fun v h L => Fr n0 L ∧ (∃ w, v = some w ∧ Q w h)) (R := R) (p := p) (e := e) (below := below) (s := s) (args := args) (len := 3) (W := W) (hM []) C.2.1 w8 w9 hf hl
  refine g_callPb C X (QL := fun v h L => Fr n0 L ∧ (∃ w, v = some w ∧ Q w h)) hy w1 w3 w4 w5 E w8 bk hk hn hkR hnR hsz hdd hlen hst has hW hd hq ?_
  rintro v T' h' L' hX ⟨hFr, hQ⟩
  obtain ⟨w, rfl, hQ⟩ := hQ
  exact r w T' h' (hX.resolve_right fun z => z hFr) hQ
theorem g_callP0 (C : Cx p s m meth c Z own bytes ml rt mn) (X : St p l e R s m args below meth c n0 T h k n) {rm : Room} {as' : Array Value} {bts : ByteArray} {mxl : Nat} {rty : Option FieldType} {argsL : List Value} {ps : List FieldType} {rt' : Option FieldType} {k' n' W : Nat} {Q : Heap → Prop} {y : MethodName} {i : Nat} {a : Addr} {K : String} (hy : y.cls ≠ "java/lang/invoke/MethodHandle" ∧ y.cls ≠ "java/lang/invoke/VarHandle") (w1 : (Cond.methodLink own i y).before a0 Z = true) (w3 : (Cond.selects y.cls y y).before a0 Z = true) (w4 : (Cond.instanceMethod y).before a0 Z = true) (w5 : (Cond.privateMethod y).before a0 Z = true) (E : Exa Z h a K) (w8 : (Cond.code y bts mxl rty).before a0 Z = true) (w9 : (Cond.initialized y.cls).before a0 Z = true) (hM : Met0 l Z y bts mxl rty rm as' h n0 Q) (hf : rm.frames + 1 ≤ R.frames) (hl : W + (mxl + 11) + rm.locals ≤ R.locals) (hk : k + rm.cells = k') (hn : n + rm.slots = n') (hkR : k' ≤ R.cells) (hnR : n' ≤ R.slots) (hsz : L.size = ml) (hdd : parseMethodDescriptor y.desc = some ⟨ps, rt'⟩) (hlen : argsL.length = ps.length) (hst : st = argsL.reverse ++ .ref a :: rest) (has : (.ref a :: argsL).toArray = as') (hW : (rest.map fun v => v.category).sum = W) (hd : decode bytes pc = .ok (.invokevirtual i, 3)) (hq : pc + 3 = q)
    (r : ∀ T' h', St p l e R s m args below meth c n0 T' h' k' n' → Q h' → Goes p e below G (T'.setTop (mkF m q L rest))) : Goes p e below G (T.setTop (mkF m pc L st)) := by
  have bk := backOf (Q := fun v h L => Fr n0 L ∧ (v = none ∧ Q h)) (R := R) (p := p) (e := e) (below := below) (s := s) (args := args) (len := 3) (W := W) (hM []) C.2.1 w8 w9 hf hl
  refine g_callPb C X (QL := fun v h L => Fr n0 L ∧ (v = none ∧ Q h)) hy w1 w3 w4 w5 E w8 bk hk hn hkR hnR hsz hdd hlen hst has hW hd hq ?_
  rintro v T' h' L' hX ⟨hFr, hQ⟩
  obtain ⟨rfl, hQ⟩ := hQ
  exact r T' h' (hX.resolve_right fun z => z hFr) hQ
theorem sel_priv {y : MethodName} {kk : Nat} (wi : (Cond.instantiable y.cls kk).before a0 Z = true) (w4 : (Cond.instanceMethod y).before a0 Z = true) (w5 : (Cond.privateMethod y).before a0 Z = true) (hy : y.cls ≠ "java/lang/invoke/MethodHandle" ∧ y.cls ≠ "java/lang/invoke/VarHandle") : (Cond.selects y.cls y y).before a0 Z = true := by
  obtain ⟨c1, k1, i1, i2, -, i4, -⟩ := Cond.instantiable_spec wi
  exact Stand.selects_self_of_private i1 i2 (by simp only [Bool.or_eq_false_iff] at i4; exact i4.1) (Cond.privateMethod_at w5) w4 hy
theorem own_nb {b : Int32} {t : Bool} (h1 : t = true → b = 0) (h2 : t = false → b = 1) : nar .boolean b = b := by
  cases t
  · rw [h2 rfl]; decide
  · rw [h1 rfl]; decide
theorem nf_sel {y : MethodName} {K : String} (w : (Cond.selects K y y).before a0 Z = true) : ∀ s' : State, Z.Warmed39 s'.vm → NotFace s' y := fun s' hZ => notFace_of_selects (args := #[]) (mvT hZ w)
end OwnKit
theorem own_i32 {x y : Int32} (h : x.toInt = y.toInt) : x = y := Int32.toInt_inj.mp h
theorem own_r1 {u w : Int32} {hi : Int} (h : u.toInt ≤ hi) (hw : hi < w.toInt) : u < w := Int32.lt_iff_toInt_lt.mpr (Int.lt_of_le_of_lt h hw)
theorem own_r2 {u w : Int32} {lo : Int} (h : lo ≤ u.toInt) (hw : w.toInt ≤ lo) : ¬ u < w := fun q => by have := Int32.lt_iff_toInt_lt.mp q; omega
theorem own_r3 {u w : Int32} {lo : Int} (h : lo ≤ w.toInt) (hu : u.toInt < lo) : u < w := Int32.lt_iff_toInt_lt.mpr (by omega)
theorem own_r4 {u w : Int32} {hi : Int} (h : w.toInt ≤ hi) (hu : hi ≤ u.toInt) : ¬ u < w := fun q => by have := Int32.lt_iff_toInt_lt.mp q; omega
theorem own_r5 {u w : Int32} {lo : Int} (h : lo ≤ u.toInt) (hw : w.toInt < lo) : ¬ u = w := fun q => by subst q; omega
theorem own_r6 {u w : Int32} {hi : Int} (h : u.toInt ≤ hi) (hw : hi < w.toInt) : ¬ u = w := fun q => by subst q; omega
theorem own_f0 {u w : Int32} {z : Int} (h1 : z ≤ u.toInt) (h2 : u.toInt ≤ z) (hz : w.toInt = z) : u = w := own_i32 (by omega)
theorem own_f1 {u w : Int32} {z : Int} (h : u < w) (hz : w.toInt = z + 1) : u.toInt ≤ z := by have := Int32.lt_iff_toInt_lt.mp h; omega
theorem own_f2 {u w : Int32} {z : Int} (h : ¬ u < w) (hz : w.toInt = z) : z ≤ u.toInt := by rw [Int32.lt_iff_toInt_lt] at h; omega
theorem own_f3 {u w : Int32} {z : Int} (h : w < u) (hz : w.toInt + 1 = z) : z ≤ u.toInt := by have := Int32.lt_iff_toInt_lt.mp h; omega
theorem own_f4 {u w : Int32} {z : Int} (h : ¬ w < u) (hz : w.toInt = z) : u.toInt ≤ z := by rw [Int32.lt_iff_toInt_lt] at h; omega
theorem own_f5 {u w : Int32} {z lo : Int} (h : ¬ u = w) (hl : lo ≤ u.toInt) (hz : w.toInt = lo ∧ z = lo + 1) : z ≤ u.toInt := by
  have : u.toInt ≠ w.toInt := fun q => h (own_i32 q)
  omega
theorem own_f6 {u w : Int32} {z hi : Int} (h : ¬ u = w) (hl : u.toInt ≤ hi) (hz : w.toInt = hi ∧ z = hi - 1) : u.toInt ≤ z := by
  have : u.toInt ≠ w.toInt := fun q => h (own_i32 q)
  omega
theorem own_i2c {v : Int32} {lo hi : Int} (h1 : lo ≤ v.toInt) (h2 : v.toInt ≤ hi) (h3 : 0 ≤ lo) (h4 : hi ≤ 65535) : v.toUInt32.toUInt16.toUInt32.toInt32 = v := by
  have h := c_i2c v
  apply own_i32
  omega
theorem own_narC {v : Int32} {lo hi : Int} (h1 : lo ≤ v.toInt) (h2 : v.toInt ≤ hi) (h3 : 0 ≤ lo) (h4 : hi ≤ 65535) : nar .char v = v := own_i2c h1 h2 h3 h4
theorem own_ch {v : Int32} {lo hi : Int} (h1 : lo ≤ v.toInt) (h2 : v.toInt ≤ hi) (h3 : 0 ≤ lo) (h4 : hi ≤ 255) : ¬ v < 0 ∧ ¬ (255 : Int32) < v := ⟨own_r2 h1 h3, own_r4 h2 h4⟩
theorem own_rem {x y : Int32} {d : Int} (hy : y.toInt = d + 1) (hd : 0 < d + 1) (hx : 0 ≤ x.toInt) : 0 ≤ (x % y).toInt ∧ (x % y).toInt ≤ d := by
  have h := (c_irem x y (d + 1) hy).1 hx
  rw [h]
  have := Int.emod_nonneg x.toInt (show d + 1 ≠ 0 by omega)
  have := Int.emod_lt_of_pos x.toInt hd
  omega
theorem own_ne {a b : Addr} {h : Heap} (h1 : a < h.size) (h2 : b = h.size) : a ≠ b := fun q => by subst q; subst h2; exact Nat.lt_irrefl _ h1
theorem own_ge {Z : State} {n0 : Nat} {h : Heap} {a : Addr} (O : Old Z n0 h) (g : a = h.size) : n0 ≤ a := by rw [g, ← O.1]; exact O.2.1
theorem own_szO {Z : State} {n0 : Nat} {h : Heap} (O : Old Z n0 h) : n0 ≤ h.size := by rw [← O.1]; exact O.2.1
theorem own_sz {h h' : Heap} {a : Addr} (q : h.size ≤ h'.size) (g : a = h'.size) : h.size ≤ a := g ▸ q
theorem own_neO {Z : State} {n0 : Nat} {h : Heap} {a b : Addr} (q : a < Z.heap.size) (O : Old Z n0 h) (r : n0 ≤ b) : a ≠ b := O.ne q r
theorem own_sta {s : State} {args : Array Value} {C n d K : String} (h : (Jvm.Cond.exactly (.static C n d) K).value args s none s [] = some true) (hi : (Jvm.Cond.initializedFor C n d).before args s = true ∨ ((Jvm.Cond.initialized C).before args s = true ∧ (Jvm.Cond.laysStatic C n d).before args s = true)) : ∃ a, (Term.static C n d).eval args s none [] s = some (.ref a) ∧ Sta s s.heap C n d (.ref a) ∧ Exa s s.heap a K := by
  obtain ⟨a, ev⟩ := exa_v h
  exact ⟨a, ev, Sta.start ev hi, Exa.start ev h⟩
theorem own_fldI {s : State} {args : Array Value} {t : Term} {C n d : String} {v : Int32} {a : Addr} (ev : t.eval args s none [] s = some (.ref a)) (h : (Jvm.Cond.eq (.field t C n d) (.int v)).value args s none s [] = some true) : Fld s s.heap a C n d (.int v) := by
  apply Fld.start
  cases hf : s.fieldOf? a C n d with
  | none => simp [Cond.value, Term.eval, ev, hf] at h
  | some x => cases x <;> simp [Cond.value, Term.eval, ev, hf] at h; subst h; rfl
theorem own_fldN {s : State} {args : Array Value} {t : Term} {C n d : String} {a : Addr} (ev : t.eval args s none [] s = some (.ref a)) (h : (Jvm.Cond.eq (.field t C n d) .null).value args s none s [] = some true) : Fld s s.heap a C n d .null := by
  apply Fld.start
  have := null_v h
  rw [fld_at ev] at this
  exact this
theorem own_fldR {s : State} {args : Array Value} {t : Term} {C n d K : String} {a : Addr} (ev : t.eval args s none [] s = some (.ref a)) (h : (Jvm.Cond.exactly (.field t C n d) K).value args s none s [] = some true) : ∃ b, (Term.field t C n d).eval args s none [] s = some (.ref b) ∧ Fld s s.heap a C n d (.ref b) ∧ Exa s s.heap b K := by
  obtain ⟨b, e2⟩ := exa_v h
  refine ⟨b, e2, Fld.start ?_, Exa.start e2 h⟩
  rw [← fld_at ev]; exact e2
theorem own_split18 {v : Int32} (h1 : 0 ≤ v.toInt) (h2 : v.toInt < 18) : v = 0 ∨ v = 1 ∨ v = 2 ∨ v = 3 ∨ v = 4 ∨ v = 5 ∨ v = 6 ∨ v = 7 ∨ v = 8 ∨ v = 9 ∨ v = 10 ∨ v = 11 ∨ v = 12 ∨ v = 13 ∨ v = 14 ∨ v = 15 ∨ v = 16 ∨ v = 17 := by
  have h : v.toInt = 0 ∨ v.toInt = 1 ∨ v.toInt = 2 ∨ v.toInt = 3 ∨ v.toInt = 4 ∨ v.toInt = 5 ∨ v.toInt = 6 ∨ v.toInt = 7 ∨ v.toInt = 8 ∨ v.toInt = 9 ∨ v.toInt = 10 ∨ v.toInt = 11 ∨ v.toInt = 12 ∨ v.toInt = 13 ∨ v.toInt = 14 ∨ v.toInt = 15 ∨ v.toInt = 16 ∨ v.toInt = 17 := by omega
  rcases h with h | h | h | h | h | h | h | h | h | h | h | h | h | h | h | h | h | h
  · exact Or.inl (own_i32 h)
  · exact Or.inr (Or.inl (own_i32 h))
  · exact Or.inr (Or.inr (Or.inl (own_i32 h)))
  · exact Or.inr (Or.inr (Or.inr (Or.inl (own_i32 h))))
  · exact Or.inr (Or.inr (Or.inr (Or.inr (Or.inl (own_i32 h)))))
  · exact Or.inr (Or.inr (Or.inr (Or.inr (Or.inr (Or.inl (own_i32 h))))))
  · exact Or.inr (Or.inr (Or.inr (Or.inr (Or.inr (Or.inr (Or.inl (own_i32 h)))))))
  · exact Or.inr (Or.inr (Or.inr (Or.inr (Or.inr (Or.inr (Or.inr (Or.inl (own_i32 h))))))))
  · exact Or.inr (Or.inr (Or.inr (Or.inr (Or.inr (Or.inr (Or.inr (Or.inr (Or.inl (own_i32 h)))))))))
  · exact Or.inr (Or.inr (Or.inr (Or.inr (Or.inr (Or.inr (Or.inr (Or.inr (Or.inr (Or.inl (own_i32 h))))))))))
  · exact Or.inr (Or.inr (Or.inr (Or.inr (Or.inr (Or.inr (Or.inr (Or.inr (Or.inr (Or.inr (Or.inl (own_i32 h)))))))))))
  · exact Or.inr (Or.inr (Or.inr (Or.inr (Or.inr (Or.inr (Or.inr (Or.inr (Or.inr (Or.inr (Or.inr (Or.inl (own_i32 h))))))))))))
  · exact Or.inr (Or.inr (Or.inr (Or.inr (Or.inr (Or.inr (Or.inr (Or.inr (Or.inr (Or.inr (Or.inr (Or.inr (Or.inl (own_i32 h)))))))))))))
  · exact Or.inr (Or.inr (Or.inr (Or.inr (Or.inr (Or.inr (Or.inr (Or.inr (Or.inr (Or.inr (Or.inr (Or.inr (Or.inr (Or.inl (own_i32 h))))))))))))))
  · exact Or.inr (Or.inr (Or.inr (Or.inr (Or.inr (Or.inr (Or.inr (Or.inr (Or.inr (Or.inr (Or.inr (Or.inr (Or.inr (Or.inr (Or.inl (own_i32 h)))))))))))))))
  · exact Or.inr (Or.inr (Or.inr (Or.inr (Or.inr (Or.inr (Or.inr (Or.inr (Or.inr (Or.inr (Or.inr (Or.inr (Or.inr (Or.inr (Or.inr (Or.inl (own_i32 h))))))))))))))))
  · exact Or.inr (Or.inr (Or.inr (Or.inr (Or.inr (Or.inr (Or.inr (Or.inr (Or.inr (Or.inr (Or.inr (Or.inr (Or.inr (Or.inr (Or.inr (Or.inr (Or.inl (own_i32 h)))))))))))))))))
  · exact Or.inr (Or.inr (Or.inr (Or.inr (Or.inr (Or.inr (Or.inr (Or.inr (Or.inr (Or.inr (Or.inr (Or.inr (Or.inr (Or.inr (Or.inr (Or.inr (Or.inr (own_i32 h)))))))))))))))))
theorem own_m18 (x : Int32) : (x &&& 2147483647) % 18 = 0 ∨ (x &&& 2147483647) % 18 = 1 ∨ (x &&& 2147483647) % 18 = 2 ∨ (x &&& 2147483647) % 18 = 3 ∨ (x &&& 2147483647) % 18 = 4 ∨ (x &&& 2147483647) % 18 = 5 ∨ (x &&& 2147483647) % 18 = 6 ∨ (x &&& 2147483647) % 18 = 7 ∨ (x &&& 2147483647) % 18 = 8 ∨ (x &&& 2147483647) % 18 = 9 ∨ (x &&& 2147483647) % 18 = 10 ∨ (x &&& 2147483647) % 18 = 11 ∨ (x &&& 2147483647) % 18 = 12 ∨ (x &&& 2147483647) % 18 = 13 ∨ (x &&& 2147483647) % 18 = 14 ∨ (x &&& 2147483647) % 18 = 15 ∨ (x &&& 2147483647) % 18 = 16 ∨ (x &&& 2147483647) % 18 = 17 := by
  have h := c_and x 2147483647 (by decide)
  have h2 := (c_irem (x &&& 2147483647) 18 18 (by decide)).1 h.1
  exact own_split18 (by omega) (by omega)
def Wd (Z : State) (a_EQUALS : Addr) (a_IS_NULL : Addr) (a_GREATER_THAN_EQUAL : Addr) (a_GREATER_THAN : Addr) (a_NOT : Addr) (a_IS_NOT_NULL : Addr) (a_TRUE : Addr) (a_LESS_THAN : Addr) (a_FALSE : Addr) (a_LIKE : Addr) (a_CONTAINING : Addr) (a_NOT_IN : Addr) (a_STARTING_WITH : Addr) (a_BETWEEN : Addr) (a_NOT_LIKE : Addr) (a_ENDING_WITH : Addr) (a_LESS_THAN_EQUAL : Addr) (a_IN : Addr) : Prop := Sta Z Z.heap "com/example/sober_repository/soberrepository/DerivedName$Operator" "EQUALS" "Lcom/example/sober_repository/soberrepository/DerivedName$Operator;" (.ref a_EQUALS) ∧ Exa Z Z.heap a_EQUALS "com/example/sober_repository/soberrepository/DerivedName$Operator" ∧ Sta Z Z.heap "com/example/sober_repository/soberrepository/DerivedName$Operator" "IS_NULL" "Lcom/example/sober_repository/soberrepository/DerivedName$Operator;" (.ref a_IS_NULL) ∧ Exa Z Z.heap a_IS_NULL "com/example/sober_repository/soberrepository/DerivedName$Operator" ∧ Fld Z Z.heap a_EQUALS "java/lang/Enum" "ordinal" "I" (.int (0 : Int32)) ∧ Fld Z Z.heap a_IS_NULL "java/lang/Enum" "ordinal" "I" (.int (7 : Int32)) ∧ Sta Z Z.heap "com/example/sober_repository/soberrepository/DerivedName$Operator" "GREATER_THAN_EQUAL" "Lcom/example/sober_repository/soberrepository/DerivedName$Operator;" (.ref a_GREATER_THAN_EQUAL) ∧ Exa Z Z.heap a_GREATER_THAN_EQUAL "com/example/sober_repository/soberrepository/DerivedName$Operator" ∧ Fld Z Z.heap a_GREATER_THAN_EQUAL "java/lang/Enum" "ordinal" "I" (.int (3 : Int32)) ∧ Sta Z Z.heap "com/example/sober_repository/soberrepository/DerivedName$Operator" "GREATER_THAN" "Lcom/example/sober_repository/soberrepository/DerivedName$Operator;" (.ref a_GREATER_THAN) ∧ Exa Z Z.heap a_GREATER_THAN "com/example/sober_repository/soberrepository/DerivedName$Operator" ∧ Fld Z Z.heap a_GREATER_THAN "java/lang/Enum" "ordinal" "I" (.int (2 : Int32)) ∧ Sta Z Z.heap "com/example/sober_repository/soberrepository/DerivedName$Operator" "NOT" "Lcom/example/sober_repository/soberrepository/DerivedName$Operator;" (.ref a_NOT) ∧ Exa Z Z.heap a_NOT "com/example/sober_repository/soberrepository/DerivedName$Operator" ∧ Sta Z Z.heap "com/example/sober_repository/soberrepository/DerivedName$Operator" "IS_NOT_NULL" "Lcom/example/sober_repository/soberrepository/DerivedName$Operator;" (.ref a_IS_NOT_NULL) ∧ Exa Z Z.heap a_IS_NOT_NULL "com/example/sober_repository/soberrepository/DerivedName$Operator" ∧ Fld Z Z.heap a_NOT "java/lang/Enum" "ordinal" "I" (.int (1 : Int32)) ∧ Fld Z Z.heap a_IS_NOT_NULL "java/lang/Enum" "ordinal" "I" (.int (8 : Int32)) ∧ Sta Z Z.heap "com/example/sober_repository/soberrepository/DerivedName$Operator" "TRUE" "Lcom/example/sober_repository/soberrepository/DerivedName$Operator;" (.ref a_TRUE) ∧ Exa Z Z.heap a_TRUE "com/example/sober_repository/soberrepository/DerivedName$Operator" ∧ Fld Z Z.heap a_TRUE "java/lang/Enum" "ordinal" "I" (.int (11 : Int32)) ∧ Sta Z Z.heap "com/example/sober_repository/soberrepository/DerivedName$Operator" "LESS_THAN" "Lcom/example/sober_repository/soberrepository/DerivedName$Operator;" (.ref a_LESS_THAN) ∧ Exa Z Z.heap a_LESS_THAN "com/example/sober_repository/soberrepository/DerivedName$Operator" ∧ Fld Z Z.heap a_LESS_THAN "java/lang/Enum" "ordinal" "I" (.int (4 : Int32)) ∧ Sta Z Z.heap "com/example/sober_repository/soberrepository/DerivedName$Operator" "FALSE" "Lcom/example/sober_repository/soberrepository/DerivedName$Operator;" (.ref a_FALSE) ∧ Exa Z Z.heap a_FALSE "com/example/sober_repository/soberrepository/DerivedName$Operator" ∧ Fld Z Z.heap a_FALSE "java/lang/Enum" "ordinal" "I" (.int (12 : Int32)) ∧ Sta Z Z.heap "com/example/sober_repository/soberrepository/DerivedName$Operator" "LIKE" "Lcom/example/sober_repository/soberrepository/DerivedName$Operator;" (.ref a_LIKE) ∧ Exa Z Z.heap a_LIKE "com/example/sober_repository/soberrepository/DerivedName$Operator" ∧ Fld Z Z.heap a_LIKE "java/lang/Enum" "ordinal" "I" (.int (16 : Int32)) ∧ Sta Z Z.heap "com/example/sober_repository/soberrepository/DerivedName$Operator" "CONTAINING" "Lcom/example/sober_repository/soberrepository/DerivedName$Operator;" (.ref a_CONTAINING) ∧ Exa Z Z.heap a_CONTAINING "com/example/sober_repository/soberrepository/DerivedName$Operator" ∧ Fld Z Z.heap a_CONTAINING "java/lang/Enum" "ordinal" "I" (.int (15 : Int32)) ∧ Sta Z Z.heap "com/example/sober_repository/soberrepository/DerivedName$Operator" "NOT_IN" "Lcom/example/sober_repository/soberrepository/DerivedName$Operator;" (.ref a_NOT_IN) ∧ Exa Z Z.heap a_NOT_IN "com/example/sober_repository/soberrepository/DerivedName$Operator" ∧ Fld Z Z.heap a_NOT_IN "java/lang/Enum" "ordinal" "I" (.int (10 : Int32)) ∧ Sta Z Z.heap "com/example/sober_repository/soberrepository/DerivedName$Operator" "STARTING_WITH" "Lcom/example/sober_repository/soberrepository/DerivedName$Operator;" (.ref a_STARTING_WITH) ∧ Exa Z Z.heap a_STARTING_WITH "com/example/sober_repository/soberrepository/DerivedName$Operator" ∧ Fld Z Z.heap a_STARTING_WITH "java/lang/Enum" "ordinal" "I" (.int (13 : Int32)) ∧ Sta Z Z.heap "com/example/sober_repository/soberrepository/DerivedName$Operator" "BETWEEN" "Lcom/example/sober_repository/soberrepository/DerivedName$Operator;" (.ref a_BETWEEN) ∧ Exa Z Z.heap a_BETWEEN "com/example/sober_repository/soberrepository/DerivedName$Operator" ∧ Fld Z Z.heap a_BETWEEN "java/lang/Enum" "ordinal" "I" (.int (6 : Int32)) ∧ Sta Z Z.heap "com/example/sober_repository/soberrepository/DerivedName$Operator" "NOT_LIKE" "Lcom/example/sober_repository/soberrepository/DerivedName$Operator;" (.ref a_NOT_LIKE) ∧ Exa Z Z.heap a_NOT_LIKE "com/example/sober_repository/soberrepository/DerivedName$Operator" ∧ Fld Z Z.heap a_NOT_LIKE "java/lang/Enum" "ordinal" "I" (.int (17 : Int32)) ∧ Sta Z Z.heap "com/example/sober_repository/soberrepository/DerivedName$Operator" "ENDING_WITH" "Lcom/example/sober_repository/soberrepository/DerivedName$Operator;" (.ref a_ENDING_WITH) ∧ Exa Z Z.heap a_ENDING_WITH "com/example/sober_repository/soberrepository/DerivedName$Operator" ∧ Fld Z Z.heap a_ENDING_WITH "java/lang/Enum" "ordinal" "I" (.int (14 : Int32)) ∧ Sta Z Z.heap "com/example/sober_repository/soberrepository/DerivedName$Operator" "LESS_THAN_EQUAL" "Lcom/example/sober_repository/soberrepository/DerivedName$Operator;" (.ref a_LESS_THAN_EQUAL) ∧ Exa Z Z.heap a_LESS_THAN_EQUAL "com/example/sober_repository/soberrepository/DerivedName$Operator" ∧ Fld Z Z.heap a_LESS_THAN_EQUAL "java/lang/Enum" "ordinal" "I" (.int (5 : Int32)) ∧ Sta Z Z.heap "com/example/sober_repository/soberrepository/DerivedName$Operator" "IN" "Lcom/example/sober_repository/soberrepository/DerivedName$Operator;" (.ref a_IN) ∧ Exa Z Z.heap a_IN "com/example/sober_repository/soberrepository/DerivedName$Operator" ∧ Fld Z Z.heap a_IN "java/lang/Enum" "ordinal" "I" (.int (9 : Int32))
theorem w7 {Z : State} {a0 : Array Value} (hw : ∀ d ∈ tables_1, d.before a0 Z = true) : (Jvm.Cond.initialized "com/example/sober_repository/soberrepository/DerivedName$Operator").before a0 Z = true := hw _ (List.mem_of_getElem? (i := 7) rfl)
theorem w8 {Z : State} {a0 : Array Value} (hw : ∀ d ∈ tables_1, d.before a0 Z = true) : (Jvm.Cond.laysStatic "com/example/sober_repository/soberrepository/DerivedName$Operator" "EQUALS" "Lcom/example/sober_repository/soberrepository/DerivedName$Operator;").before a0 Z = true := hw _ (List.mem_of_getElem? (i := 8) rfl)
theorem w10 {Z : State} {a0 : Array Value} (hw : ∀ d ∈ tables_1, d.before a0 Z = true) : (Jvm.Cond.laysStatic "com/example/sober_repository/soberrepository/DerivedName$Operator" "IS_NULL" "Lcom/example/sober_repository/soberrepository/DerivedName$Operator;").before a0 Z = true := hw _ (List.mem_of_getElem? (i := 10) rfl)
theorem w27 {Z : State} {a0 : Array Value} (hw : ∀ d ∈ tables_1, d.before a0 Z = true) : (Jvm.Cond.laysStatic "com/example/sober_repository/soberrepository/DerivedName$Operator" "GREATER_THAN_EQUAL" "Lcom/example/sober_repository/soberrepository/DerivedName$Operator;").before a0 Z = true := hw _ (List.mem_of_getElem? (i := 27) rfl)
theorem w29 {Z : State} {a0 : Array Value} (hw : ∀ d ∈ tables_1, d.before a0 Z = true) : (Jvm.Cond.laysStatic "com/example/sober_repository/soberrepository/DerivedName$Operator" "GREATER_THAN" "Lcom/example/sober_repository/soberrepository/DerivedName$Operator;").before a0 Z = true := hw _ (List.mem_of_getElem? (i := 29) rfl)
theorem w31 {Z : State} {a0 : Array Value} (hw : ∀ d ∈ tables_1, d.before a0 Z = true) : (Jvm.Cond.laysStatic "com/example/sober_repository/soberrepository/DerivedName$Operator" "NOT" "Lcom/example/sober_repository/soberrepository/DerivedName$Operator;").before a0 Z = true := hw _ (List.mem_of_getElem? (i := 31) rfl)
theorem w33 {Z : State} {a0 : Array Value} (hw : ∀ d ∈ tables_1, d.before a0 Z = true) : (Jvm.Cond.laysStatic "com/example/sober_repository/soberrepository/DerivedName$Operator" "IS_NOT_NULL" "Lcom/example/sober_repository/soberrepository/DerivedName$Operator;").before a0 Z = true := hw _ (List.mem_of_getElem? (i := 33) rfl)
theorem w36 {Z : State} {a0 : Array Value} (hw : ∀ d ∈ tables_1, d.before a0 Z = true) : (Jvm.Cond.laysStatic "com/example/sober_repository/soberrepository/DerivedName$Operator" "TRUE" "Lcom/example/sober_repository/soberrepository/DerivedName$Operator;").before a0 Z = true := hw _ (List.mem_of_getElem? (i := 36) rfl)
theorem w38 {Z : State} {a0 : Array Value} (hw : ∀ d ∈ tables_1, d.before a0 Z = true) : (Jvm.Cond.laysStatic "com/example/sober_repository/soberrepository/DerivedName$Operator" "LESS_THAN" "Lcom/example/sober_repository/soberrepository/DerivedName$Operator;").before a0 Z = true := hw _ (List.mem_of_getElem? (i := 38) rfl)
theorem w40 {Z : State} {a0 : Array Value} (hw : ∀ d ∈ tables_1, d.before a0 Z = true) : (Jvm.Cond.laysStatic "com/example/sober_repository/soberrepository/DerivedName$Operator" "FALSE" "Lcom/example/sober_repository/soberrepository/DerivedName$Operator;").before a0 Z = true := hw _ (List.mem_of_getElem? (i := 40) rfl)
theorem w42 {Z : State} {a0 : Array Value} (hw : ∀ d ∈ tables_1, d.before a0 Z = true) : (Jvm.Cond.laysStatic "com/example/sober_repository/soberrepository/DerivedName$Operator" "LIKE" "Lcom/example/sober_repository/soberrepository/DerivedName$Operator;").before a0 Z = true := hw _ (List.mem_of_getElem? (i := 42) rfl)
theorem w44 {Z : State} {a0 : Array Value} (hw : ∀ d ∈ tables_1, d.before a0 Z = true) : (Jvm.Cond.laysStatic "com/example/sober_repository/soberrepository/DerivedName$Operator" "CONTAINING" "Lcom/example/sober_repository/soberrepository/DerivedName$Operator;").before a0 Z = true := hw _ (List.mem_of_getElem? (i := 44) rfl)
theorem w46 {Z : State} {a0 : Array Value} (hw : ∀ d ∈ tables_1, d.before a0 Z = true) : (Jvm.Cond.laysStatic "com/example/sober_repository/soberrepository/DerivedName$Operator" "NOT_IN" "Lcom/example/sober_repository/soberrepository/DerivedName$Operator;").before a0 Z = true := hw _ (List.mem_of_getElem? (i := 46) rfl)
theorem w48 {Z : State} {a0 : Array Value} (hw : ∀ d ∈ tables_1, d.before a0 Z = true) : (Jvm.Cond.laysStatic "com/example/sober_repository/soberrepository/DerivedName$Operator" "STARTING_WITH" "Lcom/example/sober_repository/soberrepository/DerivedName$Operator;").before a0 Z = true := hw _ (List.mem_of_getElem? (i := 48) rfl)
theorem w50 {Z : State} {a0 : Array Value} (hw : ∀ d ∈ tables_1, d.before a0 Z = true) : (Jvm.Cond.laysStatic "com/example/sober_repository/soberrepository/DerivedName$Operator" "BETWEEN" "Lcom/example/sober_repository/soberrepository/DerivedName$Operator;").before a0 Z = true := hw _ (List.mem_of_getElem? (i := 50) rfl)
theorem w52 {Z : State} {a0 : Array Value} (hw : ∀ d ∈ tables_1, d.before a0 Z = true) : (Jvm.Cond.laysStatic "com/example/sober_repository/soberrepository/DerivedName$Operator" "NOT_LIKE" "Lcom/example/sober_repository/soberrepository/DerivedName$Operator;").before a0 Z = true := hw _ (List.mem_of_getElem? (i := 52) rfl)
theorem w54 {Z : State} {a0 : Array Value} (hw : ∀ d ∈ tables_1, d.before a0 Z = true) : (Jvm.Cond.laysStatic "com/example/sober_repository/soberrepository/DerivedName$Operator" "ENDING_WITH" "Lcom/example/sober_repository/soberrepository/DerivedName$Operator;").before a0 Z = true := hw _ (List.mem_of_getElem? (i := 54) rfl)
theorem w56 {Z : State} {a0 : Array Value} (hw : ∀ d ∈ tables_1, d.before a0 Z = true) : (Jvm.Cond.laysStatic "com/example/sober_repository/soberrepository/DerivedName$Operator" "LESS_THAN_EQUAL" "Lcom/example/sober_repository/soberrepository/DerivedName$Operator;").before a0 Z = true := hw _ (List.mem_of_getElem? (i := 56) rfl)
theorem w58 {Z : State} {a0 : Array Value} (hw : ∀ d ∈ tables_1, d.before a0 Z = true) : (Jvm.Cond.laysStatic "com/example/sober_repository/soberrepository/DerivedName$Operator" "IN" "Lcom/example/sober_repository/soberrepository/DerivedName$Operator;").before a0 Z = true := hw _ (List.mem_of_getElem? (i := 58) rfl)
theorem w0 {Z : State} {a0 : Array Value} (hw : ∀ d ∈ tables_1, d.before a0 Z = true) : (Jvm.Cond.arrayClass Jvm.ClassFile.FieldType.int).before a0 Z = true := hw _ (List.mem_of_getElem? (i := 0) rfl)
theorem w1 {Z : State} {a0 : Array Value} (hw : ∀ d ∈ tables_1, d.before a0 Z = true) : (Jvm.Cond.constant "com/example/sober_repository/soberrepository/OperatorForNullPinLaw" (64 : Nat) (2147483647 : Int32)).before a0 Z = true := hw _ (List.mem_of_getElem? (i := 1) rfl)
theorem w2 {Z : State} {a0 : Array Value} (hw : ∀ d ∈ tables_1, d.before a0 Z = true) : (Jvm.Cond.methodLink "com/example/sober_repository/soberrepository/OperatorForNullPinLaw" (65 : Nat) ({ cls := "com/example/sober_repository/soberrepository/OperatorForNullPinLaw", name := "pick", desc := "(I)Lcom/example/sober_repository/soberrepository/DerivedName$Operator;" } : Jvm.MethodName)).before a0 Z = true := hw _ (List.mem_of_getElem? (i := 2) rfl)
theorem d1_0 : decode method_2_code 0 = .ok (.iload_n 0, 1) := by decide +kernel
theorem d1_1 : decode method_2_code 1 = .ok (.ifCond .ne 7, 3) := by decide +kernel
theorem d1_4 : decode method_2_code 4 = .ok (.getstatic 7, 3) := by decide +kernel
theorem w6 {Z : State} {a0 : Array Value} (hw : ∀ d ∈ tables_1, d.before a0 Z = true) : (Jvm.Cond.fieldLink "com/example/sober_repository/soberrepository/OperatorForNullPinLaw" (7 : Nat) "com/example/sober_repository/soberrepository/DerivedName$Operator" "EQUALS" "Lcom/example/sober_repository/soberrepository/DerivedName$Operator;").before a0 Z = true := hw _ (List.mem_of_getElem? (i := 6) rfl)
theorem d1_7 : decode method_2_code 7 = .ok (.areturn, 1) := by decide +kernel
theorem pn_4 : plainName "com/example/sober_repository/soberrepository/OperatorForNullPinLaw" = true := by first | (simp [plainName, overriddenIn]; done) | decide +kernel
theorem w5 {Z : State} {a0 : Array Value} (hw : ∀ d ∈ tables_1, d.before a0 Z = true) : (Jvm.Cond.code ({ cls := "com/example/sober_repository/soberrepository/OperatorForNullPinLaw", name := "pick", desc := "(I)Lcom/example/sober_repository/soberrepository/DerivedName$Operator;" } : Jvm.MethodName) method_2_code (1 : Nat) (Option.some (Jvm.ClassFile.FieldType.object "com/example/sober_repository/soberrepository/DerivedName$Operator"))).before a0 Z = true := hw _ (List.mem_of_getElem? (i := 5) rfl)
theorem w4 {Z : State} {a0 : Array Value} (hw : ∀ d ∈ tables_1, d.before a0 Z = true) : (Jvm.Cond.initialized "com/example/sober_repository/soberrepository/OperatorForNullPinLaw").before a0 Z = true := hw _ (List.mem_of_getElem? (i := 4) rfl)
theorem pd_5 : parseMethodDescriptor "(I)Lcom/example/sober_repository/soberrepository/DerivedName$Operator;" = some ⟨[.int], some (.object "com/example/sober_repository/soberrepository/DerivedName$Operator")⟩ := by decide +kernel
theorem w3 {Z : State} {a0 : Array Value} (hw : ∀ d ∈ tables_1, d.before a0 Z = true) : (Jvm.Cond.static ({ cls := "com/example/sober_repository/soberrepository/OperatorForNullPinLaw", name := "pick", desc := "(I)Lcom/example/sober_repository/soberrepository/DerivedName$Operator;" } : Jvm.MethodName)).before a0 Z = true := hw _ (List.mem_of_getElem? (i := 3) rfl)
theorem d1_8 : decode method_2_code 8 = .ok (.iload_n 0, 1) := by decide +kernel
theorem d1_9 : decode method_2_code 9 = .ok (.iconst 1, 1) := by decide +kernel
theorem d1_10 : decode method_2_code 10 = .ok (.if_icmp .ne 7, 3) := by decide +kernel
theorem d1_17 : decode method_2_code 17 = .ok (.iload_n 0, 1) := by decide +kernel
theorem d1_18 : decode method_2_code 18 = .ok (.iconst 2, 1) := by decide +kernel
theorem d1_19 : decode method_2_code 19 = .ok (.if_icmp .ne 7, 3) := by decide +kernel
theorem d1_26 : decode method_2_code 26 = .ok (.iload_n 0, 1) := by decide +kernel
theorem d1_27 : decode method_2_code 27 = .ok (.iconst 3, 1) := by decide +kernel
theorem d1_28 : decode method_2_code 28 = .ok (.if_icmp .ne 7, 3) := by decide +kernel
theorem d1_35 : decode method_2_code 35 = .ok (.iload_n 0, 1) := by decide +kernel
theorem d1_36 : decode method_2_code 36 = .ok (.iconst 4, 1) := by decide +kernel
theorem d1_37 : decode method_2_code 37 = .ok (.if_icmp .ne 7, 3) := by decide +kernel
theorem d1_44 : decode method_2_code 44 = .ok (.iload_n 0, 1) := by decide +kernel
theorem d1_45 : decode method_2_code 45 = .ok (.iconst 5, 1) := by decide +kernel
theorem d1_46 : decode method_2_code 46 = .ok (.if_icmp .ne 7, 3) := by decide +kernel
theorem d1_53 : decode method_2_code 53 = .ok (.iload_n 0, 1) := by decide +kernel
theorem d1_54 : decode method_2_code 54 = .ok (.bipush 6, 2) := by decide +kernel
theorem d1_56 : decode method_2_code 56 = .ok (.if_icmp .ne 7, 3) := by decide +kernel
theorem d1_63 : decode method_2_code 63 = .ok (.iload_n 0, 1) := by decide +kernel
theorem d1_64 : decode method_2_code 64 = .ok (.bipush 7, 2) := by decide +kernel
theorem d1_66 : decode method_2_code 66 = .ok (.if_icmp .ne 7, 3) := by decide +kernel
theorem d1_69 : decode method_2_code 69 = .ok (.getstatic 31, 3) := by decide +kernel
theorem w9 {Z : State} {a0 : Array Value} (hw : ∀ d ∈ tables_1, d.before a0 Z = true) : (Jvm.Cond.fieldLink "com/example/sober_repository/soberrepository/OperatorForNullPinLaw" (31 : Nat) "com/example/sober_repository/soberrepository/DerivedName$Operator" "IS_NULL" "Lcom/example/sober_repository/soberrepository/DerivedName$Operator;").before a0 Z = true := hw _ (List.mem_of_getElem? (i := 9) rfl)
theorem d1_72 : decode method_2_code 72 = .ok (.areturn, 1) := by decide +kernel
theorem w11 {Z : State} {a0 : Array Value} (hw : ∀ d ∈ tables_1, d.before a0 Z = true) : (Jvm.Cond.methodLink "com/example/sober_repository/soberrepository/OperatorForNullPinLaw" (71 : Nat) ({ cls := "com/example/sober_repository/soberrepository/DerivedName$Operator", name := "forNull", desc := "()Lcom/example/sober_repository/soberrepository/DerivedName$Operator;" } : Jvm.MethodName)).before a0 Z = true := hw _ (List.mem_of_getElem? (i := 11) rfl)
theorem d2_0 : decode prog_12_method_8_code 0 = .ok (.aload_n 0, 1) := by decide +kernel
theorem d2_1 : decode prog_12_method_8_code 1 = .ok (.invokevirtual 102, 3) := by decide +kernel
theorem w16 {Z : State} {a0 : Array Value} (hw : ∀ d ∈ tables_1, d.before a0 Z = true) : (Jvm.Cond.methodLink "com/example/sober_repository/soberrepository/DerivedName$Operator" (102 : Nat) ({ cls := "com/example/sober_repository/soberrepository/DerivedName$Operator", name := "ordinal", desc := "()I" } : Jvm.MethodName)).before a0 Z = true := hw _ (List.mem_of_getElem? (i := 16) rfl)
theorem d3_0 : decode jdk_37_method_2_code 0 = .ok (.aload_n 0, 1) := by decide +kernel
theorem d3_1 : decode jdk_37_method_2_code 1 = .ok (.getfield 7, 3) := by decide +kernel
theorem w23 {Z : State} {a0 : Array Value} (hw : ∀ d ∈ tables_1, d.before a0 Z = true) : (Jvm.Cond.fieldLink "java/lang/Enum" (7 : Nat) "java/lang/Enum" "ordinal" "I").before a0 Z = true := hw _ (List.mem_of_getElem? (i := 23) rfl)
theorem d3_4 : decode jdk_37_method_2_code 4 = .ok (.ireturn, 1) := by decide +kernel
theorem pn_34 : plainName "java/lang/Enum" = true := by first | (simp [plainName, overriddenIn]; done) | decide +kernel
theorem w22 {Z : State} {a0 : Array Value} (hw : ∀ d ∈ tables_1, d.before a0 Z = true) : (Jvm.Cond.code ({ cls := "java/lang/Enum", name := "ordinal", desc := "()I" } : Jvm.MethodName) jdk_37_method_2_code (1 : Nat) (Option.some Jvm.ClassFile.FieldType.int)).before a0 Z = true := hw _ (List.mem_of_getElem? (i := 22) rfl)
theorem w21 {Z : State} {a0 : Array Value} (hw : ∀ d ∈ tables_1, d.before a0 Z = true) : (Jvm.Cond.initialized "java/lang/Enum").before a0 Z = true := hw _ (List.mem_of_getElem? (i := 21) rfl)
theorem pd_35 : parseMethodDescriptor "()I" = some ⟨[], some .int⟩ := by decide +kernel
theorem w17 {Z : State} {a0 : Array Value} (hw : ∀ d ∈ tables_1, d.before a0 Z = true) : (Jvm.Cond.sameMethod "com/example/sober_repository/soberrepository/DerivedName$Operator" "java/lang/Enum" "ordinal" "()I").before a0 Z = true := hw _ (List.mem_of_getElem? (i := 17) rfl)
theorem w18 {Z : State} {a0 : Array Value} (hw : ∀ d ∈ tables_1, d.before a0 Z = true) : (Jvm.Cond.declares ({ cls := "java/lang/Enum", name := "ordinal", desc := "()I" } : Jvm.MethodName)).before a0 Z = true := hw _ (List.mem_of_getElem? (i := 18) rfl)
theorem w20 {Z : State} {a0 : Array Value} (hw : ∀ d ∈ tables_1, d.before a0 Z = true) : (Jvm.Cond.selects "com/example/sober_repository/soberrepository/DerivedName$Operator" ({ cls := "com/example/sober_repository/soberrepository/DerivedName$Operator", name := "ordinal", desc := "()I" } : Jvm.MethodName) ({ cls := "java/lang/Enum", name := "ordinal", desc := "()I" } : Jvm.MethodName)).before a0 Z = true := hw _ (List.mem_of_getElem? (i := 20) rfl)
theorem w19 {Z : State} {a0 : Array Value} (hw : ∀ d ∈ tables_1, d.before a0 Z = true) : (Jvm.Cond.instanceMethod ({ cls := "java/lang/Enum", name := "ordinal", desc := "()I" } : Jvm.MethodName)).before a0 Z = true := hw _ (List.mem_of_getElem? (i := 19) rfl)
theorem d2_4 : decode prog_12_method_8_code 4 = .ok (.lookupswitch 42 #[(0, 28), (1, 35)], 28) := by decide +kernel
theorem d2_32 : decode prog_12_method_8_code 32 = .ok (.getstatic 25, 3) := by decide +kernel
theorem w25 {Z : State} {a0 : Array Value} (hw : ∀ d ∈ tables_1, d.before a0 Z = true) : (Jvm.Cond.fieldLink "com/example/sober_repository/soberrepository/DerivedName$Operator" (25 : Nat) "com/example/sober_repository/soberrepository/DerivedName$Operator" "IS_NULL" "Lcom/example/sober_repository/soberrepository/DerivedName$Operator;").before a0 Z = true := hw _ (List.mem_of_getElem? (i := 25) rfl)
theorem d2_35 : decode prog_12_method_8_code 35 = .ok (.astore_n 1, 1) := by decide +kernel
theorem d2_36 : decode prog_12_method_8_code 36 = .ok (.goto 12, 3) := by decide +kernel
theorem d2_48 : decode prog_12_method_8_code 48 = .ok (.aload_n 1, 1) := by decide +kernel
theorem d2_49 : decode prog_12_method_8_code 49 = .ok (.areturn, 1) := by decide +kernel
theorem pn_42 : plainName "com/example/sober_repository/soberrepository/DerivedName$Operator" = true := by first | (simp [plainName, overriddenIn]; done) | decide +kernel
theorem w15 {Z : State} {a0 : Array Value} (hw : ∀ d ∈ tables_1, d.before a0 Z = true) : (Jvm.Cond.code ({ cls := "com/example/sober_repository/soberrepository/DerivedName$Operator", name := "forNull", desc := "()Lcom/example/sober_repository/soberrepository/DerivedName$Operator;" } : Jvm.MethodName) prog_12_method_8_code (2 : Nat) (Option.some (Jvm.ClassFile.FieldType.object "com/example/sober_repository/soberrepository/DerivedName$Operator"))).before a0 Z = true := hw _ (List.mem_of_getElem? (i := 15) rfl)
theorem pd_43 : parseMethodDescriptor "()Lcom/example/sober_repository/soberrepository/DerivedName$Operator;" = some ⟨[], some (.object "com/example/sober_repository/soberrepository/DerivedName$Operator")⟩ := by decide +kernel
theorem w12 {Z : State} {a0 : Array Value} (hw : ∀ d ∈ tables_1, d.before a0 Z = true) : (Jvm.Cond.declares ({ cls := "com/example/sober_repository/soberrepository/DerivedName$Operator", name := "forNull", desc := "()Lcom/example/sober_repository/soberrepository/DerivedName$Operator;" } : Jvm.MethodName)).before a0 Z = true := hw _ (List.mem_of_getElem? (i := 12) rfl)
theorem w14 {Z : State} {a0 : Array Value} (hw : ∀ d ∈ tables_1, d.before a0 Z = true) : (Jvm.Cond.selects "com/example/sober_repository/soberrepository/DerivedName$Operator" ({ cls := "com/example/sober_repository/soberrepository/DerivedName$Operator", name := "forNull", desc := "()Lcom/example/sober_repository/soberrepository/DerivedName$Operator;" } : Jvm.MethodName) ({ cls := "com/example/sober_repository/soberrepository/DerivedName$Operator", name := "forNull", desc := "()Lcom/example/sober_repository/soberrepository/DerivedName$Operator;" } : Jvm.MethodName)).before a0 Z = true := hw _ (List.mem_of_getElem? (i := 14) rfl)
theorem w13 {Z : State} {a0 : Array Value} (hw : ∀ d ∈ tables_1, d.before a0 Z = true) : (Jvm.Cond.instanceMethod ({ cls := "com/example/sober_repository/soberrepository/DerivedName$Operator", name := "forNull", desc := "()Lcom/example/sober_repository/soberrepository/DerivedName$Operator;" } : Jvm.MethodName)).before a0 Z = true := hw _ (List.mem_of_getElem? (i := 13) rfl)
theorem d2_46 : decode prog_12_method_8_code 46 = .ok (.aload_n 0, 1) := by decide +kernel
theorem d2_47 : decode prog_12_method_8_code 47 = .ok (.astore_n 1, 1) := by decide +kernel
theorem d1_13 : decode method_2_code 13 = .ok (.getstatic 13, 3) := by decide +kernel
theorem w30 {Z : State} {a0 : Array Value} (hw : ∀ d ∈ tables_1, d.before a0 Z = true) : (Jvm.Cond.fieldLink "com/example/sober_repository/soberrepository/OperatorForNullPinLaw" (13 : Nat) "com/example/sober_repository/soberrepository/DerivedName$Operator" "NOT" "Lcom/example/sober_repository/soberrepository/DerivedName$Operator;").before a0 Z = true := hw _ (List.mem_of_getElem? (i := 30) rfl)
theorem d1_16 : decode method_2_code 16 = .ok (.areturn, 1) := by decide +kernel
theorem d1_73 : decode method_2_code 73 = .ok (.iload_n 0, 1) := by decide +kernel
theorem d1_74 : decode method_2_code 74 = .ok (.bipush 8, 2) := by decide +kernel
theorem d1_76 : decode method_2_code 76 = .ok (.if_icmp .ne 7, 3) := by decide +kernel
theorem d1_79 : decode method_2_code 79 = .ok (.getstatic 34, 3) := by decide +kernel
theorem w32 {Z : State} {a0 : Array Value} (hw : ∀ d ∈ tables_1, d.before a0 Z = true) : (Jvm.Cond.fieldLink "com/example/sober_repository/soberrepository/OperatorForNullPinLaw" (34 : Nat) "com/example/sober_repository/soberrepository/DerivedName$Operator" "IS_NOT_NULL" "Lcom/example/sober_repository/soberrepository/DerivedName$Operator;").before a0 Z = true := hw _ (List.mem_of_getElem? (i := 32) rfl)
theorem d1_82 : decode method_2_code 82 = .ok (.areturn, 1) := by decide +kernel
theorem d2_39 : decode prog_12_method_8_code 39 = .ok (.getstatic 28, 3) := by decide +kernel
theorem w34 {Z : State} {a0 : Array Value} (hw : ∀ d ∈ tables_1, d.before a0 Z = true) : (Jvm.Cond.fieldLink "com/example/sober_repository/soberrepository/DerivedName$Operator" (28 : Nat) "com/example/sober_repository/soberrepository/DerivedName$Operator" "IS_NOT_NULL" "Lcom/example/sober_repository/soberrepository/DerivedName$Operator;").before a0 Z = true := hw _ (List.mem_of_getElem? (i := 34) rfl)
theorem d2_42 : decode prog_12_method_8_code 42 = .ok (.astore_n 1, 1) := by decide +kernel
theorem d2_43 : decode prog_12_method_8_code 43 = .ok (.goto 5, 3) := by decide +kernel
theorem d1_22 : decode method_2_code 22 = .ok (.getstatic 16, 3) := by decide +kernel
theorem w28 {Z : State} {a0 : Array Value} (hw : ∀ d ∈ tables_1, d.before a0 Z = true) : (Jvm.Cond.fieldLink "com/example/sober_repository/soberrepository/OperatorForNullPinLaw" (16 : Nat) "com/example/sober_repository/soberrepository/DerivedName$Operator" "GREATER_THAN" "Lcom/example/sober_repository/soberrepository/DerivedName$Operator;").before a0 Z = true := hw _ (List.mem_of_getElem? (i := 28) rfl)
theorem d1_25 : decode method_2_code 25 = .ok (.areturn, 1) := by decide +kernel
theorem d1_31 : decode method_2_code 31 = .ok (.getstatic 19, 3) := by decide +kernel
theorem w26 {Z : State} {a0 : Array Value} (hw : ∀ d ∈ tables_1, d.before a0 Z = true) : (Jvm.Cond.fieldLink "com/example/sober_repository/soberrepository/OperatorForNullPinLaw" (19 : Nat) "com/example/sober_repository/soberrepository/DerivedName$Operator" "GREATER_THAN_EQUAL" "Lcom/example/sober_repository/soberrepository/DerivedName$Operator;").before a0 Z = true := hw _ (List.mem_of_getElem? (i := 26) rfl)
theorem d1_34 : decode method_2_code 34 = .ok (.areturn, 1) := by decide +kernel
theorem d1_40 : decode method_2_code 40 = .ok (.getstatic 22, 3) := by decide +kernel
theorem w37 {Z : State} {a0 : Array Value} (hw : ∀ d ∈ tables_1, d.before a0 Z = true) : (Jvm.Cond.fieldLink "com/example/sober_repository/soberrepository/OperatorForNullPinLaw" (22 : Nat) "com/example/sober_repository/soberrepository/DerivedName$Operator" "LESS_THAN" "Lcom/example/sober_repository/soberrepository/DerivedName$Operator;").before a0 Z = true := hw _ (List.mem_of_getElem? (i := 37) rfl)
theorem d1_43 : decode method_2_code 43 = .ok (.areturn, 1) := by decide +kernel
theorem d1_49 : decode method_2_code 49 = .ok (.getstatic 25, 3) := by decide +kernel
theorem w55 {Z : State} {a0 : Array Value} (hw : ∀ d ∈ tables_1, d.before a0 Z = true) : (Jvm.Cond.fieldLink "com/example/sober_repository/soberrepository/OperatorForNullPinLaw" (25 : Nat) "com/example/sober_repository/soberrepository/DerivedName$Operator" "LESS_THAN_EQUAL" "Lcom/example/sober_repository/soberrepository/DerivedName$Operator;").before a0 Z = true := hw _ (List.mem_of_getElem? (i := 55) rfl)
theorem d1_52 : decode method_2_code 52 = .ok (.areturn, 1) := by decide +kernel
theorem d1_59 : decode method_2_code 59 = .ok (.getstatic 28, 3) := by decide +kernel
theorem w49 {Z : State} {a0 : Array Value} (hw : ∀ d ∈ tables_1, d.before a0 Z = true) : (Jvm.Cond.fieldLink "com/example/sober_repository/soberrepository/OperatorForNullPinLaw" (28 : Nat) "com/example/sober_repository/soberrepository/DerivedName$Operator" "BETWEEN" "Lcom/example/sober_repository/soberrepository/DerivedName$Operator;").before a0 Z = true := hw _ (List.mem_of_getElem? (i := 49) rfl)
theorem d1_62 : decode method_2_code 62 = .ok (.areturn, 1) := by decide +kernel
theorem d1_83 : decode method_2_code 83 = .ok (.iload_n 0, 1) := by decide +kernel
theorem d1_84 : decode method_2_code 84 = .ok (.bipush 9, 2) := by decide +kernel
theorem d1_86 : decode method_2_code 86 = .ok (.if_icmp .ne 7, 3) := by decide +kernel
theorem d1_89 : decode method_2_code 89 = .ok (.getstatic 37, 3) := by decide +kernel
theorem w57 {Z : State} {a0 : Array Value} (hw : ∀ d ∈ tables_1, d.before a0 Z = true) : (Jvm.Cond.fieldLink "com/example/sober_repository/soberrepository/OperatorForNullPinLaw" (37 : Nat) "com/example/sober_repository/soberrepository/DerivedName$Operator" "IN" "Lcom/example/sober_repository/soberrepository/DerivedName$Operator;").before a0 Z = true := hw _ (List.mem_of_getElem? (i := 57) rfl)
theorem d1_92 : decode method_2_code 92 = .ok (.areturn, 1) := by decide +kernel
theorem d1_93 : decode method_2_code 93 = .ok (.iload_n 0, 1) := by decide +kernel
theorem d1_94 : decode method_2_code 94 = .ok (.bipush 10, 2) := by decide +kernel
theorem d1_96 : decode method_2_code 96 = .ok (.if_icmp .ne 7, 3) := by decide +kernel
theorem d1_99 : decode method_2_code 99 = .ok (.getstatic 40, 3) := by decide +kernel
theorem w45 {Z : State} {a0 : Array Value} (hw : ∀ d ∈ tables_1, d.before a0 Z = true) : (Jvm.Cond.fieldLink "com/example/sober_repository/soberrepository/OperatorForNullPinLaw" (40 : Nat) "com/example/sober_repository/soberrepository/DerivedName$Operator" "NOT_IN" "Lcom/example/sober_repository/soberrepository/DerivedName$Operator;").before a0 Z = true := hw _ (List.mem_of_getElem? (i := 45) rfl)
theorem d1_102 : decode method_2_code 102 = .ok (.areturn, 1) := by decide +kernel
theorem d1_103 : decode method_2_code 103 = .ok (.iload_n 0, 1) := by decide +kernel
theorem d1_104 : decode method_2_code 104 = .ok (.bipush 11, 2) := by decide +kernel
theorem d1_106 : decode method_2_code 106 = .ok (.if_icmp .ne 7, 3) := by decide +kernel
theorem d1_109 : decode method_2_code 109 = .ok (.getstatic 43, 3) := by decide +kernel
theorem w35 {Z : State} {a0 : Array Value} (hw : ∀ d ∈ tables_1, d.before a0 Z = true) : (Jvm.Cond.fieldLink "com/example/sober_repository/soberrepository/OperatorForNullPinLaw" (43 : Nat) "com/example/sober_repository/soberrepository/DerivedName$Operator" "TRUE" "Lcom/example/sober_repository/soberrepository/DerivedName$Operator;").before a0 Z = true := hw _ (List.mem_of_getElem? (i := 35) rfl)
theorem d1_112 : decode method_2_code 112 = .ok (.areturn, 1) := by decide +kernel
theorem d1_113 : decode method_2_code 113 = .ok (.iload_n 0, 1) := by decide +kernel
theorem d1_114 : decode method_2_code 114 = .ok (.bipush 12, 2) := by decide +kernel
theorem d1_116 : decode method_2_code 116 = .ok (.if_icmp .ne 7, 3) := by decide +kernel
theorem d1_119 : decode method_2_code 119 = .ok (.getstatic 46, 3) := by decide +kernel
theorem w39 {Z : State} {a0 : Array Value} (hw : ∀ d ∈ tables_1, d.before a0 Z = true) : (Jvm.Cond.fieldLink "com/example/sober_repository/soberrepository/OperatorForNullPinLaw" (46 : Nat) "com/example/sober_repository/soberrepository/DerivedName$Operator" "FALSE" "Lcom/example/sober_repository/soberrepository/DerivedName$Operator;").before a0 Z = true := hw _ (List.mem_of_getElem? (i := 39) rfl)
theorem d1_122 : decode method_2_code 122 = .ok (.areturn, 1) := by decide +kernel
theorem d1_123 : decode method_2_code 123 = .ok (.iload_n 0, 1) := by decide +kernel
theorem d1_124 : decode method_2_code 124 = .ok (.bipush 13, 2) := by decide +kernel
theorem d1_126 : decode method_2_code 126 = .ok (.if_icmp .ne 7, 3) := by decide +kernel
theorem d1_129 : decode method_2_code 129 = .ok (.getstatic 49, 3) := by decide +kernel
theorem w47 {Z : State} {a0 : Array Value} (hw : ∀ d ∈ tables_1, d.before a0 Z = true) : (Jvm.Cond.fieldLink "com/example/sober_repository/soberrepository/OperatorForNullPinLaw" (49 : Nat) "com/example/sober_repository/soberrepository/DerivedName$Operator" "STARTING_WITH" "Lcom/example/sober_repository/soberrepository/DerivedName$Operator;").before a0 Z = true := hw _ (List.mem_of_getElem? (i := 47) rfl)
theorem d1_132 : decode method_2_code 132 = .ok (.areturn, 1) := by decide +kernel
theorem d1_133 : decode method_2_code 133 = .ok (.iload_n 0, 1) := by decide +kernel
theorem d1_134 : decode method_2_code 134 = .ok (.bipush 14, 2) := by decide +kernel
theorem d1_136 : decode method_2_code 136 = .ok (.if_icmp .ne 7, 3) := by decide +kernel
theorem d1_139 : decode method_2_code 139 = .ok (.getstatic 52, 3) := by decide +kernel
theorem w53 {Z : State} {a0 : Array Value} (hw : ∀ d ∈ tables_1, d.before a0 Z = true) : (Jvm.Cond.fieldLink "com/example/sober_repository/soberrepository/OperatorForNullPinLaw" (52 : Nat) "com/example/sober_repository/soberrepository/DerivedName$Operator" "ENDING_WITH" "Lcom/example/sober_repository/soberrepository/DerivedName$Operator;").before a0 Z = true := hw _ (List.mem_of_getElem? (i := 53) rfl)
theorem d1_142 : decode method_2_code 142 = .ok (.areturn, 1) := by decide +kernel
theorem d1_143 : decode method_2_code 143 = .ok (.iload_n 0, 1) := by decide +kernel
theorem d1_144 : decode method_2_code 144 = .ok (.bipush 15, 2) := by decide +kernel
theorem d1_146 : decode method_2_code 146 = .ok (.if_icmp .ne 7, 3) := by decide +kernel
theorem d1_149 : decode method_2_code 149 = .ok (.getstatic 55, 3) := by decide +kernel
theorem w43 {Z : State} {a0 : Array Value} (hw : ∀ d ∈ tables_1, d.before a0 Z = true) : (Jvm.Cond.fieldLink "com/example/sober_repository/soberrepository/OperatorForNullPinLaw" (55 : Nat) "com/example/sober_repository/soberrepository/DerivedName$Operator" "CONTAINING" "Lcom/example/sober_repository/soberrepository/DerivedName$Operator;").before a0 Z = true := hw _ (List.mem_of_getElem? (i := 43) rfl)
theorem d1_152 : decode method_2_code 152 = .ok (.areturn, 1) := by decide +kernel
theorem d1_153 : decode method_2_code 153 = .ok (.iload_n 0, 1) := by decide +kernel
theorem d1_154 : decode method_2_code 154 = .ok (.bipush 16, 2) := by decide +kernel
theorem d1_156 : decode method_2_code 156 = .ok (.if_icmp .ne 7, 3) := by decide +kernel
theorem d1_159 : decode method_2_code 159 = .ok (.getstatic 58, 3) := by decide +kernel
theorem w41 {Z : State} {a0 : Array Value} (hw : ∀ d ∈ tables_1, d.before a0 Z = true) : (Jvm.Cond.fieldLink "com/example/sober_repository/soberrepository/OperatorForNullPinLaw" (58 : Nat) "com/example/sober_repository/soberrepository/DerivedName$Operator" "LIKE" "Lcom/example/sober_repository/soberrepository/DerivedName$Operator;").before a0 Z = true := hw _ (List.mem_of_getElem? (i := 41) rfl)
theorem d1_162 : decode method_2_code 162 = .ok (.areturn, 1) := by decide +kernel
theorem d1_163 : decode method_2_code 163 = .ok (.getstatic 61, 3) := by decide +kernel
theorem w51 {Z : State} {a0 : Array Value} (hw : ∀ d ∈ tables_1, d.before a0 Z = true) : (Jvm.Cond.fieldLink "com/example/sober_repository/soberrepository/OperatorForNullPinLaw" (61 : Nat) "com/example/sober_repository/soberrepository/DerivedName$Operator" "NOT_LIKE" "Lcom/example/sober_repository/soberrepository/DerivedName$Operator;").before a0 Z = true := hw _ (List.mem_of_getElem? (i := 51) rfl)
theorem d1_166 : decode method_2_code 166 = .ok (.areturn, 1) := by decide +kernel
set_option maxRecDepth 65536 in
set_option maxHeartbeats 40000000 in
theorem rm_pick_0 {l : Launch} {Z : State} {a0 : Array Value} (hw : ∀ d ∈ tables_1, d.before a0 Z = true) {a_EQUALS : Addr} {a_IS_NULL : Addr} {a_GREATER_THAN_EQUAL : Addr} {a_GREATER_THAN : Addr} {a_NOT : Addr} {a_IS_NOT_NULL : Addr} {a_TRUE : Addr} {a_LESS_THAN : Addr} {a_FALSE : Addr} {a_LIKE : Addr} {a_CONTAINING : Addr} {a_NOT_IN : Addr} {a_STARTING_WITH : Addr} {a_BETWEEN : Addr} {a_NOT_LIKE : Addr} {a_ENDING_WITH : Addr} {a_LESS_THAN_EQUAL : Addr} {a_IN : Addr} {h0 : Heap} {n0 : Nat} (O : Old Z n0 h0) (W : Wd Z a_EQUALS a_IS_NULL a_GREATER_THAN_EQUAL a_GREATER_THAN a_NOT a_IS_NOT_NULL a_TRUE a_LESS_THAN a_FALSE a_LIKE a_CONTAINING a_NOT_IN a_STARTING_WITH a_BETWEEN a_NOT_LIKE a_ENDING_WITH a_LESS_THAN_EQUAL a_IN) :
    Met1 l Z (⟨"com/example/sober_repository/soberrepository/OperatorForNullPinLaw", "pick", "(I)Lcom/example/sober_repository/soberrepository/DerivedName$Operator;"⟩ : MethodName) method_2_code 1 (some (.object "com/example/sober_repository/soberrepository/DerivedName$Operator")) ({ frames := 0, cells := 0, slots := 0, locals := 0 } : Room) #[(.int (0 : Int32))] h0 n0 (fun v h => v = (.ref a_EQUALS) ∧ h0 = h) := by
  refine met_of (L := #[.val (.int (0 : Int32))]) (plainFor_of_name pn_4) (fun m => by first | (simp [entryFrame, mkF, argsToLocals, Value.category]; done) | rfl) ?_
  intro p e s m below meth c T C X
  change Cx p s m meth c Z "com/example/sober_repository/soberrepository/OperatorForNullPinLaw" method_2_code 1 (some (.object "com/example/sober_repository/soberrepository/DerivedName$Operator")) "pick" at C
  refine g_iloadN C X d1_0 (q := 1) rfl rfl ?_
  refine g_ifN C X d1_1 (q := 4) rfl (by decide) ?_
  refine g_getS C X (host := "") (Or.inl (w6 hw)) Via.refl (W.1.ext O.2) d1_4 (q := 7) rfl ?_
  intro T1 X2
  exact g_retA C X2 rfl rfl d1_7 (by decide) (by decide) ⟨_, rfl, rfl, rfl⟩
set_option maxRecDepth 65536 in
set_option maxHeartbeats 40000000 in
theorem rm_pick_1 {l : Launch} {Z : State} {a0 : Array Value} (hw : ∀ d ∈ tables_1, d.before a0 Z = true) {a_EQUALS : Addr} {a_IS_NULL : Addr} {a_GREATER_THAN_EQUAL : Addr} {a_GREATER_THAN : Addr} {a_NOT : Addr} {a_IS_NOT_NULL : Addr} {a_TRUE : Addr} {a_LESS_THAN : Addr} {a_FALSE : Addr} {a_LIKE : Addr} {a_CONTAINING : Addr} {a_NOT_IN : Addr} {a_STARTING_WITH : Addr} {a_BETWEEN : Addr} {a_NOT_LIKE : Addr} {a_ENDING_WITH : Addr} {a_LESS_THAN_EQUAL : Addr} {a_IN : Addr} {h0 : Heap} {n0 : Nat} (O : Old Z n0 h0) (W : Wd Z a_EQUALS a_IS_NULL a_GREATER_THAN_EQUAL a_GREATER_THAN a_NOT a_IS_NOT_NULL a_TRUE a_LESS_THAN a_FALSE a_LIKE a_CONTAINING a_NOT_IN a_STARTING_WITH a_BETWEEN a_NOT_LIKE a_ENDING_WITH a_LESS_THAN_EQUAL a_IN) :
    Met1 l Z (⟨"com/example/sober_repository/soberrepository/OperatorForNullPinLaw", "pick", "(I)Lcom/example/sober_repository/soberrepository/DerivedName$Operator;"⟩ : MethodName) method_2_code 1 (some (.object "com/example/sober_repository/soberrepository/DerivedName$Operator")) ({ frames := 0, cells := 0, slots := 0, locals := 0 } : Room) #[(.int (7 : Int32))] h0 n0 (fun v h => v = (.ref a_IS_NULL) ∧ h0 = h) := by
  refine met_of (L := #[.val (.int (7 : Int32))]) (plainFor_of_name pn_4) (fun m => by first | (simp [entryFrame, mkF, argsToLocals, Value.category]; done) | rfl) ?_
  intro p e s m below meth c T C X
  change Cx p s m meth c Z "com/example/sober_repository/soberrepository/OperatorForNullPinLaw" method_2_code 1 (some (.object "com/example/sober_repository/soberrepository/DerivedName$Operator")) "pick" at C
  refine g_iloadN C X d1_0 (q := 1) rfl rfl ?_
  refine g_ifY C X d1_1 (by decide) (q := 8) (by decide) (by decide) ?_
  refine g_iloadN C X d1_8 (q := 9) rfl rfl ?_
  refine g_iconst C X d1_9 (q := 10) rfl (z := (1 : Int32)) rfl ?_
  refine g_icY C X d1_10 (by decide) (q := 17) (by decide) (by decide) ?_
  refine g_iloadN C X d1_17 (q := 18) rfl rfl ?_
  refine g_iconst C X d1_18 (q := 19) rfl (z := (2 : Int32)) rfl ?_
  refine g_icY C X d1_19 (by decide) (q := 26) (by decide) (by decide) ?_
  refine g_iloadN C X d1_26 (q := 27) rfl rfl ?_
  refine g_iconst C X d1_27 (q := 28) rfl (z := (3 : Int32)) rfl ?_
  refine g_icY C X d1_28 (by decide) (q := 35) (by decide) (by decide) ?_
  refine g_iloadN C X d1_35 (q := 36) rfl rfl ?_
  refine g_iconst C X d1_36 (q := 37) rfl (z := (4 : Int32)) rfl ?_
  refine g_icY C X d1_37 (by decide) (q := 44) (by decide) (by decide) ?_
  refine g_iloadN C X d1_44 (q := 45) rfl rfl ?_
  refine g_iconst C X d1_45 (q := 46) rfl (z := (5 : Int32)) rfl ?_
  refine g_icY C X d1_46 (by decide) (q := 53) (by decide) (by decide) ?_
  refine g_iloadN C X d1_53 (q := 54) rfl rfl ?_
  refine g_bipush C X d1_54 (q := 56) rfl (z := (6 : Int32)) rfl ?_
  refine g_icY C X d1_56 (by decide) (q := 63) (by decide) (by decide) ?_
  refine g_iloadN C X d1_63 (q := 64) rfl rfl ?_
  refine g_bipush C X d1_64 (q := 66) rfl (z := (7 : Int32)) rfl ?_
  refine g_icN C X d1_66 (q := 69) rfl (by decide) ?_
  refine g_getS C X (host := "") (Or.inl (w9 hw)) Via.refl (W.2.2.1.ext O.2) d1_69 (q := 72) rfl ?_
  intro T1 X2
  exact g_retA C X2 rfl rfl d1_72 (by decide) (by decide) ⟨_, rfl, rfl, rfl⟩
set_option maxRecDepth 65536 in
set_option maxHeartbeats 40000000 in
theorem rm_ord_0 {l : Launch} {Z : State} {a0 : Array Value} (hw : ∀ d ∈ tables_1, d.before a0 Z = true) {a_EQUALS : Addr} {a_IS_NULL : Addr} {a_GREATER_THAN_EQUAL : Addr} {a_GREATER_THAN : Addr} {a_NOT : Addr} {a_IS_NOT_NULL : Addr} {a_TRUE : Addr} {a_LESS_THAN : Addr} {a_FALSE : Addr} {a_LIKE : Addr} {a_CONTAINING : Addr} {a_NOT_IN : Addr} {a_STARTING_WITH : Addr} {a_BETWEEN : Addr} {a_NOT_LIKE : Addr} {a_ENDING_WITH : Addr} {a_LESS_THAN_EQUAL : Addr} {a_IN : Addr} {h0 : Heap} {n0 : Nat} (O : Old Z n0 h0) (W : Wd Z a_EQUALS a_IS_NULL a_GREATER_THAN_EQUAL a_GREATER_THAN a_NOT a_IS_NOT_NULL a_TRUE a_LESS_THAN a_FALSE a_LIKE a_CONTAINING a_NOT_IN a_STARTING_WITH a_BETWEEN a_NOT_LIKE a_ENDING_WITH a_LESS_THAN_EQUAL a_IN) :
    Met1 l Z (⟨"java/lang/Enum", "ordinal", "()I"⟩ : MethodName) jdk_37_method_2_code 1 (some .int) ({ frames := 0, cells := 0, slots := 0, locals := 0 } : Room) #[(.ref a_EQUALS)] h0 n0 (fun v h => v = (.int (0 : Int32)) ∧ h0 = h) := by
  refine met_of (L := #[.val (.ref a_EQUALS)]) (plainFor_of_name pn_34) (fun m => by first | (simp [entryFrame, mkF, argsToLocals, Value.category]; done) | rfl) ?_
  intro p e s m below meth c T C X
  change Cx p s m meth c Z "java/lang/Enum" jdk_37_method_2_code 1 (some .int) "ordinal" at C
  refine g_aloadN C X d3_0 (q := 1) rfl rfl rfl ?_
  refine g_getF C X (host := "") (Or.inl (w23 hw)) Via.refl (W.2.2.2.2.1.ext O.2) d3_1 (q := 4) rfl ?_
  intro T1 X2
  exact g_retI C X2 d3_4 (by decide) (by decide) ⟨_, rfl, rfl, rfl⟩
set_option maxRecDepth 65536 in
set_option maxHeartbeats 40000000 in
theorem rm_fn_0 {l : Launch} {Z : State} {a0 : Array Value} (hw : ∀ d ∈ tables_1, d.before a0 Z = true) {a_EQUALS : Addr} {a_IS_NULL : Addr} {a_GREATER_THAN_EQUAL : Addr} {a_GREATER_THAN : Addr} {a_NOT : Addr} {a_IS_NOT_NULL : Addr} {a_TRUE : Addr} {a_LESS_THAN : Addr} {a_FALSE : Addr} {a_LIKE : Addr} {a_CONTAINING : Addr} {a_NOT_IN : Addr} {a_STARTING_WITH : Addr} {a_BETWEEN : Addr} {a_NOT_LIKE : Addr} {a_ENDING_WITH : Addr} {a_LESS_THAN_EQUAL : Addr} {a_IN : Addr} {h0 : Heap} {n0 : Nat} (O : Old Z n0 h0) (W : Wd Z a_EQUALS a_IS_NULL a_GREATER_THAN_EQUAL a_GREATER_THAN a_NOT a_IS_NOT_NULL a_TRUE a_LESS_THAN a_FALSE a_LIKE a_CONTAINING a_NOT_IN a_STARTING_WITH a_BETWEEN a_NOT_LIKE a_ENDING_WITH a_LESS_THAN_EQUAL a_IN) :
    Met1 l Z (⟨"com/example/sober_repository/soberrepository/DerivedName$Operator", "forNull", "()Lcom/example/sober_repository/soberrepository/DerivedName$Operator;"⟩ : MethodName) prog_12_method_8_code 2 (some (.object "com/example/sober_repository/soberrepository/DerivedName$Operator")) ({ frames := 1, cells := 0, slots := 0, locals := 12 } : Room) #[(.ref a_EQUALS)] h0 n0 (fun v h => v = (.ref a_IS_NULL) ∧ h0 = h) := by
  refine met_of (L := #[.val (.ref a_EQUALS), .unset]) (plainFor_of_name pn_42) (fun m => by first | (simp [entryFrame, mkF, argsToLocals, Value.category]; done) | rfl) ?_
  intro p e s m below meth c T C X
  change Cx p s m meth c Z "com/example/sober_repository/soberrepository/DerivedName$Operator" prog_12_method_8_code 2 (some (.object "com/example/sober_repository/soberrepository/DerivedName$Operator")) "forNull" at C
  refine g_aloadN C X d2_0 (q := 1) rfl rfl rfl ?_
  refine g_callU1 C X (y := (⟨"com/example/sober_repository/soberrepository/DerivedName$Operator", "ordinal", "()I"⟩ : MethodName)) (z := (⟨"java/lang/Enum", "ordinal", "()I"⟩ : MethodName)) (a := a_EQUALS) (owner := "java/lang/Enum") (by decide) (w16 hw) (w17 hw) (w18 hw) (w20 hw) (w19 hw) (W.2.1.ext O.2) (w22 hw) (w21 hw) (rm_ord_0 hw O W) (W := 0) (by decide) (by decide) (k' := 0) rfl (n' := 0) rfl (by decide) (by decide) rfl pd_35 (argsL := []) rfl (rest := []) rfl rfl rfl d2_1 (q := 4) rfl ?_
  rintro _ T1 _ X2 ⟨rfl, rfl⟩
  refine g_lsw C X2 d2_4 (by decide) (o := 28) (by decide) (by decide) (q := 32) (by decide) ?_
  refine g_getS C X2 (host := "") (Or.inl (w25 hw)) Via.refl (W.2.2.1.ext O.2) d2_32 (q := 35) rfl ?_
  intro T3 X4
  refine g_astoreN C X4 d2_35 (q := 36) rfl rfl (L' := #[.val (.ref a_EQUALS), .val (.ref a_IS_NULL)]) rfl ?_
  refine g_goto C X4 d2_36 (by decide) (q := 48) (by decide) ?_
  refine g_aloadN C X4 d2_48 (q := 49) rfl rfl rfl ?_
  exact g_retA C X4 rfl rfl d2_49 (by decide) (by decide) ⟨_, rfl, rfl, rfl⟩
set_option maxRecDepth 65536 in
set_option maxHeartbeats 40000000 in
theorem rm_ord_1 {l : Launch} {Z : State} {a0 : Array Value} (hw : ∀ d ∈ tables_1, d.before a0 Z = true) {a_EQUALS : Addr} {a_IS_NULL : Addr} {a_GREATER_THAN_EQUAL : Addr} {a_GREATER_THAN : Addr} {a_NOT : Addr} {a_IS_NOT_NULL : Addr} {a_TRUE : Addr} {a_LESS_THAN : Addr} {a_FALSE : Addr} {a_LIKE : Addr} {a_CONTAINING : Addr} {a_NOT_IN : Addr} {a_STARTING_WITH : Addr} {a_BETWEEN : Addr} {a_NOT_LIKE : Addr} {a_ENDING_WITH : Addr} {a_LESS_THAN_EQUAL : Addr} {a_IN : Addr} {h0 : Heap} {n0 : Nat} (O : Old Z n0 h0) (W : Wd Z a_EQUALS a_IS_NULL a_GREATER_THAN_EQUAL a_GREATER_THAN a_NOT a_IS_NOT_NULL a_TRUE a_LESS_THAN a_FALSE a_LIKE a_CONTAINING a_NOT_IN a_STARTING_WITH a_BETWEEN a_NOT_LIKE a_ENDING_WITH a_LESS_THAN_EQUAL a_IN) :
    Met1 l Z (⟨"java/lang/Enum", "ordinal", "()I"⟩ : MethodName) jdk_37_method_2_code 1 (some .int) ({ frames := 0, cells := 0, slots := 0, locals := 0 } : Room) #[(.ref a_IS_NULL)] h0 n0 (fun v h => v = (.int (7 : Int32)) ∧ h0 = h) := by
  refine met_of (L := #[.val (.ref a_IS_NULL)]) (plainFor_of_name pn_34) (fun m => by first | (simp [entryFrame, mkF, argsToLocals, Value.category]; done) | rfl) ?_
  intro p e s m below meth c T C X
  change Cx p s m meth c Z "java/lang/Enum" jdk_37_method_2_code 1 (some .int) "ordinal" at C
  refine g_aloadN C X d3_0 (q := 1) rfl rfl rfl ?_
  refine g_getF C X (host := "") (Or.inl (w23 hw)) Via.refl (W.2.2.2.2.2.1.ext O.2) d3_1 (q := 4) rfl ?_
  intro T1 X2
  exact g_retI C X2 d3_4 (by decide) (by decide) ⟨_, rfl, rfl, rfl⟩
set_option maxRecDepth 65536 in
set_option maxHeartbeats 40000000 in
theorem rm_fn_1 {l : Launch} {Z : State} {a0 : Array Value} (hw : ∀ d ∈ tables_1, d.before a0 Z = true) {a_EQUALS : Addr} {a_IS_NULL : Addr} {a_GREATER_THAN_EQUAL : Addr} {a_GREATER_THAN : Addr} {a_NOT : Addr} {a_IS_NOT_NULL : Addr} {a_TRUE : Addr} {a_LESS_THAN : Addr} {a_FALSE : Addr} {a_LIKE : Addr} {a_CONTAINING : Addr} {a_NOT_IN : Addr} {a_STARTING_WITH : Addr} {a_BETWEEN : Addr} {a_NOT_LIKE : Addr} {a_ENDING_WITH : Addr} {a_LESS_THAN_EQUAL : Addr} {a_IN : Addr} {h0 : Heap} {n0 : Nat} (O : Old Z n0 h0) (W : Wd Z a_EQUALS a_IS_NULL a_GREATER_THAN_EQUAL a_GREATER_THAN a_NOT a_IS_NOT_NULL a_TRUE a_LESS_THAN a_FALSE a_LIKE a_CONTAINING a_NOT_IN a_STARTING_WITH a_BETWEEN a_NOT_LIKE a_ENDING_WITH a_LESS_THAN_EQUAL a_IN) :
    Met1 l Z (⟨"com/example/sober_repository/soberrepository/DerivedName$Operator", "forNull", "()Lcom/example/sober_repository/soberrepository/DerivedName$Operator;"⟩ : MethodName) prog_12_method_8_code 2 (some (.object "com/example/sober_repository/soberrepository/DerivedName$Operator")) ({ frames := 1, cells := 0, slots := 0, locals := 12 } : Room) #[(.ref a_IS_NULL)] h0 n0 (fun v h => v = (.ref a_IS_NULL) ∧ h0 = h) := by
  refine met_of (L := #[.val (.ref a_IS_NULL), .unset]) (plainFor_of_name pn_42) (fun m => by first | (simp [entryFrame, mkF, argsToLocals, Value.category]; done) | rfl) ?_
  intro p e s m below meth c T C X
  change Cx p s m meth c Z "com/example/sober_repository/soberrepository/DerivedName$Operator" prog_12_method_8_code 2 (some (.object "com/example/sober_repository/soberrepository/DerivedName$Operator")) "forNull" at C
  refine g_aloadN C X d2_0 (q := 1) rfl rfl rfl ?_
  refine g_callU1 C X (y := (⟨"com/example/sober_repository/soberrepository/DerivedName$Operator", "ordinal", "()I"⟩ : MethodName)) (z := (⟨"java/lang/Enum", "ordinal", "()I"⟩ : MethodName)) (a := a_IS_NULL) (owner := "java/lang/Enum") (by decide) (w16 hw) (w17 hw) (w18 hw) (w20 hw) (w19 hw) (W.2.2.2.1.ext O.2) (w22 hw) (w21 hw) (rm_ord_1 hw O W) (W := 0) (by decide) (by decide) (k' := 0) rfl (n' := 0) rfl (by decide) (by decide) rfl pd_35 (argsL := []) rfl (rest := []) rfl rfl rfl d2_1 (q := 4) rfl ?_
  rintro _ T1 _ X2 ⟨rfl, rfl⟩
  refine g_lsw C X2 d2_4 (by decide) (o := 42) (by decide) (by decide) (q := 46) (by decide) ?_
  refine g_aloadN C X2 d2_46 (q := 47) rfl rfl rfl ?_
  refine g_astoreN C X2 d2_47 (q := 48) rfl rfl (L' := #[.val (.ref a_IS_NULL), .val (.ref a_IS_NULL)]) rfl ?_
  refine g_aloadN C X2 d2_48 (q := 49) rfl rfl rfl ?_
  exact g_retA C X2 rfl rfl d2_49 (by decide) (by decide) ⟨_, rfl, rfl, rfl⟩
set_option maxRecDepth 65536 in
set_option maxHeartbeats 40000000 in
theorem rm_pick_2 {l : Launch} {Z : State} {a0 : Array Value} (hw : ∀ d ∈ tables_1, d.before a0 Z = true) {a_EQUALS : Addr} {a_IS_NULL : Addr} {a_GREATER_THAN_EQUAL : Addr} {a_GREATER_THAN : Addr} {a_NOT : Addr} {a_IS_NOT_NULL : Addr} {a_TRUE : Addr} {a_LESS_THAN : Addr} {a_FALSE : Addr} {a_LIKE : Addr} {a_CONTAINING : Addr} {a_NOT_IN : Addr} {a_STARTING_WITH : Addr} {a_BETWEEN : Addr} {a_NOT_LIKE : Addr} {a_ENDING_WITH : Addr} {a_LESS_THAN_EQUAL : Addr} {a_IN : Addr} {h0 : Heap} {n0 : Nat} (O : Old Z n0 h0) (W : Wd Z a_EQUALS a_IS_NULL a_GREATER_THAN_EQUAL a_GREATER_THAN a_NOT a_IS_NOT_NULL a_TRUE a_LESS_THAN a_FALSE a_LIKE a_CONTAINING a_NOT_IN a_STARTING_WITH a_BETWEEN a_NOT_LIKE a_ENDING_WITH a_LESS_THAN_EQUAL a_IN) :
    Met1 l Z (⟨"com/example/sober_repository/soberrepository/OperatorForNullPinLaw", "pick", "(I)Lcom/example/sober_repository/soberrepository/DerivedName$Operator;"⟩ : MethodName) method_2_code 1 (some (.object "com/example/sober_repository/soberrepository/DerivedName$Operator")) ({ frames := 0, cells := 0, slots := 0, locals := 0 } : Room) #[(.int (1 : Int32))] h0 n0 (fun v h => v = (.ref a_NOT) ∧ h0 = h) := by
  refine met_of (L := #[.val (.int (1 : Int32))]) (plainFor_of_name pn_4) (fun m => by first | (simp [entryFrame, mkF, argsToLocals, Value.category]; done) | rfl) ?_
  intro p e s m below meth c T C X
  change Cx p s m meth c Z "com/example/sober_repository/soberrepository/OperatorForNullPinLaw" method_2_code 1 (some (.object "com/example/sober_repository/soberrepository/DerivedName$Operator")) "pick" at C
  refine g_iloadN C X d1_0 (q := 1) rfl rfl ?_
  refine g_ifY C X d1_1 (by decide) (q := 8) (by decide) (by decide) ?_
  refine g_iloadN C X d1_8 (q := 9) rfl rfl ?_
  refine g_iconst C X d1_9 (q := 10) rfl (z := (1 : Int32)) rfl ?_
  refine g_icN C X d1_10 (q := 13) rfl (by decide) ?_
  refine g_getS C X (host := "") (Or.inl (w30 hw)) Via.refl (W.2.2.2.2.2.2.2.2.2.2.2.2.1.ext O.2) d1_13 (q := 16) rfl ?_
  intro T1 X2
  exact g_retA C X2 rfl rfl d1_16 (by decide) (by decide) ⟨_, rfl, rfl, rfl⟩
set_option maxRecDepth 65536 in
set_option maxHeartbeats 40000000 in
theorem rm_pick_3 {l : Launch} {Z : State} {a0 : Array Value} (hw : ∀ d ∈ tables_1, d.before a0 Z = true) {a_EQUALS : Addr} {a_IS_NULL : Addr} {a_GREATER_THAN_EQUAL : Addr} {a_GREATER_THAN : Addr} {a_NOT : Addr} {a_IS_NOT_NULL : Addr} {a_TRUE : Addr} {a_LESS_THAN : Addr} {a_FALSE : Addr} {a_LIKE : Addr} {a_CONTAINING : Addr} {a_NOT_IN : Addr} {a_STARTING_WITH : Addr} {a_BETWEEN : Addr} {a_NOT_LIKE : Addr} {a_ENDING_WITH : Addr} {a_LESS_THAN_EQUAL : Addr} {a_IN : Addr} {h0 : Heap} {n0 : Nat} (O : Old Z n0 h0) (W : Wd Z a_EQUALS a_IS_NULL a_GREATER_THAN_EQUAL a_GREATER_THAN a_NOT a_IS_NOT_NULL a_TRUE a_LESS_THAN a_FALSE a_LIKE a_CONTAINING a_NOT_IN a_STARTING_WITH a_BETWEEN a_NOT_LIKE a_ENDING_WITH a_LESS_THAN_EQUAL a_IN) :
    Met1 l Z (⟨"com/example/sober_repository/soberrepository/OperatorForNullPinLaw", "pick", "(I)Lcom/example/sober_repository/soberrepository/DerivedName$Operator;"⟩ : MethodName) method_2_code 1 (some (.object "com/example/sober_repository/soberrepository/DerivedName$Operator")) ({ frames := 0, cells := 0, slots := 0, locals := 0 } : Room) #[(.int (8 : Int32))] h0 n0 (fun v h => v = (.ref a_IS_NOT_NULL) ∧ h0 = h) := by
  refine met_of (L := #[.val (.int (8 : Int32))]) (plainFor_of_name pn_4) (fun m => by first | (simp [entryFrame, mkF, argsToLocals, Value.category]; done) | rfl) ?_
  intro p e s m below meth c T C X
  change Cx p s m meth c Z "com/example/sober_repository/soberrepository/OperatorForNullPinLaw" method_2_code 1 (some (.object "com/example/sober_repository/soberrepository/DerivedName$Operator")) "pick" at C
  refine g_iloadN C X d1_0 (q := 1) rfl rfl ?_
  refine g_ifY C X d1_1 (by decide) (q := 8) (by decide) (by decide) ?_
  refine g_iloadN C X d1_8 (q := 9) rfl rfl ?_
  refine g_iconst C X d1_9 (q := 10) rfl (z := (1 : Int32)) rfl ?_
  refine g_icY C X d1_10 (by decide) (q := 17) (by decide) (by decide) ?_
  refine g_iloadN C X d1_17 (q := 18) rfl rfl ?_
  refine g_iconst C X d1_18 (q := 19) rfl (z := (2 : Int32)) rfl ?_
  refine g_icY C X d1_19 (by decide) (q := 26) (by decide) (by decide) ?_
  refine g_iloadN C X d1_26 (q := 27) rfl rfl ?_
  refine g_iconst C X d1_27 (q := 28) rfl (z := (3 : Int32)) rfl ?_
  refine g_icY C X d1_28 (by decide) (q := 35) (by decide) (by decide) ?_
  refine g_iloadN C X d1_35 (q := 36) rfl rfl ?_
  refine g_iconst C X d1_36 (q := 37) rfl (z := (4 : Int32)) rfl ?_
  refine g_icY C X d1_37 (by decide) (q := 44) (by decide) (by decide) ?_
  refine g_iloadN C X d1_44 (q := 45) rfl rfl ?_
  refine g_iconst C X d1_45 (q := 46) rfl (z := (5 : Int32)) rfl ?_
  refine g_icY C X d1_46 (by decide) (q := 53) (by decide) (by decide) ?_
  refine g_iloadN C X d1_53 (q := 54) rfl rfl ?_
  refine g_bipush C X d1_54 (q := 56) rfl (z := (6 : Int32)) rfl ?_
  refine g_icY C X d1_56 (by decide) (q := 63) (by decide) (by decide) ?_
  refine g_iloadN C X d1_63 (q := 64) rfl rfl ?_
  refine g_bipush C X d1_64 (q := 66) rfl (z := (7 : Int32)) rfl ?_
  refine g_icY C X d1_66 (by decide) (q := 73) (by decide) (by decide) ?_
  refine g_iloadN C X d1_73 (q := 74) rfl rfl ?_
  refine g_bipush C X d1_74 (q := 76) rfl (z := (8 : Int32)) rfl ?_
  refine g_icN C X d1_76 (q := 79) rfl (by decide) ?_
  refine g_getS C X (host := "") (Or.inl (w32 hw)) Via.refl (W.2.2.2.2.2.2.2.2.2.2.2.2.2.2.1.ext O.2) d1_79 (q := 82) rfl ?_
  intro T1 X2
  exact g_retA C X2 rfl rfl d1_82 (by decide) (by decide) ⟨_, rfl, rfl, rfl⟩
set_option maxRecDepth 65536 in
set_option maxHeartbeats 40000000 in
theorem rm_ord_2 {l : Launch} {Z : State} {a0 : Array Value} (hw : ∀ d ∈ tables_1, d.before a0 Z = true) {a_EQUALS : Addr} {a_IS_NULL : Addr} {a_GREATER_THAN_EQUAL : Addr} {a_GREATER_THAN : Addr} {a_NOT : Addr} {a_IS_NOT_NULL : Addr} {a_TRUE : Addr} {a_LESS_THAN : Addr} {a_FALSE : Addr} {a_LIKE : Addr} {a_CONTAINING : Addr} {a_NOT_IN : Addr} {a_STARTING_WITH : Addr} {a_BETWEEN : Addr} {a_NOT_LIKE : Addr} {a_ENDING_WITH : Addr} {a_LESS_THAN_EQUAL : Addr} {a_IN : Addr} {h0 : Heap} {n0 : Nat} (O : Old Z n0 h0) (W : Wd Z a_EQUALS a_IS_NULL a_GREATER_THAN_EQUAL a_GREATER_THAN a_NOT a_IS_NOT_NULL a_TRUE a_LESS_THAN a_FALSE a_LIKE a_CONTAINING a_NOT_IN a_STARTING_WITH a_BETWEEN a_NOT_LIKE a_ENDING_WITH a_LESS_THAN_EQUAL a_IN) :
    Met1 l Z (⟨"java/lang/Enum", "ordinal", "()I"⟩ : MethodName) jdk_37_method_2_code 1 (some .int) ({ frames := 0, cells := 0, slots := 0, locals := 0 } : Room) #[(.ref a_NOT)] h0 n0 (fun v h => v = (.int (1 : Int32)) ∧ h0 = h) := by
  refine met_of (L := #[.val (.ref a_NOT)]) (plainFor_of_name pn_34) (fun m => by first | (simp [entryFrame, mkF, argsToLocals, Value.category]; done) | rfl) ?_
  intro p e s m below meth c T C X
  change Cx p s m meth c Z "java/lang/Enum" jdk_37_method_2_code 1 (some .int) "ordinal" at C
  refine g_aloadN C X d3_0 (q := 1) rfl rfl rfl ?_
  refine g_getF C X (host := "") (Or.inl (w23 hw)) Via.refl (W.2.2.2.2.2.2.2.2.2.2.2.2.2.2.2.2.1.ext O.2) d3_1 (q := 4) rfl ?_
  intro T1 X2
  exact g_retI C X2 d3_4 (by decide) (by decide) ⟨_, rfl, rfl, rfl⟩
set_option maxRecDepth 65536 in
set_option maxHeartbeats 40000000 in
theorem rm_fn_2 {l : Launch} {Z : State} {a0 : Array Value} (hw : ∀ d ∈ tables_1, d.before a0 Z = true) {a_EQUALS : Addr} {a_IS_NULL : Addr} {a_GREATER_THAN_EQUAL : Addr} {a_GREATER_THAN : Addr} {a_NOT : Addr} {a_IS_NOT_NULL : Addr} {a_TRUE : Addr} {a_LESS_THAN : Addr} {a_FALSE : Addr} {a_LIKE : Addr} {a_CONTAINING : Addr} {a_NOT_IN : Addr} {a_STARTING_WITH : Addr} {a_BETWEEN : Addr} {a_NOT_LIKE : Addr} {a_ENDING_WITH : Addr} {a_LESS_THAN_EQUAL : Addr} {a_IN : Addr} {h0 : Heap} {n0 : Nat} (O : Old Z n0 h0) (W : Wd Z a_EQUALS a_IS_NULL a_GREATER_THAN_EQUAL a_GREATER_THAN a_NOT a_IS_NOT_NULL a_TRUE a_LESS_THAN a_FALSE a_LIKE a_CONTAINING a_NOT_IN a_STARTING_WITH a_BETWEEN a_NOT_LIKE a_ENDING_WITH a_LESS_THAN_EQUAL a_IN) :
    Met1 l Z (⟨"com/example/sober_repository/soberrepository/DerivedName$Operator", "forNull", "()Lcom/example/sober_repository/soberrepository/DerivedName$Operator;"⟩ : MethodName) prog_12_method_8_code 2 (some (.object "com/example/sober_repository/soberrepository/DerivedName$Operator")) ({ frames := 1, cells := 0, slots := 0, locals := 12 } : Room) #[(.ref a_NOT)] h0 n0 (fun v h => v = (.ref a_IS_NOT_NULL) ∧ h0 = h) := by
  refine met_of (L := #[.val (.ref a_NOT), .unset]) (plainFor_of_name pn_42) (fun m => by first | (simp [entryFrame, mkF, argsToLocals, Value.category]; done) | rfl) ?_
  intro p e s m below meth c T C X
  change Cx p s m meth c Z "com/example/sober_repository/soberrepository/DerivedName$Operator" prog_12_method_8_code 2 (some (.object "com/example/sober_repository/soberrepository/DerivedName$Operator")) "forNull" at C
  refine g_aloadN C X d2_0 (q := 1) rfl rfl rfl ?_
  refine g_callU1 C X (y := (⟨"com/example/sober_repository/soberrepository/DerivedName$Operator", "ordinal", "()I"⟩ : MethodName)) (z := (⟨"java/lang/Enum", "ordinal", "()I"⟩ : MethodName)) (a := a_NOT) (owner := "java/lang/Enum") (by decide) (w16 hw) (w17 hw) (w18 hw) (w20 hw) (w19 hw) (W.2.2.2.2.2.2.2.2.2.2.2.2.2.1.ext O.2) (w22 hw) (w21 hw) (rm_ord_2 hw O W) (W := 0) (by decide) (by decide) (k' := 0) rfl (n' := 0) rfl (by decide) (by decide) rfl pd_35 (argsL := []) rfl (rest := []) rfl rfl rfl d2_1 (q := 4) rfl ?_
  rintro _ T1 _ X2 ⟨rfl, rfl⟩
  refine g_lsw C X2 d2_4 (by decide) (o := 35) (by decide) (by decide) (q := 39) (by decide) ?_
  refine g_getS C X2 (host := "") (Or.inl (w34 hw)) Via.refl (W.2.2.2.2.2.2.2.2.2.2.2.2.2.2.1.ext O.2) d2_39 (q := 42) rfl ?_
  intro T3 X4
  refine g_astoreN C X4 d2_42 (q := 43) rfl rfl (L' := #[.val (.ref a_NOT), .val (.ref a_IS_NOT_NULL)]) rfl ?_
  refine g_goto C X4 d2_43 (by decide) (q := 48) (by decide) ?_
  refine g_aloadN C X4 d2_48 (q := 49) rfl rfl rfl ?_
  exact g_retA C X4 rfl rfl d2_49 (by decide) (by decide) ⟨_, rfl, rfl, rfl⟩
set_option maxRecDepth 65536 in
set_option maxHeartbeats 40000000 in
theorem rm_ord_3 {l : Launch} {Z : State} {a0 : Array Value} (hw : ∀ d ∈ tables_1, d.before a0 Z = true) {a_EQUALS : Addr} {a_IS_NULL : Addr} {a_GREATER_THAN_EQUAL : Addr} {a_GREATER_THAN : Addr} {a_NOT : Addr} {a_IS_NOT_NULL : Addr} {a_TRUE : Addr} {a_LESS_THAN : Addr} {a_FALSE : Addr} {a_LIKE : Addr} {a_CONTAINING : Addr} {a_NOT_IN : Addr} {a_STARTING_WITH : Addr} {a_BETWEEN : Addr} {a_NOT_LIKE : Addr} {a_ENDING_WITH : Addr} {a_LESS_THAN_EQUAL : Addr} {a_IN : Addr} {h0 : Heap} {n0 : Nat} (O : Old Z n0 h0) (W : Wd Z a_EQUALS a_IS_NULL a_GREATER_THAN_EQUAL a_GREATER_THAN a_NOT a_IS_NOT_NULL a_TRUE a_LESS_THAN a_FALSE a_LIKE a_CONTAINING a_NOT_IN a_STARTING_WITH a_BETWEEN a_NOT_LIKE a_ENDING_WITH a_LESS_THAN_EQUAL a_IN) :
    Met1 l Z (⟨"java/lang/Enum", "ordinal", "()I"⟩ : MethodName) jdk_37_method_2_code 1 (some .int) ({ frames := 0, cells := 0, slots := 0, locals := 0 } : Room) #[(.ref a_IS_NOT_NULL)] h0 n0 (fun v h => v = (.int (8 : Int32)) ∧ h0 = h) := by
  refine met_of (L := #[.val (.ref a_IS_NOT_NULL)]) (plainFor_of_name pn_34) (fun m => by first | (simp [entryFrame, mkF, argsToLocals, Value.category]; done) | rfl) ?_
  intro p e s m below meth c T C X
  change Cx p s m meth c Z "java/lang/Enum" jdk_37_method_2_code 1 (some .int) "ordinal" at C
  refine g_aloadN C X d3_0 (q := 1) rfl rfl rfl ?_
  refine g_getF C X (host := "") (Or.inl (w23 hw)) Via.refl (W.2.2.2.2.2.2.2.2.2.2.2.2.2.2.2.2.2.1.ext O.2) d3_1 (q := 4) rfl ?_
  intro T1 X2
  exact g_retI C X2 d3_4 (by decide) (by decide) ⟨_, rfl, rfl, rfl⟩
set_option maxRecDepth 65536 in
set_option maxHeartbeats 40000000 in
theorem rm_fn_3 {l : Launch} {Z : State} {a0 : Array Value} (hw : ∀ d ∈ tables_1, d.before a0 Z = true) {a_EQUALS : Addr} {a_IS_NULL : Addr} {a_GREATER_THAN_EQUAL : Addr} {a_GREATER_THAN : Addr} {a_NOT : Addr} {a_IS_NOT_NULL : Addr} {a_TRUE : Addr} {a_LESS_THAN : Addr} {a_FALSE : Addr} {a_LIKE : Addr} {a_CONTAINING : Addr} {a_NOT_IN : Addr} {a_STARTING_WITH : Addr} {a_BETWEEN : Addr} {a_NOT_LIKE : Addr} {a_ENDING_WITH : Addr} {a_LESS_THAN_EQUAL : Addr} {a_IN : Addr} {h0 : Heap} {n0 : Nat} (O : Old Z n0 h0) (W : Wd Z a_EQUALS a_IS_NULL a_GREATER_THAN_EQUAL a_GREATER_THAN a_NOT a_IS_NOT_NULL a_TRUE a_LESS_THAN a_FALSE a_LIKE a_CONTAINING a_NOT_IN a_STARTING_WITH a_BETWEEN a_NOT_LIKE a_ENDING_WITH a_LESS_THAN_EQUAL a_IN) :
    Met1 l Z (⟨"com/example/sober_repository/soberrepository/DerivedName$Operator", "forNull", "()Lcom/example/sober_repository/soberrepository/DerivedName$Operator;"⟩ : MethodName) prog_12_method_8_code 2 (some (.object "com/example/sober_repository/soberrepository/DerivedName$Operator")) ({ frames := 1, cells := 0, slots := 0, locals := 12 } : Room) #[(.ref a_IS_NOT_NULL)] h0 n0 (fun v h => v = (.ref a_IS_NOT_NULL) ∧ h0 = h) := by
  refine met_of (L := #[.val (.ref a_IS_NOT_NULL), .unset]) (plainFor_of_name pn_42) (fun m => by first | (simp [entryFrame, mkF, argsToLocals, Value.category]; done) | rfl) ?_
  intro p e s m below meth c T C X
  change Cx p s m meth c Z "com/example/sober_repository/soberrepository/DerivedName$Operator" prog_12_method_8_code 2 (some (.object "com/example/sober_repository/soberrepository/DerivedName$Operator")) "forNull" at C
  refine g_aloadN C X d2_0 (q := 1) rfl rfl rfl ?_
  refine g_callU1 C X (y := (⟨"com/example/sober_repository/soberrepository/DerivedName$Operator", "ordinal", "()I"⟩ : MethodName)) (z := (⟨"java/lang/Enum", "ordinal", "()I"⟩ : MethodName)) (a := a_IS_NOT_NULL) (owner := "java/lang/Enum") (by decide) (w16 hw) (w17 hw) (w18 hw) (w20 hw) (w19 hw) (W.2.2.2.2.2.2.2.2.2.2.2.2.2.2.2.1.ext O.2) (w22 hw) (w21 hw) (rm_ord_3 hw O W) (W := 0) (by decide) (by decide) (k' := 0) rfl (n' := 0) rfl (by decide) (by decide) rfl pd_35 (argsL := []) rfl (rest := []) rfl rfl rfl d2_1 (q := 4) rfl ?_
  rintro _ T1 _ X2 ⟨rfl, rfl⟩
  refine g_lsw C X2 d2_4 (by decide) (o := 42) (by decide) (by decide) (q := 46) (by decide) ?_
  refine g_aloadN C X2 d2_46 (q := 47) rfl rfl rfl ?_
  refine g_astoreN C X2 d2_47 (q := 48) rfl rfl (L' := #[.val (.ref a_IS_NOT_NULL), .val (.ref a_IS_NOT_NULL)]) rfl ?_
  refine g_aloadN C X2 d2_48 (q := 49) rfl rfl rfl ?_
  exact g_retA C X2 rfl rfl d2_49 (by decide) (by decide) ⟨_, rfl, rfl, rfl⟩
set_option maxRecDepth 65536 in
set_option maxHeartbeats 40000000 in
theorem rm_pick_4 {l : Launch} {Z : State} {a0 : Array Value} (hw : ∀ d ∈ tables_1, d.before a0 Z = true) {a_EQUALS : Addr} {a_IS_NULL : Addr} {a_GREATER_THAN_EQUAL : Addr} {a_GREATER_THAN : Addr} {a_NOT : Addr} {a_IS_NOT_NULL : Addr} {a_TRUE : Addr} {a_LESS_THAN : Addr} {a_FALSE : Addr} {a_LIKE : Addr} {a_CONTAINING : Addr} {a_NOT_IN : Addr} {a_STARTING_WITH : Addr} {a_BETWEEN : Addr} {a_NOT_LIKE : Addr} {a_ENDING_WITH : Addr} {a_LESS_THAN_EQUAL : Addr} {a_IN : Addr} {h0 : Heap} {n0 : Nat} (O : Old Z n0 h0) (W : Wd Z a_EQUALS a_IS_NULL a_GREATER_THAN_EQUAL a_GREATER_THAN a_NOT a_IS_NOT_NULL a_TRUE a_LESS_THAN a_FALSE a_LIKE a_CONTAINING a_NOT_IN a_STARTING_WITH a_BETWEEN a_NOT_LIKE a_ENDING_WITH a_LESS_THAN_EQUAL a_IN) :
    Met1 l Z (⟨"com/example/sober_repository/soberrepository/OperatorForNullPinLaw", "pick", "(I)Lcom/example/sober_repository/soberrepository/DerivedName$Operator;"⟩ : MethodName) method_2_code 1 (some (.object "com/example/sober_repository/soberrepository/DerivedName$Operator")) ({ frames := 0, cells := 0, slots := 0, locals := 0 } : Room) #[(.int (2 : Int32))] h0 n0 (fun v h => v = (.ref a_GREATER_THAN) ∧ h0 = h) := by
  refine met_of (L := #[.val (.int (2 : Int32))]) (plainFor_of_name pn_4) (fun m => by first | (simp [entryFrame, mkF, argsToLocals, Value.category]; done) | rfl) ?_
  intro p e s m below meth c T C X
  change Cx p s m meth c Z "com/example/sober_repository/soberrepository/OperatorForNullPinLaw" method_2_code 1 (some (.object "com/example/sober_repository/soberrepository/DerivedName$Operator")) "pick" at C
  refine g_iloadN C X d1_0 (q := 1) rfl rfl ?_
  refine g_ifY C X d1_1 (by decide) (q := 8) (by decide) (by decide) ?_
  refine g_iloadN C X d1_8 (q := 9) rfl rfl ?_
  refine g_iconst C X d1_9 (q := 10) rfl (z := (1 : Int32)) rfl ?_
  refine g_icY C X d1_10 (by decide) (q := 17) (by decide) (by decide) ?_
  refine g_iloadN C X d1_17 (q := 18) rfl rfl ?_
  refine g_iconst C X d1_18 (q := 19) rfl (z := (2 : Int32)) rfl ?_
  refine g_icN C X d1_19 (q := 22) rfl (by decide) ?_
  refine g_getS C X (host := "") (Or.inl (w28 hw)) Via.refl (W.2.2.2.2.2.2.2.2.2.1.ext O.2) d1_22 (q := 25) rfl ?_
  intro T1 X2
  exact g_retA C X2 rfl rfl d1_25 (by decide) (by decide) ⟨_, rfl, rfl, rfl⟩
set_option maxRecDepth 65536 in
set_option maxHeartbeats 40000000 in
theorem rm_ord_4 {l : Launch} {Z : State} {a0 : Array Value} (hw : ∀ d ∈ tables_1, d.before a0 Z = true) {a_EQUALS : Addr} {a_IS_NULL : Addr} {a_GREATER_THAN_EQUAL : Addr} {a_GREATER_THAN : Addr} {a_NOT : Addr} {a_IS_NOT_NULL : Addr} {a_TRUE : Addr} {a_LESS_THAN : Addr} {a_FALSE : Addr} {a_LIKE : Addr} {a_CONTAINING : Addr} {a_NOT_IN : Addr} {a_STARTING_WITH : Addr} {a_BETWEEN : Addr} {a_NOT_LIKE : Addr} {a_ENDING_WITH : Addr} {a_LESS_THAN_EQUAL : Addr} {a_IN : Addr} {h0 : Heap} {n0 : Nat} (O : Old Z n0 h0) (W : Wd Z a_EQUALS a_IS_NULL a_GREATER_THAN_EQUAL a_GREATER_THAN a_NOT a_IS_NOT_NULL a_TRUE a_LESS_THAN a_FALSE a_LIKE a_CONTAINING a_NOT_IN a_STARTING_WITH a_BETWEEN a_NOT_LIKE a_ENDING_WITH a_LESS_THAN_EQUAL a_IN) :
    Met1 l Z (⟨"java/lang/Enum", "ordinal", "()I"⟩ : MethodName) jdk_37_method_2_code 1 (some .int) ({ frames := 0, cells := 0, slots := 0, locals := 0 } : Room) #[(.ref a_GREATER_THAN)] h0 n0 (fun v h => v = (.int (2 : Int32)) ∧ h0 = h) := by
  refine met_of (L := #[.val (.ref a_GREATER_THAN)]) (plainFor_of_name pn_34) (fun m => by first | (simp [entryFrame, mkF, argsToLocals, Value.category]; done) | rfl) ?_
  intro p e s m below meth c T C X
  change Cx p s m meth c Z "java/lang/Enum" jdk_37_method_2_code 1 (some .int) "ordinal" at C
  refine g_aloadN C X d3_0 (q := 1) rfl rfl rfl ?_
  refine g_getF C X (host := "") (Or.inl (w23 hw)) Via.refl (W.2.2.2.2.2.2.2.2.2.2.2.1.ext O.2) d3_1 (q := 4) rfl ?_
  intro T1 X2
  exact g_retI C X2 d3_4 (by decide) (by decide) ⟨_, rfl, rfl, rfl⟩
set_option maxRecDepth 65536 in
set_option maxHeartbeats 40000000 in
theorem rm_fn_4 {l : Launch} {Z : State} {a0 : Array Value} (hw : ∀ d ∈ tables_1, d.before a0 Z = true) {a_EQUALS : Addr} {a_IS_NULL : Addr} {a_GREATER_THAN_EQUAL : Addr} {a_GREATER_THAN : Addr} {a_NOT : Addr} {a_IS_NOT_NULL : Addr} {a_TRUE : Addr} {a_LESS_THAN : Addr} {a_FALSE : Addr} {a_LIKE : Addr} {a_CONTAINING : Addr} {a_NOT_IN : Addr} {a_STARTING_WITH : Addr} {a_BETWEEN : Addr} {a_NOT_LIKE : Addr} {a_ENDING_WITH : Addr} {a_LESS_THAN_EQUAL : Addr} {a_IN : Addr} {h0 : Heap} {n0 : Nat} (O : Old Z n0 h0) (W : Wd Z a_EQUALS a_IS_NULL a_GREATER_THAN_EQUAL a_GREATER_THAN a_NOT a_IS_NOT_NULL a_TRUE a_LESS_THAN a_FALSE a_LIKE a_CONTAINING a_NOT_IN a_STARTING_WITH a_BETWEEN a_NOT_LIKE a_ENDING_WITH a_LESS_THAN_EQUAL a_IN) :
    Met1 l Z (⟨"com/example/sober_repository/soberrepository/DerivedName$Operator", "forNull", "()Lcom/example/sober_repository/soberrepository/DerivedName$Operator;"⟩ : MethodName) prog_12_method_8_code 2 (some (.object "com/example/sober_repository/soberrepository/DerivedName$Operator")) ({ frames := 1, cells := 0, slots := 0, locals := 12 } : Room) #[(.ref a_GREATER_THAN)] h0 n0 (fun v h => v = (.ref a_GREATER_THAN) ∧ h0 = h) := by
  refine met_of (L := #[.val (.ref a_GREATER_THAN), .unset]) (plainFor_of_name pn_42) (fun m => by first | (simp [entryFrame, mkF, argsToLocals, Value.category]; done) | rfl) ?_
  intro p e s m below meth c T C X
  change Cx p s m meth c Z "com/example/sober_repository/soberrepository/DerivedName$Operator" prog_12_method_8_code 2 (some (.object "com/example/sober_repository/soberrepository/DerivedName$Operator")) "forNull" at C
  refine g_aloadN C X d2_0 (q := 1) rfl rfl rfl ?_
  refine g_callU1 C X (y := (⟨"com/example/sober_repository/soberrepository/DerivedName$Operator", "ordinal", "()I"⟩ : MethodName)) (z := (⟨"java/lang/Enum", "ordinal", "()I"⟩ : MethodName)) (a := a_GREATER_THAN) (owner := "java/lang/Enum") (by decide) (w16 hw) (w17 hw) (w18 hw) (w20 hw) (w19 hw) (W.2.2.2.2.2.2.2.2.2.2.1.ext O.2) (w22 hw) (w21 hw) (rm_ord_4 hw O W) (W := 0) (by decide) (by decide) (k' := 0) rfl (n' := 0) rfl (by decide) (by decide) rfl pd_35 (argsL := []) rfl (rest := []) rfl rfl rfl d2_1 (q := 4) rfl ?_
  rintro _ T1 _ X2 ⟨rfl, rfl⟩
  refine g_lsw C X2 d2_4 (by decide) (o := 42) (by decide) (by decide) (q := 46) (by decide) ?_
  refine g_aloadN C X2 d2_46 (q := 47) rfl rfl rfl ?_
  refine g_astoreN C X2 d2_47 (q := 48) rfl rfl (L' := #[.val (.ref a_GREATER_THAN), .val (.ref a_GREATER_THAN)]) rfl ?_
  refine g_aloadN C X2 d2_48 (q := 49) rfl rfl rfl ?_
  exact g_retA C X2 rfl rfl d2_49 (by decide) (by decide) ⟨_, rfl, rfl, rfl⟩
set_option maxRecDepth 65536 in
set_option maxHeartbeats 40000000 in
theorem rm_pick_5 {l : Launch} {Z : State} {a0 : Array Value} (hw : ∀ d ∈ tables_1, d.before a0 Z = true) {a_EQUALS : Addr} {a_IS_NULL : Addr} {a_GREATER_THAN_EQUAL : Addr} {a_GREATER_THAN : Addr} {a_NOT : Addr} {a_IS_NOT_NULL : Addr} {a_TRUE : Addr} {a_LESS_THAN : Addr} {a_FALSE : Addr} {a_LIKE : Addr} {a_CONTAINING : Addr} {a_NOT_IN : Addr} {a_STARTING_WITH : Addr} {a_BETWEEN : Addr} {a_NOT_LIKE : Addr} {a_ENDING_WITH : Addr} {a_LESS_THAN_EQUAL : Addr} {a_IN : Addr} {h0 : Heap} {n0 : Nat} (O : Old Z n0 h0) (W : Wd Z a_EQUALS a_IS_NULL a_GREATER_THAN_EQUAL a_GREATER_THAN a_NOT a_IS_NOT_NULL a_TRUE a_LESS_THAN a_FALSE a_LIKE a_CONTAINING a_NOT_IN a_STARTING_WITH a_BETWEEN a_NOT_LIKE a_ENDING_WITH a_LESS_THAN_EQUAL a_IN) :
    Met1 l Z (⟨"com/example/sober_repository/soberrepository/OperatorForNullPinLaw", "pick", "(I)Lcom/example/sober_repository/soberrepository/DerivedName$Operator;"⟩ : MethodName) method_2_code 1 (some (.object "com/example/sober_repository/soberrepository/DerivedName$Operator")) ({ frames := 0, cells := 0, slots := 0, locals := 0 } : Room) #[(.int (3 : Int32))] h0 n0 (fun v h => v = (.ref a_GREATER_THAN_EQUAL) ∧ h0 = h) := by
  refine met_of (L := #[.val (.int (3 : Int32))]) (plainFor_of_name pn_4) (fun m => by first | (simp [entryFrame, mkF, argsToLocals, Value.category]; done) | rfl) ?_
  intro p e s m below meth c T C X
  change Cx p s m meth c Z "com/example/sober_repository/soberrepository/OperatorForNullPinLaw" method_2_code 1 (some (.object "com/example/sober_repository/soberrepository/DerivedName$Operator")) "pick" at C
  refine g_iloadN C X d1_0 (q := 1) rfl rfl ?_
  refine g_ifY C X d1_1 (by decide) (q := 8) (by decide) (by decide) ?_
  refine g_iloadN C X d1_8 (q := 9) rfl rfl ?_
  refine g_iconst C X d1_9 (q := 10) rfl (z := (1 : Int32)) rfl ?_
  refine g_icY C X d1_10 (by decide) (q := 17) (by decide) (by decide) ?_
  refine g_iloadN C X d1_17 (q := 18) rfl rfl ?_
  refine g_iconst C X d1_18 (q := 19) rfl (z := (2 : Int32)) rfl ?_
  refine g_icY C X d1_19 (by decide) (q := 26) (by decide) (by decide) ?_
  refine g_iloadN C X d1_26 (q := 27) rfl rfl ?_
  refine g_iconst C X d1_27 (q := 28) rfl (z := (3 : Int32)) rfl ?_
  refine g_icN C X d1_28 (q := 31) rfl (by decide) ?_
  refine g_getS C X (host := "") (Or.inl (w26 hw)) Via.refl (W.2.2.2.2.2.2.1.ext O.2) d1_31 (q := 34) rfl ?_
  intro T1 X2
  exact g_retA C X2 rfl rfl d1_34 (by decide) (by decide) ⟨_, rfl, rfl, rfl⟩
set_option maxRecDepth 65536 in
set_option maxHeartbeats 40000000 in
theorem rm_ord_5 {l : Launch} {Z : State} {a0 : Array Value} (hw : ∀ d ∈ tables_1, d.before a0 Z = true) {a_EQUALS : Addr} {a_IS_NULL : Addr} {a_GREATER_THAN_EQUAL : Addr} {a_GREATER_THAN : Addr} {a_NOT : Addr} {a_IS_NOT_NULL : Addr} {a_TRUE : Addr} {a_LESS_THAN : Addr} {a_FALSE : Addr} {a_LIKE : Addr} {a_CONTAINING : Addr} {a_NOT_IN : Addr} {a_STARTING_WITH : Addr} {a_BETWEEN : Addr} {a_NOT_LIKE : Addr} {a_ENDING_WITH : Addr} {a_LESS_THAN_EQUAL : Addr} {a_IN : Addr} {h0 : Heap} {n0 : Nat} (O : Old Z n0 h0) (W : Wd Z a_EQUALS a_IS_NULL a_GREATER_THAN_EQUAL a_GREATER_THAN a_NOT a_IS_NOT_NULL a_TRUE a_LESS_THAN a_FALSE a_LIKE a_CONTAINING a_NOT_IN a_STARTING_WITH a_BETWEEN a_NOT_LIKE a_ENDING_WITH a_LESS_THAN_EQUAL a_IN) :
    Met1 l Z (⟨"java/lang/Enum", "ordinal", "()I"⟩ : MethodName) jdk_37_method_2_code 1 (some .int) ({ frames := 0, cells := 0, slots := 0, locals := 0 } : Room) #[(.ref a_GREATER_THAN_EQUAL)] h0 n0 (fun v h => v = (.int (3 : Int32)) ∧ h0 = h) := by
  refine met_of (L := #[.val (.ref a_GREATER_THAN_EQUAL)]) (plainFor_of_name pn_34) (fun m => by first | (simp [entryFrame, mkF, argsToLocals, Value.category]; done) | rfl) ?_
  intro p e s m below meth c T C X
  change Cx p s m meth c Z "java/lang/Enum" jdk_37_method_2_code 1 (some .int) "ordinal" at C
  refine g_aloadN C X d3_0 (q := 1) rfl rfl rfl ?_
  refine g_getF C X (host := "") (Or.inl (w23 hw)) Via.refl (W.2.2.2.2.2.2.2.2.1.ext O.2) d3_1 (q := 4) rfl ?_
  intro T1 X2
  exact g_retI C X2 d3_4 (by decide) (by decide) ⟨_, rfl, rfl, rfl⟩
set_option maxRecDepth 65536 in
set_option maxHeartbeats 40000000 in
theorem rm_fn_5 {l : Launch} {Z : State} {a0 : Array Value} (hw : ∀ d ∈ tables_1, d.before a0 Z = true) {a_EQUALS : Addr} {a_IS_NULL : Addr} {a_GREATER_THAN_EQUAL : Addr} {a_GREATER_THAN : Addr} {a_NOT : Addr} {a_IS_NOT_NULL : Addr} {a_TRUE : Addr} {a_LESS_THAN : Addr} {a_FALSE : Addr} {a_LIKE : Addr} {a_CONTAINING : Addr} {a_NOT_IN : Addr} {a_STARTING_WITH : Addr} {a_BETWEEN : Addr} {a_NOT_LIKE : Addr} {a_ENDING_WITH : Addr} {a_LESS_THAN_EQUAL : Addr} {a_IN : Addr} {h0 : Heap} {n0 : Nat} (O : Old Z n0 h0) (W : Wd Z a_EQUALS a_IS_NULL a_GREATER_THAN_EQUAL a_GREATER_THAN a_NOT a_IS_NOT_NULL a_TRUE a_LESS_THAN a_FALSE a_LIKE a_CONTAINING a_NOT_IN a_STARTING_WITH a_BETWEEN a_NOT_LIKE a_ENDING_WITH a_LESS_THAN_EQUAL a_IN) :
    Met1 l Z (⟨"com/example/sober_repository/soberrepository/DerivedName$Operator", "forNull", "()Lcom/example/sober_repository/soberrepository/DerivedName$Operator;"⟩ : MethodName) prog_12_method_8_code 2 (some (.object "com/example/sober_repository/soberrepository/DerivedName$Operator")) ({ frames := 1, cells := 0, slots := 0, locals := 12 } : Room) #[(.ref a_GREATER_THAN_EQUAL)] h0 n0 (fun v h => v = (.ref a_GREATER_THAN_EQUAL) ∧ h0 = h) := by
  refine met_of (L := #[.val (.ref a_GREATER_THAN_EQUAL), .unset]) (plainFor_of_name pn_42) (fun m => by first | (simp [entryFrame, mkF, argsToLocals, Value.category]; done) | rfl) ?_
  intro p e s m below meth c T C X
  change Cx p s m meth c Z "com/example/sober_repository/soberrepository/DerivedName$Operator" prog_12_method_8_code 2 (some (.object "com/example/sober_repository/soberrepository/DerivedName$Operator")) "forNull" at C
  refine g_aloadN C X d2_0 (q := 1) rfl rfl rfl ?_
  refine g_callU1 C X (y := (⟨"com/example/sober_repository/soberrepository/DerivedName$Operator", "ordinal", "()I"⟩ : MethodName)) (z := (⟨"java/lang/Enum", "ordinal", "()I"⟩ : MethodName)) (a := a_GREATER_THAN_EQUAL) (owner := "java/lang/Enum") (by decide) (w16 hw) (w17 hw) (w18 hw) (w20 hw) (w19 hw) (W.2.2.2.2.2.2.2.1.ext O.2) (w22 hw) (w21 hw) (rm_ord_5 hw O W) (W := 0) (by decide) (by decide) (k' := 0) rfl (n' := 0) rfl (by decide) (by decide) rfl pd_35 (argsL := []) rfl (rest := []) rfl rfl rfl d2_1 (q := 4) rfl ?_
  rintro _ T1 _ X2 ⟨rfl, rfl⟩
  refine g_lsw C X2 d2_4 (by decide) (o := 42) (by decide) (by decide) (q := 46) (by decide) ?_
  refine g_aloadN C X2 d2_46 (q := 47) rfl rfl rfl ?_
  refine g_astoreN C X2 d2_47 (q := 48) rfl rfl (L' := #[.val (.ref a_GREATER_THAN_EQUAL), .val (.ref a_GREATER_THAN_EQUAL)]) rfl ?_
  refine g_aloadN C X2 d2_48 (q := 49) rfl rfl rfl ?_
  exact g_retA C X2 rfl rfl d2_49 (by decide) (by decide) ⟨_, rfl, rfl, rfl⟩
set_option maxRecDepth 65536 in
set_option maxHeartbeats 40000000 in
theorem rm_pick_6 {l : Launch} {Z : State} {a0 : Array Value} (hw : ∀ d ∈ tables_1, d.before a0 Z = true) {a_EQUALS : Addr} {a_IS_NULL : Addr} {a_GREATER_THAN_EQUAL : Addr} {a_GREATER_THAN : Addr} {a_NOT : Addr} {a_IS_NOT_NULL : Addr} {a_TRUE : Addr} {a_LESS_THAN : Addr} {a_FALSE : Addr} {a_LIKE : Addr} {a_CONTAINING : Addr} {a_NOT_IN : Addr} {a_STARTING_WITH : Addr} {a_BETWEEN : Addr} {a_NOT_LIKE : Addr} {a_ENDING_WITH : Addr} {a_LESS_THAN_EQUAL : Addr} {a_IN : Addr} {h0 : Heap} {n0 : Nat} (O : Old Z n0 h0) (W : Wd Z a_EQUALS a_IS_NULL a_GREATER_THAN_EQUAL a_GREATER_THAN a_NOT a_IS_NOT_NULL a_TRUE a_LESS_THAN a_FALSE a_LIKE a_CONTAINING a_NOT_IN a_STARTING_WITH a_BETWEEN a_NOT_LIKE a_ENDING_WITH a_LESS_THAN_EQUAL a_IN) :
    Met1 l Z (⟨"com/example/sober_repository/soberrepository/OperatorForNullPinLaw", "pick", "(I)Lcom/example/sober_repository/soberrepository/DerivedName$Operator;"⟩ : MethodName) method_2_code 1 (some (.object "com/example/sober_repository/soberrepository/DerivedName$Operator")) ({ frames := 0, cells := 0, slots := 0, locals := 0 } : Room) #[(.int (4 : Int32))] h0 n0 (fun v h => v = (.ref a_LESS_THAN) ∧ h0 = h) := by
  refine met_of (L := #[.val (.int (4 : Int32))]) (plainFor_of_name pn_4) (fun m => by first | (simp [entryFrame, mkF, argsToLocals, Value.category]; done) | rfl) ?_
  intro p e s m below meth c T C X
  change Cx p s m meth c Z "com/example/sober_repository/soberrepository/OperatorForNullPinLaw" method_2_code 1 (some (.object "com/example/sober_repository/soberrepository/DerivedName$Operator")) "pick" at C
  refine g_iloadN C X d1_0 (q := 1) rfl rfl ?_
  refine g_ifY C X d1_1 (by decide) (q := 8) (by decide) (by decide) ?_
  refine g_iloadN C X d1_8 (q := 9) rfl rfl ?_
  refine g_iconst C X d1_9 (q := 10) rfl (z := (1 : Int32)) rfl ?_
  refine g_icY C X d1_10 (by decide) (q := 17) (by decide) (by decide) ?_
  refine g_iloadN C X d1_17 (q := 18) rfl rfl ?_
  refine g_iconst C X d1_18 (q := 19) rfl (z := (2 : Int32)) rfl ?_
  refine g_icY C X d1_19 (by decide) (q := 26) (by decide) (by decide) ?_
  refine g_iloadN C X d1_26 (q := 27) rfl rfl ?_
  refine g_iconst C X d1_27 (q := 28) rfl (z := (3 : Int32)) rfl ?_
  refine g_icY C X d1_28 (by decide) (q := 35) (by decide) (by decide) ?_
  refine g_iloadN C X d1_35 (q := 36) rfl rfl ?_
  refine g_iconst C X d1_36 (q := 37) rfl (z := (4 : Int32)) rfl ?_
  refine g_icN C X d1_37 (q := 40) rfl (by decide) ?_
  refine g_getS C X (host := "") (Or.inl (w37 hw)) Via.refl (W.2.2.2.2.2.2.2.2.2.2.2.2.2.2.2.2.2.2.2.2.2.1.ext O.2) d1_40 (q := 43) rfl ?_
  intro T1 X2
  exact g_retA C X2 rfl rfl d1_43 (by decide) (by decide) ⟨_, rfl, rfl, rfl⟩
set_option maxRecDepth 65536 in
set_option maxHeartbeats 40000000 in
theorem rm_ord_6 {l : Launch} {Z : State} {a0 : Array Value} (hw : ∀ d ∈ tables_1, d.before a0 Z = true) {a_EQUALS : Addr} {a_IS_NULL : Addr} {a_GREATER_THAN_EQUAL : Addr} {a_GREATER_THAN : Addr} {a_NOT : Addr} {a_IS_NOT_NULL : Addr} {a_TRUE : Addr} {a_LESS_THAN : Addr} {a_FALSE : Addr} {a_LIKE : Addr} {a_CONTAINING : Addr} {a_NOT_IN : Addr} {a_STARTING_WITH : Addr} {a_BETWEEN : Addr} {a_NOT_LIKE : Addr} {a_ENDING_WITH : Addr} {a_LESS_THAN_EQUAL : Addr} {a_IN : Addr} {h0 : Heap} {n0 : Nat} (O : Old Z n0 h0) (W : Wd Z a_EQUALS a_IS_NULL a_GREATER_THAN_EQUAL a_GREATER_THAN a_NOT a_IS_NOT_NULL a_TRUE a_LESS_THAN a_FALSE a_LIKE a_CONTAINING a_NOT_IN a_STARTING_WITH a_BETWEEN a_NOT_LIKE a_ENDING_WITH a_LESS_THAN_EQUAL a_IN) :
    Met1 l Z (⟨"java/lang/Enum", "ordinal", "()I"⟩ : MethodName) jdk_37_method_2_code 1 (some .int) ({ frames := 0, cells := 0, slots := 0, locals := 0 } : Room) #[(.ref a_LESS_THAN)] h0 n0 (fun v h => v = (.int (4 : Int32)) ∧ h0 = h) := by
  refine met_of (L := #[.val (.ref a_LESS_THAN)]) (plainFor_of_name pn_34) (fun m => by first | (simp [entryFrame, mkF, argsToLocals, Value.category]; done) | rfl) ?_
  intro p e s m below meth c T C X
  change Cx p s m meth c Z "java/lang/Enum" jdk_37_method_2_code 1 (some .int) "ordinal" at C
  refine g_aloadN C X d3_0 (q := 1) rfl rfl rfl ?_
  refine g_getF C X (host := "") (Or.inl (w23 hw)) Via.refl (W.2.2.2.2.2.2.2.2.2.2.2.2.2.2.2.2.2.2.2.2.2.2.2.1.ext O.2) d3_1 (q := 4) rfl ?_
  intro T1 X2
  exact g_retI C X2 d3_4 (by decide) (by decide) ⟨_, rfl, rfl, rfl⟩
set_option maxRecDepth 65536 in
set_option maxHeartbeats 40000000 in
theorem rm_fn_6 {l : Launch} {Z : State} {a0 : Array Value} (hw : ∀ d ∈ tables_1, d.before a0 Z = true) {a_EQUALS : Addr} {a_IS_NULL : Addr} {a_GREATER_THAN_EQUAL : Addr} {a_GREATER_THAN : Addr} {a_NOT : Addr} {a_IS_NOT_NULL : Addr} {a_TRUE : Addr} {a_LESS_THAN : Addr} {a_FALSE : Addr} {a_LIKE : Addr} {a_CONTAINING : Addr} {a_NOT_IN : Addr} {a_STARTING_WITH : Addr} {a_BETWEEN : Addr} {a_NOT_LIKE : Addr} {a_ENDING_WITH : Addr} {a_LESS_THAN_EQUAL : Addr} {a_IN : Addr} {h0 : Heap} {n0 : Nat} (O : Old Z n0 h0) (W : Wd Z a_EQUALS a_IS_NULL a_GREATER_THAN_EQUAL a_GREATER_THAN a_NOT a_IS_NOT_NULL a_TRUE a_LESS_THAN a_FALSE a_LIKE a_CONTAINING a_NOT_IN a_STARTING_WITH a_BETWEEN a_NOT_LIKE a_ENDING_WITH a_LESS_THAN_EQUAL a_IN) :
    Met1 l Z (⟨"com/example/sober_repository/soberrepository/DerivedName$Operator", "forNull", "()Lcom/example/sober_repository/soberrepository/DerivedName$Operator;"⟩ : MethodName) prog_12_method_8_code 2 (some (.object "com/example/sober_repository/soberrepository/DerivedName$Operator")) ({ frames := 1, cells := 0, slots := 0, locals := 12 } : Room) #[(.ref a_LESS_THAN)] h0 n0 (fun v h => v = (.ref a_LESS_THAN) ∧ h0 = h) := by
  refine met_of (L := #[.val (.ref a_LESS_THAN), .unset]) (plainFor_of_name pn_42) (fun m => by first | (simp [entryFrame, mkF, argsToLocals, Value.category]; done) | rfl) ?_
  intro p e s m below meth c T C X
  change Cx p s m meth c Z "com/example/sober_repository/soberrepository/DerivedName$Operator" prog_12_method_8_code 2 (some (.object "com/example/sober_repository/soberrepository/DerivedName$Operator")) "forNull" at C
  refine g_aloadN C X d2_0 (q := 1) rfl rfl rfl ?_
  refine g_callU1 C X (y := (⟨"com/example/sober_repository/soberrepository/DerivedName$Operator", "ordinal", "()I"⟩ : MethodName)) (z := (⟨"java/lang/Enum", "ordinal", "()I"⟩ : MethodName)) (a := a_LESS_THAN) (owner := "java/lang/Enum") (by decide) (w16 hw) (w17 hw) (w18 hw) (w20 hw) (w19 hw) (W.2.2.2.2.2.2.2.2.2.2.2.2.2.2.2.2.2.2.2.2.2.2.1.ext O.2) (w22 hw) (w21 hw) (rm_ord_6 hw O W) (W := 0) (by decide) (by decide) (k' := 0) rfl (n' := 0) rfl (by decide) (by decide) rfl pd_35 (argsL := []) rfl (rest := []) rfl rfl rfl d2_1 (q := 4) rfl ?_
  rintro _ T1 _ X2 ⟨rfl, rfl⟩
  refine g_lsw C X2 d2_4 (by decide) (o := 42) (by decide) (by decide) (q := 46) (by decide) ?_
  refine g_aloadN C X2 d2_46 (q := 47) rfl rfl rfl ?_
  refine g_astoreN C X2 d2_47 (q := 48) rfl rfl (L' := #[.val (.ref a_LESS_THAN), .val (.ref a_LESS_THAN)]) rfl ?_
  refine g_aloadN C X2 d2_48 (q := 49) rfl rfl rfl ?_
  exact g_retA C X2 rfl rfl d2_49 (by decide) (by decide) ⟨_, rfl, rfl, rfl⟩
set_option maxRecDepth 65536 in
set_option maxHeartbeats 40000000 in
theorem rm_pick_7 {l : Launch} {Z : State} {a0 : Array Value} (hw : ∀ d ∈ tables_1, d.before a0 Z = true) {a_EQUALS : Addr} {a_IS_NULL : Addr} {a_GREATER_THAN_EQUAL : Addr} {a_GREATER_THAN : Addr} {a_NOT : Addr} {a_IS_NOT_NULL : Addr} {a_TRUE : Addr} {a_LESS_THAN : Addr} {a_FALSE : Addr} {a_LIKE : Addr} {a_CONTAINING : Addr} {a_NOT_IN : Addr} {a_STARTING_WITH : Addr} {a_BETWEEN : Addr} {a_NOT_LIKE : Addr} {a_ENDING_WITH : Addr} {a_LESS_THAN_EQUAL : Addr} {a_IN : Addr} {h0 : Heap} {n0 : Nat} (O : Old Z n0 h0) (W : Wd Z a_EQUALS a_IS_NULL a_GREATER_THAN_EQUAL a_GREATER_THAN a_NOT a_IS_NOT_NULL a_TRUE a_LESS_THAN a_FALSE a_LIKE a_CONTAINING a_NOT_IN a_STARTING_WITH a_BETWEEN a_NOT_LIKE a_ENDING_WITH a_LESS_THAN_EQUAL a_IN) :
    Met1 l Z (⟨"com/example/sober_repository/soberrepository/OperatorForNullPinLaw", "pick", "(I)Lcom/example/sober_repository/soberrepository/DerivedName$Operator;"⟩ : MethodName) method_2_code 1 (some (.object "com/example/sober_repository/soberrepository/DerivedName$Operator")) ({ frames := 0, cells := 0, slots := 0, locals := 0 } : Room) #[(.int (5 : Int32))] h0 n0 (fun v h => v = (.ref a_LESS_THAN_EQUAL) ∧ h0 = h) := by
  refine met_of (L := #[.val (.int (5 : Int32))]) (plainFor_of_name pn_4) (fun m => by first | (simp [entryFrame, mkF, argsToLocals, Value.category]; done) | rfl) ?_
  intro p e s m below meth c T C X
  change Cx p s m meth c Z "com/example/sober_repository/soberrepository/OperatorForNullPinLaw" method_2_code 1 (some (.object "com/example/sober_repository/soberrepository/DerivedName$Operator")) "pick" at C
  refine g_iloadN C X d1_0 (q := 1) rfl rfl ?_
  refine g_ifY C X d1_1 (by decide) (q := 8) (by decide) (by decide) ?_
  refine g_iloadN C X d1_8 (q := 9) rfl rfl ?_
  refine g_iconst C X d1_9 (q := 10) rfl (z := (1 : Int32)) rfl ?_
  refine g_icY C X d1_10 (by decide) (q := 17) (by decide) (by decide) ?_
  refine g_iloadN C X d1_17 (q := 18) rfl rfl ?_
  refine g_iconst C X d1_18 (q := 19) rfl (z := (2 : Int32)) rfl ?_
  refine g_icY C X d1_19 (by decide) (q := 26) (by decide) (by decide) ?_
  refine g_iloadN C X d1_26 (q := 27) rfl rfl ?_
  refine g_iconst C X d1_27 (q := 28) rfl (z := (3 : Int32)) rfl ?_
  refine g_icY C X d1_28 (by decide) (q := 35) (by decide) (by decide) ?_
  refine g_iloadN C X d1_35 (q := 36) rfl rfl ?_
  refine g_iconst C X d1_36 (q := 37) rfl (z := (4 : Int32)) rfl ?_
  refine g_icY C X d1_37 (by decide) (q := 44) (by decide) (by decide) ?_
  refine g_iloadN C X d1_44 (q := 45) rfl rfl ?_
  refine g_iconst C X d1_45 (q := 46) rfl (z := (5 : Int32)) rfl ?_
  refine g_icN C X d1_46 (q := 49) rfl (by decide) ?_
  refine g_getS C X (host := "") (Or.inl (w55 hw)) Via.refl (W.2.2.2.2.2.2.2.2.2.2.2.2.2.2.2.2.2.2.2.2.2.2.2.2.2.2.2.2.2.2.2.2.2.2.2.2.2.2.2.2.2.2.2.2.2.2.2.2.1.ext O.2) d1_49 (q := 52) rfl ?_
  intro T1 X2
  exact g_retA C X2 rfl rfl d1_52 (by decide) (by decide) ⟨_, rfl, rfl, rfl⟩
set_option maxRecDepth 65536 in
set_option maxHeartbeats 40000000 in
theorem rm_ord_7 {l : Launch} {Z : State} {a0 : Array Value} (hw : ∀ d ∈ tables_1, d.before a0 Z = true) {a_EQUALS : Addr} {a_IS_NULL : Addr} {a_GREATER_THAN_EQUAL : Addr} {a_GREATER_THAN : Addr} {a_NOT : Addr} {a_IS_NOT_NULL : Addr} {a_TRUE : Addr} {a_LESS_THAN : Addr} {a_FALSE : Addr} {a_LIKE : Addr} {a_CONTAINING : Addr} {a_NOT_IN : Addr} {a_STARTING_WITH : Addr} {a_BETWEEN : Addr} {a_NOT_LIKE : Addr} {a_ENDING_WITH : Addr} {a_LESS_THAN_EQUAL : Addr} {a_IN : Addr} {h0 : Heap} {n0 : Nat} (O : Old Z n0 h0) (W : Wd Z a_EQUALS a_IS_NULL a_GREATER_THAN_EQUAL a_GREATER_THAN a_NOT a_IS_NOT_NULL a_TRUE a_LESS_THAN a_FALSE a_LIKE a_CONTAINING a_NOT_IN a_STARTING_WITH a_BETWEEN a_NOT_LIKE a_ENDING_WITH a_LESS_THAN_EQUAL a_IN) :
    Met1 l Z (⟨"java/lang/Enum", "ordinal", "()I"⟩ : MethodName) jdk_37_method_2_code 1 (some .int) ({ frames := 0, cells := 0, slots := 0, locals := 0 } : Room) #[(.ref a_LESS_THAN_EQUAL)] h0 n0 (fun v h => v = (.int (5 : Int32)) ∧ h0 = h) := by
  refine met_of (L := #[.val (.ref a_LESS_THAN_EQUAL)]) (plainFor_of_name pn_34) (fun m => by first | (simp [entryFrame, mkF, argsToLocals, Value.category]; done) | rfl) ?_
  intro p e s m below meth c T C X
  change Cx p s m meth c Z "java/lang/Enum" jdk_37_method_2_code 1 (some .int) "ordinal" at C
  refine g_aloadN C X d3_0 (q := 1) rfl rfl rfl ?_
  refine g_getF C X (host := "") (Or.inl (w23 hw)) Via.refl (W.2.2.2.2.2.2.2.2.2.2.2.2.2.2.2.2.2.2.2.2.2.2.2.2.2.2.2.2.2.2.2.2.2.2.2.2.2.2.2.2.2.2.2.2.2.2.2.2.2.2.1.ext O.2) d3_1 (q := 4) rfl ?_
  intro T1 X2
  exact g_retI C X2 d3_4 (by decide) (by decide) ⟨_, rfl, rfl, rfl⟩
set_option maxRecDepth 65536 in
set_option maxHeartbeats 40000000 in
theorem rm_fn_7 {l : Launch} {Z : State} {a0 : Array Value} (hw : ∀ d ∈ tables_1, d.before a0 Z = true) {a_EQUALS : Addr} {a_IS_NULL : Addr} {a_GREATER_THAN_EQUAL : Addr} {a_GREATER_THAN : Addr} {a_NOT : Addr} {a_IS_NOT_NULL : Addr} {a_TRUE : Addr} {a_LESS_THAN : Addr} {a_FALSE : Addr} {a_LIKE : Addr} {a_CONTAINING : Addr} {a_NOT_IN : Addr} {a_STARTING_WITH : Addr} {a_BETWEEN : Addr} {a_NOT_LIKE : Addr} {a_ENDING_WITH : Addr} {a_LESS_THAN_EQUAL : Addr} {a_IN : Addr} {h0 : Heap} {n0 : Nat} (O : Old Z n0 h0) (W : Wd Z a_EQUALS a_IS_NULL a_GREATER_THAN_EQUAL a_GREATER_THAN a_NOT a_IS_NOT_NULL a_TRUE a_LESS_THAN a_FALSE a_LIKE a_CONTAINING a_NOT_IN a_STARTING_WITH a_BETWEEN a_NOT_LIKE a_ENDING_WITH a_LESS_THAN_EQUAL a_IN) :
    Met1 l Z (⟨"com/example/sober_repository/soberrepository/DerivedName$Operator", "forNull", "()Lcom/example/sober_repository/soberrepository/DerivedName$Operator;"⟩ : MethodName) prog_12_method_8_code 2 (some (.object "com/example/sober_repository/soberrepository/DerivedName$Operator")) ({ frames := 1, cells := 0, slots := 0, locals := 12 } : Room) #[(.ref a_LESS_THAN_EQUAL)] h0 n0 (fun v h => v = (.ref a_LESS_THAN_EQUAL) ∧ h0 = h) := by
  refine met_of (L := #[.val (.ref a_LESS_THAN_EQUAL), .unset]) (plainFor_of_name pn_42) (fun m => by first | (simp [entryFrame, mkF, argsToLocals, Value.category]; done) | rfl) ?_
  intro p e s m below meth c T C X
  change Cx p s m meth c Z "com/example/sober_repository/soberrepository/DerivedName$Operator" prog_12_method_8_code 2 (some (.object "com/example/sober_repository/soberrepository/DerivedName$Operator")) "forNull" at C
  refine g_aloadN C X d2_0 (q := 1) rfl rfl rfl ?_
  refine g_callU1 C X (y := (⟨"com/example/sober_repository/soberrepository/DerivedName$Operator", "ordinal", "()I"⟩ : MethodName)) (z := (⟨"java/lang/Enum", "ordinal", "()I"⟩ : MethodName)) (a := a_LESS_THAN_EQUAL) (owner := "java/lang/Enum") (by decide) (w16 hw) (w17 hw) (w18 hw) (w20 hw) (w19 hw) (W.2.2.2.2.2.2.2.2.2.2.2.2.2.2.2.2.2.2.2.2.2.2.2.2.2.2.2.2.2.2.2.2.2.2.2.2.2.2.2.2.2.2.2.2.2.2.2.2.2.1.ext O.2) (w22 hw) (w21 hw) (rm_ord_7 hw O W) (W := 0) (by decide) (by decide) (k' := 0) rfl (n' := 0) rfl (by decide) (by decide) rfl pd_35 (argsL := []) rfl (rest := []) rfl rfl rfl d2_1 (q := 4) rfl ?_
  rintro _ T1 _ X2 ⟨rfl, rfl⟩
  refine g_lsw C X2 d2_4 (by decide) (o := 42) (by decide) (by decide) (q := 46) (by decide) ?_
  refine g_aloadN C X2 d2_46 (q := 47) rfl rfl rfl ?_
  refine g_astoreN C X2 d2_47 (q := 48) rfl rfl (L' := #[.val (.ref a_LESS_THAN_EQUAL), .val (.ref a_LESS_THAN_EQUAL)]) rfl ?_
  refine g_aloadN C X2 d2_48 (q := 49) rfl rfl rfl ?_
  exact g_retA C X2 rfl rfl d2_49 (by decide) (by decide) ⟨_, rfl, rfl, rfl⟩
set_option maxRecDepth 65536 in
set_option maxHeartbeats 40000000 in
theorem rm_pick_8 {l : Launch} {Z : State} {a0 : Array Value} (hw : ∀ d ∈ tables_1, d.before a0 Z = true) {a_EQUALS : Addr} {a_IS_NULL : Addr} {a_GREATER_THAN_EQUAL : Addr} {a_GREATER_THAN : Addr} {a_NOT : Addr} {a_IS_NOT_NULL : Addr} {a_TRUE : Addr} {a_LESS_THAN : Addr} {a_FALSE : Addr} {a_LIKE : Addr} {a_CONTAINING : Addr} {a_NOT_IN : Addr} {a_STARTING_WITH : Addr} {a_BETWEEN : Addr} {a_NOT_LIKE : Addr} {a_ENDING_WITH : Addr} {a_LESS_THAN_EQUAL : Addr} {a_IN : Addr} {h0 : Heap} {n0 : Nat} (O : Old Z n0 h0) (W : Wd Z a_EQUALS a_IS_NULL a_GREATER_THAN_EQUAL a_GREATER_THAN a_NOT a_IS_NOT_NULL a_TRUE a_LESS_THAN a_FALSE a_LIKE a_CONTAINING a_NOT_IN a_STARTING_WITH a_BETWEEN a_NOT_LIKE a_ENDING_WITH a_LESS_THAN_EQUAL a_IN) :
    Met1 l Z (⟨"com/example/sober_repository/soberrepository/OperatorForNullPinLaw", "pick", "(I)Lcom/example/sober_repository/soberrepository/DerivedName$Operator;"⟩ : MethodName) method_2_code 1 (some (.object "com/example/sober_repository/soberrepository/DerivedName$Operator")) ({ frames := 0, cells := 0, slots := 0, locals := 0 } : Room) #[(.int (6 : Int32))] h0 n0 (fun v h => v = (.ref a_BETWEEN) ∧ h0 = h) := by
  refine met_of (L := #[.val (.int (6 : Int32))]) (plainFor_of_name pn_4) (fun m => by first | (simp [entryFrame, mkF, argsToLocals, Value.category]; done) | rfl) ?_
  intro p e s m below meth c T C X
  change Cx p s m meth c Z "com/example/sober_repository/soberrepository/OperatorForNullPinLaw" method_2_code 1 (some (.object "com/example/sober_repository/soberrepository/DerivedName$Operator")) "pick" at C
  refine g_iloadN C X d1_0 (q := 1) rfl rfl ?_
  refine g_ifY C X d1_1 (by decide) (q := 8) (by decide) (by decide) ?_
  refine g_iloadN C X d1_8 (q := 9) rfl rfl ?_
  refine g_iconst C X d1_9 (q := 10) rfl (z := (1 : Int32)) rfl ?_
  refine g_icY C X d1_10 (by decide) (q := 17) (by decide) (by decide) ?_
  refine g_iloadN C X d1_17 (q := 18) rfl rfl ?_
  refine g_iconst C X d1_18 (q := 19) rfl (z := (2 : Int32)) rfl ?_
  refine g_icY C X d1_19 (by decide) (q := 26) (by decide) (by decide) ?_
  refine g_iloadN C X d1_26 (q := 27) rfl rfl ?_
  refine g_iconst C X d1_27 (q := 28) rfl (z := (3 : Int32)) rfl ?_
  refine g_icY C X d1_28 (by decide) (q := 35) (by decide) (by decide) ?_
  refine g_iloadN C X d1_35 (q := 36) rfl rfl ?_
  refine g_iconst C X d1_36 (q := 37) rfl (z := (4 : Int32)) rfl ?_
  refine g_icY C X d1_37 (by decide) (q := 44) (by decide) (by decide) ?_
  refine g_iloadN C X d1_44 (q := 45) rfl rfl ?_
  refine g_iconst C X d1_45 (q := 46) rfl (z := (5 : Int32)) rfl ?_
  refine g_icY C X d1_46 (by decide) (q := 53) (by decide) (by decide) ?_
  refine g_iloadN C X d1_53 (q := 54) rfl rfl ?_
  refine g_bipush C X d1_54 (q := 56) rfl (z := (6 : Int32)) rfl ?_
  refine g_icN C X d1_56 (q := 59) rfl (by decide) ?_
  refine g_getS C X (host := "") (Or.inl (w49 hw)) Via.refl (W.2.2.2.2.2.2.2.2.2.2.2.2.2.2.2.2.2.2.2.2.2.2.2.2.2.2.2.2.2.2.2.2.2.2.2.2.2.2.2.1.ext O.2) d1_59 (q := 62) rfl ?_
  intro T1 X2
  exact g_retA C X2 rfl rfl d1_62 (by decide) (by decide) ⟨_, rfl, rfl, rfl⟩
set_option maxRecDepth 65536 in
set_option maxHeartbeats 40000000 in
theorem rm_ord_8 {l : Launch} {Z : State} {a0 : Array Value} (hw : ∀ d ∈ tables_1, d.before a0 Z = true) {a_EQUALS : Addr} {a_IS_NULL : Addr} {a_GREATER_THAN_EQUAL : Addr} {a_GREATER_THAN : Addr} {a_NOT : Addr} {a_IS_NOT_NULL : Addr} {a_TRUE : Addr} {a_LESS_THAN : Addr} {a_FALSE : Addr} {a_LIKE : Addr} {a_CONTAINING : Addr} {a_NOT_IN : Addr} {a_STARTING_WITH : Addr} {a_BETWEEN : Addr} {a_NOT_LIKE : Addr} {a_ENDING_WITH : Addr} {a_LESS_THAN_EQUAL : Addr} {a_IN : Addr} {h0 : Heap} {n0 : Nat} (O : Old Z n0 h0) (W : Wd Z a_EQUALS a_IS_NULL a_GREATER_THAN_EQUAL a_GREATER_THAN a_NOT a_IS_NOT_NULL a_TRUE a_LESS_THAN a_FALSE a_LIKE a_CONTAINING a_NOT_IN a_STARTING_WITH a_BETWEEN a_NOT_LIKE a_ENDING_WITH a_LESS_THAN_EQUAL a_IN) :
    Met1 l Z (⟨"java/lang/Enum", "ordinal", "()I"⟩ : MethodName) jdk_37_method_2_code 1 (some .int) ({ frames := 0, cells := 0, slots := 0, locals := 0 } : Room) #[(.ref a_BETWEEN)] h0 n0 (fun v h => v = (.int (6 : Int32)) ∧ h0 = h) := by
  refine met_of (L := #[.val (.ref a_BETWEEN)]) (plainFor_of_name pn_34) (fun m => by first | (simp [entryFrame, mkF, argsToLocals, Value.category]; done) | rfl) ?_
  intro p e s m below meth c T C X
  change Cx p s m meth c Z "java/lang/Enum" jdk_37_method_2_code 1 (some .int) "ordinal" at C
  refine g_aloadN C X d3_0 (q := 1) rfl rfl rfl ?_
  refine g_getF C X (host := "") (Or.inl (w23 hw)) Via.refl (W.2.2.2.2.2.2.2.2.2.2.2.2.2.2.2.2.2.2.2.2.2.2.2.2.2.2.2.2.2.2.2.2.2.2.2.2.2.2.2.2.2.1.ext O.2) d3_1 (q := 4) rfl ?_
  intro T1 X2
  exact g_retI C X2 d3_4 (by decide) (by decide) ⟨_, rfl, rfl, rfl⟩
set_option maxRecDepth 65536 in
set_option maxHeartbeats 40000000 in
theorem rm_fn_8 {l : Launch} {Z : State} {a0 : Array Value} (hw : ∀ d ∈ tables_1, d.before a0 Z = true) {a_EQUALS : Addr} {a_IS_NULL : Addr} {a_GREATER_THAN_EQUAL : Addr} {a_GREATER_THAN : Addr} {a_NOT : Addr} {a_IS_NOT_NULL : Addr} {a_TRUE : Addr} {a_LESS_THAN : Addr} {a_FALSE : Addr} {a_LIKE : Addr} {a_CONTAINING : Addr} {a_NOT_IN : Addr} {a_STARTING_WITH : Addr} {a_BETWEEN : Addr} {a_NOT_LIKE : Addr} {a_ENDING_WITH : Addr} {a_LESS_THAN_EQUAL : Addr} {a_IN : Addr} {h0 : Heap} {n0 : Nat} (O : Old Z n0 h0) (W : Wd Z a_EQUALS a_IS_NULL a_GREATER_THAN_EQUAL a_GREATER_THAN a_NOT a_IS_NOT_NULL a_TRUE a_LESS_THAN a_FALSE a_LIKE a_CONTAINING a_NOT_IN a_STARTING_WITH a_BETWEEN a_NOT_LIKE a_ENDING_WITH a_LESS_THAN_EQUAL a_IN) :
    Met1 l Z (⟨"com/example/sober_repository/soberrepository/DerivedName$Operator", "forNull", "()Lcom/example/sober_repository/soberrepository/DerivedName$Operator;"⟩ : MethodName) prog_12_method_8_code 2 (some (.object "com/example/sober_repository/soberrepository/DerivedName$Operator")) ({ frames := 1, cells := 0, slots := 0, locals := 12 } : Room) #[(.ref a_BETWEEN)] h0 n0 (fun v h => v = (.ref a_BETWEEN) ∧ h0 = h) := by
  refine met_of (L := #[.val (.ref a_BETWEEN), .unset]) (plainFor_of_name pn_42) (fun m => by first | (simp [entryFrame, mkF, argsToLocals, Value.category]; done) | rfl) ?_
  intro p e s m below meth c T C X
  change Cx p s m meth c Z "com/example/sober_repository/soberrepository/DerivedName$Operator" prog_12_method_8_code 2 (some (.object "com/example/sober_repository/soberrepository/DerivedName$Operator")) "forNull" at C
  refine g_aloadN C X d2_0 (q := 1) rfl rfl rfl ?_
  refine g_callU1 C X (y := (⟨"com/example/sober_repository/soberrepository/DerivedName$Operator", "ordinal", "()I"⟩ : MethodName)) (z := (⟨"java/lang/Enum", "ordinal", "()I"⟩ : MethodName)) (a := a_BETWEEN) (owner := "java/lang/Enum") (by decide) (w16 hw) (w17 hw) (w18 hw) (w20 hw) (w19 hw) (W.2.2.2.2.2.2.2.2.2.2.2.2.2.2.2.2.2.2.2.2.2.2.2.2.2.2.2.2.2.2.2.2.2.2.2.2.2.2.2.2.1.ext O.2) (w22 hw) (w21 hw) (rm_ord_8 hw O W) (W := 0) (by decide) (by decide) (k' := 0) rfl (n' := 0) rfl (by decide) (by decide) rfl pd_35 (argsL := []) rfl (rest := []) rfl rfl rfl d2_1 (q := 4) rfl ?_
  rintro _ T1 _ X2 ⟨rfl, rfl⟩
  refine g_lsw C X2 d2_4 (by decide) (o := 42) (by decide) (by decide) (q := 46) (by decide) ?_
  refine g_aloadN C X2 d2_46 (q := 47) rfl rfl rfl ?_
  refine g_astoreN C X2 d2_47 (q := 48) rfl rfl (L' := #[.val (.ref a_BETWEEN), .val (.ref a_BETWEEN)]) rfl ?_
  refine g_aloadN C X2 d2_48 (q := 49) rfl rfl rfl ?_
  exact g_retA C X2 rfl rfl d2_49 (by decide) (by decide) ⟨_, rfl, rfl, rfl⟩
set_option maxRecDepth 65536 in
set_option maxHeartbeats 40000000 in
theorem rm_pick_9 {l : Launch} {Z : State} {a0 : Array Value} (hw : ∀ d ∈ tables_1, d.before a0 Z = true) {a_EQUALS : Addr} {a_IS_NULL : Addr} {a_GREATER_THAN_EQUAL : Addr} {a_GREATER_THAN : Addr} {a_NOT : Addr} {a_IS_NOT_NULL : Addr} {a_TRUE : Addr} {a_LESS_THAN : Addr} {a_FALSE : Addr} {a_LIKE : Addr} {a_CONTAINING : Addr} {a_NOT_IN : Addr} {a_STARTING_WITH : Addr} {a_BETWEEN : Addr} {a_NOT_LIKE : Addr} {a_ENDING_WITH : Addr} {a_LESS_THAN_EQUAL : Addr} {a_IN : Addr} {h0 : Heap} {n0 : Nat} (O : Old Z n0 h0) (W : Wd Z a_EQUALS a_IS_NULL a_GREATER_THAN_EQUAL a_GREATER_THAN a_NOT a_IS_NOT_NULL a_TRUE a_LESS_THAN a_FALSE a_LIKE a_CONTAINING a_NOT_IN a_STARTING_WITH a_BETWEEN a_NOT_LIKE a_ENDING_WITH a_LESS_THAN_EQUAL a_IN) :
    Met1 l Z (⟨"com/example/sober_repository/soberrepository/OperatorForNullPinLaw", "pick", "(I)Lcom/example/sober_repository/soberrepository/DerivedName$Operator;"⟩ : MethodName) method_2_code 1 (some (.object "com/example/sober_repository/soberrepository/DerivedName$Operator")) ({ frames := 0, cells := 0, slots := 0, locals := 0 } : Room) #[(.int (9 : Int32))] h0 n0 (fun v h => v = (.ref a_IN) ∧ h0 = h) := by
  refine met_of (L := #[.val (.int (9 : Int32))]) (plainFor_of_name pn_4) (fun m => by first | (simp [entryFrame, mkF, argsToLocals, Value.category]; done) | rfl) ?_
  intro p e s m below meth c T C X
  change Cx p s m meth c Z "com/example/sober_repository/soberrepository/OperatorForNullPinLaw" method_2_code 1 (some (.object "com/example/sober_repository/soberrepository/DerivedName$Operator")) "pick" at C
  refine g_iloadN C X d1_0 (q := 1) rfl rfl ?_
  refine g_ifY C X d1_1 (by decide) (q := 8) (by decide) (by decide) ?_
  refine g_iloadN C X d1_8 (q := 9) rfl rfl ?_
  refine g_iconst C X d1_9 (q := 10) rfl (z := (1 : Int32)) rfl ?_
  refine g_icY C X d1_10 (by decide) (q := 17) (by decide) (by decide) ?_
  refine g_iloadN C X d1_17 (q := 18) rfl rfl ?_
  refine g_iconst C X d1_18 (q := 19) rfl (z := (2 : Int32)) rfl ?_
  refine g_icY C X d1_19 (by decide) (q := 26) (by decide) (by decide) ?_
  refine g_iloadN C X d1_26 (q := 27) rfl rfl ?_
  refine g_iconst C X d1_27 (q := 28) rfl (z := (3 : Int32)) rfl ?_
  refine g_icY C X d1_28 (by decide) (q := 35) (by decide) (by decide) ?_
  refine g_iloadN C X d1_35 (q := 36) rfl rfl ?_
  refine g_iconst C X d1_36 (q := 37) rfl (z := (4 : Int32)) rfl ?_
  refine g_icY C X d1_37 (by decide) (q := 44) (by decide) (by decide) ?_
  refine g_iloadN C X d1_44 (q := 45) rfl rfl ?_
  refine g_iconst C X d1_45 (q := 46) rfl (z := (5 : Int32)) rfl ?_
  refine g_icY C X d1_46 (by decide) (q := 53) (by decide) (by decide) ?_
  refine g_iloadN C X d1_53 (q := 54) rfl rfl ?_
  refine g_bipush C X d1_54 (q := 56) rfl (z := (6 : Int32)) rfl ?_
  refine g_icY C X d1_56 (by decide) (q := 63) (by decide) (by decide) ?_
  refine g_iloadN C X d1_63 (q := 64) rfl rfl ?_
  refine g_bipush C X d1_64 (q := 66) rfl (z := (7 : Int32)) rfl ?_
  refine g_icY C X d1_66 (by decide) (q := 73) (by decide) (by decide) ?_
  refine g_iloadN C X d1_73 (q := 74) rfl rfl ?_
  refine g_bipush C X d1_74 (q := 76) rfl (z := (8 : Int32)) rfl ?_
  refine g_icY C X d1_76 (by decide) (q := 83) (by decide) (by decide) ?_
  refine g_iloadN C X d1_83 (q := 84) rfl rfl ?_
  refine g_bipush C X d1_84 (q := 86) rfl (z := (9 : Int32)) rfl ?_
  refine g_icN C X d1_86 (q := 89) rfl (by decide) ?_
  refine g_getS C X (host := "") (Or.inl (w57 hw)) Via.refl (W.2.2.2.2.2.2.2.2.2.2.2.2.2.2.2.2.2.2.2.2.2.2.2.2.2.2.2.2.2.2.2.2.2.2.2.2.2.2.2.2.2.2.2.2.2.2.2.2.2.2.2.1.ext O.2) d1_89 (q := 92) rfl ?_
  intro T1 X2
  exact g_retA C X2 rfl rfl d1_92 (by decide) (by decide) ⟨_, rfl, rfl, rfl⟩
set_option maxRecDepth 65536 in
set_option maxHeartbeats 40000000 in
theorem rm_ord_9 {l : Launch} {Z : State} {a0 : Array Value} (hw : ∀ d ∈ tables_1, d.before a0 Z = true) {a_EQUALS : Addr} {a_IS_NULL : Addr} {a_GREATER_THAN_EQUAL : Addr} {a_GREATER_THAN : Addr} {a_NOT : Addr} {a_IS_NOT_NULL : Addr} {a_TRUE : Addr} {a_LESS_THAN : Addr} {a_FALSE : Addr} {a_LIKE : Addr} {a_CONTAINING : Addr} {a_NOT_IN : Addr} {a_STARTING_WITH : Addr} {a_BETWEEN : Addr} {a_NOT_LIKE : Addr} {a_ENDING_WITH : Addr} {a_LESS_THAN_EQUAL : Addr} {a_IN : Addr} {h0 : Heap} {n0 : Nat} (O : Old Z n0 h0) (W : Wd Z a_EQUALS a_IS_NULL a_GREATER_THAN_EQUAL a_GREATER_THAN a_NOT a_IS_NOT_NULL a_TRUE a_LESS_THAN a_FALSE a_LIKE a_CONTAINING a_NOT_IN a_STARTING_WITH a_BETWEEN a_NOT_LIKE a_ENDING_WITH a_LESS_THAN_EQUAL a_IN) :
    Met1 l Z (⟨"java/lang/Enum", "ordinal", "()I"⟩ : MethodName) jdk_37_method_2_code 1 (some .int) ({ frames := 0, cells := 0, slots := 0, locals := 0 } : Room) #[(.ref a_IN)] h0 n0 (fun v h => v = (.int (9 : Int32)) ∧ h0 = h) := by
  refine met_of (L := #[.val (.ref a_IN)]) (plainFor_of_name pn_34) (fun m => by first | (simp [entryFrame, mkF, argsToLocals, Value.category]; done) | rfl) ?_
  intro p e s m below meth c T C X
  change Cx p s m meth c Z "java/lang/Enum" jdk_37_method_2_code 1 (some .int) "ordinal" at C
  refine g_aloadN C X d3_0 (q := 1) rfl rfl rfl ?_
  refine g_getF C X (host := "") (Or.inl (w23 hw)) Via.refl (W.2.2.2.2.2.2.2.2.2.2.2.2.2.2.2.2.2.2.2.2.2.2.2.2.2.2.2.2.2.2.2.2.2.2.2.2.2.2.2.2.2.2.2.2.2.2.2.2.2.2.2.2.2.ext O.2) d3_1 (q := 4) rfl ?_
  intro T1 X2
  exact g_retI C X2 d3_4 (by decide) (by decide) ⟨_, rfl, rfl, rfl⟩
set_option maxRecDepth 65536 in
set_option maxHeartbeats 40000000 in
theorem rm_fn_9 {l : Launch} {Z : State} {a0 : Array Value} (hw : ∀ d ∈ tables_1, d.before a0 Z = true) {a_EQUALS : Addr} {a_IS_NULL : Addr} {a_GREATER_THAN_EQUAL : Addr} {a_GREATER_THAN : Addr} {a_NOT : Addr} {a_IS_NOT_NULL : Addr} {a_TRUE : Addr} {a_LESS_THAN : Addr} {a_FALSE : Addr} {a_LIKE : Addr} {a_CONTAINING : Addr} {a_NOT_IN : Addr} {a_STARTING_WITH : Addr} {a_BETWEEN : Addr} {a_NOT_LIKE : Addr} {a_ENDING_WITH : Addr} {a_LESS_THAN_EQUAL : Addr} {a_IN : Addr} {h0 : Heap} {n0 : Nat} (O : Old Z n0 h0) (W : Wd Z a_EQUALS a_IS_NULL a_GREATER_THAN_EQUAL a_GREATER_THAN a_NOT a_IS_NOT_NULL a_TRUE a_LESS_THAN a_FALSE a_LIKE a_CONTAINING a_NOT_IN a_STARTING_WITH a_BETWEEN a_NOT_LIKE a_ENDING_WITH a_LESS_THAN_EQUAL a_IN) :
    Met1 l Z (⟨"com/example/sober_repository/soberrepository/DerivedName$Operator", "forNull", "()Lcom/example/sober_repository/soberrepository/DerivedName$Operator;"⟩ : MethodName) prog_12_method_8_code 2 (some (.object "com/example/sober_repository/soberrepository/DerivedName$Operator")) ({ frames := 1, cells := 0, slots := 0, locals := 12 } : Room) #[(.ref a_IN)] h0 n0 (fun v h => v = (.ref a_IN) ∧ h0 = h) := by
  refine met_of (L := #[.val (.ref a_IN), .unset]) (plainFor_of_name pn_42) (fun m => by first | (simp [entryFrame, mkF, argsToLocals, Value.category]; done) | rfl) ?_
  intro p e s m below meth c T C X
  change Cx p s m meth c Z "com/example/sober_repository/soberrepository/DerivedName$Operator" prog_12_method_8_code 2 (some (.object "com/example/sober_repository/soberrepository/DerivedName$Operator")) "forNull" at C
  refine g_aloadN C X d2_0 (q := 1) rfl rfl rfl ?_
  refine g_callU1 C X (y := (⟨"com/example/sober_repository/soberrepository/DerivedName$Operator", "ordinal", "()I"⟩ : MethodName)) (z := (⟨"java/lang/Enum", "ordinal", "()I"⟩ : MethodName)) (a := a_IN) (owner := "java/lang/Enum") (by decide) (w16 hw) (w17 hw) (w18 hw) (w20 hw) (w19 hw) (W.2.2.2.2.2.2.2.2.2.2.2.2.2.2.2.2.2.2.2.2.2.2.2.2.2.2.2.2.2.2.2.2.2.2.2.2.2.2.2.2.2.2.2.2.2.2.2.2.2.2.2.2.1.ext O.2) (w22 hw) (w21 hw) (rm_ord_9 hw O W) (W := 0) (by decide) (by decide) (k' := 0) rfl (n' := 0) rfl (by decide) (by decide) rfl pd_35 (argsL := []) rfl (rest := []) rfl rfl rfl d2_1 (q := 4) rfl ?_
  rintro _ T1 _ X2 ⟨rfl, rfl⟩
  refine g_lsw C X2 d2_4 (by decide) (o := 42) (by decide) (by decide) (q := 46) (by decide) ?_
  refine g_aloadN C X2 d2_46 (q := 47) rfl rfl rfl ?_
  refine g_astoreN C X2 d2_47 (q := 48) rfl rfl (L' := #[.val (.ref a_IN), .val (.ref a_IN)]) rfl ?_
  refine g_aloadN C X2 d2_48 (q := 49) rfl rfl rfl ?_
  exact g_retA C X2 rfl rfl d2_49 (by decide) (by decide) ⟨_, rfl, rfl, rfl⟩
set_option maxRecDepth 65536 in
set_option maxHeartbeats 40000000 in
theorem rm_pick_10 {l : Launch} {Z : State} {a0 : Array Value} (hw : ∀ d ∈ tables_1, d.before a0 Z = true) {a_EQUALS : Addr} {a_IS_NULL : Addr} {a_GREATER_THAN_EQUAL : Addr} {a_GREATER_THAN : Addr} {a_NOT : Addr} {a_IS_NOT_NULL : Addr} {a_TRUE : Addr} {a_LESS_THAN : Addr} {a_FALSE : Addr} {a_LIKE : Addr} {a_CONTAINING : Addr} {a_NOT_IN : Addr} {a_STARTING_WITH : Addr} {a_BETWEEN : Addr} {a_NOT_LIKE : Addr} {a_ENDING_WITH : Addr} {a_LESS_THAN_EQUAL : Addr} {a_IN : Addr} {h0 : Heap} {n0 : Nat} (O : Old Z n0 h0) (W : Wd Z a_EQUALS a_IS_NULL a_GREATER_THAN_EQUAL a_GREATER_THAN a_NOT a_IS_NOT_NULL a_TRUE a_LESS_THAN a_FALSE a_LIKE a_CONTAINING a_NOT_IN a_STARTING_WITH a_BETWEEN a_NOT_LIKE a_ENDING_WITH a_LESS_THAN_EQUAL a_IN) :
    Met1 l Z (⟨"com/example/sober_repository/soberrepository/OperatorForNullPinLaw", "pick", "(I)Lcom/example/sober_repository/soberrepository/DerivedName$Operator;"⟩ : MethodName) method_2_code 1 (some (.object "com/example/sober_repository/soberrepository/DerivedName$Operator")) ({ frames := 0, cells := 0, slots := 0, locals := 0 } : Room) #[(.int (10 : Int32))] h0 n0 (fun v h => v = (.ref a_NOT_IN) ∧ h0 = h) := by
  refine met_of (L := #[.val (.int (10 : Int32))]) (plainFor_of_name pn_4) (fun m => by first | (simp [entryFrame, mkF, argsToLocals, Value.category]; done) | rfl) ?_
  intro p e s m below meth c T C X
  change Cx p s m meth c Z "com/example/sober_repository/soberrepository/OperatorForNullPinLaw" method_2_code 1 (some (.object "com/example/sober_repository/soberrepository/DerivedName$Operator")) "pick" at C
  refine g_iloadN C X d1_0 (q := 1) rfl rfl ?_
  refine g_ifY C X d1_1 (by decide) (q := 8) (by decide) (by decide) ?_
  refine g_iloadN C X d1_8 (q := 9) rfl rfl ?_
  refine g_iconst C X d1_9 (q := 10) rfl (z := (1 : Int32)) rfl ?_
  refine g_icY C X d1_10 (by decide) (q := 17) (by decide) (by decide) ?_
  refine g_iloadN C X d1_17 (q := 18) rfl rfl ?_
  refine g_iconst C X d1_18 (q := 19) rfl (z := (2 : Int32)) rfl ?_
  refine g_icY C X d1_19 (by decide) (q := 26) (by decide) (by decide) ?_
  refine g_iloadN C X d1_26 (q := 27) rfl rfl ?_
  refine g_iconst C X d1_27 (q := 28) rfl (z := (3 : Int32)) rfl ?_
  refine g_icY C X d1_28 (by decide) (q := 35) (by decide) (by decide) ?_
  refine g_iloadN C X d1_35 (q := 36) rfl rfl ?_
  refine g_iconst C X d1_36 (q := 37) rfl (z := (4 : Int32)) rfl ?_
  refine g_icY C X d1_37 (by decide) (q := 44) (by decide) (by decide) ?_
  refine g_iloadN C X d1_44 (q := 45) rfl rfl ?_
  refine g_iconst C X d1_45 (q := 46) rfl (z := (5 : Int32)) rfl ?_
  refine g_icY C X d1_46 (by decide) (q := 53) (by decide) (by decide) ?_
  refine g_iloadN C X d1_53 (q := 54) rfl rfl ?_
  refine g_bipush C X d1_54 (q := 56) rfl (z := (6 : Int32)) rfl ?_
  refine g_icY C X d1_56 (by decide) (q := 63) (by decide) (by decide) ?_
  refine g_iloadN C X d1_63 (q := 64) rfl rfl ?_
  refine g_bipush C X d1_64 (q := 66) rfl (z := (7 : Int32)) rfl ?_
  refine g_icY C X d1_66 (by decide) (q := 73) (by decide) (by decide) ?_
  refine g_iloadN C X d1_73 (q := 74) rfl rfl ?_
  refine g_bipush C X d1_74 (q := 76) rfl (z := (8 : Int32)) rfl ?_
  refine g_icY C X d1_76 (by decide) (q := 83) (by decide) (by decide) ?_
  refine g_iloadN C X d1_83 (q := 84) rfl rfl ?_
  refine g_bipush C X d1_84 (q := 86) rfl (z := (9 : Int32)) rfl ?_
  refine g_icY C X d1_86 (by decide) (q := 93) (by decide) (by decide) ?_
  refine g_iloadN C X d1_93 (q := 94) rfl rfl ?_
  refine g_bipush C X d1_94 (q := 96) rfl (z := (10 : Int32)) rfl ?_
  refine g_icN C X d1_96 (q := 99) rfl (by decide) ?_
  refine g_getS C X (host := "") (Or.inl (w45 hw)) Via.refl (W.2.2.2.2.2.2.2.2.2.2.2.2.2.2.2.2.2.2.2.2.2.2.2.2.2.2.2.2.2.2.2.2.2.1.ext O.2) d1_99 (q := 102) rfl ?_
  intro T1 X2
  exact g_retA C X2 rfl rfl d1_102 (by decide) (by decide) ⟨_, rfl, rfl, rfl⟩
set_option maxRecDepth 65536 in
set_option maxHeartbeats 40000000 in
theorem rm_ord_10 {l : Launch} {Z : State} {a0 : Array Value} (hw : ∀ d ∈ tables_1, d.before a0 Z = true) {a_EQUALS : Addr} {a_IS_NULL : Addr} {a_GREATER_THAN_EQUAL : Addr} {a_GREATER_THAN : Addr} {a_NOT : Addr} {a_IS_NOT_NULL : Addr} {a_TRUE : Addr} {a_LESS_THAN : Addr} {a_FALSE : Addr} {a_LIKE : Addr} {a_CONTAINING : Addr} {a_NOT_IN : Addr} {a_STARTING_WITH : Addr} {a_BETWEEN : Addr} {a_NOT_LIKE : Addr} {a_ENDING_WITH : Addr} {a_LESS_THAN_EQUAL : Addr} {a_IN : Addr} {h0 : Heap} {n0 : Nat} (O : Old Z n0 h0) (W : Wd Z a_EQUALS a_IS_NULL a_GREATER_THAN_EQUAL a_GREATER_THAN a_NOT a_IS_NOT_NULL a_TRUE a_LESS_THAN a_FALSE a_LIKE a_CONTAINING a_NOT_IN a_STARTING_WITH a_BETWEEN a_NOT_LIKE a_ENDING_WITH a_LESS_THAN_EQUAL a_IN) :
    Met1 l Z (⟨"java/lang/Enum", "ordinal", "()I"⟩ : MethodName) jdk_37_method_2_code 1 (some .int) ({ frames := 0, cells := 0, slots := 0, locals := 0 } : Room) #[(.ref a_NOT_IN)] h0 n0 (fun v h => v = (.int (10 : Int32)) ∧ h0 = h) := by
  refine met_of (L := #[.val (.ref a_NOT_IN)]) (plainFor_of_name pn_34) (fun m => by first | (simp [entryFrame, mkF, argsToLocals, Value.category]; done) | rfl) ?_
  intro p e s m below meth c T C X
  change Cx p s m meth c Z "java/lang/Enum" jdk_37_method_2_code 1 (some .int) "ordinal" at C
  refine g_aloadN C X d3_0 (q := 1) rfl rfl rfl ?_
  refine g_getF C X (host := "") (Or.inl (w23 hw)) Via.refl (W.2.2.2.2.2.2.2.2.2.2.2.2.2.2.2.2.2.2.2.2.2.2.2.2.2.2.2.2.2.2.2.2.2.2.2.1.ext O.2) d3_1 (q := 4) rfl ?_
  intro T1 X2
  exact g_retI C X2 d3_4 (by decide) (by decide) ⟨_, rfl, rfl, rfl⟩
set_option maxRecDepth 65536 in
set_option maxHeartbeats 40000000 in
theorem rm_fn_10 {l : Launch} {Z : State} {a0 : Array Value} (hw : ∀ d ∈ tables_1, d.before a0 Z = true) {a_EQUALS : Addr} {a_IS_NULL : Addr} {a_GREATER_THAN_EQUAL : Addr} {a_GREATER_THAN : Addr} {a_NOT : Addr} {a_IS_NOT_NULL : Addr} {a_TRUE : Addr} {a_LESS_THAN : Addr} {a_FALSE : Addr} {a_LIKE : Addr} {a_CONTAINING : Addr} {a_NOT_IN : Addr} {a_STARTING_WITH : Addr} {a_BETWEEN : Addr} {a_NOT_LIKE : Addr} {a_ENDING_WITH : Addr} {a_LESS_THAN_EQUAL : Addr} {a_IN : Addr} {h0 : Heap} {n0 : Nat} (O : Old Z n0 h0) (W : Wd Z a_EQUALS a_IS_NULL a_GREATER_THAN_EQUAL a_GREATER_THAN a_NOT a_IS_NOT_NULL a_TRUE a_LESS_THAN a_FALSE a_LIKE a_CONTAINING a_NOT_IN a_STARTING_WITH a_BETWEEN a_NOT_LIKE a_ENDING_WITH a_LESS_THAN_EQUAL a_IN) :
    Met1 l Z (⟨"com/example/sober_repository/soberrepository/DerivedName$Operator", "forNull", "()Lcom/example/sober_repository/soberrepository/DerivedName$Operator;"⟩ : MethodName) prog_12_method_8_code 2 (some (.object "com/example/sober_repository/soberrepository/DerivedName$Operator")) ({ frames := 1, cells := 0, slots := 0, locals := 12 } : Room) #[(.ref a_NOT_IN)] h0 n0 (fun v h => v = (.ref a_NOT_IN) ∧ h0 = h) := by
  refine met_of (L := #[.val (.ref a_NOT_IN), .unset]) (plainFor_of_name pn_42) (fun m => by first | (simp [entryFrame, mkF, argsToLocals, Value.category]; done) | rfl) ?_
  intro p e s m below meth c T C X
  change Cx p s m meth c Z "com/example/sober_repository/soberrepository/DerivedName$Operator" prog_12_method_8_code 2 (some (.object "com/example/sober_repository/soberrepository/DerivedName$Operator")) "forNull" at C
  refine g_aloadN C X d2_0 (q := 1) rfl rfl rfl ?_
  refine g_callU1 C X (y := (⟨"com/example/sober_repository/soberrepository/DerivedName$Operator", "ordinal", "()I"⟩ : MethodName)) (z := (⟨"java/lang/Enum", "ordinal", "()I"⟩ : MethodName)) (a := a_NOT_IN) (owner := "java/lang/Enum") (by decide) (w16 hw) (w17 hw) (w18 hw) (w20 hw) (w19 hw) (W.2.2.2.2.2.2.2.2.2.2.2.2.2.2.2.2.2.2.2.2.2.2.2.2.2.2.2.2.2.2.2.2.2.2.1.ext O.2) (w22 hw) (w21 hw) (rm_ord_10 hw O W) (W := 0) (by decide) (by decide) (k' := 0) rfl (n' := 0) rfl (by decide) (by decide) rfl pd_35 (argsL := []) rfl (rest := []) rfl rfl rfl d2_1 (q := 4) rfl ?_
  rintro _ T1 _ X2 ⟨rfl, rfl⟩
  refine g_lsw C X2 d2_4 (by decide) (o := 42) (by decide) (by decide) (q := 46) (by decide) ?_
  refine g_aloadN C X2 d2_46 (q := 47) rfl rfl rfl ?_
  refine g_astoreN C X2 d2_47 (q := 48) rfl rfl (L' := #[.val (.ref a_NOT_IN), .val (.ref a_NOT_IN)]) rfl ?_
  refine g_aloadN C X2 d2_48 (q := 49) rfl rfl rfl ?_
  exact g_retA C X2 rfl rfl d2_49 (by decide) (by decide) ⟨_, rfl, rfl, rfl⟩
set_option maxRecDepth 65536 in
set_option maxHeartbeats 40000000 in
theorem rm_pick_11 {l : Launch} {Z : State} {a0 : Array Value} (hw : ∀ d ∈ tables_1, d.before a0 Z = true) {a_EQUALS : Addr} {a_IS_NULL : Addr} {a_GREATER_THAN_EQUAL : Addr} {a_GREATER_THAN : Addr} {a_NOT : Addr} {a_IS_NOT_NULL : Addr} {a_TRUE : Addr} {a_LESS_THAN : Addr} {a_FALSE : Addr} {a_LIKE : Addr} {a_CONTAINING : Addr} {a_NOT_IN : Addr} {a_STARTING_WITH : Addr} {a_BETWEEN : Addr} {a_NOT_LIKE : Addr} {a_ENDING_WITH : Addr} {a_LESS_THAN_EQUAL : Addr} {a_IN : Addr} {h0 : Heap} {n0 : Nat} (O : Old Z n0 h0) (W : Wd Z a_EQUALS a_IS_NULL a_GREATER_THAN_EQUAL a_GREATER_THAN a_NOT a_IS_NOT_NULL a_TRUE a_LESS_THAN a_FALSE a_LIKE a_CONTAINING a_NOT_IN a_STARTING_WITH a_BETWEEN a_NOT_LIKE a_ENDING_WITH a_LESS_THAN_EQUAL a_IN) :
    Met1 l Z (⟨"com/example/sober_repository/soberrepository/OperatorForNullPinLaw", "pick", "(I)Lcom/example/sober_repository/soberrepository/DerivedName$Operator;"⟩ : MethodName) method_2_code 1 (some (.object "com/example/sober_repository/soberrepository/DerivedName$Operator")) ({ frames := 0, cells := 0, slots := 0, locals := 0 } : Room) #[(.int (11 : Int32))] h0 n0 (fun v h => v = (.ref a_TRUE) ∧ h0 = h) := by
  refine met_of (L := #[.val (.int (11 : Int32))]) (plainFor_of_name pn_4) (fun m => by first | (simp [entryFrame, mkF, argsToLocals, Value.category]; done) | rfl) ?_
  intro p e s m below meth c T C X
  change Cx p s m meth c Z "com/example/sober_repository/soberrepository/OperatorForNullPinLaw" method_2_code 1 (some (.object "com/example/sober_repository/soberrepository/DerivedName$Operator")) "pick" at C
  refine g_iloadN C X d1_0 (q := 1) rfl rfl ?_
  refine g_ifY C X d1_1 (by decide) (q := 8) (by decide) (by decide) ?_
  refine g_iloadN C X d1_8 (q := 9) rfl rfl ?_
  refine g_iconst C X d1_9 (q := 10) rfl (z := (1 : Int32)) rfl ?_
  refine g_icY C X d1_10 (by decide) (q := 17) (by decide) (by decide) ?_
  refine g_iloadN C X d1_17 (q := 18) rfl rfl ?_
  refine g_iconst C X d1_18 (q := 19) rfl (z := (2 : Int32)) rfl ?_
  refine g_icY C X d1_19 (by decide) (q := 26) (by decide) (by decide) ?_
  refine g_iloadN C X d1_26 (q := 27) rfl rfl ?_
  refine g_iconst C X d1_27 (q := 28) rfl (z := (3 : Int32)) rfl ?_
  refine g_icY C X d1_28 (by decide) (q := 35) (by decide) (by decide) ?_
  refine g_iloadN C X d1_35 (q := 36) rfl rfl ?_
  refine g_iconst C X d1_36 (q := 37) rfl (z := (4 : Int32)) rfl ?_
  refine g_icY C X d1_37 (by decide) (q := 44) (by decide) (by decide) ?_
  refine g_iloadN C X d1_44 (q := 45) rfl rfl ?_
  refine g_iconst C X d1_45 (q := 46) rfl (z := (5 : Int32)) rfl ?_
  refine g_icY C X d1_46 (by decide) (q := 53) (by decide) (by decide) ?_
  refine g_iloadN C X d1_53 (q := 54) rfl rfl ?_
  refine g_bipush C X d1_54 (q := 56) rfl (z := (6 : Int32)) rfl ?_
  refine g_icY C X d1_56 (by decide) (q := 63) (by decide) (by decide) ?_
  refine g_iloadN C X d1_63 (q := 64) rfl rfl ?_
  refine g_bipush C X d1_64 (q := 66) rfl (z := (7 : Int32)) rfl ?_
  refine g_icY C X d1_66 (by decide) (q := 73) (by decide) (by decide) ?_
  refine g_iloadN C X d1_73 (q := 74) rfl rfl ?_
  refine g_bipush C X d1_74 (q := 76) rfl (z := (8 : Int32)) rfl ?_
  refine g_icY C X d1_76 (by decide) (q := 83) (by decide) (by decide) ?_
  refine g_iloadN C X d1_83 (q := 84) rfl rfl ?_
  refine g_bipush C X d1_84 (q := 86) rfl (z := (9 : Int32)) rfl ?_
  refine g_icY C X d1_86 (by decide) (q := 93) (by decide) (by decide) ?_
  refine g_iloadN C X d1_93 (q := 94) rfl rfl ?_
  refine g_bipush C X d1_94 (q := 96) rfl (z := (10 : Int32)) rfl ?_
  refine g_icY C X d1_96 (by decide) (q := 103) (by decide) (by decide) ?_
  refine g_iloadN C X d1_103 (q := 104) rfl rfl ?_
  refine g_bipush C X d1_104 (q := 106) rfl (z := (11 : Int32)) rfl ?_
  refine g_icN C X d1_106 (q := 109) rfl (by decide) ?_
  refine g_getS C X (host := "") (Or.inl (w35 hw)) Via.refl (W.2.2.2.2.2.2.2.2.2.2.2.2.2.2.2.2.2.2.1.ext O.2) d1_109 (q := 112) rfl ?_
  intro T1 X2
  exact g_retA C X2 rfl rfl d1_112 (by decide) (by decide) ⟨_, rfl, rfl, rfl⟩
set_option maxRecDepth 65536 in
set_option maxHeartbeats 40000000 in
theorem rm_ord_11 {l : Launch} {Z : State} {a0 : Array Value} (hw : ∀ d ∈ tables_1, d.before a0 Z = true) {a_EQUALS : Addr} {a_IS_NULL : Addr} {a_GREATER_THAN_EQUAL : Addr} {a_GREATER_THAN : Addr} {a_NOT : Addr} {a_IS_NOT_NULL : Addr} {a_TRUE : Addr} {a_LESS_THAN : Addr} {a_FALSE : Addr} {a_LIKE : Addr} {a_CONTAINING : Addr} {a_NOT_IN : Addr} {a_STARTING_WITH : Addr} {a_BETWEEN : Addr} {a_NOT_LIKE : Addr} {a_ENDING_WITH : Addr} {a_LESS_THAN_EQUAL : Addr} {a_IN : Addr} {h0 : Heap} {n0 : Nat} (O : Old Z n0 h0) (W : Wd Z a_EQUALS a_IS_NULL a_GREATER_THAN_EQUAL a_GREATER_THAN a_NOT a_IS_NOT_NULL a_TRUE a_LESS_THAN a_FALSE a_LIKE a_CONTAINING a_NOT_IN a_STARTING_WITH a_BETWEEN a_NOT_LIKE a_ENDING_WITH a_LESS_THAN_EQUAL a_IN) :
    Met1 l Z (⟨"java/lang/Enum", "ordinal", "()I"⟩ : MethodName) jdk_37_method_2_code 1 (some .int) ({ frames := 0, cells := 0, slots := 0, locals := 0 } : Room) #[(.ref a_TRUE)] h0 n0 (fun v h => v = (.int (11 : Int32)) ∧ h0 = h) := by
  refine met_of (L := #[.val (.ref a_TRUE)]) (plainFor_of_name pn_34) (fun m => by first | (simp [entryFrame, mkF, argsToLocals, Value.category]; done) | rfl) ?_
  intro p e s m below meth c T C X
  change Cx p s m meth c Z "java/lang/Enum" jdk_37_method_2_code 1 (some .int) "ordinal" at C
  refine g_aloadN C X d3_0 (q := 1) rfl rfl rfl ?_
  refine g_getF C X (host := "") (Or.inl (w23 hw)) Via.refl (W.2.2.2.2.2.2.2.2.2.2.2.2.2.2.2.2.2.2.2.2.1.ext O.2) d3_1 (q := 4) rfl ?_
  intro T1 X2
  exact g_retI C X2 d3_4 (by decide) (by decide) ⟨_, rfl, rfl, rfl⟩
set_option maxRecDepth 65536 in
set_option maxHeartbeats 40000000 in
theorem rm_fn_11 {l : Launch} {Z : State} {a0 : Array Value} (hw : ∀ d ∈ tables_1, d.before a0 Z = true) {a_EQUALS : Addr} {a_IS_NULL : Addr} {a_GREATER_THAN_EQUAL : Addr} {a_GREATER_THAN : Addr} {a_NOT : Addr} {a_IS_NOT_NULL : Addr} {a_TRUE : Addr} {a_LESS_THAN : Addr} {a_FALSE : Addr} {a_LIKE : Addr} {a_CONTAINING : Addr} {a_NOT_IN : Addr} {a_STARTING_WITH : Addr} {a_BETWEEN : Addr} {a_NOT_LIKE : Addr} {a_ENDING_WITH : Addr} {a_LESS_THAN_EQUAL : Addr} {a_IN : Addr} {h0 : Heap} {n0 : Nat} (O : Old Z n0 h0) (W : Wd Z a_EQUALS a_IS_NULL a_GREATER_THAN_EQUAL a_GREATER_THAN a_NOT a_IS_NOT_NULL a_TRUE a_LESS_THAN a_FALSE a_LIKE a_CONTAINING a_NOT_IN a_STARTING_WITH a_BETWEEN a_NOT_LIKE a_ENDING_WITH a_LESS_THAN_EQUAL a_IN) :
    Met1 l Z (⟨"com/example/sober_repository/soberrepository/DerivedName$Operator", "forNull", "()Lcom/example/sober_repository/soberrepository/DerivedName$Operator;"⟩ : MethodName) prog_12_method_8_code 2 (some (.object "com/example/sober_repository/soberrepository/DerivedName$Operator")) ({ frames := 1, cells := 0, slots := 0, locals := 12 } : Room) #[(.ref a_TRUE)] h0 n0 (fun v h => v = (.ref a_TRUE) ∧ h0 = h) := by
  refine met_of (L := #[.val (.ref a_TRUE), .unset]) (plainFor_of_name pn_42) (fun m => by first | (simp [entryFrame, mkF, argsToLocals, Value.category]; done) | rfl) ?_
  intro p e s m below meth c T C X
  change Cx p s m meth c Z "com/example/sober_repository/soberrepository/DerivedName$Operator" prog_12_method_8_code 2 (some (.object "com/example/sober_repository/soberrepository/DerivedName$Operator")) "forNull" at C
  refine g_aloadN C X d2_0 (q := 1) rfl rfl rfl ?_
  refine g_callU1 C X (y := (⟨"com/example/sober_repository/soberrepository/DerivedName$Operator", "ordinal", "()I"⟩ : MethodName)) (z := (⟨"java/lang/Enum", "ordinal", "()I"⟩ : MethodName)) (a := a_TRUE) (owner := "java/lang/Enum") (by decide) (w16 hw) (w17 hw) (w18 hw) (w20 hw) (w19 hw) (W.2.2.2.2.2.2.2.2.2.2.2.2.2.2.2.2.2.2.2.1.ext O.2) (w22 hw) (w21 hw) (rm_ord_11 hw O W) (W := 0) (by decide) (by decide) (k' := 0) rfl (n' := 0) rfl (by decide) (by decide) rfl pd_35 (argsL := []) rfl (rest := []) rfl rfl rfl d2_1 (q := 4) rfl ?_
  rintro _ T1 _ X2 ⟨rfl, rfl⟩
  refine g_lsw C X2 d2_4 (by decide) (o := 42) (by decide) (by decide) (q := 46) (by decide) ?_
  refine g_aloadN C X2 d2_46 (q := 47) rfl rfl rfl ?_
  refine g_astoreN C X2 d2_47 (q := 48) rfl rfl (L' := #[.val (.ref a_TRUE), .val (.ref a_TRUE)]) rfl ?_
  refine g_aloadN C X2 d2_48 (q := 49) rfl rfl rfl ?_
  exact g_retA C X2 rfl rfl d2_49 (by decide) (by decide) ⟨_, rfl, rfl, rfl⟩
set_option maxRecDepth 65536 in
set_option maxHeartbeats 40000000 in
theorem rm_pick_12 {l : Launch} {Z : State} {a0 : Array Value} (hw : ∀ d ∈ tables_1, d.before a0 Z = true) {a_EQUALS : Addr} {a_IS_NULL : Addr} {a_GREATER_THAN_EQUAL : Addr} {a_GREATER_THAN : Addr} {a_NOT : Addr} {a_IS_NOT_NULL : Addr} {a_TRUE : Addr} {a_LESS_THAN : Addr} {a_FALSE : Addr} {a_LIKE : Addr} {a_CONTAINING : Addr} {a_NOT_IN : Addr} {a_STARTING_WITH : Addr} {a_BETWEEN : Addr} {a_NOT_LIKE : Addr} {a_ENDING_WITH : Addr} {a_LESS_THAN_EQUAL : Addr} {a_IN : Addr} {h0 : Heap} {n0 : Nat} (O : Old Z n0 h0) (W : Wd Z a_EQUALS a_IS_NULL a_GREATER_THAN_EQUAL a_GREATER_THAN a_NOT a_IS_NOT_NULL a_TRUE a_LESS_THAN a_FALSE a_LIKE a_CONTAINING a_NOT_IN a_STARTING_WITH a_BETWEEN a_NOT_LIKE a_ENDING_WITH a_LESS_THAN_EQUAL a_IN) :
    Met1 l Z (⟨"com/example/sober_repository/soberrepository/OperatorForNullPinLaw", "pick", "(I)Lcom/example/sober_repository/soberrepository/DerivedName$Operator;"⟩ : MethodName) method_2_code 1 (some (.object "com/example/sober_repository/soberrepository/DerivedName$Operator")) ({ frames := 0, cells := 0, slots := 0, locals := 0 } : Room) #[(.int (12 : Int32))] h0 n0 (fun v h => v = (.ref a_FALSE) ∧ h0 = h) := by
  refine met_of (L := #[.val (.int (12 : Int32))]) (plainFor_of_name pn_4) (fun m => by first | (simp [entryFrame, mkF, argsToLocals, Value.category]; done) | rfl) ?_
  intro p e s m below meth c T C X
  change Cx p s m meth c Z "com/example/sober_repository/soberrepository/OperatorForNullPinLaw" method_2_code 1 (some (.object "com/example/sober_repository/soberrepository/DerivedName$Operator")) "pick" at C
  refine g_iloadN C X d1_0 (q := 1) rfl rfl ?_
  refine g_ifY C X d1_1 (by decide) (q := 8) (by decide) (by decide) ?_
  refine g_iloadN C X d1_8 (q := 9) rfl rfl ?_
  refine g_iconst C X d1_9 (q := 10) rfl (z := (1 : Int32)) rfl ?_
  refine g_icY C X d1_10 (by decide) (q := 17) (by decide) (by decide) ?_
  refine g_iloadN C X d1_17 (q := 18) rfl rfl ?_
  refine g_iconst C X d1_18 (q := 19) rfl (z := (2 : Int32)) rfl ?_
  refine g_icY C X d1_19 (by decide) (q := 26) (by decide) (by decide) ?_
  refine g_iloadN C X d1_26 (q := 27) rfl rfl ?_
  refine g_iconst C X d1_27 (q := 28) rfl (z := (3 : Int32)) rfl ?_
  refine g_icY C X d1_28 (by decide) (q := 35) (by decide) (by decide) ?_
  refine g_iloadN C X d1_35 (q := 36) rfl rfl ?_
  refine g_iconst C X d1_36 (q := 37) rfl (z := (4 : Int32)) rfl ?_
  refine g_icY C X d1_37 (by decide) (q := 44) (by decide) (by decide) ?_
  refine g_iloadN C X d1_44 (q := 45) rfl rfl ?_
  refine g_iconst C X d1_45 (q := 46) rfl (z := (5 : Int32)) rfl ?_
  refine g_icY C X d1_46 (by decide) (q := 53) (by decide) (by decide) ?_
  refine g_iloadN C X d1_53 (q := 54) rfl rfl ?_
  refine g_bipush C X d1_54 (q := 56) rfl (z := (6 : Int32)) rfl ?_
  refine g_icY C X d1_56 (by decide) (q := 63) (by decide) (by decide) ?_
  refine g_iloadN C X d1_63 (q := 64) rfl rfl ?_
  refine g_bipush C X d1_64 (q := 66) rfl (z := (7 : Int32)) rfl ?_
  refine g_icY C X d1_66 (by decide) (q := 73) (by decide) (by decide) ?_
  refine g_iloadN C X d1_73 (q := 74) rfl rfl ?_
  refine g_bipush C X d1_74 (q := 76) rfl (z := (8 : Int32)) rfl ?_
  refine g_icY C X d1_76 (by decide) (q := 83) (by decide) (by decide) ?_
  refine g_iloadN C X d1_83 (q := 84) rfl rfl ?_
  refine g_bipush C X d1_84 (q := 86) rfl (z := (9 : Int32)) rfl ?_
  refine g_icY C X d1_86 (by decide) (q := 93) (by decide) (by decide) ?_
  refine g_iloadN C X d1_93 (q := 94) rfl rfl ?_
  refine g_bipush C X d1_94 (q := 96) rfl (z := (10 : Int32)) rfl ?_
  refine g_icY C X d1_96 (by decide) (q := 103) (by decide) (by decide) ?_
  refine g_iloadN C X d1_103 (q := 104) rfl rfl ?_
  refine g_bipush C X d1_104 (q := 106) rfl (z := (11 : Int32)) rfl ?_
  refine g_icY C X d1_106 (by decide) (q := 113) (by decide) (by decide) ?_
  refine g_iloadN C X d1_113 (q := 114) rfl rfl ?_
  refine g_bipush C X d1_114 (q := 116) rfl (z := (12 : Int32)) rfl ?_
  refine g_icN C X d1_116 (q := 119) rfl (by decide) ?_
  refine g_getS C X (host := "") (Or.inl (w39 hw)) Via.refl (W.2.2.2.2.2.2.2.2.2.2.2.2.2.2.2.2.2.2.2.2.2.2.2.2.1.ext O.2) d1_119 (q := 122) rfl ?_
  intro T1 X2
  exact g_retA C X2 rfl rfl d1_122 (by decide) (by decide) ⟨_, rfl, rfl, rfl⟩
set_option maxRecDepth 65536 in
set_option maxHeartbeats 40000000 in
theorem rm_ord_12 {l : Launch} {Z : State} {a0 : Array Value} (hw : ∀ d ∈ tables_1, d.before a0 Z = true) {a_EQUALS : Addr} {a_IS_NULL : Addr} {a_GREATER_THAN_EQUAL : Addr} {a_GREATER_THAN : Addr} {a_NOT : Addr} {a_IS_NOT_NULL : Addr} {a_TRUE : Addr} {a_LESS_THAN : Addr} {a_FALSE : Addr} {a_LIKE : Addr} {a_CONTAINING : Addr} {a_NOT_IN : Addr} {a_STARTING_WITH : Addr} {a_BETWEEN : Addr} {a_NOT_LIKE : Addr} {a_ENDING_WITH : Addr} {a_LESS_THAN_EQUAL : Addr} {a_IN : Addr} {h0 : Heap} {n0 : Nat} (O : Old Z n0 h0) (W : Wd Z a_EQUALS a_IS_NULL a_GREATER_THAN_EQUAL a_GREATER_THAN a_NOT a_IS_NOT_NULL a_TRUE a_LESS_THAN a_FALSE a_LIKE a_CONTAINING a_NOT_IN a_STARTING_WITH a_BETWEEN a_NOT_LIKE a_ENDING_WITH a_LESS_THAN_EQUAL a_IN) :
    Met1 l Z (⟨"java/lang/Enum", "ordinal", "()I"⟩ : MethodName) jdk_37_method_2_code 1 (some .int) ({ frames := 0, cells := 0, slots := 0, locals := 0 } : Room) #[(.ref a_FALSE)] h0 n0 (fun v h => v = (.int (12 : Int32)) ∧ h0 = h) := by
  refine met_of (L := #[.val (.ref a_FALSE)]) (plainFor_of_name pn_34) (fun m => by first | (simp [entryFrame, mkF, argsToLocals, Value.category]; done) | rfl) ?_
  intro p e s m below meth c T C X
  change Cx p s m meth c Z "java/lang/Enum" jdk_37_method_2_code 1 (some .int) "ordinal" at C
  refine g_aloadN C X d3_0 (q := 1) rfl rfl rfl ?_
  refine g_getF C X (host := "") (Or.inl (w23 hw)) Via.refl (W.2.2.2.2.2.2.2.2.2.2.2.2.2.2.2.2.2.2.2.2.2.2.2.2.2.2.1.ext O.2) d3_1 (q := 4) rfl ?_
  intro T1 X2
  exact g_retI C X2 d3_4 (by decide) (by decide) ⟨_, rfl, rfl, rfl⟩
set_option maxRecDepth 65536 in
set_option maxHeartbeats 40000000 in
theorem rm_fn_12 {l : Launch} {Z : State} {a0 : Array Value} (hw : ∀ d ∈ tables_1, d.before a0 Z = true) {a_EQUALS : Addr} {a_IS_NULL : Addr} {a_GREATER_THAN_EQUAL : Addr} {a_GREATER_THAN : Addr} {a_NOT : Addr} {a_IS_NOT_NULL : Addr} {a_TRUE : Addr} {a_LESS_THAN : Addr} {a_FALSE : Addr} {a_LIKE : Addr} {a_CONTAINING : Addr} {a_NOT_IN : Addr} {a_STARTING_WITH : Addr} {a_BETWEEN : Addr} {a_NOT_LIKE : Addr} {a_ENDING_WITH : Addr} {a_LESS_THAN_EQUAL : Addr} {a_IN : Addr} {h0 : Heap} {n0 : Nat} (O : Old Z n0 h0) (W : Wd Z a_EQUALS a_IS_NULL a_GREATER_THAN_EQUAL a_GREATER_THAN a_NOT a_IS_NOT_NULL a_TRUE a_LESS_THAN a_FALSE a_LIKE a_CONTAINING a_NOT_IN a_STARTING_WITH a_BETWEEN a_NOT_LIKE a_ENDING_WITH a_LESS_THAN_EQUAL a_IN) :
    Met1 l Z (⟨"com/example/sober_repository/soberrepository/DerivedName$Operator", "forNull", "()Lcom/example/sober_repository/soberrepository/DerivedName$Operator;"⟩ : MethodName) prog_12_method_8_code 2 (some (.object "com/example/sober_repository/soberrepository/DerivedName$Operator")) ({ frames := 1, cells := 0, slots := 0, locals := 12 } : Room) #[(.ref a_FALSE)] h0 n0 (fun v h => v = (.ref a_FALSE) ∧ h0 = h) := by
  refine met_of (L := #[.val (.ref a_FALSE), .unset]) (plainFor_of_name pn_42) (fun m => by first | (simp [entryFrame, mkF, argsToLocals, Value.category]; done) | rfl) ?_
  intro p e s m below meth c T C X
  change Cx p s m meth c Z "com/example/sober_repository/soberrepository/DerivedName$Operator" prog_12_method_8_code 2 (some (.object "com/example/sober_repository/soberrepository/DerivedName$Operator")) "forNull" at C
  refine g_aloadN C X d2_0 (q := 1) rfl rfl rfl ?_
  refine g_callU1 C X (y := (⟨"com/example/sober_repository/soberrepository/DerivedName$Operator", "ordinal", "()I"⟩ : MethodName)) (z := (⟨"java/lang/Enum", "ordinal", "()I"⟩ : MethodName)) (a := a_FALSE) (owner := "java/lang/Enum") (by decide) (w16 hw) (w17 hw) (w18 hw) (w20 hw) (w19 hw) (W.2.2.2.2.2.2.2.2.2.2.2.2.2.2.2.2.2.2.2.2.2.2.2.2.2.1.ext O.2) (w22 hw) (w21 hw) (rm_ord_12 hw O W) (W := 0) (by decide) (by decide) (k' := 0) rfl (n' := 0) rfl (by decide) (by decide) rfl pd_35 (argsL := []) rfl (rest := []) rfl rfl rfl d2_1 (q := 4) rfl ?_
  rintro _ T1 _ X2 ⟨rfl, rfl⟩
  refine g_lsw C X2 d2_4 (by decide) (o := 42) (by decide) (by decide) (q := 46) (by decide) ?_
  refine g_aloadN C X2 d2_46 (q := 47) rfl rfl rfl ?_
  refine g_astoreN C X2 d2_47 (q := 48) rfl rfl (L' := #[.val (.ref a_FALSE), .val (.ref a_FALSE)]) rfl ?_
  refine g_aloadN C X2 d2_48 (q := 49) rfl rfl rfl ?_
  exact g_retA C X2 rfl rfl d2_49 (by decide) (by decide) ⟨_, rfl, rfl, rfl⟩
set_option maxRecDepth 65536 in
set_option maxHeartbeats 40000000 in
theorem rm_pick_13 {l : Launch} {Z : State} {a0 : Array Value} (hw : ∀ d ∈ tables_1, d.before a0 Z = true) {a_EQUALS : Addr} {a_IS_NULL : Addr} {a_GREATER_THAN_EQUAL : Addr} {a_GREATER_THAN : Addr} {a_NOT : Addr} {a_IS_NOT_NULL : Addr} {a_TRUE : Addr} {a_LESS_THAN : Addr} {a_FALSE : Addr} {a_LIKE : Addr} {a_CONTAINING : Addr} {a_NOT_IN : Addr} {a_STARTING_WITH : Addr} {a_BETWEEN : Addr} {a_NOT_LIKE : Addr} {a_ENDING_WITH : Addr} {a_LESS_THAN_EQUAL : Addr} {a_IN : Addr} {h0 : Heap} {n0 : Nat} (O : Old Z n0 h0) (W : Wd Z a_EQUALS a_IS_NULL a_GREATER_THAN_EQUAL a_GREATER_THAN a_NOT a_IS_NOT_NULL a_TRUE a_LESS_THAN a_FALSE a_LIKE a_CONTAINING a_NOT_IN a_STARTING_WITH a_BETWEEN a_NOT_LIKE a_ENDING_WITH a_LESS_THAN_EQUAL a_IN) :
    Met1 l Z (⟨"com/example/sober_repository/soberrepository/OperatorForNullPinLaw", "pick", "(I)Lcom/example/sober_repository/soberrepository/DerivedName$Operator;"⟩ : MethodName) method_2_code 1 (some (.object "com/example/sober_repository/soberrepository/DerivedName$Operator")) ({ frames := 0, cells := 0, slots := 0, locals := 0 } : Room) #[(.int (13 : Int32))] h0 n0 (fun v h => v = (.ref a_STARTING_WITH) ∧ h0 = h) := by
  refine met_of (L := #[.val (.int (13 : Int32))]) (plainFor_of_name pn_4) (fun m => by first | (simp [entryFrame, mkF, argsToLocals, Value.category]; done) | rfl) ?_
  intro p e s m below meth c T C X
  change Cx p s m meth c Z "com/example/sober_repository/soberrepository/OperatorForNullPinLaw" method_2_code 1 (some (.object "com/example/sober_repository/soberrepository/DerivedName$Operator")) "pick" at C
  refine g_iloadN C X d1_0 (q := 1) rfl rfl ?_
  refine g_ifY C X d1_1 (by decide) (q := 8) (by decide) (by decide) ?_
  refine g_iloadN C X d1_8 (q := 9) rfl rfl ?_
  refine g_iconst C X d1_9 (q := 10) rfl (z := (1 : Int32)) rfl ?_
  refine g_icY C X d1_10 (by decide) (q := 17) (by decide) (by decide) ?_
  refine g_iloadN C X d1_17 (q := 18) rfl rfl ?_
  refine g_iconst C X d1_18 (q := 19) rfl (z := (2 : Int32)) rfl ?_
  refine g_icY C X d1_19 (by decide) (q := 26) (by decide) (by decide) ?_
  refine g_iloadN C X d1_26 (q := 27) rfl rfl ?_
  refine g_iconst C X d1_27 (q := 28) rfl (z := (3 : Int32)) rfl ?_
  refine g_icY C X d1_28 (by decide) (q := 35) (by decide) (by decide) ?_
  refine g_iloadN C X d1_35 (q := 36) rfl rfl ?_
  refine g_iconst C X d1_36 (q := 37) rfl (z := (4 : Int32)) rfl ?_
  refine g_icY C X d1_37 (by decide) (q := 44) (by decide) (by decide) ?_
  refine g_iloadN C X d1_44 (q := 45) rfl rfl ?_
  refine g_iconst C X d1_45 (q := 46) rfl (z := (5 : Int32)) rfl ?_
  refine g_icY C X d1_46 (by decide) (q := 53) (by decide) (by decide) ?_
  refine g_iloadN C X d1_53 (q := 54) rfl rfl ?_
  refine g_bipush C X d1_54 (q := 56) rfl (z := (6 : Int32)) rfl ?_
  refine g_icY C X d1_56 (by decide) (q := 63) (by decide) (by decide) ?_
  refine g_iloadN C X d1_63 (q := 64) rfl rfl ?_
  refine g_bipush C X d1_64 (q := 66) rfl (z := (7 : Int32)) rfl ?_
  refine g_icY C X d1_66 (by decide) (q := 73) (by decide) (by decide) ?_
  refine g_iloadN C X d1_73 (q := 74) rfl rfl ?_
  refine g_bipush C X d1_74 (q := 76) rfl (z := (8 : Int32)) rfl ?_
  refine g_icY C X d1_76 (by decide) (q := 83) (by decide) (by decide) ?_
  refine g_iloadN C X d1_83 (q := 84) rfl rfl ?_
  refine g_bipush C X d1_84 (q := 86) rfl (z := (9 : Int32)) rfl ?_
  refine g_icY C X d1_86 (by decide) (q := 93) (by decide) (by decide) ?_
  refine g_iloadN C X d1_93 (q := 94) rfl rfl ?_
  refine g_bipush C X d1_94 (q := 96) rfl (z := (10 : Int32)) rfl ?_
  refine g_icY C X d1_96 (by decide) (q := 103) (by decide) (by decide) ?_
  refine g_iloadN C X d1_103 (q := 104) rfl rfl ?_
  refine g_bipush C X d1_104 (q := 106) rfl (z := (11 : Int32)) rfl ?_
  refine g_icY C X d1_106 (by decide) (q := 113) (by decide) (by decide) ?_
  refine g_iloadN C X d1_113 (q := 114) rfl rfl ?_
  refine g_bipush C X d1_114 (q := 116) rfl (z := (12 : Int32)) rfl ?_
  refine g_icY C X d1_116 (by decide) (q := 123) (by decide) (by decide) ?_
  refine g_iloadN C X d1_123 (q := 124) rfl rfl ?_
  refine g_bipush C X d1_124 (q := 126) rfl (z := (13 : Int32)) rfl ?_
  refine g_icN C X d1_126 (q := 129) rfl (by decide) ?_
  refine g_getS C X (host := "") (Or.inl (w47 hw)) Via.refl (W.2.2.2.2.2.2.2.2.2.2.2.2.2.2.2.2.2.2.2.2.2.2.2.2.2.2.2.2.2.2.2.2.2.2.2.2.1.ext O.2) d1_129 (q := 132) rfl ?_
  intro T1 X2
  exact g_retA C X2 rfl rfl d1_132 (by decide) (by decide) ⟨_, rfl, rfl, rfl⟩
set_option maxRecDepth 65536 in
set_option maxHeartbeats 40000000 in
theorem rm_ord_13 {l : Launch} {Z : State} {a0 : Array Value} (hw : ∀ d ∈ tables_1, d.before a0 Z = true) {a_EQUALS : Addr} {a_IS_NULL : Addr} {a_GREATER_THAN_EQUAL : Addr} {a_GREATER_THAN : Addr} {a_NOT : Addr} {a_IS_NOT_NULL : Addr} {a_TRUE : Addr} {a_LESS_THAN : Addr} {a_FALSE : Addr} {a_LIKE : Addr} {a_CONTAINING : Addr} {a_NOT_IN : Addr} {a_STARTING_WITH : Addr} {a_BETWEEN : Addr} {a_NOT_LIKE : Addr} {a_ENDING_WITH : Addr} {a_LESS_THAN_EQUAL : Addr} {a_IN : Addr} {h0 : Heap} {n0 : Nat} (O : Old Z n0 h0) (W : Wd Z a_EQUALS a_IS_NULL a_GREATER_THAN_EQUAL a_GREATER_THAN a_NOT a_IS_NOT_NULL a_TRUE a_LESS_THAN a_FALSE a_LIKE a_CONTAINING a_NOT_IN a_STARTING_WITH a_BETWEEN a_NOT_LIKE a_ENDING_WITH a_LESS_THAN_EQUAL a_IN) :
    Met1 l Z (⟨"java/lang/Enum", "ordinal", "()I"⟩ : MethodName) jdk_37_method_2_code 1 (some .int) ({ frames := 0, cells := 0, slots := 0, locals := 0 } : Room) #[(.ref a_STARTING_WITH)] h0 n0 (fun v h => v = (.int (13 : Int32)) ∧ h0 = h) := by
  refine met_of (L := #[.val (.ref a_STARTING_WITH)]) (plainFor_of_name pn_34) (fun m => by first | (simp [entryFrame, mkF, argsToLocals, Value.category]; done) | rfl) ?_
  intro p e s m below meth c T C X
  change Cx p s m meth c Z "java/lang/Enum" jdk_37_method_2_code 1 (some .int) "ordinal" at C
  refine g_aloadN C X d3_0 (q := 1) rfl rfl rfl ?_
  refine g_getF C X (host := "") (Or.inl (w23 hw)) Via.refl (W.2.2.2.2.2.2.2.2.2.2.2.2.2.2.2.2.2.2.2.2.2.2.2.2.2.2.2.2.2.2.2.2.2.2.2.2.2.2.1.ext O.2) d3_1 (q := 4) rfl ?_
  intro T1 X2
  exact g_retI C X2 d3_4 (by decide) (by decide) ⟨_, rfl, rfl, rfl⟩
set_option maxRecDepth 65536 in
set_option maxHeartbeats 40000000 in
theorem rm_fn_13 {l : Launch} {Z : State} {a0 : Array Value} (hw : ∀ d ∈ tables_1, d.before a0 Z = true) {a_EQUALS : Addr} {a_IS_NULL : Addr} {a_GREATER_THAN_EQUAL : Addr} {a_GREATER_THAN : Addr} {a_NOT : Addr} {a_IS_NOT_NULL : Addr} {a_TRUE : Addr} {a_LESS_THAN : Addr} {a_FALSE : Addr} {a_LIKE : Addr} {a_CONTAINING : Addr} {a_NOT_IN : Addr} {a_STARTING_WITH : Addr} {a_BETWEEN : Addr} {a_NOT_LIKE : Addr} {a_ENDING_WITH : Addr} {a_LESS_THAN_EQUAL : Addr} {a_IN : Addr} {h0 : Heap} {n0 : Nat} (O : Old Z n0 h0) (W : Wd Z a_EQUALS a_IS_NULL a_GREATER_THAN_EQUAL a_GREATER_THAN a_NOT a_IS_NOT_NULL a_TRUE a_LESS_THAN a_FALSE a_LIKE a_CONTAINING a_NOT_IN a_STARTING_WITH a_BETWEEN a_NOT_LIKE a_ENDING_WITH a_LESS_THAN_EQUAL a_IN) :
    Met1 l Z (⟨"com/example/sober_repository/soberrepository/DerivedName$Operator", "forNull", "()Lcom/example/sober_repository/soberrepository/DerivedName$Operator;"⟩ : MethodName) prog_12_method_8_code 2 (some (.object "com/example/sober_repository/soberrepository/DerivedName$Operator")) ({ frames := 1, cells := 0, slots := 0, locals := 12 } : Room) #[(.ref a_STARTING_WITH)] h0 n0 (fun v h => v = (.ref a_STARTING_WITH) ∧ h0 = h) := by
  refine met_of (L := #[.val (.ref a_STARTING_WITH), .unset]) (plainFor_of_name pn_42) (fun m => by first | (simp [entryFrame, mkF, argsToLocals, Value.category]; done) | rfl) ?_
  intro p e s m below meth c T C X
  change Cx p s m meth c Z "com/example/sober_repository/soberrepository/DerivedName$Operator" prog_12_method_8_code 2 (some (.object "com/example/sober_repository/soberrepository/DerivedName$Operator")) "forNull" at C
  refine g_aloadN C X d2_0 (q := 1) rfl rfl rfl ?_
  refine g_callU1 C X (y := (⟨"com/example/sober_repository/soberrepository/DerivedName$Operator", "ordinal", "()I"⟩ : MethodName)) (z := (⟨"java/lang/Enum", "ordinal", "()I"⟩ : MethodName)) (a := a_STARTING_WITH) (owner := "java/lang/Enum") (by decide) (w16 hw) (w17 hw) (w18 hw) (w20 hw) (w19 hw) (W.2.2.2.2.2.2.2.2.2.2.2.2.2.2.2.2.2.2.2.2.2.2.2.2.2.2.2.2.2.2.2.2.2.2.2.2.2.1.ext O.2) (w22 hw) (w21 hw) (rm_ord_13 hw O W) (W := 0) (by decide) (by decide) (k' := 0) rfl (n' := 0) rfl (by decide) (by decide) rfl pd_35 (argsL := []) rfl (rest := []) rfl rfl rfl d2_1 (q := 4) rfl ?_
  rintro _ T1 _ X2 ⟨rfl, rfl⟩
  refine g_lsw C X2 d2_4 (by decide) (o := 42) (by decide) (by decide) (q := 46) (by decide) ?_
  refine g_aloadN C X2 d2_46 (q := 47) rfl rfl rfl ?_
  refine g_astoreN C X2 d2_47 (q := 48) rfl rfl (L' := #[.val (.ref a_STARTING_WITH), .val (.ref a_STARTING_WITH)]) rfl ?_
  refine g_aloadN C X2 d2_48 (q := 49) rfl rfl rfl ?_
  exact g_retA C X2 rfl rfl d2_49 (by decide) (by decide) ⟨_, rfl, rfl, rfl⟩
set_option maxRecDepth 65536 in
set_option maxHeartbeats 40000000 in
theorem rm_pick_14 {l : Launch} {Z : State} {a0 : Array Value} (hw : ∀ d ∈ tables_1, d.before a0 Z = true) {a_EQUALS : Addr} {a_IS_NULL : Addr} {a_GREATER_THAN_EQUAL : Addr} {a_GREATER_THAN : Addr} {a_NOT : Addr} {a_IS_NOT_NULL : Addr} {a_TRUE : Addr} {a_LESS_THAN : Addr} {a_FALSE : Addr} {a_LIKE : Addr} {a_CONTAINING : Addr} {a_NOT_IN : Addr} {a_STARTING_WITH : Addr} {a_BETWEEN : Addr} {a_NOT_LIKE : Addr} {a_ENDING_WITH : Addr} {a_LESS_THAN_EQUAL : Addr} {a_IN : Addr} {h0 : Heap} {n0 : Nat} (O : Old Z n0 h0) (W : Wd Z a_EQUALS a_IS_NULL a_GREATER_THAN_EQUAL a_GREATER_THAN a_NOT a_IS_NOT_NULL a_TRUE a_LESS_THAN a_FALSE a_LIKE a_CONTAINING a_NOT_IN a_STARTING_WITH a_BETWEEN a_NOT_LIKE a_ENDING_WITH a_LESS_THAN_EQUAL a_IN) :
    Met1 l Z (⟨"com/example/sober_repository/soberrepository/OperatorForNullPinLaw", "pick", "(I)Lcom/example/sober_repository/soberrepository/DerivedName$Operator;"⟩ : MethodName) method_2_code 1 (some (.object "com/example/sober_repository/soberrepository/DerivedName$Operator")) ({ frames := 0, cells := 0, slots := 0, locals := 0 } : Room) #[(.int (14 : Int32))] h0 n0 (fun v h => v = (.ref a_ENDING_WITH) ∧ h0 = h) := by
  refine met_of (L := #[.val (.int (14 : Int32))]) (plainFor_of_name pn_4) (fun m => by first | (simp [entryFrame, mkF, argsToLocals, Value.category]; done) | rfl) ?_
  intro p e s m below meth c T C X
  change Cx p s m meth c Z "com/example/sober_repository/soberrepository/OperatorForNullPinLaw" method_2_code 1 (some (.object "com/example/sober_repository/soberrepository/DerivedName$Operator")) "pick" at C
  refine g_iloadN C X d1_0 (q := 1) rfl rfl ?_
  refine g_ifY C X d1_1 (by decide) (q := 8) (by decide) (by decide) ?_
  refine g_iloadN C X d1_8 (q := 9) rfl rfl ?_
  refine g_iconst C X d1_9 (q := 10) rfl (z := (1 : Int32)) rfl ?_
  refine g_icY C X d1_10 (by decide) (q := 17) (by decide) (by decide) ?_
  refine g_iloadN C X d1_17 (q := 18) rfl rfl ?_
  refine g_iconst C X d1_18 (q := 19) rfl (z := (2 : Int32)) rfl ?_
  refine g_icY C X d1_19 (by decide) (q := 26) (by decide) (by decide) ?_
  refine g_iloadN C X d1_26 (q := 27) rfl rfl ?_
  refine g_iconst C X d1_27 (q := 28) rfl (z := (3 : Int32)) rfl ?_
  refine g_icY C X d1_28 (by decide) (q := 35) (by decide) (by decide) ?_
  refine g_iloadN C X d1_35 (q := 36) rfl rfl ?_
  refine g_iconst C X d1_36 (q := 37) rfl (z := (4 : Int32)) rfl ?_
  refine g_icY C X d1_37 (by decide) (q := 44) (by decide) (by decide) ?_
  refine g_iloadN C X d1_44 (q := 45) rfl rfl ?_
  refine g_iconst C X d1_45 (q := 46) rfl (z := (5 : Int32)) rfl ?_
  refine g_icY C X d1_46 (by decide) (q := 53) (by decide) (by decide) ?_
  refine g_iloadN C X d1_53 (q := 54) rfl rfl ?_
  refine g_bipush C X d1_54 (q := 56) rfl (z := (6 : Int32)) rfl ?_
  refine g_icY C X d1_56 (by decide) (q := 63) (by decide) (by decide) ?_
  refine g_iloadN C X d1_63 (q := 64) rfl rfl ?_
  refine g_bipush C X d1_64 (q := 66) rfl (z := (7 : Int32)) rfl ?_
  refine g_icY C X d1_66 (by decide) (q := 73) (by decide) (by decide) ?_
  refine g_iloadN C X d1_73 (q := 74) rfl rfl ?_
  refine g_bipush C X d1_74 (q := 76) rfl (z := (8 : Int32)) rfl ?_
  refine g_icY C X d1_76 (by decide) (q := 83) (by decide) (by decide) ?_
  refine g_iloadN C X d1_83 (q := 84) rfl rfl ?_
  refine g_bipush C X d1_84 (q := 86) rfl (z := (9 : Int32)) rfl ?_
  refine g_icY C X d1_86 (by decide) (q := 93) (by decide) (by decide) ?_
  refine g_iloadN C X d1_93 (q := 94) rfl rfl ?_
  refine g_bipush C X d1_94 (q := 96) rfl (z := (10 : Int32)) rfl ?_
  refine g_icY C X d1_96 (by decide) (q := 103) (by decide) (by decide) ?_
  refine g_iloadN C X d1_103 (q := 104) rfl rfl ?_
  refine g_bipush C X d1_104 (q := 106) rfl (z := (11 : Int32)) rfl ?_
  refine g_icY C X d1_106 (by decide) (q := 113) (by decide) (by decide) ?_
  refine g_iloadN C X d1_113 (q := 114) rfl rfl ?_
  refine g_bipush C X d1_114 (q := 116) rfl (z := (12 : Int32)) rfl ?_
  refine g_icY C X d1_116 (by decide) (q := 123) (by decide) (by decide) ?_
  refine g_iloadN C X d1_123 (q := 124) rfl rfl ?_
  refine g_bipush C X d1_124 (q := 126) rfl (z := (13 : Int32)) rfl ?_
  refine g_icY C X d1_126 (by decide) (q := 133) (by decide) (by decide) ?_
  refine g_iloadN C X d1_133 (q := 134) rfl rfl ?_
  refine g_bipush C X d1_134 (q := 136) rfl (z := (14 : Int32)) rfl ?_
  refine g_icN C X d1_136 (q := 139) rfl (by decide) ?_
  refine g_getS C X (host := "") (Or.inl (w53 hw)) Via.refl (W.2.2.2.2.2.2.2.2.2.2.2.2.2.2.2.2.2.2.2.2.2.2.2.2.2.2.2.2.2.2.2.2.2.2.2.2.2.2.2.2.2.2.2.2.2.1.ext O.2) d1_139 (q := 142) rfl ?_
  intro T1 X2
  exact g_retA C X2 rfl rfl d1_142 (by decide) (by decide) ⟨_, rfl, rfl, rfl⟩
set_option maxRecDepth 65536 in
set_option maxHeartbeats 40000000 in
theorem rm_ord_14 {l : Launch} {Z : State} {a0 : Array Value} (hw : ∀ d ∈ tables_1, d.before a0 Z = true) {a_EQUALS : Addr} {a_IS_NULL : Addr} {a_GREATER_THAN_EQUAL : Addr} {a_GREATER_THAN : Addr} {a_NOT : Addr} {a_IS_NOT_NULL : Addr} {a_TRUE : Addr} {a_LESS_THAN : Addr} {a_FALSE : Addr} {a_LIKE : Addr} {a_CONTAINING : Addr} {a_NOT_IN : Addr} {a_STARTING_WITH : Addr} {a_BETWEEN : Addr} {a_NOT_LIKE : Addr} {a_ENDING_WITH : Addr} {a_LESS_THAN_EQUAL : Addr} {a_IN : Addr} {h0 : Heap} {n0 : Nat} (O : Old Z n0 h0) (W : Wd Z a_EQUALS a_IS_NULL a_GREATER_THAN_EQUAL a_GREATER_THAN a_NOT a_IS_NOT_NULL a_TRUE a_LESS_THAN a_FALSE a_LIKE a_CONTAINING a_NOT_IN a_STARTING_WITH a_BETWEEN a_NOT_LIKE a_ENDING_WITH a_LESS_THAN_EQUAL a_IN) :
    Met1 l Z (⟨"java/lang/Enum", "ordinal", "()I"⟩ : MethodName) jdk_37_method_2_code 1 (some .int) ({ frames := 0, cells := 0, slots := 0, locals := 0 } : Room) #[(.ref a_ENDING_WITH)] h0 n0 (fun v h => v = (.int (14 : Int32)) ∧ h0 = h) := by
  refine met_of (L := #[.val (.ref a_ENDING_WITH)]) (plainFor_of_name pn_34) (fun m => by first | (simp [entryFrame, mkF, argsToLocals, Value.category]; done) | rfl) ?_
  intro p e s m below meth c T C X
  change Cx p s m meth c Z "java/lang/Enum" jdk_37_method_2_code 1 (some .int) "ordinal" at C
  refine g_aloadN C X d3_0 (q := 1) rfl rfl rfl ?_
  refine g_getF C X (host := "") (Or.inl (w23 hw)) Via.refl (W.2.2.2.2.2.2.2.2.2.2.2.2.2.2.2.2.2.2.2.2.2.2.2.2.2.2.2.2.2.2.2.2.2.2.2.2.2.2.2.2.2.2.2.2.2.2.2.1.ext O.2) d3_1 (q := 4) rfl ?_
  intro T1 X2
  exact g_retI C X2 d3_4 (by decide) (by decide) ⟨_, rfl, rfl, rfl⟩
set_option maxRecDepth 65536 in
set_option maxHeartbeats 40000000 in
theorem rm_fn_14 {l : Launch} {Z : State} {a0 : Array Value} (hw : ∀ d ∈ tables_1, d.before a0 Z = true) {a_EQUALS : Addr} {a_IS_NULL : Addr} {a_GREATER_THAN_EQUAL : Addr} {a_GREATER_THAN : Addr} {a_NOT : Addr} {a_IS_NOT_NULL : Addr} {a_TRUE : Addr} {a_LESS_THAN : Addr} {a_FALSE : Addr} {a_LIKE : Addr} {a_CONTAINING : Addr} {a_NOT_IN : Addr} {a_STARTING_WITH : Addr} {a_BETWEEN : Addr} {a_NOT_LIKE : Addr} {a_ENDING_WITH : Addr} {a_LESS_THAN_EQUAL : Addr} {a_IN : Addr} {h0 : Heap} {n0 : Nat} (O : Old Z n0 h0) (W : Wd Z a_EQUALS a_IS_NULL a_GREATER_THAN_EQUAL a_GREATER_THAN a_NOT a_IS_NOT_NULL a_TRUE a_LESS_THAN a_FALSE a_LIKE a_CONTAINING a_NOT_IN a_STARTING_WITH a_BETWEEN a_NOT_LIKE a_ENDING_WITH a_LESS_THAN_EQUAL a_IN) :
    Met1 l Z (⟨"com/example/sober_repository/soberrepository/DerivedName$Operator", "forNull", "()Lcom/example/sober_repository/soberrepository/DerivedName$Operator;"⟩ : MethodName) prog_12_method_8_code 2 (some (.object "com/example/sober_repository/soberrepository/DerivedName$Operator")) ({ frames := 1, cells := 0, slots := 0, locals := 12 } : Room) #[(.ref a_ENDING_WITH)] h0 n0 (fun v h => v = (.ref a_ENDING_WITH) ∧ h0 = h) := by
  refine met_of (L := #[.val (.ref a_ENDING_WITH), .unset]) (plainFor_of_name pn_42) (fun m => by first | (simp [entryFrame, mkF, argsToLocals, Value.category]; done) | rfl) ?_
  intro p e s m below meth c T C X
  change Cx p s m meth c Z "com/example/sober_repository/soberrepository/DerivedName$Operator" prog_12_method_8_code 2 (some (.object "com/example/sober_repository/soberrepository/DerivedName$Operator")) "forNull" at C
  refine g_aloadN C X d2_0 (q := 1) rfl rfl rfl ?_
  refine g_callU1 C X (y := (⟨"com/example/sober_repository/soberrepository/DerivedName$Operator", "ordinal", "()I"⟩ : MethodName)) (z := (⟨"java/lang/Enum", "ordinal", "()I"⟩ : MethodName)) (a := a_ENDING_WITH) (owner := "java/lang/Enum") (by decide) (w16 hw) (w17 hw) (w18 hw) (w20 hw) (w19 hw) (W.2.2.2.2.2.2.2.2.2.2.2.2.2.2.2.2.2.2.2.2.2.2.2.2.2.2.2.2.2.2.2.2.2.2.2.2.2.2.2.2.2.2.2.2.2.2.1.ext O.2) (w22 hw) (w21 hw) (rm_ord_14 hw O W) (W := 0) (by decide) (by decide) (k' := 0) rfl (n' := 0) rfl (by decide) (by decide) rfl pd_35 (argsL := []) rfl (rest := []) rfl rfl rfl d2_1 (q := 4) rfl ?_
  rintro _ T1 _ X2 ⟨rfl, rfl⟩
  refine g_lsw C X2 d2_4 (by decide) (o := 42) (by decide) (by decide) (q := 46) (by decide) ?_
  refine g_aloadN C X2 d2_46 (q := 47) rfl rfl rfl ?_
  refine g_astoreN C X2 d2_47 (q := 48) rfl rfl (L' := #[.val (.ref a_ENDING_WITH), .val (.ref a_ENDING_WITH)]) rfl ?_
  refine g_aloadN C X2 d2_48 (q := 49) rfl rfl rfl ?_
  exact g_retA C X2 rfl rfl d2_49 (by decide) (by decide) ⟨_, rfl, rfl, rfl⟩
set_option maxRecDepth 65536 in
set_option maxHeartbeats 40000000 in
theorem rm_pick_15 {l : Launch} {Z : State} {a0 : Array Value} (hw : ∀ d ∈ tables_1, d.before a0 Z = true) {a_EQUALS : Addr} {a_IS_NULL : Addr} {a_GREATER_THAN_EQUAL : Addr} {a_GREATER_THAN : Addr} {a_NOT : Addr} {a_IS_NOT_NULL : Addr} {a_TRUE : Addr} {a_LESS_THAN : Addr} {a_FALSE : Addr} {a_LIKE : Addr} {a_CONTAINING : Addr} {a_NOT_IN : Addr} {a_STARTING_WITH : Addr} {a_BETWEEN : Addr} {a_NOT_LIKE : Addr} {a_ENDING_WITH : Addr} {a_LESS_THAN_EQUAL : Addr} {a_IN : Addr} {h0 : Heap} {n0 : Nat} (O : Old Z n0 h0) (W : Wd Z a_EQUALS a_IS_NULL a_GREATER_THAN_EQUAL a_GREATER_THAN a_NOT a_IS_NOT_NULL a_TRUE a_LESS_THAN a_FALSE a_LIKE a_CONTAINING a_NOT_IN a_STARTING_WITH a_BETWEEN a_NOT_LIKE a_ENDING_WITH a_LESS_THAN_EQUAL a_IN) :
    Met1 l Z (⟨"com/example/sober_repository/soberrepository/OperatorForNullPinLaw", "pick", "(I)Lcom/example/sober_repository/soberrepository/DerivedName$Operator;"⟩ : MethodName) method_2_code 1 (some (.object "com/example/sober_repository/soberrepository/DerivedName$Operator")) ({ frames := 0, cells := 0, slots := 0, locals := 0 } : Room) #[(.int (15 : Int32))] h0 n0 (fun v h => v = (.ref a_CONTAINING) ∧ h0 = h) := by
  refine met_of (L := #[.val (.int (15 : Int32))]) (plainFor_of_name pn_4) (fun m => by first | (simp [entryFrame, mkF, argsToLocals, Value.category]; done) | rfl) ?_
  intro p e s m below meth c T C X
  change Cx p s m meth c Z "com/example/sober_repository/soberrepository/OperatorForNullPinLaw" method_2_code 1 (some (.object "com/example/sober_repository/soberrepository/DerivedName$Operator")) "pick" at C
  refine g_iloadN C X d1_0 (q := 1) rfl rfl ?_
  refine g_ifY C X d1_1 (by decide) (q := 8) (by decide) (by decide) ?_
  refine g_iloadN C X d1_8 (q := 9) rfl rfl ?_
  refine g_iconst C X d1_9 (q := 10) rfl (z := (1 : Int32)) rfl ?_
  refine g_icY C X d1_10 (by decide) (q := 17) (by decide) (by decide) ?_
  refine g_iloadN C X d1_17 (q := 18) rfl rfl ?_
  refine g_iconst C X d1_18 (q := 19) rfl (z := (2 : Int32)) rfl ?_
  refine g_icY C X d1_19 (by decide) (q := 26) (by decide) (by decide) ?_
  refine g_iloadN C X d1_26 (q := 27) rfl rfl ?_
  refine g_iconst C X d1_27 (q := 28) rfl (z := (3 : Int32)) rfl ?_
  refine g_icY C X d1_28 (by decide) (q := 35) (by decide) (by decide) ?_
  refine g_iloadN C X d1_35 (q := 36) rfl rfl ?_
  refine g_iconst C X d1_36 (q := 37) rfl (z := (4 : Int32)) rfl ?_
  refine g_icY C X d1_37 (by decide) (q := 44) (by decide) (by decide) ?_
  refine g_iloadN C X d1_44 (q := 45) rfl rfl ?_
  refine g_iconst C X d1_45 (q := 46) rfl (z := (5 : Int32)) rfl ?_
  refine g_icY C X d1_46 (by decide) (q := 53) (by decide) (by decide) ?_
  refine g_iloadN C X d1_53 (q := 54) rfl rfl ?_
  refine g_bipush C X d1_54 (q := 56) rfl (z := (6 : Int32)) rfl ?_
  refine g_icY C X d1_56 (by decide) (q := 63) (by decide) (by decide) ?_
  refine g_iloadN C X d1_63 (q := 64) rfl rfl ?_
  refine g_bipush C X d1_64 (q := 66) rfl (z := (7 : Int32)) rfl ?_
  refine g_icY C X d1_66 (by decide) (q := 73) (by decide) (by decide) ?_
  refine g_iloadN C X d1_73 (q := 74) rfl rfl ?_
  refine g_bipush C X d1_74 (q := 76) rfl (z := (8 : Int32)) rfl ?_
  refine g_icY C X d1_76 (by decide) (q := 83) (by decide) (by decide) ?_
  refine g_iloadN C X d1_83 (q := 84) rfl rfl ?_
  refine g_bipush C X d1_84 (q := 86) rfl (z := (9 : Int32)) rfl ?_
  refine g_icY C X d1_86 (by decide) (q := 93) (by decide) (by decide) ?_
  refine g_iloadN C X d1_93 (q := 94) rfl rfl ?_
  refine g_bipush C X d1_94 (q := 96) rfl (z := (10 : Int32)) rfl ?_
  refine g_icY C X d1_96 (by decide) (q := 103) (by decide) (by decide) ?_
  refine g_iloadN C X d1_103 (q := 104) rfl rfl ?_
  refine g_bipush C X d1_104 (q := 106) rfl (z := (11 : Int32)) rfl ?_
  refine g_icY C X d1_106 (by decide) (q := 113) (by decide) (by decide) ?_
  refine g_iloadN C X d1_113 (q := 114) rfl rfl ?_
  refine g_bipush C X d1_114 (q := 116) rfl (z := (12 : Int32)) rfl ?_
  refine g_icY C X d1_116 (by decide) (q := 123) (by decide) (by decide) ?_
  refine g_iloadN C X d1_123 (q := 124) rfl rfl ?_
  refine g_bipush C X d1_124 (q := 126) rfl (z := (13 : Int32)) rfl ?_
  refine g_icY C X d1_126 (by decide) (q := 133) (by decide) (by decide) ?_
  refine g_iloadN C X d1_133 (q := 134) rfl rfl ?_
  refine g_bipush C X d1_134 (q := 136) rfl (z := (14 : Int32)) rfl ?_
  refine g_icY C X d1_136 (by decide) (q := 143) (by decide) (by decide) ?_
  refine g_iloadN C X d1_143 (q := 144) rfl rfl ?_
  refine g_bipush C X d1_144 (q := 146) rfl (z := (15 : Int32)) rfl ?_
  refine g_icN C X d1_146 (q := 149) rfl (by decide) ?_
  refine g_getS C X (host := "") (Or.inl (w43 hw)) Via.refl (W.2.2.2.2.2.2.2.2.2.2.2.2.2.2.2.2.2.2.2.2.2.2.2.2.2.2.2.2.2.2.1.ext O.2) d1_149 (q := 152) rfl ?_
  intro T1 X2
  exact g_retA C X2 rfl rfl d1_152 (by decide) (by decide) ⟨_, rfl, rfl, rfl⟩
set_option maxRecDepth 65536 in
set_option maxHeartbeats 40000000 in
theorem rm_ord_15 {l : Launch} {Z : State} {a0 : Array Value} (hw : ∀ d ∈ tables_1, d.before a0 Z = true) {a_EQUALS : Addr} {a_IS_NULL : Addr} {a_GREATER_THAN_EQUAL : Addr} {a_GREATER_THAN : Addr} {a_NOT : Addr} {a_IS_NOT_NULL : Addr} {a_TRUE : Addr} {a_LESS_THAN : Addr} {a_FALSE : Addr} {a_LIKE : Addr} {a_CONTAINING : Addr} {a_NOT_IN : Addr} {a_STARTING_WITH : Addr} {a_BETWEEN : Addr} {a_NOT_LIKE : Addr} {a_ENDING_WITH : Addr} {a_LESS_THAN_EQUAL : Addr} {a_IN : Addr} {h0 : Heap} {n0 : Nat} (O : Old Z n0 h0) (W : Wd Z a_EQUALS a_IS_NULL a_GREATER_THAN_EQUAL a_GREATER_THAN a_NOT a_IS_NOT_NULL a_TRUE a_LESS_THAN a_FALSE a_LIKE a_CONTAINING a_NOT_IN a_STARTING_WITH a_BETWEEN a_NOT_LIKE a_ENDING_WITH a_LESS_THAN_EQUAL a_IN) :
    Met1 l Z (⟨"java/lang/Enum", "ordinal", "()I"⟩ : MethodName) jdk_37_method_2_code 1 (some .int) ({ frames := 0, cells := 0, slots := 0, locals := 0 } : Room) #[(.ref a_CONTAINING)] h0 n0 (fun v h => v = (.int (15 : Int32)) ∧ h0 = h) := by
  refine met_of (L := #[.val (.ref a_CONTAINING)]) (plainFor_of_name pn_34) (fun m => by first | (simp [entryFrame, mkF, argsToLocals, Value.category]; done) | rfl) ?_
  intro p e s m below meth c T C X
  change Cx p s m meth c Z "java/lang/Enum" jdk_37_method_2_code 1 (some .int) "ordinal" at C
  refine g_aloadN C X d3_0 (q := 1) rfl rfl rfl ?_
  refine g_getF C X (host := "") (Or.inl (w23 hw)) Via.refl (W.2.2.2.2.2.2.2.2.2.2.2.2.2.2.2.2.2.2.2.2.2.2.2.2.2.2.2.2.2.2.2.2.1.ext O.2) d3_1 (q := 4) rfl ?_
  intro T1 X2
  exact g_retI C X2 d3_4 (by decide) (by decide) ⟨_, rfl, rfl, rfl⟩
set_option maxRecDepth 65536 in
set_option maxHeartbeats 40000000 in
theorem rm_fn_15 {l : Launch} {Z : State} {a0 : Array Value} (hw : ∀ d ∈ tables_1, d.before a0 Z = true) {a_EQUALS : Addr} {a_IS_NULL : Addr} {a_GREATER_THAN_EQUAL : Addr} {a_GREATER_THAN : Addr} {a_NOT : Addr} {a_IS_NOT_NULL : Addr} {a_TRUE : Addr} {a_LESS_THAN : Addr} {a_FALSE : Addr} {a_LIKE : Addr} {a_CONTAINING : Addr} {a_NOT_IN : Addr} {a_STARTING_WITH : Addr} {a_BETWEEN : Addr} {a_NOT_LIKE : Addr} {a_ENDING_WITH : Addr} {a_LESS_THAN_EQUAL : Addr} {a_IN : Addr} {h0 : Heap} {n0 : Nat} (O : Old Z n0 h0) (W : Wd Z a_EQUALS a_IS_NULL a_GREATER_THAN_EQUAL a_GREATER_THAN a_NOT a_IS_NOT_NULL a_TRUE a_LESS_THAN a_FALSE a_LIKE a_CONTAINING a_NOT_IN a_STARTING_WITH a_BETWEEN a_NOT_LIKE a_ENDING_WITH a_LESS_THAN_EQUAL a_IN) :
    Met1 l Z (⟨"com/example/sober_repository/soberrepository/DerivedName$Operator", "forNull", "()Lcom/example/sober_repository/soberrepository/DerivedName$Operator;"⟩ : MethodName) prog_12_method_8_code 2 (some (.object "com/example/sober_repository/soberrepository/DerivedName$Operator")) ({ frames := 1, cells := 0, slots := 0, locals := 12 } : Room) #[(.ref a_CONTAINING)] h0 n0 (fun v h => v = (.ref a_CONTAINING) ∧ h0 = h) := by
  refine met_of (L := #[.val (.ref a_CONTAINING), .unset]) (plainFor_of_name pn_42) (fun m => by first | (simp [entryFrame, mkF, argsToLocals, Value.category]; done) | rfl) ?_
  intro p e s m below meth c T C X
  change Cx p s m meth c Z "com/example/sober_repository/soberrepository/DerivedName$Operator" prog_12_method_8_code 2 (some (.object "com/example/sober_repository/soberrepository/DerivedName$Operator")) "forNull" at C
  refine g_aloadN C X d2_0 (q := 1) rfl rfl rfl ?_
  refine g_callU1 C X (y := (⟨"com/example/sober_repository/soberrepository/DerivedName$Operator", "ordinal", "()I"⟩ : MethodName)) (z := (⟨"java/lang/Enum", "ordinal", "()I"⟩ : MethodName)) (a := a_CONTAINING) (owner := "java/lang/Enum") (by decide) (w16 hw) (w17 hw) (w18 hw) (w20 hw) (w19 hw) (W.2.2.2.2.2.2.2.2.2.2.2.2.2.2.2.2.2.2.2.2.2.2.2.2.2.2.2.2.2.2.2.1.ext O.2) (w22 hw) (w21 hw) (rm_ord_15 hw O W) (W := 0) (by decide) (by decide) (k' := 0) rfl (n' := 0) rfl (by decide) (by decide) rfl pd_35 (argsL := []) rfl (rest := []) rfl rfl rfl d2_1 (q := 4) rfl ?_
  rintro _ T1 _ X2 ⟨rfl, rfl⟩
  refine g_lsw C X2 d2_4 (by decide) (o := 42) (by decide) (by decide) (q := 46) (by decide) ?_
  refine g_aloadN C X2 d2_46 (q := 47) rfl rfl rfl ?_
  refine g_astoreN C X2 d2_47 (q := 48) rfl rfl (L' := #[.val (.ref a_CONTAINING), .val (.ref a_CONTAINING)]) rfl ?_
  refine g_aloadN C X2 d2_48 (q := 49) rfl rfl rfl ?_
  exact g_retA C X2 rfl rfl d2_49 (by decide) (by decide) ⟨_, rfl, rfl, rfl⟩
set_option maxRecDepth 65536 in
set_option maxHeartbeats 40000000 in
theorem rm_pick_16 {l : Launch} {Z : State} {a0 : Array Value} (hw : ∀ d ∈ tables_1, d.before a0 Z = true) {a_EQUALS : Addr} {a_IS_NULL : Addr} {a_GREATER_THAN_EQUAL : Addr} {a_GREATER_THAN : Addr} {a_NOT : Addr} {a_IS_NOT_NULL : Addr} {a_TRUE : Addr} {a_LESS_THAN : Addr} {a_FALSE : Addr} {a_LIKE : Addr} {a_CONTAINING : Addr} {a_NOT_IN : Addr} {a_STARTING_WITH : Addr} {a_BETWEEN : Addr} {a_NOT_LIKE : Addr} {a_ENDING_WITH : Addr} {a_LESS_THAN_EQUAL : Addr} {a_IN : Addr} {h0 : Heap} {n0 : Nat} (O : Old Z n0 h0) (W : Wd Z a_EQUALS a_IS_NULL a_GREATER_THAN_EQUAL a_GREATER_THAN a_NOT a_IS_NOT_NULL a_TRUE a_LESS_THAN a_FALSE a_LIKE a_CONTAINING a_NOT_IN a_STARTING_WITH a_BETWEEN a_NOT_LIKE a_ENDING_WITH a_LESS_THAN_EQUAL a_IN) :
    Met1 l Z (⟨"com/example/sober_repository/soberrepository/OperatorForNullPinLaw", "pick", "(I)Lcom/example/sober_repository/soberrepository/DerivedName$Operator;"⟩ : MethodName) method_2_code 1 (some (.object "com/example/sober_repository/soberrepository/DerivedName$Operator")) ({ frames := 0, cells := 0, slots := 0, locals := 0 } : Room) #[(.int (16 : Int32))] h0 n0 (fun v h => v = (.ref a_LIKE) ∧ h0 = h) := by
  refine met_of (L := #[.val (.int (16 : Int32))]) (plainFor_of_name pn_4) (fun m => by first | (simp [entryFrame, mkF, argsToLocals, Value.category]; done) | rfl) ?_
  intro p e s m below meth c T C X
  change Cx p s m meth c Z "com/example/sober_repository/soberrepository/OperatorForNullPinLaw" method_2_code 1 (some (.object "com/example/sober_repository/soberrepository/DerivedName$Operator")) "pick" at C
  refine g_iloadN C X d1_0 (q := 1) rfl rfl ?_
  refine g_ifY C X d1_1 (by decide) (q := 8) (by decide) (by decide) ?_
  refine g_iloadN C X d1_8 (q := 9) rfl rfl ?_
  refine g_iconst C X d1_9 (q := 10) rfl (z := (1 : Int32)) rfl ?_
  refine g_icY C X d1_10 (by decide) (q := 17) (by decide) (by decide) ?_
  refine g_iloadN C X d1_17 (q := 18) rfl rfl ?_
  refine g_iconst C X d1_18 (q := 19) rfl (z := (2 : Int32)) rfl ?_
  refine g_icY C X d1_19 (by decide) (q := 26) (by decide) (by decide) ?_
  refine g_iloadN C X d1_26 (q := 27) rfl rfl ?_
  refine g_iconst C X d1_27 (q := 28) rfl (z := (3 : Int32)) rfl ?_
  refine g_icY C X d1_28 (by decide) (q := 35) (by decide) (by decide) ?_
  refine g_iloadN C X d1_35 (q := 36) rfl rfl ?_
  refine g_iconst C X d1_36 (q := 37) rfl (z := (4 : Int32)) rfl ?_
  refine g_icY C X d1_37 (by decide) (q := 44) (by decide) (by decide) ?_
  refine g_iloadN C X d1_44 (q := 45) rfl rfl ?_
  refine g_iconst C X d1_45 (q := 46) rfl (z := (5 : Int32)) rfl ?_
  refine g_icY C X d1_46 (by decide) (q := 53) (by decide) (by decide) ?_
  refine g_iloadN C X d1_53 (q := 54) rfl rfl ?_
  refine g_bipush C X d1_54 (q := 56) rfl (z := (6 : Int32)) rfl ?_
  refine g_icY C X d1_56 (by decide) (q := 63) (by decide) (by decide) ?_
  refine g_iloadN C X d1_63 (q := 64) rfl rfl ?_
  refine g_bipush C X d1_64 (q := 66) rfl (z := (7 : Int32)) rfl ?_
  refine g_icY C X d1_66 (by decide) (q := 73) (by decide) (by decide) ?_
  refine g_iloadN C X d1_73 (q := 74) rfl rfl ?_
  refine g_bipush C X d1_74 (q := 76) rfl (z := (8 : Int32)) rfl ?_
  refine g_icY C X d1_76 (by decide) (q := 83) (by decide) (by decide) ?_
  refine g_iloadN C X d1_83 (q := 84) rfl rfl ?_
  refine g_bipush C X d1_84 (q := 86) rfl (z := (9 : Int32)) rfl ?_
  refine g_icY C X d1_86 (by decide) (q := 93) (by decide) (by decide) ?_
  refine g_iloadN C X d1_93 (q := 94) rfl rfl ?_
  refine g_bipush C X d1_94 (q := 96) rfl (z := (10 : Int32)) rfl ?_
  refine g_icY C X d1_96 (by decide) (q := 103) (by decide) (by decide) ?_
  refine g_iloadN C X d1_103 (q := 104) rfl rfl ?_
  refine g_bipush C X d1_104 (q := 106) rfl (z := (11 : Int32)) rfl ?_
  refine g_icY C X d1_106 (by decide) (q := 113) (by decide) (by decide) ?_
  refine g_iloadN C X d1_113 (q := 114) rfl rfl ?_
  refine g_bipush C X d1_114 (q := 116) rfl (z := (12 : Int32)) rfl ?_
  refine g_icY C X d1_116 (by decide) (q := 123) (by decide) (by decide) ?_
  refine g_iloadN C X d1_123 (q := 124) rfl rfl ?_
  refine g_bipush C X d1_124 (q := 126) rfl (z := (13 : Int32)) rfl ?_
  refine g_icY C X d1_126 (by decide) (q := 133) (by decide) (by decide) ?_
  refine g_iloadN C X d1_133 (q := 134) rfl rfl ?_
  refine g_bipush C X d1_134 (q := 136) rfl (z := (14 : Int32)) rfl ?_
  refine g_icY C X d1_136 (by decide) (q := 143) (by decide) (by decide) ?_
  refine g_iloadN C X d1_143 (q := 144) rfl rfl ?_
  refine g_bipush C X d1_144 (q := 146) rfl (z := (15 : Int32)) rfl ?_
  refine g_icY C X d1_146 (by decide) (q := 153) (by decide) (by decide) ?_
  refine g_iloadN C X d1_153 (q := 154) rfl rfl ?_
  refine g_bipush C X d1_154 (q := 156) rfl (z := (16 : Int32)) rfl ?_
  refine g_icN C X d1_156 (q := 159) rfl (by decide) ?_
  refine g_getS C X (host := "") (Or.inl (w41 hw)) Via.refl (W.2.2.2.2.2.2.2.2.2.2.2.2.2.2.2.2.2.2.2.2.2.2.2.2.2.2.2.1.ext O.2) d1_159 (q := 162) rfl ?_
  intro T1 X2
  exact g_retA C X2 rfl rfl d1_162 (by decide) (by decide) ⟨_, rfl, rfl, rfl⟩
set_option maxRecDepth 65536 in
set_option maxHeartbeats 40000000 in
theorem rm_ord_16 {l : Launch} {Z : State} {a0 : Array Value} (hw : ∀ d ∈ tables_1, d.before a0 Z = true) {a_EQUALS : Addr} {a_IS_NULL : Addr} {a_GREATER_THAN_EQUAL : Addr} {a_GREATER_THAN : Addr} {a_NOT : Addr} {a_IS_NOT_NULL : Addr} {a_TRUE : Addr} {a_LESS_THAN : Addr} {a_FALSE : Addr} {a_LIKE : Addr} {a_CONTAINING : Addr} {a_NOT_IN : Addr} {a_STARTING_WITH : Addr} {a_BETWEEN : Addr} {a_NOT_LIKE : Addr} {a_ENDING_WITH : Addr} {a_LESS_THAN_EQUAL : Addr} {a_IN : Addr} {h0 : Heap} {n0 : Nat} (O : Old Z n0 h0) (W : Wd Z a_EQUALS a_IS_NULL a_GREATER_THAN_EQUAL a_GREATER_THAN a_NOT a_IS_NOT_NULL a_TRUE a_LESS_THAN a_FALSE a_LIKE a_CONTAINING a_NOT_IN a_STARTING_WITH a_BETWEEN a_NOT_LIKE a_ENDING_WITH a_LESS_THAN_EQUAL a_IN) :
    Met1 l Z (⟨"java/lang/Enum", "ordinal", "()I"⟩ : MethodName) jdk_37_method_2_code 1 (some .int) ({ frames := 0, cells := 0, slots := 0, locals := 0 } : Room) #[(.ref a_LIKE)] h0 n0 (fun v h => v = (.int (16 : Int32)) ∧ h0 = h) := by
  refine met_of (L := #[.val (.ref a_LIKE)]) (plainFor_of_name pn_34) (fun m => by first | (simp [entryFrame, mkF, argsToLocals, Value.category]; done) | rfl) ?_
  intro p e s m below meth c T C X
  change Cx p s m meth c Z "java/lang/Enum" jdk_37_method_2_code 1 (some .int) "ordinal" at C
  refine g_aloadN C X d3_0 (q := 1) rfl rfl rfl ?_
  refine g_getF C X (host := "") (Or.inl (w23 hw)) Via.refl (W.2.2.2.2.2.2.2.2.2.2.2.2.2.2.2.2.2.2.2.2.2.2.2.2.2.2.2.2.2.1.ext O.2) d3_1 (q := 4) rfl ?_
  intro T1 X2
  exact g_retI C X2 d3_4 (by decide) (by decide) ⟨_, rfl, rfl, rfl⟩
set_option maxRecDepth 65536 in
set_option maxHeartbeats 40000000 in
theorem rm_fn_16 {l : Launch} {Z : State} {a0 : Array Value} (hw : ∀ d ∈ tables_1, d.before a0 Z = true) {a_EQUALS : Addr} {a_IS_NULL : Addr} {a_GREATER_THAN_EQUAL : Addr} {a_GREATER_THAN : Addr} {a_NOT : Addr} {a_IS_NOT_NULL : Addr} {a_TRUE : Addr} {a_LESS_THAN : Addr} {a_FALSE : Addr} {a_LIKE : Addr} {a_CONTAINING : Addr} {a_NOT_IN : Addr} {a_STARTING_WITH : Addr} {a_BETWEEN : Addr} {a_NOT_LIKE : Addr} {a_ENDING_WITH : Addr} {a_LESS_THAN_EQUAL : Addr} {a_IN : Addr} {h0 : Heap} {n0 : Nat} (O : Old Z n0 h0) (W : Wd Z a_EQUALS a_IS_NULL a_GREATER_THAN_EQUAL a_GREATER_THAN a_NOT a_IS_NOT_NULL a_TRUE a_LESS_THAN a_FALSE a_LIKE a_CONTAINING a_NOT_IN a_STARTING_WITH a_BETWEEN a_NOT_LIKE a_ENDING_WITH a_LESS_THAN_EQUAL a_IN) :
    Met1 l Z (⟨"com/example/sober_repository/soberrepository/DerivedName$Operator", "forNull", "()Lcom/example/sober_repository/soberrepository/DerivedName$Operator;"⟩ : MethodName) prog_12_method_8_code 2 (some (.object "com/example/sober_repository/soberrepository/DerivedName$Operator")) ({ frames := 1, cells := 0, slots := 0, locals := 12 } : Room) #[(.ref a_LIKE)] h0 n0 (fun v h => v = (.ref a_LIKE) ∧ h0 = h) := by
  refine met_of (L := #[.val (.ref a_LIKE), .unset]) (plainFor_of_name pn_42) (fun m => by first | (simp [entryFrame, mkF, argsToLocals, Value.category]; done) | rfl) ?_
  intro p e s m below meth c T C X
  change Cx p s m meth c Z "com/example/sober_repository/soberrepository/DerivedName$Operator" prog_12_method_8_code 2 (some (.object "com/example/sober_repository/soberrepository/DerivedName$Operator")) "forNull" at C
  refine g_aloadN C X d2_0 (q := 1) rfl rfl rfl ?_
  refine g_callU1 C X (y := (⟨"com/example/sober_repository/soberrepository/DerivedName$Operator", "ordinal", "()I"⟩ : MethodName)) (z := (⟨"java/lang/Enum", "ordinal", "()I"⟩ : MethodName)) (a := a_LIKE) (owner := "java/lang/Enum") (by decide) (w16 hw) (w17 hw) (w18 hw) (w20 hw) (w19 hw) (W.2.2.2.2.2.2.2.2.2.2.2.2.2.2.2.2.2.2.2.2.2.2.2.2.2.2.2.2.1.ext O.2) (w22 hw) (w21 hw) (rm_ord_16 hw O W) (W := 0) (by decide) (by decide) (k' := 0) rfl (n' := 0) rfl (by decide) (by decide) rfl pd_35 (argsL := []) rfl (rest := []) rfl rfl rfl d2_1 (q := 4) rfl ?_
  rintro _ T1 _ X2 ⟨rfl, rfl⟩
  refine g_lsw C X2 d2_4 (by decide) (o := 42) (by decide) (by decide) (q := 46) (by decide) ?_
  refine g_aloadN C X2 d2_46 (q := 47) rfl rfl rfl ?_
  refine g_astoreN C X2 d2_47 (q := 48) rfl rfl (L' := #[.val (.ref a_LIKE), .val (.ref a_LIKE)]) rfl ?_
  refine g_aloadN C X2 d2_48 (q := 49) rfl rfl rfl ?_
  exact g_retA C X2 rfl rfl d2_49 (by decide) (by decide) ⟨_, rfl, rfl, rfl⟩
set_option maxRecDepth 65536 in
set_option maxHeartbeats 40000000 in
theorem rm_pick_17 {l : Launch} {Z : State} {a0 : Array Value} (hw : ∀ d ∈ tables_1, d.before a0 Z = true) {a_EQUALS : Addr} {a_IS_NULL : Addr} {a_GREATER_THAN_EQUAL : Addr} {a_GREATER_THAN : Addr} {a_NOT : Addr} {a_IS_NOT_NULL : Addr} {a_TRUE : Addr} {a_LESS_THAN : Addr} {a_FALSE : Addr} {a_LIKE : Addr} {a_CONTAINING : Addr} {a_NOT_IN : Addr} {a_STARTING_WITH : Addr} {a_BETWEEN : Addr} {a_NOT_LIKE : Addr} {a_ENDING_WITH : Addr} {a_LESS_THAN_EQUAL : Addr} {a_IN : Addr} {h0 : Heap} {n0 : Nat} (O : Old Z n0 h0) (W : Wd Z a_EQUALS a_IS_NULL a_GREATER_THAN_EQUAL a_GREATER_THAN a_NOT a_IS_NOT_NULL a_TRUE a_LESS_THAN a_FALSE a_LIKE a_CONTAINING a_NOT_IN a_STARTING_WITH a_BETWEEN a_NOT_LIKE a_ENDING_WITH a_LESS_THAN_EQUAL a_IN) :
    Met1 l Z (⟨"com/example/sober_repository/soberrepository/OperatorForNullPinLaw", "pick", "(I)Lcom/example/sober_repository/soberrepository/DerivedName$Operator;"⟩ : MethodName) method_2_code 1 (some (.object "com/example/sober_repository/soberrepository/DerivedName$Operator")) ({ frames := 0, cells := 0, slots := 0, locals := 0 } : Room) #[(.int (17 : Int32))] h0 n0 (fun v h => v = (.ref a_NOT_LIKE) ∧ h0 = h) := by
  refine met_of (L := #[.val (.int (17 : Int32))]) (plainFor_of_name pn_4) (fun m => by first | (simp [entryFrame, mkF, argsToLocals, Value.category]; done) | rfl) ?_
  intro p e s m below meth c T C X
  change Cx p s m meth c Z "com/example/sober_repository/soberrepository/OperatorForNullPinLaw" method_2_code 1 (some (.object "com/example/sober_repository/soberrepository/DerivedName$Operator")) "pick" at C
  refine g_iloadN C X d1_0 (q := 1) rfl rfl ?_
  refine g_ifY C X d1_1 (by decide) (q := 8) (by decide) (by decide) ?_
  refine g_iloadN C X d1_8 (q := 9) rfl rfl ?_
  refine g_iconst C X d1_9 (q := 10) rfl (z := (1 : Int32)) rfl ?_
  refine g_icY C X d1_10 (by decide) (q := 17) (by decide) (by decide) ?_
  refine g_iloadN C X d1_17 (q := 18) rfl rfl ?_
  refine g_iconst C X d1_18 (q := 19) rfl (z := (2 : Int32)) rfl ?_
  refine g_icY C X d1_19 (by decide) (q := 26) (by decide) (by decide) ?_
  refine g_iloadN C X d1_26 (q := 27) rfl rfl ?_
  refine g_iconst C X d1_27 (q := 28) rfl (z := (3 : Int32)) rfl ?_
  refine g_icY C X d1_28 (by decide) (q := 35) (by decide) (by decide) ?_
  refine g_iloadN C X d1_35 (q := 36) rfl rfl ?_
  refine g_iconst C X d1_36 (q := 37) rfl (z := (4 : Int32)) rfl ?_
  refine g_icY C X d1_37 (by decide) (q := 44) (by decide) (by decide) ?_
  refine g_iloadN C X d1_44 (q := 45) rfl rfl ?_
  refine g_iconst C X d1_45 (q := 46) rfl (z := (5 : Int32)) rfl ?_
  refine g_icY C X d1_46 (by decide) (q := 53) (by decide) (by decide) ?_
  refine g_iloadN C X d1_53 (q := 54) rfl rfl ?_
  refine g_bipush C X d1_54 (q := 56) rfl (z := (6 : Int32)) rfl ?_
  refine g_icY C X d1_56 (by decide) (q := 63) (by decide) (by decide) ?_
  refine g_iloadN C X d1_63 (q := 64) rfl rfl ?_
  refine g_bipush C X d1_64 (q := 66) rfl (z := (7 : Int32)) rfl ?_
  refine g_icY C X d1_66 (by decide) (q := 73) (by decide) (by decide) ?_
  refine g_iloadN C X d1_73 (q := 74) rfl rfl ?_
  refine g_bipush C X d1_74 (q := 76) rfl (z := (8 : Int32)) rfl ?_
  refine g_icY C X d1_76 (by decide) (q := 83) (by decide) (by decide) ?_
  refine g_iloadN C X d1_83 (q := 84) rfl rfl ?_
  refine g_bipush C X d1_84 (q := 86) rfl (z := (9 : Int32)) rfl ?_
  refine g_icY C X d1_86 (by decide) (q := 93) (by decide) (by decide) ?_
  refine g_iloadN C X d1_93 (q := 94) rfl rfl ?_
  refine g_bipush C X d1_94 (q := 96) rfl (z := (10 : Int32)) rfl ?_
  refine g_icY C X d1_96 (by decide) (q := 103) (by decide) (by decide) ?_
  refine g_iloadN C X d1_103 (q := 104) rfl rfl ?_
  refine g_bipush C X d1_104 (q := 106) rfl (z := (11 : Int32)) rfl ?_
  refine g_icY C X d1_106 (by decide) (q := 113) (by decide) (by decide) ?_
  refine g_iloadN C X d1_113 (q := 114) rfl rfl ?_
  refine g_bipush C X d1_114 (q := 116) rfl (z := (12 : Int32)) rfl ?_
  refine g_icY C X d1_116 (by decide) (q := 123) (by decide) (by decide) ?_
  refine g_iloadN C X d1_123 (q := 124) rfl rfl ?_
  refine g_bipush C X d1_124 (q := 126) rfl (z := (13 : Int32)) rfl ?_
  refine g_icY C X d1_126 (by decide) (q := 133) (by decide) (by decide) ?_
  refine g_iloadN C X d1_133 (q := 134) rfl rfl ?_
  refine g_bipush C X d1_134 (q := 136) rfl (z := (14 : Int32)) rfl ?_
  refine g_icY C X d1_136 (by decide) (q := 143) (by decide) (by decide) ?_
  refine g_iloadN C X d1_143 (q := 144) rfl rfl ?_
  refine g_bipush C X d1_144 (q := 146) rfl (z := (15 : Int32)) rfl ?_
  refine g_icY C X d1_146 (by decide) (q := 153) (by decide) (by decide) ?_
  refine g_iloadN C X d1_153 (q := 154) rfl rfl ?_
  refine g_bipush C X d1_154 (q := 156) rfl (z := (16 : Int32)) rfl ?_
  refine g_icY C X d1_156 (by decide) (q := 163) (by decide) (by decide) ?_
  refine g_getS C X (host := "") (Or.inl (w51 hw)) Via.refl (W.2.2.2.2.2.2.2.2.2.2.2.2.2.2.2.2.2.2.2.2.2.2.2.2.2.2.2.2.2.2.2.2.2.2.2.2.2.2.2.2.2.2.1.ext O.2) d1_163 (q := 166) rfl ?_
  intro T1 X2
  exact g_retA C X2 rfl rfl d1_166 (by decide) (by decide) ⟨_, rfl, rfl, rfl⟩
set_option maxRecDepth 65536 in
set_option maxHeartbeats 40000000 in
theorem rm_ord_17 {l : Launch} {Z : State} {a0 : Array Value} (hw : ∀ d ∈ tables_1, d.before a0 Z = true) {a_EQUALS : Addr} {a_IS_NULL : Addr} {a_GREATER_THAN_EQUAL : Addr} {a_GREATER_THAN : Addr} {a_NOT : Addr} {a_IS_NOT_NULL : Addr} {a_TRUE : Addr} {a_LESS_THAN : Addr} {a_FALSE : Addr} {a_LIKE : Addr} {a_CONTAINING : Addr} {a_NOT_IN : Addr} {a_STARTING_WITH : Addr} {a_BETWEEN : Addr} {a_NOT_LIKE : Addr} {a_ENDING_WITH : Addr} {a_LESS_THAN_EQUAL : Addr} {a_IN : Addr} {h0 : Heap} {n0 : Nat} (O : Old Z n0 h0) (W : Wd Z a_EQUALS a_IS_NULL a_GREATER_THAN_EQUAL a_GREATER_THAN a_NOT a_IS_NOT_NULL a_TRUE a_LESS_THAN a_FALSE a_LIKE a_CONTAINING a_NOT_IN a_STARTING_WITH a_BETWEEN a_NOT_LIKE a_ENDING_WITH a_LESS_THAN_EQUAL a_IN) :
    Met1 l Z (⟨"java/lang/Enum", "ordinal", "()I"⟩ : MethodName) jdk_37_method_2_code 1 (some .int) ({ frames := 0, cells := 0, slots := 0, locals := 0 } : Room) #[(.ref a_NOT_LIKE)] h0 n0 (fun v h => v = (.int (17 : Int32)) ∧ h0 = h) := by
  refine met_of (L := #[.val (.ref a_NOT_LIKE)]) (plainFor_of_name pn_34) (fun m => by first | (simp [entryFrame, mkF, argsToLocals, Value.category]; done) | rfl) ?_
  intro p e s m below meth c T C X
  change Cx p s m meth c Z "java/lang/Enum" jdk_37_method_2_code 1 (some .int) "ordinal" at C
  refine g_aloadN C X d3_0 (q := 1) rfl rfl rfl ?_
  refine g_getF C X (host := "") (Or.inl (w23 hw)) Via.refl (W.2.2.2.2.2.2.2.2.2.2.2.2.2.2.2.2.2.2.2.2.2.2.2.2.2.2.2.2.2.2.2.2.2.2.2.2.2.2.2.2.2.2.2.2.1.ext O.2) d3_1 (q := 4) rfl ?_
  intro T1 X2
  exact g_retI C X2 d3_4 (by decide) (by decide) ⟨_, rfl, rfl, rfl⟩
set_option maxRecDepth 65536 in
set_option maxHeartbeats 40000000 in
theorem rm_fn_17 {l : Launch} {Z : State} {a0 : Array Value} (hw : ∀ d ∈ tables_1, d.before a0 Z = true) {a_EQUALS : Addr} {a_IS_NULL : Addr} {a_GREATER_THAN_EQUAL : Addr} {a_GREATER_THAN : Addr} {a_NOT : Addr} {a_IS_NOT_NULL : Addr} {a_TRUE : Addr} {a_LESS_THAN : Addr} {a_FALSE : Addr} {a_LIKE : Addr} {a_CONTAINING : Addr} {a_NOT_IN : Addr} {a_STARTING_WITH : Addr} {a_BETWEEN : Addr} {a_NOT_LIKE : Addr} {a_ENDING_WITH : Addr} {a_LESS_THAN_EQUAL : Addr} {a_IN : Addr} {h0 : Heap} {n0 : Nat} (O : Old Z n0 h0) (W : Wd Z a_EQUALS a_IS_NULL a_GREATER_THAN_EQUAL a_GREATER_THAN a_NOT a_IS_NOT_NULL a_TRUE a_LESS_THAN a_FALSE a_LIKE a_CONTAINING a_NOT_IN a_STARTING_WITH a_BETWEEN a_NOT_LIKE a_ENDING_WITH a_LESS_THAN_EQUAL a_IN) :
    Met1 l Z (⟨"com/example/sober_repository/soberrepository/DerivedName$Operator", "forNull", "()Lcom/example/sober_repository/soberrepository/DerivedName$Operator;"⟩ : MethodName) prog_12_method_8_code 2 (some (.object "com/example/sober_repository/soberrepository/DerivedName$Operator")) ({ frames := 1, cells := 0, slots := 0, locals := 12 } : Room) #[(.ref a_NOT_LIKE)] h0 n0 (fun v h => v = (.ref a_NOT_LIKE) ∧ h0 = h) := by
  refine met_of (L := #[.val (.ref a_NOT_LIKE), .unset]) (plainFor_of_name pn_42) (fun m => by first | (simp [entryFrame, mkF, argsToLocals, Value.category]; done) | rfl) ?_
  intro p e s m below meth c T C X
  change Cx p s m meth c Z "com/example/sober_repository/soberrepository/DerivedName$Operator" prog_12_method_8_code 2 (some (.object "com/example/sober_repository/soberrepository/DerivedName$Operator")) "forNull" at C
  refine g_aloadN C X d2_0 (q := 1) rfl rfl rfl ?_
  refine g_callU1 C X (y := (⟨"com/example/sober_repository/soberrepository/DerivedName$Operator", "ordinal", "()I"⟩ : MethodName)) (z := (⟨"java/lang/Enum", "ordinal", "()I"⟩ : MethodName)) (a := a_NOT_LIKE) (owner := "java/lang/Enum") (by decide) (w16 hw) (w17 hw) (w18 hw) (w20 hw) (w19 hw) (W.2.2.2.2.2.2.2.2.2.2.2.2.2.2.2.2.2.2.2.2.2.2.2.2.2.2.2.2.2.2.2.2.2.2.2.2.2.2.2.2.2.2.2.1.ext O.2) (w22 hw) (w21 hw) (rm_ord_17 hw O W) (W := 0) (by decide) (by decide) (k' := 0) rfl (n' := 0) rfl (by decide) (by decide) rfl pd_35 (argsL := []) rfl (rest := []) rfl rfl rfl d2_1 (q := 4) rfl ?_
  rintro _ T1 _ X2 ⟨rfl, rfl⟩
  refine g_lsw C X2 d2_4 (by decide) (o := 42) (by decide) (by decide) (q := 46) (by decide) ?_
  refine g_aloadN C X2 d2_46 (q := 47) rfl rfl rfl ?_
  refine g_astoreN C X2 d2_47 (q := 48) rfl rfl (L' := #[.val (.ref a_NOT_LIKE), .val (.ref a_NOT_LIKE)]) rfl ?_
  refine g_aloadN C X2 d2_48 (q := 49) rfl rfl rfl ?_
  exact g_retA C X2 rfl rfl d2_49 (by decide) (by decide) ⟨_, rfl, rfl, rfl⟩
set_option maxRecDepth 65536 in
set_option maxHeartbeats 40000000 in
theorem rmLaw {l : Launch} {Z : State} {a0 : Array Value} (hw : ∀ d ∈ tables_1, d.before a0 Z = true) {p0 : Int32} {a_EQUALS : Addr} {a_IS_NULL : Addr} {a_GREATER_THAN_EQUAL : Addr} {a_GREATER_THAN : Addr} {a_NOT : Addr} {a_IS_NOT_NULL : Addr} {a_TRUE : Addr} {a_LESS_THAN : Addr} {a_FALSE : Addr} {a_LIKE : Addr} {a_CONTAINING : Addr} {a_NOT_IN : Addr} {a_STARTING_WITH : Addr} {a_BETWEEN : Addr} {a_NOT_LIKE : Addr} {a_ENDING_WITH : Addr} {a_LESS_THAN_EQUAL : Addr} {a_IN : Addr} {h0 : Heap} {n0 : Nat} (O : Old Z n0 h0) (W : Wd Z a_EQUALS a_IS_NULL a_GREATER_THAN_EQUAL a_GREATER_THAN a_NOT a_IS_NOT_NULL a_TRUE a_LESS_THAN a_FALSE a_LIKE a_CONTAINING a_NOT_IN a_STARTING_WITH a_BETWEEN a_NOT_LIKE a_ENDING_WITH a_LESS_THAN_EQUAL a_IN) :
    Met1 l Z x code maxLocals ret room_1 #[(.int p0)] h0 n0 (fun v h => v = .int 1 ∧ True) := by
  refine met_of (L := #[.val (.int p0), .unset, .unset, .unset, .unset, .unset]) (plainFor_of_name pn_4) (fun m => by first | (simp [entryFrame, mkF, argsToLocals, Value.category, maxLocals]; done) | rfl) ?_
  intro p e s m below meth c T C X
  change Cx p s m meth c Z "com/example/sober_repository/soberrepository/OperatorForNullPinLaw" code 6 (some .boolean) "law" at C
  change Goes p e below (FinN _ s n0 16 128) _
  refine g_bipush C X at_0 (q := 2) rfl (z := (18 : Int32)) rfl ?_
  refine g_newP C X (w0 hw) rfl at_2 (q := 4) rfl (by decide) (cap := 18) (by decide) (by decide) (k' := 1) rfl (n' := 18) rfl (by decide) (by decide) ?_
  intro T2 h3 kA4 b1 g6 X5 E7 V8
  have ge9 : n0 ≤ b1 := own_ge O g6
  have O10 := O.ext E7
  have V11 : Arv Z h3 b1 kA4 .int (18 : Int32) [(.int (0 : Int32)), (.int (0 : Int32)), (.int (0 : Int32)), (.int (0 : Int32)), (.int (0 : Int32)), (.int (0 : Int32)), (.int (0 : Int32)), (.int (0 : Int32)), (.int (0 : Int32)), (.int (0 : Int32)), (.int (0 : Int32)), (.int (0 : Int32)), (.int (0 : Int32)), (.int (0 : Int32)), (.int (0 : Int32)), (.int (0 : Int32)), (.int (0 : Int32)), (.int (0 : Int32))] (.int (0 : Int32)) := Arv.pad V8 (pad_rep [] _ 18)
  refine g_dup C X5 at_4 (q := 5) rfl rfl ?_
  refine g_iconst C X5 at_5 (q := 6) rfl (z := (0 : Int32)) rfl ?_
  refine g_bipush C X5 at_6 (q := 8) rfl (z := (7 : Int32)) rfl ?_
  refine g_iastore C X5 V11 (by decide) (i := 0) (by decide) (Nat.le_of_ble_eq_true rfl) (vs' := [(.int (7 : Int32)), (.int (0 : Int32)), (.int (0 : Int32)), (.int (0 : Int32)), (.int (0 : Int32)), (.int (0 : Int32)), (.int (0 : Int32)), (.int (0 : Int32)), (.int (0 : Int32)), (.int (0 : Int32)), (.int (0 : Int32)), (.int (0 : Int32)), (.int (0 : Int32)), (.int (0 : Int32)), (.int (0 : Int32)), (.int (0 : Int32)), (.int (0 : Int32)), (.int (0 : Int32))]) rfl ge9 at_8 (q := 9) rfl ?_
  intro T12 h13 X14 W15 V16
  have O17 := O10.wr W15 ge9
  refine g_dup C X14 at_9 (q := 10) rfl rfl ?_
  refine g_iconst C X14 at_10 (q := 11) rfl (z := (1 : Int32)) rfl ?_
  refine g_bipush C X14 at_11 (q := 13) rfl (z := (8 : Int32)) rfl ?_
  refine g_iastore C X14 V16 (by decide) (i := 1) (by decide) (Nat.le_of_ble_eq_true rfl) (vs' := [(.int (7 : Int32)), (.int (8 : Int32)), (.int (0 : Int32)), (.int (0 : Int32)), (.int (0 : Int32)), (.int (0 : Int32)), (.int (0 : Int32)), (.int (0 : Int32)), (.int (0 : Int32)), (.int (0 : Int32)), (.int (0 : Int32)), (.int (0 : Int32)), (.int (0 : Int32)), (.int (0 : Int32)), (.int (0 : Int32)), (.int (0 : Int32)), (.int (0 : Int32)), (.int (0 : Int32))]) rfl ge9 at_13 (q := 14) rfl ?_
  intro T18 h19 X20 W21 V22
  have O23 := O17.wr W21 ge9
  refine g_dup C X20 at_14 (q := 15) rfl rfl ?_
  refine g_iconst C X20 at_15 (q := 16) rfl (z := (2 : Int32)) rfl ?_
  refine g_iconst C X20 at_16 (q := 17) rfl (z := (2 : Int32)) rfl ?_
  refine g_iastore C X20 V22 (by decide) (i := 2) (by decide) (Nat.le_of_ble_eq_true rfl) (vs' := [(.int (7 : Int32)), (.int (8 : Int32)), (.int (2 : Int32)), (.int (0 : Int32)), (.int (0 : Int32)), (.int (0 : Int32)), (.int (0 : Int32)), (.int (0 : Int32)), (.int (0 : Int32)), (.int (0 : Int32)), (.int (0 : Int32)), (.int (0 : Int32)), (.int (0 : Int32)), (.int (0 : Int32)), (.int (0 : Int32)), (.int (0 : Int32)), (.int (0 : Int32)), (.int (0 : Int32))]) rfl ge9 at_17 (q := 18) rfl ?_
  intro T24 h25 X26 W27 V28
  have O29 := O23.wr W27 ge9
  refine g_dup C X26 at_18 (q := 19) rfl rfl ?_
  refine g_iconst C X26 at_19 (q := 20) rfl (z := (3 : Int32)) rfl ?_
  refine g_iconst C X26 at_20 (q := 21) rfl (z := (3 : Int32)) rfl ?_
  refine g_iastore C X26 V28 (by decide) (i := 3) (by decide) (Nat.le_of_ble_eq_true rfl) (vs' := [(.int (7 : Int32)), (.int (8 : Int32)), (.int (2 : Int32)), (.int (3 : Int32)), (.int (0 : Int32)), (.int (0 : Int32)), (.int (0 : Int32)), (.int (0 : Int32)), (.int (0 : Int32)), (.int (0 : Int32)), (.int (0 : Int32)), (.int (0 : Int32)), (.int (0 : Int32)), (.int (0 : Int32)), (.int (0 : Int32)), (.int (0 : Int32)), (.int (0 : Int32)), (.int (0 : Int32))]) rfl ge9 at_21 (q := 22) rfl ?_
  intro T30 h31 X32 W33 V34
  have O35 := O29.wr W33 ge9
  refine g_dup C X32 at_22 (q := 23) rfl rfl ?_
  refine g_iconst C X32 at_23 (q := 24) rfl (z := (4 : Int32)) rfl ?_
  refine g_iconst C X32 at_24 (q := 25) rfl (z := (4 : Int32)) rfl ?_
  refine g_iastore C X32 V34 (by decide) (i := 4) (by decide) (Nat.le_of_ble_eq_true rfl) (vs' := [(.int (7 : Int32)), (.int (8 : Int32)), (.int (2 : Int32)), (.int (3 : Int32)), (.int (4 : Int32)), (.int (0 : Int32)), (.int (0 : Int32)), (.int (0 : Int32)), (.int (0 : Int32)), (.int (0 : Int32)), (.int (0 : Int32)), (.int (0 : Int32)), (.int (0 : Int32)), (.int (0 : Int32)), (.int (0 : Int32)), (.int (0 : Int32)), (.int (0 : Int32)), (.int (0 : Int32))]) rfl ge9 at_25 (q := 26) rfl ?_
  intro T36 h37 X38 W39 V40
  have O41 := O35.wr W39 ge9
  refine g_dup C X38 at_26 (q := 27) rfl rfl ?_
  refine g_iconst C X38 at_27 (q := 28) rfl (z := (5 : Int32)) rfl ?_
  refine g_iconst C X38 at_28 (q := 29) rfl (z := (5 : Int32)) rfl ?_
  refine g_iastore C X38 V40 (by decide) (i := 5) (by decide) (Nat.le_of_ble_eq_true rfl) (vs' := [(.int (7 : Int32)), (.int (8 : Int32)), (.int (2 : Int32)), (.int (3 : Int32)), (.int (4 : Int32)), (.int (5 : Int32)), (.int (0 : Int32)), (.int (0 : Int32)), (.int (0 : Int32)), (.int (0 : Int32)), (.int (0 : Int32)), (.int (0 : Int32)), (.int (0 : Int32)), (.int (0 : Int32)), (.int (0 : Int32)), (.int (0 : Int32)), (.int (0 : Int32)), (.int (0 : Int32))]) rfl ge9 at_29 (q := 30) rfl ?_
  intro T42 h43 X44 W45 V46
  have O47 := O41.wr W45 ge9
  refine g_dup C X44 at_30 (q := 31) rfl rfl ?_
  refine g_bipush C X44 at_31 (q := 33) rfl (z := (6 : Int32)) rfl ?_
  refine g_bipush C X44 at_33 (q := 35) rfl (z := (6 : Int32)) rfl ?_
  refine g_iastore C X44 V46 (by decide) (i := 6) (by decide) (Nat.le_of_ble_eq_true rfl) (vs' := [(.int (7 : Int32)), (.int (8 : Int32)), (.int (2 : Int32)), (.int (3 : Int32)), (.int (4 : Int32)), (.int (5 : Int32)), (.int (6 : Int32)), (.int (0 : Int32)), (.int (0 : Int32)), (.int (0 : Int32)), (.int (0 : Int32)), (.int (0 : Int32)), (.int (0 : Int32)), (.int (0 : Int32)), (.int (0 : Int32)), (.int (0 : Int32)), (.int (0 : Int32)), (.int (0 : Int32))]) rfl ge9 at_35 (q := 36) rfl ?_
  intro T48 h49 X50 W51 V52
  have O53 := O47.wr W51 ge9
  refine g_dup C X50 at_36 (q := 37) rfl rfl ?_
  refine g_bipush C X50 at_37 (q := 39) rfl (z := (7 : Int32)) rfl ?_
  refine g_bipush C X50 at_39 (q := 41) rfl (z := (7 : Int32)) rfl ?_
  refine g_iastore C X50 V52 (by decide) (i := 7) (by decide) (Nat.le_of_ble_eq_true rfl) (vs' := [(.int (7 : Int32)), (.int (8 : Int32)), (.int (2 : Int32)), (.int (3 : Int32)), (.int (4 : Int32)), (.int (5 : Int32)), (.int (6 : Int32)), (.int (7 : Int32)), (.int (0 : Int32)), (.int (0 : Int32)), (.int (0 : Int32)), (.int (0 : Int32)), (.int (0 : Int32)), (.int (0 : Int32)), (.int (0 : Int32)), (.int (0 : Int32)), (.int (0 : Int32)), (.int (0 : Int32))]) rfl ge9 at_41 (q := 42) rfl ?_
  intro T54 h55 X56 W57 V58
  have O59 := O53.wr W57 ge9
  refine g_dup C X56 at_42 (q := 43) rfl rfl ?_
  refine g_bipush C X56 at_43 (q := 45) rfl (z := (8 : Int32)) rfl ?_
  refine g_bipush C X56 at_45 (q := 47) rfl (z := (8 : Int32)) rfl ?_
  refine g_iastore C X56 V58 (by decide) (i := 8) (by decide) (Nat.le_of_ble_eq_true rfl) (vs' := [(.int (7 : Int32)), (.int (8 : Int32)), (.int (2 : Int32)), (.int (3 : Int32)), (.int (4 : Int32)), (.int (5 : Int32)), (.int (6 : Int32)), (.int (7 : Int32)), (.int (8 : Int32)), (.int (0 : Int32)), (.int (0 : Int32)), (.int (0 : Int32)), (.int (0 : Int32)), (.int (0 : Int32)), (.int (0 : Int32)), (.int (0 : Int32)), (.int (0 : Int32)), (.int (0 : Int32))]) rfl ge9 at_47 (q := 48) rfl ?_
  intro T60 h61 X62 W63 V64
  have O65 := O59.wr W63 ge9
  refine g_dup C X62 at_48 (q := 49) rfl rfl ?_
  refine g_bipush C X62 at_49 (q := 51) rfl (z := (9 : Int32)) rfl ?_
  refine g_bipush C X62 at_51 (q := 53) rfl (z := (9 : Int32)) rfl ?_
  refine g_iastore C X62 V64 (by decide) (i := 9) (by decide) (Nat.le_of_ble_eq_true rfl) (vs' := [(.int (7 : Int32)), (.int (8 : Int32)), (.int (2 : Int32)), (.int (3 : Int32)), (.int (4 : Int32)), (.int (5 : Int32)), (.int (6 : Int32)), (.int (7 : Int32)), (.int (8 : Int32)), (.int (9 : Int32)), (.int (0 : Int32)), (.int (0 : Int32)), (.int (0 : Int32)), (.int (0 : Int32)), (.int (0 : Int32)), (.int (0 : Int32)), (.int (0 : Int32)), (.int (0 : Int32))]) rfl ge9 at_53 (q := 54) rfl ?_
  intro T66 h67 X68 W69 V70
  have O71 := O65.wr W69 ge9
  refine g_dup C X68 at_54 (q := 55) rfl rfl ?_
  refine g_bipush C X68 at_55 (q := 57) rfl (z := (10 : Int32)) rfl ?_
  refine g_bipush C X68 at_57 (q := 59) rfl (z := (10 : Int32)) rfl ?_
  refine g_iastore C X68 V70 (by decide) (i := 10) (by decide) (Nat.le_of_ble_eq_true rfl) (vs' := [(.int (7 : Int32)), (.int (8 : Int32)), (.int (2 : Int32)), (.int (3 : Int32)), (.int (4 : Int32)), (.int (5 : Int32)), (.int (6 : Int32)), (.int (7 : Int32)), (.int (8 : Int32)), (.int (9 : Int32)), (.int (10 : Int32)), (.int (0 : Int32)), (.int (0 : Int32)), (.int (0 : Int32)), (.int (0 : Int32)), (.int (0 : Int32)), (.int (0 : Int32)), (.int (0 : Int32))]) rfl ge9 at_59 (q := 60) rfl ?_
  intro T72 h73 X74 W75 V76
  have O77 := O71.wr W75 ge9
  refine g_dup C X74 at_60 (q := 61) rfl rfl ?_
  refine g_bipush C X74 at_61 (q := 63) rfl (z := (11 : Int32)) rfl ?_
  refine g_bipush C X74 at_63 (q := 65) rfl (z := (11 : Int32)) rfl ?_
  refine g_iastore C X74 V76 (by decide) (i := 11) (by decide) (Nat.le_of_ble_eq_true rfl) (vs' := [(.int (7 : Int32)), (.int (8 : Int32)), (.int (2 : Int32)), (.int (3 : Int32)), (.int (4 : Int32)), (.int (5 : Int32)), (.int (6 : Int32)), (.int (7 : Int32)), (.int (8 : Int32)), (.int (9 : Int32)), (.int (10 : Int32)), (.int (11 : Int32)), (.int (0 : Int32)), (.int (0 : Int32)), (.int (0 : Int32)), (.int (0 : Int32)), (.int (0 : Int32)), (.int (0 : Int32))]) rfl ge9 at_65 (q := 66) rfl ?_
  intro T78 h79 X80 W81 V82
  have O83 := O77.wr W81 ge9
  refine g_dup C X80 at_66 (q := 67) rfl rfl ?_
  refine g_bipush C X80 at_67 (q := 69) rfl (z := (12 : Int32)) rfl ?_
  refine g_bipush C X80 at_69 (q := 71) rfl (z := (12 : Int32)) rfl ?_
  refine g_iastore C X80 V82 (by decide) (i := 12) (by decide) (Nat.le_of_ble_eq_true rfl) (vs' := [(.int (7 : Int32)), (.int (8 : Int32)), (.int (2 : Int32)), (.int (3 : Int32)), (.int (4 : Int32)), (.int (5 : Int32)), (.int (6 : Int32)), (.int (7 : Int32)), (.int (8 : Int32)), (.int (9 : Int32)), (.int (10 : Int32)), (.int (11 : Int32)), (.int (12 : Int32)), (.int (0 : Int32)), (.int (0 : Int32)), (.int (0 : Int32)), (.int (0 : Int32)), (.int (0 : Int32))]) rfl ge9 at_71 (q := 72) rfl ?_
  intro T84 h85 X86 W87 V88
  have O89 := O83.wr W87 ge9
  refine g_dup C X86 at_72 (q := 73) rfl rfl ?_
  refine g_bipush C X86 at_73 (q := 75) rfl (z := (13 : Int32)) rfl ?_
  refine g_bipush C X86 at_75 (q := 77) rfl (z := (13 : Int32)) rfl ?_
  refine g_iastore C X86 V88 (by decide) (i := 13) (by decide) (Nat.le_of_ble_eq_true rfl) (vs' := [(.int (7 : Int32)), (.int (8 : Int32)), (.int (2 : Int32)), (.int (3 : Int32)), (.int (4 : Int32)), (.int (5 : Int32)), (.int (6 : Int32)), (.int (7 : Int32)), (.int (8 : Int32)), (.int (9 : Int32)), (.int (10 : Int32)), (.int (11 : Int32)), (.int (12 : Int32)), (.int (13 : Int32)), (.int (0 : Int32)), (.int (0 : Int32)), (.int (0 : Int32)), (.int (0 : Int32))]) rfl ge9 at_77 (q := 78) rfl ?_
  intro T90 h91 X92 W93 V94
  have O95 := O89.wr W93 ge9
  refine g_dup C X92 at_78 (q := 79) rfl rfl ?_
  refine g_bipush C X92 at_79 (q := 81) rfl (z := (14 : Int32)) rfl ?_
  refine g_bipush C X92 at_81 (q := 83) rfl (z := (14 : Int32)) rfl ?_
  refine g_iastore C X92 V94 (by decide) (i := 14) (by decide) (Nat.le_of_ble_eq_true rfl) (vs' := [(.int (7 : Int32)), (.int (8 : Int32)), (.int (2 : Int32)), (.int (3 : Int32)), (.int (4 : Int32)), (.int (5 : Int32)), (.int (6 : Int32)), (.int (7 : Int32)), (.int (8 : Int32)), (.int (9 : Int32)), (.int (10 : Int32)), (.int (11 : Int32)), (.int (12 : Int32)), (.int (13 : Int32)), (.int (14 : Int32)), (.int (0 : Int32)), (.int (0 : Int32)), (.int (0 : Int32))]) rfl ge9 at_83 (q := 84) rfl ?_
  intro T96 h97 X98 W99 V100
  have O101 := O95.wr W99 ge9
  refine g_dup C X98 at_84 (q := 85) rfl rfl ?_
  refine g_bipush C X98 at_85 (q := 87) rfl (z := (15 : Int32)) rfl ?_
  refine g_bipush C X98 at_87 (q := 89) rfl (z := (15 : Int32)) rfl ?_
  refine g_iastore C X98 V100 (by decide) (i := 15) (by decide) (Nat.le_of_ble_eq_true rfl) (vs' := [(.int (7 : Int32)), (.int (8 : Int32)), (.int (2 : Int32)), (.int (3 : Int32)), (.int (4 : Int32)), (.int (5 : Int32)), (.int (6 : Int32)), (.int (7 : Int32)), (.int (8 : Int32)), (.int (9 : Int32)), (.int (10 : Int32)), (.int (11 : Int32)), (.int (12 : Int32)), (.int (13 : Int32)), (.int (14 : Int32)), (.int (15 : Int32)), (.int (0 : Int32)), (.int (0 : Int32))]) rfl ge9 at_89 (q := 90) rfl ?_
  intro T102 h103 X104 W105 V106
  have O107 := O101.wr W105 ge9
  refine g_dup C X104 at_90 (q := 91) rfl rfl ?_
  refine g_bipush C X104 at_91 (q := 93) rfl (z := (16 : Int32)) rfl ?_
  refine g_bipush C X104 at_93 (q := 95) rfl (z := (16 : Int32)) rfl ?_
  refine g_iastore C X104 V106 (by decide) (i := 16) (by decide) (Nat.le_of_ble_eq_true rfl) (vs' := [(.int (7 : Int32)), (.int (8 : Int32)), (.int (2 : Int32)), (.int (3 : Int32)), (.int (4 : Int32)), (.int (5 : Int32)), (.int (6 : Int32)), (.int (7 : Int32)), (.int (8 : Int32)), (.int (9 : Int32)), (.int (10 : Int32)), (.int (11 : Int32)), (.int (12 : Int32)), (.int (13 : Int32)), (.int (14 : Int32)), (.int (15 : Int32)), (.int (16 : Int32)), (.int (0 : Int32))]) rfl ge9 at_95 (q := 96) rfl ?_
  intro T108 h109 X110 W111 V112
  have O113 := O107.wr W111 ge9
  refine g_dup C X110 at_96 (q := 97) rfl rfl ?_
  refine g_bipush C X110 at_97 (q := 99) rfl (z := (17 : Int32)) rfl ?_
  refine g_bipush C X110 at_99 (q := 101) rfl (z := (17 : Int32)) rfl ?_
  refine g_iastore C X110 V112 (by decide) (i := 17) (by decide) (Nat.le_of_ble_eq_true rfl) (vs' := [(.int (7 : Int32)), (.int (8 : Int32)), (.int (2 : Int32)), (.int (3 : Int32)), (.int (4 : Int32)), (.int (5 : Int32)), (.int (6 : Int32)), (.int (7 : Int32)), (.int (8 : Int32)), (.int (9 : Int32)), (.int (10 : Int32)), (.int (11 : Int32)), (.int (12 : Int32)), (.int (13 : Int32)), (.int (14 : Int32)), (.int (15 : Int32)), (.int (16 : Int32)), (.int (17 : Int32))]) rfl ge9 at_101 (q := 102) rfl ?_
  intro T114 h115 X116 W117 V118
  have O119 := O113.wr W117 ge9
  refine g_astoreN C X116 at_102 (q := 103) rfl rfl (L' := #[.val (.int p0), .val (.ref b1), .unset, .unset, .unset, .unset]) rfl ?_
  refine g_iloadN C X116 at_103 (q := 104) rfl rfl ?_
  refine g_ldcI C X116 (w1 hw) at_104 (q := 106) rfl ?_
  refine g_iand C X116 at_106 (q := 107) rfl (z := (p0 &&& (2147483647 : Int32))) rfl ?_
  refine g_bipush C X116 at_107 (q := 109) rfl (z := (18 : Int32)) rfl ?_
  rcases own_m18 p0 with hk | hk | hk | hk | hk | hk | hk | hk | hk | hk | hk | hk | hk | hk | hk | hk | hk | hk
  · refine g_irem C X116 at_109 (q := 110) rfl (by decide) (z := (0 : Int32)) hk ?_
    refine g_istoreN C X116 at_110 (q := 111) rfl (L' := #[.val (.int p0), .val (.ref b1), .val (.int (0 : Int32)), .unset, .unset, .unset]) rfl ?_
    refine g_iloadN C X116 at_111 (q := 112) rfl rfl ?_
    refine g_callS1 C X116 (y := (⟨"com/example/sober_repository/soberrepository/OperatorForNullPinLaw", "pick", "(I)Lcom/example/sober_repository/soberrepository/DerivedName$Operator;"⟩ : MethodName)) (by decide) (w2 hw) (w3 hw) (w5 hw) (w4 hw) (rm_pick_0 hw O119 W) (W := 0) (by decide) (by decide) (k' := 1) rfl (n' := 18) rfl (by decide) (by decide) rfl pd_5 (argsL := [(.int (0 : Int32))]) rfl (rest := []) rfl rfl rfl at_112 (q := 115) rfl ?_
    rintro _ T120 _ X121 ⟨rfl, rfl⟩
    refine g_astoreN C X121 at_115 (q := 116) rfl rfl (L' := #[.val (.int p0), .val (.ref b1), .val (.int (0 : Int32)), .val (.ref a_EQUALS), .unset, .unset]) rfl ?_
    refine g_aloadN C X121 at_116 (q := 117) rfl rfl rfl ?_
    refine g_iloadN C X121 at_117 (q := 118) rfl rfl ?_
    refine g_iaload C X121 V118 (by decide) (w := (.int (7 : Int32))) rfl at_118 (q := 119) rfl ?_
    refine g_callS1 C X121 (y := (⟨"com/example/sober_repository/soberrepository/OperatorForNullPinLaw", "pick", "(I)Lcom/example/sober_repository/soberrepository/DerivedName$Operator;"⟩ : MethodName)) (by decide) (w2 hw) (w3 hw) (w5 hw) (w4 hw) (rm_pick_1 hw O119 W) (W := 0) (by decide) (by decide) (k' := 1) rfl (n' := 18) rfl (by decide) (by decide) rfl pd_5 (argsL := [(.int (7 : Int32))]) rfl (rest := []) rfl rfl rfl at_119 (q := 122) rfl ?_
    rintro _ T122 _ X123 ⟨rfl, rfl⟩
    refine g_astore C X123 at_122 (q := 124) rfl rfl (L' := #[.val (.int p0), .val (.ref b1), .val (.int (0 : Int32)), .val (.ref a_EQUALS), .val (.ref a_IS_NULL), .unset]) rfl ?_
    refine g_aloadN C X123 at_124 (q := 125) rfl rfl rfl ?_
    refine g_callV1 C X123 (y := (⟨"com/example/sober_repository/soberrepository/DerivedName$Operator", "forNull", "()Lcom/example/sober_repository/soberrepository/DerivedName$Operator;"⟩ : MethodName)) (z := (⟨"com/example/sober_repository/soberrepository/DerivedName$Operator", "forNull", "()Lcom/example/sober_repository/soberrepository/DerivedName$Operator;"⟩ : MethodName)) (a := a_EQUALS) (by decide) (w11 hw) (w12 hw) (w14 hw) (w13 hw) (nf_sel (w14 hw)) (W.2.1.ext O119.2) (w15 hw) (w7 hw) (rm_fn_0 hw O119 W) (W := 0) (by decide) (by decide) (k' := 1) rfl (n' := 18) rfl (by decide) (by decide) rfl pd_43 (argsL := []) rfl (rest := []) rfl rfl rfl at_125 (q := 128) rfl ?_
    rintro _ T124 _ X125 ⟨rfl, rfl⟩
    refine g_astore C X125 at_128 (q := 130) rfl rfl (L' := #[.val (.int p0), .val (.ref b1), .val (.int (0 : Int32)), .val (.ref a_EQUALS), .val (.ref a_IS_NULL), .val (.ref a_IS_NULL)]) rfl ?_
    refine g_aload C X125 at_130 (q := 132) rfl rfl rfl ?_
    refine g_aload C X125 at_132 (q := 134) rfl rfl rfl ?_
    refine g_acmp C X125 at_134 rfl rfl (same := true) (decide_eq_true rfl) (by decide) (q := 137) (by decide) ?_
    refine g_aload C X125 at_137 (q := 139) rfl rfl rfl ?_
    refine g_callV1 C X125 (y := (⟨"com/example/sober_repository/soberrepository/DerivedName$Operator", "forNull", "()Lcom/example/sober_repository/soberrepository/DerivedName$Operator;"⟩ : MethodName)) (z := (⟨"com/example/sober_repository/soberrepository/DerivedName$Operator", "forNull", "()Lcom/example/sober_repository/soberrepository/DerivedName$Operator;"⟩ : MethodName)) (a := a_IS_NULL) (by decide) (w11 hw) (w12 hw) (w14 hw) (w13 hw) (nf_sel (w14 hw)) (W.2.2.2.1.ext O119.2) (w15 hw) (w7 hw) (rm_fn_1 hw O119 W) (W := 0) (by decide) (by decide) (k' := 1) rfl (n' := 18) rfl (by decide) (by decide) rfl pd_43 (argsL := []) rfl (rest := []) rfl rfl rfl at_139 (q := 142) rfl ?_
    rintro _ T126 _ X127 ⟨rfl, rfl⟩
    refine g_aload C X127 at_142 (q := 144) rfl rfl rfl ?_
    refine g_acmp C X127 at_144 rfl rfl (same := true) (decide_eq_true rfl) (by decide) (q := 147) (by decide) ?_
    refine g_iconst C X127 at_147 (q := 148) rfl (z := (1 : Int32)) rfl ?_
    refine g_goto C X127 at_148 (by decide) (q := 152) (by decide) ?_
    exact g_retN C X127 (Or.inl rfl) (z' := 1) (by decide) at_152 (by decide) (by decide) ⟨_, rfl, rfl, trivial⟩
  · refine g_irem C X116 at_109 (q := 110) rfl (by decide) (z := (1 : Int32)) hk ?_
    refine g_istoreN C X116 at_110 (q := 111) rfl (L' := #[.val (.int p0), .val (.ref b1), .val (.int (1 : Int32)), .unset, .unset, .unset]) rfl ?_
    refine g_iloadN C X116 at_111 (q := 112) rfl rfl ?_
    refine g_callS1 C X116 (y := (⟨"com/example/sober_repository/soberrepository/OperatorForNullPinLaw", "pick", "(I)Lcom/example/sober_repository/soberrepository/DerivedName$Operator;"⟩ : MethodName)) (by decide) (w2 hw) (w3 hw) (w5 hw) (w4 hw) (rm_pick_2 hw O119 W) (W := 0) (by decide) (by decide) (k' := 1) rfl (n' := 18) rfl (by decide) (by decide) rfl pd_5 (argsL := [(.int (1 : Int32))]) rfl (rest := []) rfl rfl rfl at_112 (q := 115) rfl ?_
    rintro _ T128 _ X129 ⟨rfl, rfl⟩
    refine g_astoreN C X129 at_115 (q := 116) rfl rfl (L' := #[.val (.int p0), .val (.ref b1), .val (.int (1 : Int32)), .val (.ref a_NOT), .unset, .unset]) rfl ?_
    refine g_aloadN C X129 at_116 (q := 117) rfl rfl rfl ?_
    refine g_iloadN C X129 at_117 (q := 118) rfl rfl ?_
    refine g_iaload C X129 V118 (by decide) (w := (.int (8 : Int32))) rfl at_118 (q := 119) rfl ?_
    refine g_callS1 C X129 (y := (⟨"com/example/sober_repository/soberrepository/OperatorForNullPinLaw", "pick", "(I)Lcom/example/sober_repository/soberrepository/DerivedName$Operator;"⟩ : MethodName)) (by decide) (w2 hw) (w3 hw) (w5 hw) (w4 hw) (rm_pick_3 hw O119 W) (W := 0) (by decide) (by decide) (k' := 1) rfl (n' := 18) rfl (by decide) (by decide) rfl pd_5 (argsL := [(.int (8 : Int32))]) rfl (rest := []) rfl rfl rfl at_119 (q := 122) rfl ?_
    rintro _ T130 _ X131 ⟨rfl, rfl⟩
    refine g_astore C X131 at_122 (q := 124) rfl rfl (L' := #[.val (.int p0), .val (.ref b1), .val (.int (1 : Int32)), .val (.ref a_NOT), .val (.ref a_IS_NOT_NULL), .unset]) rfl ?_
    refine g_aloadN C X131 at_124 (q := 125) rfl rfl rfl ?_
    refine g_callV1 C X131 (y := (⟨"com/example/sober_repository/soberrepository/DerivedName$Operator", "forNull", "()Lcom/example/sober_repository/soberrepository/DerivedName$Operator;"⟩ : MethodName)) (z := (⟨"com/example/sober_repository/soberrepository/DerivedName$Operator", "forNull", "()Lcom/example/sober_repository/soberrepository/DerivedName$Operator;"⟩ : MethodName)) (a := a_NOT) (by decide) (w11 hw) (w12 hw) (w14 hw) (w13 hw) (nf_sel (w14 hw)) (W.2.2.2.2.2.2.2.2.2.2.2.2.2.1.ext O119.2) (w15 hw) (w7 hw) (rm_fn_2 hw O119 W) (W := 0) (by decide) (by decide) (k' := 1) rfl (n' := 18) rfl (by decide) (by decide) rfl pd_43 (argsL := []) rfl (rest := []) rfl rfl rfl at_125 (q := 128) rfl ?_
    rintro _ T132 _ X133 ⟨rfl, rfl⟩
    refine g_astore C X133 at_128 (q := 130) rfl rfl (L' := #[.val (.int p0), .val (.ref b1), .val (.int (1 : Int32)), .val (.ref a_NOT), .val (.ref a_IS_NOT_NULL), .val (.ref a_IS_NOT_NULL)]) rfl ?_
    refine g_aload C X133 at_130 (q := 132) rfl rfl rfl ?_
    refine g_aload C X133 at_132 (q := 134) rfl rfl rfl ?_
    refine g_acmp C X133 at_134 rfl rfl (same := true) (decide_eq_true rfl) (by decide) (q := 137) (by decide) ?_
    refine g_aload C X133 at_137 (q := 139) rfl rfl rfl ?_
    refine g_callV1 C X133 (y := (⟨"com/example/sober_repository/soberrepository/DerivedName$Operator", "forNull", "()Lcom/example/sober_repository/soberrepository/DerivedName$Operator;"⟩ : MethodName)) (z := (⟨"com/example/sober_repository/soberrepository/DerivedName$Operator", "forNull", "()Lcom/example/sober_repository/soberrepository/DerivedName$Operator;"⟩ : MethodName)) (a := a_IS_NOT_NULL) (by decide) (w11 hw) (w12 hw) (w14 hw) (w13 hw) (nf_sel (w14 hw)) (W.2.2.2.2.2.2.2.2.2.2.2.2.2.2.2.1.ext O119.2) (w15 hw) (w7 hw) (rm_fn_3 hw O119 W) (W := 0) (by decide) (by decide) (k' := 1) rfl (n' := 18) rfl (by decide) (by decide) rfl pd_43 (argsL := []) rfl (rest := []) rfl rfl rfl at_139 (q := 142) rfl ?_
    rintro _ T134 _ X135 ⟨rfl, rfl⟩
    refine g_aload C X135 at_142 (q := 144) rfl rfl rfl ?_
    refine g_acmp C X135 at_144 rfl rfl (same := true) (decide_eq_true rfl) (by decide) (q := 147) (by decide) ?_
    refine g_iconst C X135 at_147 (q := 148) rfl (z := (1 : Int32)) rfl ?_
    refine g_goto C X135 at_148 (by decide) (q := 152) (by decide) ?_
    exact g_retN C X135 (Or.inl rfl) (z' := 1) (by decide) at_152 (by decide) (by decide) ⟨_, rfl, rfl, trivial⟩
  · refine g_irem C X116 at_109 (q := 110) rfl (by decide) (z := (2 : Int32)) hk ?_
    refine g_istoreN C X116 at_110 (q := 111) rfl (L' := #[.val (.int p0), .val (.ref b1), .val (.int (2 : Int32)), .unset, .unset, .unset]) rfl ?_
    refine g_iloadN C X116 at_111 (q := 112) rfl rfl ?_
    refine g_callS1 C X116 (y := (⟨"com/example/sober_repository/soberrepository/OperatorForNullPinLaw", "pick", "(I)Lcom/example/sober_repository/soberrepository/DerivedName$Operator;"⟩ : MethodName)) (by decide) (w2 hw) (w3 hw) (w5 hw) (w4 hw) (rm_pick_4 hw O119 W) (W := 0) (by decide) (by decide) (k' := 1) rfl (n' := 18) rfl (by decide) (by decide) rfl pd_5 (argsL := [(.int (2 : Int32))]) rfl (rest := []) rfl rfl rfl at_112 (q := 115) rfl ?_
    rintro _ T136 _ X137 ⟨rfl, rfl⟩
    refine g_astoreN C X137 at_115 (q := 116) rfl rfl (L' := #[.val (.int p0), .val (.ref b1), .val (.int (2 : Int32)), .val (.ref a_GREATER_THAN), .unset, .unset]) rfl ?_
    refine g_aloadN C X137 at_116 (q := 117) rfl rfl rfl ?_
    refine g_iloadN C X137 at_117 (q := 118) rfl rfl ?_
    refine g_iaload C X137 V118 (by decide) (w := (.int (2 : Int32))) rfl at_118 (q := 119) rfl ?_
    refine g_callS1 C X137 (y := (⟨"com/example/sober_repository/soberrepository/OperatorForNullPinLaw", "pick", "(I)Lcom/example/sober_repository/soberrepository/DerivedName$Operator;"⟩ : MethodName)) (by decide) (w2 hw) (w3 hw) (w5 hw) (w4 hw) (rm_pick_4 hw O119 W) (W := 0) (by decide) (by decide) (k' := 1) rfl (n' := 18) rfl (by decide) (by decide) rfl pd_5 (argsL := [(.int (2 : Int32))]) rfl (rest := []) rfl rfl rfl at_119 (q := 122) rfl ?_
    rintro _ T138 _ X139 ⟨rfl, rfl⟩
    refine g_astore C X139 at_122 (q := 124) rfl rfl (L' := #[.val (.int p0), .val (.ref b1), .val (.int (2 : Int32)), .val (.ref a_GREATER_THAN), .val (.ref a_GREATER_THAN), .unset]) rfl ?_
    refine g_aloadN C X139 at_124 (q := 125) rfl rfl rfl ?_
    refine g_callV1 C X139 (y := (⟨"com/example/sober_repository/soberrepository/DerivedName$Operator", "forNull", "()Lcom/example/sober_repository/soberrepository/DerivedName$Operator;"⟩ : MethodName)) (z := (⟨"com/example/sober_repository/soberrepository/DerivedName$Operator", "forNull", "()Lcom/example/sober_repository/soberrepository/DerivedName$Operator;"⟩ : MethodName)) (a := a_GREATER_THAN) (by decide) (w11 hw) (w12 hw) (w14 hw) (w13 hw) (nf_sel (w14 hw)) (W.2.2.2.2.2.2.2.2.2.2.1.ext O119.2) (w15 hw) (w7 hw) (rm_fn_4 hw O119 W) (W := 0) (by decide) (by decide) (k' := 1) rfl (n' := 18) rfl (by decide) (by decide) rfl pd_43 (argsL := []) rfl (rest := []) rfl rfl rfl at_125 (q := 128) rfl ?_
    rintro _ T140 _ X141 ⟨rfl, rfl⟩
    refine g_astore C X141 at_128 (q := 130) rfl rfl (L' := #[.val (.int p0), .val (.ref b1), .val (.int (2 : Int32)), .val (.ref a_GREATER_THAN), .val (.ref a_GREATER_THAN), .val (.ref a_GREATER_THAN)]) rfl ?_
    refine g_aload C X141 at_130 (q := 132) rfl rfl rfl ?_
    refine g_aload C X141 at_132 (q := 134) rfl rfl rfl ?_
    refine g_acmp C X141 at_134 rfl rfl (same := true) (decide_eq_true rfl) (by decide) (q := 137) (by decide) ?_
    refine g_aload C X141 at_137 (q := 139) rfl rfl rfl ?_
    refine g_callV1 C X141 (y := (⟨"com/example/sober_repository/soberrepository/DerivedName$Operator", "forNull", "()Lcom/example/sober_repository/soberrepository/DerivedName$Operator;"⟩ : MethodName)) (z := (⟨"com/example/sober_repository/soberrepository/DerivedName$Operator", "forNull", "()Lcom/example/sober_repository/soberrepository/DerivedName$Operator;"⟩ : MethodName)) (a := a_GREATER_THAN) (by decide) (w11 hw) (w12 hw) (w14 hw) (w13 hw) (nf_sel (w14 hw)) (W.2.2.2.2.2.2.2.2.2.2.1.ext O119.2) (w15 hw) (w7 hw) (rm_fn_4 hw O119 W) (W := 0) (by decide) (by decide) (k' := 1) rfl (n' := 18) rfl (by decide) (by decide) rfl pd_43 (argsL := []) rfl (rest := []) rfl rfl rfl at_139 (q := 142) rfl ?_
    rintro _ T142 _ X143 ⟨rfl, rfl⟩
    refine g_aload C X143 at_142 (q := 144) rfl rfl rfl ?_
    refine g_acmp C X143 at_144 rfl rfl (same := true) (decide_eq_true rfl) (by decide) (q := 147) (by decide) ?_
    refine g_iconst C X143 at_147 (q := 148) rfl (z := (1 : Int32)) rfl ?_
    refine g_goto C X143 at_148 (by decide) (q := 152) (by decide) ?_
    exact g_retN C X143 (Or.inl rfl) (z' := 1) (by decide) at_152 (by decide) (by decide) ⟨_, rfl, rfl, trivial⟩
  · refine g_irem C X116 at_109 (q := 110) rfl (by decide) (z := (3 : Int32)) hk ?_
    refine g_istoreN C X116 at_110 (q := 111) rfl (L' := #[.val (.int p0), .val (.ref b1), .val (.int (3 : Int32)), .unset, .unset, .unset]) rfl ?_
    refine g_iloadN C X116 at_111 (q := 112) rfl rfl ?_
    refine g_callS1 C X116 (y := (⟨"com/example/sober_repository/soberrepository/OperatorForNullPinLaw", "pick", "(I)Lcom/example/sober_repository/soberrepository/DerivedName$Operator;"⟩ : MethodName)) (by decide) (w2 hw) (w3 hw) (w5 hw) (w4 hw) (rm_pick_5 hw O119 W) (W := 0) (by decide) (by decide) (k' := 1) rfl (n' := 18) rfl (by decide) (by decide) rfl pd_5 (argsL := [(.int (3 : Int32))]) rfl (rest := []) rfl rfl rfl at_112 (q := 115) rfl ?_
    rintro _ T144 _ X145 ⟨rfl, rfl⟩
    refine g_astoreN C X145 at_115 (q := 116) rfl rfl (L' := #[.val (.int p0), .val (.ref b1), .val (.int (3 : Int32)), .val (.ref a_GREATER_THAN_EQUAL), .unset, .unset]) rfl ?_
    refine g_aloadN C X145 at_116 (q := 117) rfl rfl rfl ?_
    refine g_iloadN C X145 at_117 (q := 118) rfl rfl ?_
    refine g_iaload C X145 V118 (by decide) (w := (.int (3 : Int32))) rfl at_118 (q := 119) rfl ?_
    refine g_callS1 C X145 (y := (⟨"com/example/sober_repository/soberrepository/OperatorForNullPinLaw", "pick", "(I)Lcom/example/sober_repository/soberrepository/DerivedName$Operator;"⟩ : MethodName)) (by decide) (w2 hw) (w3 hw) (w5 hw) (w4 hw) (rm_pick_5 hw O119 W) (W := 0) (by decide) (by decide) (k' := 1) rfl (n' := 18) rfl (by decide) (by decide) rfl pd_5 (argsL := [(.int (3 : Int32))]) rfl (rest := []) rfl rfl rfl at_119 (q := 122) rfl ?_
    rintro _ T146 _ X147 ⟨rfl, rfl⟩
    refine g_astore C X147 at_122 (q := 124) rfl rfl (L' := #[.val (.int p0), .val (.ref b1), .val (.int (3 : Int32)), .val (.ref a_GREATER_THAN_EQUAL), .val (.ref a_GREATER_THAN_EQUAL), .unset]) rfl ?_
    refine g_aloadN C X147 at_124 (q := 125) rfl rfl rfl ?_
    refine g_callV1 C X147 (y := (⟨"com/example/sober_repository/soberrepository/DerivedName$Operator", "forNull", "()Lcom/example/sober_repository/soberrepository/DerivedName$Operator;"⟩ : MethodName)) (z := (⟨"com/example/sober_repository/soberrepository/DerivedName$Operator", "forNull", "()Lcom/example/sober_repository/soberrepository/DerivedName$Operator;"⟩ : MethodName)) (a := a_GREATER_THAN_EQUAL) (by decide) (w11 hw) (w12 hw) (w14 hw) (w13 hw) (nf_sel (w14 hw)) (W.2.2.2.2.2.2.2.1.ext O119.2) (w15 hw) (w7 hw) (rm_fn_5 hw O119 W) (W := 0) (by decide) (by decide) (k' := 1) rfl (n' := 18) rfl (by decide) (by decide) rfl pd_43 (argsL := []) rfl (rest := []) rfl rfl rfl at_125 (q := 128) rfl ?_
    rintro _ T148 _ X149 ⟨rfl, rfl⟩
    refine g_astore C X149 at_128 (q := 130) rfl rfl (L' := #[.val (.int p0), .val (.ref b1), .val (.int (3 : Int32)), .val (.ref a_GREATER_THAN_EQUAL), .val (.ref a_GREATER_THAN_EQUAL), .val (.ref a_GREATER_THAN_EQUAL)]) rfl ?_
    refine g_aload C X149 at_130 (q := 132) rfl rfl rfl ?_
    refine g_aload C X149 at_132 (q := 134) rfl rfl rfl ?_
    refine g_acmp C X149 at_134 rfl rfl (same := true) (decide_eq_true rfl) (by decide) (q := 137) (by decide) ?_
    refine g_aload C X149 at_137 (q := 139) rfl rfl rfl ?_
    refine g_callV1 C X149 (y := (⟨"com/example/sober_repository/soberrepository/DerivedName$Operator", "forNull", "()Lcom/example/sober_repository/soberrepository/DerivedName$Operator;"⟩ : MethodName)) (z := (⟨"com/example/sober_repository/soberrepository/DerivedName$Operator", "forNull", "()Lcom/example/sober_repository/soberrepository/DerivedName$Operator;"⟩ : MethodName)) (a := a_GREATER_THAN_EQUAL) (by decide) (w11 hw) (w12 hw) (w14 hw) (w13 hw) (nf_sel (w14 hw)) (W.2.2.2.2.2.2.2.1.ext O119.2) (w15 hw) (w7 hw) (rm_fn_5 hw O119 W) (W := 0) (by decide) (by decide) (k' := 1) rfl (n' := 18) rfl (by decide) (by decide) rfl pd_43 (argsL := []) rfl (rest := []) rfl rfl rfl at_139 (q := 142) rfl ?_
    rintro _ T150 _ X151 ⟨rfl, rfl⟩
    refine g_aload C X151 at_142 (q := 144) rfl rfl rfl ?_
    refine g_acmp C X151 at_144 rfl rfl (same := true) (decide_eq_true rfl) (by decide) (q := 147) (by decide) ?_
    refine g_iconst C X151 at_147 (q := 148) rfl (z := (1 : Int32)) rfl ?_
    refine g_goto C X151 at_148 (by decide) (q := 152) (by decide) ?_
    exact g_retN C X151 (Or.inl rfl) (z' := 1) (by decide) at_152 (by decide) (by decide) ⟨_, rfl, rfl, trivial⟩
  · refine g_irem C X116 at_109 (q := 110) rfl (by decide) (z := (4 : Int32)) hk ?_
    refine g_istoreN C X116 at_110 (q := 111) rfl (L' := #[.val (.int p0), .val (.ref b1), .val (.int (4 : Int32)), .unset, .unset, .unset]) rfl ?_
    refine g_iloadN C X116 at_111 (q := 112) rfl rfl ?_
    refine g_callS1 C X116 (y := (⟨"com/example/sober_repository/soberrepository/OperatorForNullPinLaw", "pick", "(I)Lcom/example/sober_repository/soberrepository/DerivedName$Operator;"⟩ : MethodName)) (by decide) (w2 hw) (w3 hw) (w5 hw) (w4 hw) (rm_pick_6 hw O119 W) (W := 0) (by decide) (by decide) (k' := 1) rfl (n' := 18) rfl (by decide) (by decide) rfl pd_5 (argsL := [(.int (4 : Int32))]) rfl (rest := []) rfl rfl rfl at_112 (q := 115) rfl ?_
    rintro _ T152 _ X153 ⟨rfl, rfl⟩
    refine g_astoreN C X153 at_115 (q := 116) rfl rfl (L' := #[.val (.int p0), .val (.ref b1), .val (.int (4 : Int32)), .val (.ref a_LESS_THAN), .unset, .unset]) rfl ?_
    refine g_aloadN C X153 at_116 (q := 117) rfl rfl rfl ?_
    refine g_iloadN C X153 at_117 (q := 118) rfl rfl ?_
    refine g_iaload C X153 V118 (by decide) (w := (.int (4 : Int32))) rfl at_118 (q := 119) rfl ?_
    refine g_callS1 C X153 (y := (⟨"com/example/sober_repository/soberrepository/OperatorForNullPinLaw", "pick", "(I)Lcom/example/sober_repository/soberrepository/DerivedName$Operator;"⟩ : MethodName)) (by decide) (w2 hw) (w3 hw) (w5 hw) (w4 hw) (rm_pick_6 hw O119 W) (W := 0) (by decide) (by decide) (k' := 1) rfl (n' := 18) rfl (by decide) (by decide) rfl pd_5 (argsL := [(.int (4 : Int32))]) rfl (rest := []) rfl rfl rfl at_119 (q := 122) rfl ?_
    rintro _ T154 _ X155 ⟨rfl, rfl⟩
    refine g_astore C X155 at_122 (q := 124) rfl rfl (L' := #[.val (.int p0), .val (.ref b1), .val (.int (4 : Int32)), .val (.ref a_LESS_THAN), .val (.ref a_LESS_THAN), .unset]) rfl ?_
    refine g_aloadN C X155 at_124 (q := 125) rfl rfl rfl ?_
    refine g_callV1 C X155 (y := (⟨"com/example/sober_repository/soberrepository/DerivedName$Operator", "forNull", "()Lcom/example/sober_repository/soberrepository/DerivedName$Operator;"⟩ : MethodName)) (z := (⟨"com/example/sober_repository/soberrepository/DerivedName$Operator", "forNull", "()Lcom/example/sober_repository/soberrepository/DerivedName$Operator;"⟩ : MethodName)) (a := a_LESS_THAN) (by decide) (w11 hw) (w12 hw) (w14 hw) (w13 hw) (nf_sel (w14 hw)) (W.2.2.2.2.2.2.2.2.2.2.2.2.2.2.2.2.2.2.2.2.2.2.1.ext O119.2) (w15 hw) (w7 hw) (rm_fn_6 hw O119 W) (W := 0) (by decide) (by decide) (k' := 1) rfl (n' := 18) rfl (by decide) (by decide) rfl pd_43 (argsL := []) rfl (rest := []) rfl rfl rfl at_125 (q := 128) rfl ?_
    rintro _ T156 _ X157 ⟨rfl, rfl⟩
    refine g_astore C X157 at_128 (q := 130) rfl rfl (L' := #[.val (.int p0), .val (.ref b1), .val (.int (4 : Int32)), .val (.ref a_LESS_THAN), .val (.ref a_LESS_THAN), .val (.ref a_LESS_THAN)]) rfl ?_
    refine g_aload C X157 at_130 (q := 132) rfl rfl rfl ?_
    refine g_aload C X157 at_132 (q := 134) rfl rfl rfl ?_
    refine g_acmp C X157 at_134 rfl rfl (same := true) (decide_eq_true rfl) (by decide) (q := 137) (by decide) ?_
    refine g_aload C X157 at_137 (q := 139) rfl rfl rfl ?_
    refine g_callV1 C X157 (y := (⟨"com/example/sober_repository/soberrepository/DerivedName$Operator", "forNull", "()Lcom/example/sober_repository/soberrepository/DerivedName$Operator;"⟩ : MethodName)) (z := (⟨"com/example/sober_repository/soberrepository/DerivedName$Operator", "forNull", "()Lcom/example/sober_repository/soberrepository/DerivedName$Operator;"⟩ : MethodName)) (a := a_LESS_THAN) (by decide) (w11 hw) (w12 hw) (w14 hw) (w13 hw) (nf_sel (w14 hw)) (W.2.2.2.2.2.2.2.2.2.2.2.2.2.2.2.2.2.2.2.2.2.2.1.ext O119.2) (w15 hw) (w7 hw) (rm_fn_6 hw O119 W) (W := 0) (by decide) (by decide) (k' := 1) rfl (n' := 18) rfl (by decide) (by decide) rfl pd_43 (argsL := []) rfl (rest := []) rfl rfl rfl at_139 (q := 142) rfl ?_
    rintro _ T158 _ X159 ⟨rfl, rfl⟩
    refine g_aload C X159 at_142 (q := 144) rfl rfl rfl ?_
    refine g_acmp C X159 at_144 rfl rfl (same := true) (decide_eq_true rfl) (by decide) (q := 147) (by decide) ?_
    refine g_iconst C X159 at_147 (q := 148) rfl (z := (1 : Int32)) rfl ?_
    refine g_goto C X159 at_148 (by decide) (q := 152) (by decide) ?_
    exact g_retN C X159 (Or.inl rfl) (z' := 1) (by decide) at_152 (by decide) (by decide) ⟨_, rfl, rfl, trivial⟩
  · refine g_irem C X116 at_109 (q := 110) rfl (by decide) (z := (5 : Int32)) hk ?_
    refine g_istoreN C X116 at_110 (q := 111) rfl (L' := #[.val (.int p0), .val (.ref b1), .val (.int (5 : Int32)), .unset, .unset, .unset]) rfl ?_
    refine g_iloadN C X116 at_111 (q := 112) rfl rfl ?_
    refine g_callS1 C X116 (y := (⟨"com/example/sober_repository/soberrepository/OperatorForNullPinLaw", "pick", "(I)Lcom/example/sober_repository/soberrepository/DerivedName$Operator;"⟩ : MethodName)) (by decide) (w2 hw) (w3 hw) (w5 hw) (w4 hw) (rm_pick_7 hw O119 W) (W := 0) (by decide) (by decide) (k' := 1) rfl (n' := 18) rfl (by decide) (by decide) rfl pd_5 (argsL := [(.int (5 : Int32))]) rfl (rest := []) rfl rfl rfl at_112 (q := 115) rfl ?_
    rintro _ T160 _ X161 ⟨rfl, rfl⟩
    refine g_astoreN C X161 at_115 (q := 116) rfl rfl (L' := #[.val (.int p0), .val (.ref b1), .val (.int (5 : Int32)), .val (.ref a_LESS_THAN_EQUAL), .unset, .unset]) rfl ?_
    refine g_aloadN C X161 at_116 (q := 117) rfl rfl rfl ?_
    refine g_iloadN C X161 at_117 (q := 118) rfl rfl ?_
    refine g_iaload C X161 V118 (by decide) (w := (.int (5 : Int32))) rfl at_118 (q := 119) rfl ?_
    refine g_callS1 C X161 (y := (⟨"com/example/sober_repository/soberrepository/OperatorForNullPinLaw", "pick", "(I)Lcom/example/sober_repository/soberrepository/DerivedName$Operator;"⟩ : MethodName)) (by decide) (w2 hw) (w3 hw) (w5 hw) (w4 hw) (rm_pick_7 hw O119 W) (W := 0) (by decide) (by decide) (k' := 1) rfl (n' := 18) rfl (by decide) (by decide) rfl pd_5 (argsL := [(.int (5 : Int32))]) rfl (rest := []) rfl rfl rfl at_119 (q := 122) rfl ?_
    rintro _ T162 _ X163 ⟨rfl, rfl⟩
    refine g_astore C X163 at_122 (q := 124) rfl rfl (L' := #[.val (.int p0), .val (.ref b1), .val (.int (5 : Int32)), .val (.ref a_LESS_THAN_EQUAL), .val (.ref a_LESS_THAN_EQUAL), .unset]) rfl ?_
    refine g_aloadN C X163 at_124 (q := 125) rfl rfl rfl ?_
    refine g_callV1 C X163 (y := (⟨"com/example/sober_repository/soberrepository/DerivedName$Operator", "forNull", "()Lcom/example/sober_repository/soberrepository/DerivedName$Operator;"⟩ : MethodName)) (z := (⟨"com/example/sober_repository/soberrepository/DerivedName$Operator", "forNull", "()Lcom/example/sober_repository/soberrepository/DerivedName$Operator;"⟩ : MethodName)) (a := a_LESS_THAN_EQUAL) (by decide) (w11 hw) (w12 hw) (w14 hw) (w13 hw) (nf_sel (w14 hw)) (W.2.2.2.2.2.2.2.2.2.2.2.2.2.2.2.2.2.2.2.2.2.2.2.2.2.2.2.2.2.2.2.2.2.2.2.2.2.2.2.2.2.2.2.2.2.2.2.2.2.1.ext O119.2) (w15 hw) (w7 hw) (rm_fn_7 hw O119 W) (W := 0) (by decide) (by decide) (k' := 1) rfl (n' := 18) rfl (by decide) (by decide) rfl pd_43 (argsL := []) rfl (rest := []) rfl rfl rfl at_125 (q := 128) rfl ?_
    rintro _ T164 _ X165 ⟨rfl, rfl⟩
    refine g_astore C X165 at_128 (q := 130) rfl rfl (L' := #[.val (.int p0), .val (.ref b1), .val (.int (5 : Int32)), .val (.ref a_LESS_THAN_EQUAL), .val (.ref a_LESS_THAN_EQUAL), .val (.ref a_LESS_THAN_EQUAL)]) rfl ?_
    refine g_aload C X165 at_130 (q := 132) rfl rfl rfl ?_
    refine g_aload C X165 at_132 (q := 134) rfl rfl rfl ?_
    refine g_acmp C X165 at_134 rfl rfl (same := true) (decide_eq_true rfl) (by decide) (q := 137) (by decide) ?_
    refine g_aload C X165 at_137 (q := 139) rfl rfl rfl ?_
    refine g_callV1 C X165 (y := (⟨"com/example/sober_repository/soberrepository/DerivedName$Operator", "forNull", "()Lcom/example/sober_repository/soberrepository/DerivedName$Operator;"⟩ : MethodName)) (z := (⟨"com/example/sober_repository/soberrepository/DerivedName$Operator", "forNull", "()Lcom/example/sober_repository/soberrepository/DerivedName$Operator;"⟩ : MethodName)) (a := a_LESS_THAN_EQUAL) (by decide) (w11 hw) (w12 hw) (w14 hw) (w13 hw) (nf_sel (w14 hw)) (W.2.2.2.2.2.2.2.2.2.2.2.2.2.2.2.2.2.2.2.2.2.2.2.2.2.2.2.2.2.2.2.2.2.2.2.2.2.2.2.2.2.2.2.2.2.2.2.2.2.1.ext O119.2) (w15 hw) (w7 hw) (rm_fn_7 hw O119 W) (W := 0) (by decide) (by decide) (k' := 1) rfl (n' := 18) rfl (by decide) (by decide) rfl pd_43 (argsL := []) rfl (rest := []) rfl rfl rfl at_139 (q := 142) rfl ?_
    rintro _ T166 _ X167 ⟨rfl, rfl⟩
    refine g_aload C X167 at_142 (q := 144) rfl rfl rfl ?_
    refine g_acmp C X167 at_144 rfl rfl (same := true) (decide_eq_true rfl) (by decide) (q := 147) (by decide) ?_
    refine g_iconst C X167 at_147 (q := 148) rfl (z := (1 : Int32)) rfl ?_
    refine g_goto C X167 at_148 (by decide) (q := 152) (by decide) ?_
    exact g_retN C X167 (Or.inl rfl) (z' := 1) (by decide) at_152 (by decide) (by decide) ⟨_, rfl, rfl, trivial⟩
  · refine g_irem C X116 at_109 (q := 110) rfl (by decide) (z := (6 : Int32)) hk ?_
    refine g_istoreN C X116 at_110 (q := 111) rfl (L' := #[.val (.int p0), .val (.ref b1), .val (.int (6 : Int32)), .unset, .unset, .unset]) rfl ?_
    refine g_iloadN C X116 at_111 (q := 112) rfl rfl ?_
    refine g_callS1 C X116 (y := (⟨"com/example/sober_repository/soberrepository/OperatorForNullPinLaw", "pick", "(I)Lcom/example/sober_repository/soberrepository/DerivedName$Operator;"⟩ : MethodName)) (by decide) (w2 hw) (w3 hw) (w5 hw) (w4 hw) (rm_pick_8 hw O119 W) (W := 0) (by decide) (by decide) (k' := 1) rfl (n' := 18) rfl (by decide) (by decide) rfl pd_5 (argsL := [(.int (6 : Int32))]) rfl (rest := []) rfl rfl rfl at_112 (q := 115) rfl ?_
    rintro _ T168 _ X169 ⟨rfl, rfl⟩
    refine g_astoreN C X169 at_115 (q := 116) rfl rfl (L' := #[.val (.int p0), .val (.ref b1), .val (.int (6 : Int32)), .val (.ref a_BETWEEN), .unset, .unset]) rfl ?_
    refine g_aloadN C X169 at_116 (q := 117) rfl rfl rfl ?_
    refine g_iloadN C X169 at_117 (q := 118) rfl rfl ?_
    refine g_iaload C X169 V118 (by decide) (w := (.int (6 : Int32))) rfl at_118 (q := 119) rfl ?_
    refine g_callS1 C X169 (y := (⟨"com/example/sober_repository/soberrepository/OperatorForNullPinLaw", "pick", "(I)Lcom/example/sober_repository/soberrepository/DerivedName$Operator;"⟩ : MethodName)) (by decide) (w2 hw) (w3 hw) (w5 hw) (w4 hw) (rm_pick_8 hw O119 W) (W := 0) (by decide) (by decide) (k' := 1) rfl (n' := 18) rfl (by decide) (by decide) rfl pd_5 (argsL := [(.int (6 : Int32))]) rfl (rest := []) rfl rfl rfl at_119 (q := 122) rfl ?_
    rintro _ T170 _ X171 ⟨rfl, rfl⟩
    refine g_astore C X171 at_122 (q := 124) rfl rfl (L' := #[.val (.int p0), .val (.ref b1), .val (.int (6 : Int32)), .val (.ref a_BETWEEN), .val (.ref a_BETWEEN), .unset]) rfl ?_
    refine g_aloadN C X171 at_124 (q := 125) rfl rfl rfl ?_
    refine g_callV1 C X171 (y := (⟨"com/example/sober_repository/soberrepository/DerivedName$Operator", "forNull", "()Lcom/example/sober_repository/soberrepository/DerivedName$Operator;"⟩ : MethodName)) (z := (⟨"com/example/sober_repository/soberrepository/DerivedName$Operator", "forNull", "()Lcom/example/sober_repository/soberrepository/DerivedName$Operator;"⟩ : MethodName)) (a := a_BETWEEN) (by decide) (w11 hw) (w12 hw) (w14 hw) (w13 hw) (nf_sel (w14 hw)) (W.2.2.2.2.2.2.2.2.2.2.2.2.2.2.2.2.2.2.2.2.2.2.2.2.2.2.2.2.2.2.2.2.2.2.2.2.2.2.2.2.1.ext O119.2) (w15 hw) (w7 hw) (rm_fn_8 hw O119 W) (W := 0) (by decide) (by decide) (k' := 1) rfl (n' := 18) rfl (by decide) (by decide) rfl pd_43 (argsL := []) rfl (rest := []) rfl rfl rfl at_125 (q := 128) rfl ?_
    rintro _ T172 _ X173 ⟨rfl, rfl⟩
    refine g_astore C X173 at_128 (q := 130) rfl rfl (L' := #[.val (.int p0), .val (.ref b1), .val (.int (6 : Int32)), .val (.ref a_BETWEEN), .val (.ref a_BETWEEN), .val (.ref a_BETWEEN)]) rfl ?_
    refine g_aload C X173 at_130 (q := 132) rfl rfl rfl ?_
    refine g_aload C X173 at_132 (q := 134) rfl rfl rfl ?_
    refine g_acmp C X173 at_134 rfl rfl (same := true) (decide_eq_true rfl) (by decide) (q := 137) (by decide) ?_
    refine g_aload C X173 at_137 (q := 139) rfl rfl rfl ?_
    refine g_callV1 C X173 (y := (⟨"com/example/sober_repository/soberrepository/DerivedName$Operator", "forNull", "()Lcom/example/sober_repository/soberrepository/DerivedName$Operator;"⟩ : MethodName)) (z := (⟨"com/example/sober_repository/soberrepository/DerivedName$Operator", "forNull", "()Lcom/example/sober_repository/soberrepository/DerivedName$Operator;"⟩ : MethodName)) (a := a_BETWEEN) (by decide) (w11 hw) (w12 hw) (w14 hw) (w13 hw) (nf_sel (w14 hw)) (W.2.2.2.2.2.2.2.2.2.2.2.2.2.2.2.2.2.2.2.2.2.2.2.2.2.2.2.2.2.2.2.2.2.2.2.2.2.2.2.2.1.ext O119.2) (w15 hw) (w7 hw) (rm_fn_8 hw O119 W) (W := 0) (by decide) (by decide) (k' := 1) rfl (n' := 18) rfl (by decide) (by decide) rfl pd_43 (argsL := []) rfl (rest := []) rfl rfl rfl at_139 (q := 142) rfl ?_
    rintro _ T174 _ X175 ⟨rfl, rfl⟩
    refine g_aload C X175 at_142 (q := 144) rfl rfl rfl ?_
    refine g_acmp C X175 at_144 rfl rfl (same := true) (decide_eq_true rfl) (by decide) (q := 147) (by decide) ?_
    refine g_iconst C X175 at_147 (q := 148) rfl (z := (1 : Int32)) rfl ?_
    refine g_goto C X175 at_148 (by decide) (q := 152) (by decide) ?_
    exact g_retN C X175 (Or.inl rfl) (z' := 1) (by decide) at_152 (by decide) (by decide) ⟨_, rfl, rfl, trivial⟩
  · refine g_irem C X116 at_109 (q := 110) rfl (by decide) (z := (7 : Int32)) hk ?_
    refine g_istoreN C X116 at_110 (q := 111) rfl (L' := #[.val (.int p0), .val (.ref b1), .val (.int (7 : Int32)), .unset, .unset, .unset]) rfl ?_
    refine g_iloadN C X116 at_111 (q := 112) rfl rfl ?_
    refine g_callS1 C X116 (y := (⟨"com/example/sober_repository/soberrepository/OperatorForNullPinLaw", "pick", "(I)Lcom/example/sober_repository/soberrepository/DerivedName$Operator;"⟩ : MethodName)) (by decide) (w2 hw) (w3 hw) (w5 hw) (w4 hw) (rm_pick_1 hw O119 W) (W := 0) (by decide) (by decide) (k' := 1) rfl (n' := 18) rfl (by decide) (by decide) rfl pd_5 (argsL := [(.int (7 : Int32))]) rfl (rest := []) rfl rfl rfl at_112 (q := 115) rfl ?_
    rintro _ T176 _ X177 ⟨rfl, rfl⟩
    refine g_astoreN C X177 at_115 (q := 116) rfl rfl (L' := #[.val (.int p0), .val (.ref b1), .val (.int (7 : Int32)), .val (.ref a_IS_NULL), .unset, .unset]) rfl ?_
    refine g_aloadN C X177 at_116 (q := 117) rfl rfl rfl ?_
    refine g_iloadN C X177 at_117 (q := 118) rfl rfl ?_
    refine g_iaload C X177 V118 (by decide) (w := (.int (7 : Int32))) rfl at_118 (q := 119) rfl ?_
    refine g_callS1 C X177 (y := (⟨"com/example/sober_repository/soberrepository/OperatorForNullPinLaw", "pick", "(I)Lcom/example/sober_repository/soberrepository/DerivedName$Operator;"⟩ : MethodName)) (by decide) (w2 hw) (w3 hw) (w5 hw) (w4 hw) (rm_pick_1 hw O119 W) (W := 0) (by decide) (by decide) (k' := 1) rfl (n' := 18) rfl (by decide) (by decide) rfl pd_5 (argsL := [(.int (7 : Int32))]) rfl (rest := []) rfl rfl rfl at_119 (q := 122) rfl ?_
    rintro _ T178 _ X179 ⟨rfl, rfl⟩
    refine g_astore C X179 at_122 (q := 124) rfl rfl (L' := #[.val (.int p0), .val (.ref b1), .val (.int (7 : Int32)), .val (.ref a_IS_NULL), .val (.ref a_IS_NULL), .unset]) rfl ?_
    refine g_aloadN C X179 at_124 (q := 125) rfl rfl rfl ?_
    refine g_callV1 C X179 (y := (⟨"com/example/sober_repository/soberrepository/DerivedName$Operator", "forNull", "()Lcom/example/sober_repository/soberrepository/DerivedName$Operator;"⟩ : MethodName)) (z := (⟨"com/example/sober_repository/soberrepository/DerivedName$Operator", "forNull", "()Lcom/example/sober_repository/soberrepository/DerivedName$Operator;"⟩ : MethodName)) (a := a_IS_NULL) (by decide) (w11 hw) (w12 hw) (w14 hw) (w13 hw) (nf_sel (w14 hw)) (W.2.2.2.1.ext O119.2) (w15 hw) (w7 hw) (rm_fn_1 hw O119 W) (W := 0) (by decide) (by decide) (k' := 1) rfl (n' := 18) rfl (by decide) (by decide) rfl pd_43 (argsL := []) rfl (rest := []) rfl rfl rfl at_125 (q := 128) rfl ?_
    rintro _ T180 _ X181 ⟨rfl, rfl⟩
    refine g_astore C X181 at_128 (q := 130) rfl rfl (L' := #[.val (.int p0), .val (.ref b1), .val (.int (7 : Int32)), .val (.ref a_IS_NULL), .val (.ref a_IS_NULL), .val (.ref a_IS_NULL)]) rfl ?_
    refine g_aload C X181 at_130 (q := 132) rfl rfl rfl ?_
    refine g_aload C X181 at_132 (q := 134) rfl rfl rfl ?_
    refine g_acmp C X181 at_134 rfl rfl (same := true) (decide_eq_true rfl) (by decide) (q := 137) (by decide) ?_
    refine g_aload C X181 at_137 (q := 139) rfl rfl rfl ?_
    refine g_callV1 C X181 (y := (⟨"com/example/sober_repository/soberrepository/DerivedName$Operator", "forNull", "()Lcom/example/sober_repository/soberrepository/DerivedName$Operator;"⟩ : MethodName)) (z := (⟨"com/example/sober_repository/soberrepository/DerivedName$Operator", "forNull", "()Lcom/example/sober_repository/soberrepository/DerivedName$Operator;"⟩ : MethodName)) (a := a_IS_NULL) (by decide) (w11 hw) (w12 hw) (w14 hw) (w13 hw) (nf_sel (w14 hw)) (W.2.2.2.1.ext O119.2) (w15 hw) (w7 hw) (rm_fn_1 hw O119 W) (W := 0) (by decide) (by decide) (k' := 1) rfl (n' := 18) rfl (by decide) (by decide) rfl pd_43 (argsL := []) rfl (rest := []) rfl rfl rfl at_139 (q := 142) rfl ?_
    rintro _ T182 _ X183 ⟨rfl, rfl⟩
    refine g_aload C X183 at_142 (q := 144) rfl rfl rfl ?_
    refine g_acmp C X183 at_144 rfl rfl (same := true) (decide_eq_true rfl) (by decide) (q := 147) (by decide) ?_
    refine g_iconst C X183 at_147 (q := 148) rfl (z := (1 : Int32)) rfl ?_
    refine g_goto C X183 at_148 (by decide) (q := 152) (by decide) ?_
    exact g_retN C X183 (Or.inl rfl) (z' := 1) (by decide) at_152 (by decide) (by decide) ⟨_, rfl, rfl, trivial⟩
  · refine g_irem C X116 at_109 (q := 110) rfl (by decide) (z := (8 : Int32)) hk ?_
    refine g_istoreN C X116 at_110 (q := 111) rfl (L' := #[.val (.int p0), .val (.ref b1), .val (.int (8 : Int32)), .unset, .unset, .unset]) rfl ?_
    refine g_iloadN C X116 at_111 (q := 112) rfl rfl ?_
    refine g_callS1 C X116 (y := (⟨"com/example/sober_repository/soberrepository/OperatorForNullPinLaw", "pick", "(I)Lcom/example/sober_repository/soberrepository/DerivedName$Operator;"⟩ : MethodName)) (by decide) (w2 hw) (w3 hw) (w5 hw) (w4 hw) (rm_pick_3 hw O119 W) (W := 0) (by decide) (by decide) (k' := 1) rfl (n' := 18) rfl (by decide) (by decide) rfl pd_5 (argsL := [(.int (8 : Int32))]) rfl (rest := []) rfl rfl rfl at_112 (q := 115) rfl ?_
    rintro _ T184 _ X185 ⟨rfl, rfl⟩
    refine g_astoreN C X185 at_115 (q := 116) rfl rfl (L' := #[.val (.int p0), .val (.ref b1), .val (.int (8 : Int32)), .val (.ref a_IS_NOT_NULL), .unset, .unset]) rfl ?_
    refine g_aloadN C X185 at_116 (q := 117) rfl rfl rfl ?_
    refine g_iloadN C X185 at_117 (q := 118) rfl rfl ?_
    refine g_iaload C X185 V118 (by decide) (w := (.int (8 : Int32))) rfl at_118 (q := 119) rfl ?_
    refine g_callS1 C X185 (y := (⟨"com/example/sober_repository/soberrepository/OperatorForNullPinLaw", "pick", "(I)Lcom/example/sober_repository/soberrepository/DerivedName$Operator;"⟩ : MethodName)) (by decide) (w2 hw) (w3 hw) (w5 hw) (w4 hw) (rm_pick_3 hw O119 W) (W := 0) (by decide) (by decide) (k' := 1) rfl (n' := 18) rfl (by decide) (by decide) rfl pd_5 (argsL := [(.int (8 : Int32))]) rfl (rest := []) rfl rfl rfl at_119 (q := 122) rfl ?_
    rintro _ T186 _ X187 ⟨rfl, rfl⟩
    refine g_astore C X187 at_122 (q := 124) rfl rfl (L' := #[.val (.int p0), .val (.ref b1), .val (.int (8 : Int32)), .val (.ref a_IS_NOT_NULL), .val (.ref a_IS_NOT_NULL), .unset]) rfl ?_
    refine g_aloadN C X187 at_124 (q := 125) rfl rfl rfl ?_
    refine g_callV1 C X187 (y := (⟨"com/example/sober_repository/soberrepository/DerivedName$Operator", "forNull", "()Lcom/example/sober_repository/soberrepository/DerivedName$Operator;"⟩ : MethodName)) (z := (⟨"com/example/sober_repository/soberrepository/DerivedName$Operator", "forNull", "()Lcom/example/sober_repository/soberrepository/DerivedName$Operator;"⟩ : MethodName)) (a := a_IS_NOT_NULL) (by decide) (w11 hw) (w12 hw) (w14 hw) (w13 hw) (nf_sel (w14 hw)) (W.2.2.2.2.2.2.2.2.2.2.2.2.2.2.2.1.ext O119.2) (w15 hw) (w7 hw) (rm_fn_3 hw O119 W) (W := 0) (by decide) (by decide) (k' := 1) rfl (n' := 18) rfl (by decide) (by decide) rfl pd_43 (argsL := []) rfl (rest := []) rfl rfl rfl at_125 (q := 128) rfl ?_
    rintro _ T188 _ X189 ⟨rfl, rfl⟩
    refine g_astore C X189 at_128 (q := 130) rfl rfl (L' := #[.val (.int p0), .val (.ref b1), .val (.int (8 : Int32)), .val (.ref a_IS_NOT_NULL), .val (.ref a_IS_NOT_NULL), .val (.ref a_IS_NOT_NULL)]) rfl ?_
    refine g_aload C X189 at_130 (q := 132) rfl rfl rfl ?_
    refine g_aload C X189 at_132 (q := 134) rfl rfl rfl ?_
    refine g_acmp C X189 at_134 rfl rfl (same := true) (decide_eq_true rfl) (by decide) (q := 137) (by decide) ?_
    refine g_aload C X189 at_137 (q := 139) rfl rfl rfl ?_
    refine g_callV1 C X189 (y := (⟨"com/example/sober_repository/soberrepository/DerivedName$Operator", "forNull", "()Lcom/example/sober_repository/soberrepository/DerivedName$Operator;"⟩ : MethodName)) (z := (⟨"com/example/sober_repository/soberrepository/DerivedName$Operator", "forNull", "()Lcom/example/sober_repository/soberrepository/DerivedName$Operator;"⟩ : MethodName)) (a := a_IS_NOT_NULL) (by decide) (w11 hw) (w12 hw) (w14 hw) (w13 hw) (nf_sel (w14 hw)) (W.2.2.2.2.2.2.2.2.2.2.2.2.2.2.2.1.ext O119.2) (w15 hw) (w7 hw) (rm_fn_3 hw O119 W) (W := 0) (by decide) (by decide) (k' := 1) rfl (n' := 18) rfl (by decide) (by decide) rfl pd_43 (argsL := []) rfl (rest := []) rfl rfl rfl at_139 (q := 142) rfl ?_
    rintro _ T190 _ X191 ⟨rfl, rfl⟩
    refine g_aload C X191 at_142 (q := 144) rfl rfl rfl ?_
    refine g_acmp C X191 at_144 rfl rfl (same := true) (decide_eq_true rfl) (by decide) (q := 147) (by decide) ?_
    refine g_iconst C X191 at_147 (q := 148) rfl (z := (1 : Int32)) rfl ?_
    refine g_goto C X191 at_148 (by decide) (q := 152) (by decide) ?_
    exact g_retN C X191 (Or.inl rfl) (z' := 1) (by decide) at_152 (by decide) (by decide) ⟨_, rfl, rfl, trivial⟩
  · refine g_irem C X116 at_109 (q := 110) rfl (by decide) (z := (9 : Int32)) hk ?_
    refine g_istoreN C X116 at_110 (q := 111) rfl (L' := #[.val (.int p0), .val (.ref b1), .val (.int (9 : Int32)), .unset, .unset, .unset]) rfl ?_
    refine g_iloadN C X116 at_111 (q := 112) rfl rfl ?_
    refine g_callS1 C X116 (y := (⟨"com/example/sober_repository/soberrepository/OperatorForNullPinLaw", "pick", "(I)Lcom/example/sober_repository/soberrepository/DerivedName$Operator;"⟩ : MethodName)) (by decide) (w2 hw) (w3 hw) (w5 hw) (w4 hw) (rm_pick_9 hw O119 W) (W := 0) (by decide) (by decide) (k' := 1) rfl (n' := 18) rfl (by decide) (by decide) rfl pd_5 (argsL := [(.int (9 : Int32))]) rfl (rest := []) rfl rfl rfl at_112 (q := 115) rfl ?_
    rintro _ T192 _ X193 ⟨rfl, rfl⟩
    refine g_astoreN C X193 at_115 (q := 116) rfl rfl (L' := #[.val (.int p0), .val (.ref b1), .val (.int (9 : Int32)), .val (.ref a_IN), .unset, .unset]) rfl ?_
    refine g_aloadN C X193 at_116 (q := 117) rfl rfl rfl ?_
    refine g_iloadN C X193 at_117 (q := 118) rfl rfl ?_
    refine g_iaload C X193 V118 (by decide) (w := (.int (9 : Int32))) rfl at_118 (q := 119) rfl ?_
    refine g_callS1 C X193 (y := (⟨"com/example/sober_repository/soberrepository/OperatorForNullPinLaw", "pick", "(I)Lcom/example/sober_repository/soberrepository/DerivedName$Operator;"⟩ : MethodName)) (by decide) (w2 hw) (w3 hw) (w5 hw) (w4 hw) (rm_pick_9 hw O119 W) (W := 0) (by decide) (by decide) (k' := 1) rfl (n' := 18) rfl (by decide) (by decide) rfl pd_5 (argsL := [(.int (9 : Int32))]) rfl (rest := []) rfl rfl rfl at_119 (q := 122) rfl ?_
    rintro _ T194 _ X195 ⟨rfl, rfl⟩
    refine g_astore C X195 at_122 (q := 124) rfl rfl (L' := #[.val (.int p0), .val (.ref b1), .val (.int (9 : Int32)), .val (.ref a_IN), .val (.ref a_IN), .unset]) rfl ?_
    refine g_aloadN C X195 at_124 (q := 125) rfl rfl rfl ?_
    refine g_callV1 C X195 (y := (⟨"com/example/sober_repository/soberrepository/DerivedName$Operator", "forNull", "()Lcom/example/sober_repository/soberrepository/DerivedName$Operator;"⟩ : MethodName)) (z := (⟨"com/example/sober_repository/soberrepository/DerivedName$Operator", "forNull", "()Lcom/example/sober_repository/soberrepository/DerivedName$Operator;"⟩ : MethodName)) (a := a_IN) (by decide) (w11 hw) (w12 hw) (w14 hw) (w13 hw) (nf_sel (w14 hw)) (W.2.2.2.2.2.2.2.2.2.2.2.2.2.2.2.2.2.2.2.2.2.2.2.2.2.2.2.2.2.2.2.2.2.2.2.2.2.2.2.2.2.2.2.2.2.2.2.2.2.2.2.2.1.ext O119.2) (w15 hw) (w7 hw) (rm_fn_9 hw O119 W) (W := 0) (by decide) (by decide) (k' := 1) rfl (n' := 18) rfl (by decide) (by decide) rfl pd_43 (argsL := []) rfl (rest := []) rfl rfl rfl at_125 (q := 128) rfl ?_
    rintro _ T196 _ X197 ⟨rfl, rfl⟩
    refine g_astore C X197 at_128 (q := 130) rfl rfl (L' := #[.val (.int p0), .val (.ref b1), .val (.int (9 : Int32)), .val (.ref a_IN), .val (.ref a_IN), .val (.ref a_IN)]) rfl ?_
    refine g_aload C X197 at_130 (q := 132) rfl rfl rfl ?_
    refine g_aload C X197 at_132 (q := 134) rfl rfl rfl ?_
    refine g_acmp C X197 at_134 rfl rfl (same := true) (decide_eq_true rfl) (by decide) (q := 137) (by decide) ?_
    refine g_aload C X197 at_137 (q := 139) rfl rfl rfl ?_
    refine g_callV1 C X197 (y := (⟨"com/example/sober_repository/soberrepository/DerivedName$Operator", "forNull", "()Lcom/example/sober_repository/soberrepository/DerivedName$Operator;"⟩ : MethodName)) (z := (⟨"com/example/sober_repository/soberrepository/DerivedName$Operator", "forNull", "()Lcom/example/sober_repository/soberrepository/DerivedName$Operator;"⟩ : MethodName)) (a := a_IN) (by decide) (w11 hw) (w12 hw) (w14 hw) (w13 hw) (nf_sel (w14 hw)) (W.2.2.2.2.2.2.2.2.2.2.2.2.2.2.2.2.2.2.2.2.2.2.2.2.2.2.2.2.2.2.2.2.2.2.2.2.2.2.2.2.2.2.2.2.2.2.2.2.2.2.2.2.1.ext O119.2) (w15 hw) (w7 hw) (rm_fn_9 hw O119 W) (W := 0) (by decide) (by decide) (k' := 1) rfl (n' := 18) rfl (by decide) (by decide) rfl pd_43 (argsL := []) rfl (rest := []) rfl rfl rfl at_139 (q := 142) rfl ?_
    rintro _ T198 _ X199 ⟨rfl, rfl⟩
    refine g_aload C X199 at_142 (q := 144) rfl rfl rfl ?_
    refine g_acmp C X199 at_144 rfl rfl (same := true) (decide_eq_true rfl) (by decide) (q := 147) (by decide) ?_
    refine g_iconst C X199 at_147 (q := 148) rfl (z := (1 : Int32)) rfl ?_
    refine g_goto C X199 at_148 (by decide) (q := 152) (by decide) ?_
    exact g_retN C X199 (Or.inl rfl) (z' := 1) (by decide) at_152 (by decide) (by decide) ⟨_, rfl, rfl, trivial⟩
  · refine g_irem C X116 at_109 (q := 110) rfl (by decide) (z := (10 : Int32)) hk ?_
    refine g_istoreN C X116 at_110 (q := 111) rfl (L' := #[.val (.int p0), .val (.ref b1), .val (.int (10 : Int32)), .unset, .unset, .unset]) rfl ?_
    refine g_iloadN C X116 at_111 (q := 112) rfl rfl ?_
    refine g_callS1 C X116 (y := (⟨"com/example/sober_repository/soberrepository/OperatorForNullPinLaw", "pick", "(I)Lcom/example/sober_repository/soberrepository/DerivedName$Operator;"⟩ : MethodName)) (by decide) (w2 hw) (w3 hw) (w5 hw) (w4 hw) (rm_pick_10 hw O119 W) (W := 0) (by decide) (by decide) (k' := 1) rfl (n' := 18) rfl (by decide) (by decide) rfl pd_5 (argsL := [(.int (10 : Int32))]) rfl (rest := []) rfl rfl rfl at_112 (q := 115) rfl ?_
    rintro _ T200 _ X201 ⟨rfl, rfl⟩
    refine g_astoreN C X201 at_115 (q := 116) rfl rfl (L' := #[.val (.int p0), .val (.ref b1), .val (.int (10 : Int32)), .val (.ref a_NOT_IN), .unset, .unset]) rfl ?_
    refine g_aloadN C X201 at_116 (q := 117) rfl rfl rfl ?_
    refine g_iloadN C X201 at_117 (q := 118) rfl rfl ?_
    refine g_iaload C X201 V118 (by decide) (w := (.int (10 : Int32))) rfl at_118 (q := 119) rfl ?_
    refine g_callS1 C X201 (y := (⟨"com/example/sober_repository/soberrepository/OperatorForNullPinLaw", "pick", "(I)Lcom/example/sober_repository/soberrepository/DerivedName$Operator;"⟩ : MethodName)) (by decide) (w2 hw) (w3 hw) (w5 hw) (w4 hw) (rm_pick_10 hw O119 W) (W := 0) (by decide) (by decide) (k' := 1) rfl (n' := 18) rfl (by decide) (by decide) rfl pd_5 (argsL := [(.int (10 : Int32))]) rfl (rest := []) rfl rfl rfl at_119 (q := 122) rfl ?_
    rintro _ T202 _ X203 ⟨rfl, rfl⟩
    refine g_astore C X203 at_122 (q := 124) rfl rfl (L' := #[.val (.int p0), .val (.ref b1), .val (.int (10 : Int32)), .val (.ref a_NOT_IN), .val (.ref a_NOT_IN), .unset]) rfl ?_
    refine g_aloadN C X203 at_124 (q := 125) rfl rfl rfl ?_
    refine g_callV1 C X203 (y := (⟨"com/example/sober_repository/soberrepository/DerivedName$Operator", "forNull", "()Lcom/example/sober_repository/soberrepository/DerivedName$Operator;"⟩ : MethodName)) (z := (⟨"com/example/sober_repository/soberrepository/DerivedName$Operator", "forNull", "()Lcom/example/sober_repository/soberrepository/DerivedName$Operator;"⟩ : MethodName)) (a := a_NOT_IN) (by decide) (w11 hw) (w12 hw) (w14 hw) (w13 hw) (nf_sel (w14 hw)) (W.2.2.2.2.2.2.2.2.2.2.2.2.2.2.2.2.2.2.2.2.2.2.2.2.2.2.2.2.2.2.2.2.2.2.1.ext O119.2) (w15 hw) (w7 hw) (rm_fn_10 hw O119 W) (W := 0) (by decide) (by decide) (k' := 1) rfl (n' := 18) rfl (by decide) (by decide) rfl pd_43 (argsL := []) rfl (rest := []) rfl rfl rfl at_125 (q := 128) rfl ?_
    rintro _ T204 _ X205 ⟨rfl, rfl⟩
    refine g_astore C X205 at_128 (q := 130) rfl rfl (L' := #[.val (.int p0), .val (.ref b1), .val (.int (10 : Int32)), .val (.ref a_NOT_IN), .val (.ref a_NOT_IN), .val (.ref a_NOT_IN)]) rfl ?_
    refine g_aload C X205 at_130 (q := 132) rfl rfl rfl ?_
    refine g_aload C X205 at_132 (q := 134) rfl rfl rfl ?_
    refine g_acmp C X205 at_134 rfl rfl (same := true) (decide_eq_true rfl) (by decide) (q := 137) (by decide) ?_
    refine g_aload C X205 at_137 (q := 139) rfl rfl rfl ?_
    refine g_callV1 C X205 (y := (⟨"com/example/sober_repository/soberrepository/DerivedName$Operator", "forNull", "()Lcom/example/sober_repository/soberrepository/DerivedName$Operator;"⟩ : MethodName)) (z := (⟨"com/example/sober_repository/soberrepository/DerivedName$Operator", "forNull", "()Lcom/example/sober_repository/soberrepository/DerivedName$Operator;"⟩ : MethodName)) (a := a_NOT_IN) (by decide) (w11 hw) (w12 hw) (w14 hw) (w13 hw) (nf_sel (w14 hw)) (W.2.2.2.2.2.2.2.2.2.2.2.2.2.2.2.2.2.2.2.2.2.2.2.2.2.2.2.2.2.2.2.2.2.2.1.ext O119.2) (w15 hw) (w7 hw) (rm_fn_10 hw O119 W) (W := 0) (by decide) (by decide) (k' := 1) rfl (n' := 18) rfl (by decide) (by decide) rfl pd_43 (argsL := []) rfl (rest := []) rfl rfl rfl at_139 (q := 142) rfl ?_
    rintro _ T206 _ X207 ⟨rfl, rfl⟩
    refine g_aload C X207 at_142 (q := 144) rfl rfl rfl ?_
    refine g_acmp C X207 at_144 rfl rfl (same := true) (decide_eq_true rfl) (by decide) (q := 147) (by decide) ?_
    refine g_iconst C X207 at_147 (q := 148) rfl (z := (1 : Int32)) rfl ?_
    refine g_goto C X207 at_148 (by decide) (q := 152) (by decide) ?_
    exact g_retN C X207 (Or.inl rfl) (z' := 1) (by decide) at_152 (by decide) (by decide) ⟨_, rfl, rfl, trivial⟩
  · refine g_irem C X116 at_109 (q := 110) rfl (by decide) (z := (11 : Int32)) hk ?_
    refine g_istoreN C X116 at_110 (q := 111) rfl (L' := #[.val (.int p0), .val (.ref b1), .val (.int (11 : Int32)), .unset, .unset, .unset]) rfl ?_
    refine g_iloadN C X116 at_111 (q := 112) rfl rfl ?_
    refine g_callS1 C X116 (y := (⟨"com/example/sober_repository/soberrepository/OperatorForNullPinLaw", "pick", "(I)Lcom/example/sober_repository/soberrepository/DerivedName$Operator;"⟩ : MethodName)) (by decide) (w2 hw) (w3 hw) (w5 hw) (w4 hw) (rm_pick_11 hw O119 W) (W := 0) (by decide) (by decide) (k' := 1) rfl (n' := 18) rfl (by decide) (by decide) rfl pd_5 (argsL := [(.int (11 : Int32))]) rfl (rest := []) rfl rfl rfl at_112 (q := 115) rfl ?_
    rintro _ T208 _ X209 ⟨rfl, rfl⟩
    refine g_astoreN C X209 at_115 (q := 116) rfl rfl (L' := #[.val (.int p0), .val (.ref b1), .val (.int (11 : Int32)), .val (.ref a_TRUE), .unset, .unset]) rfl ?_
    refine g_aloadN C X209 at_116 (q := 117) rfl rfl rfl ?_
    refine g_iloadN C X209 at_117 (q := 118) rfl rfl ?_
    refine g_iaload C X209 V118 (by decide) (w := (.int (11 : Int32))) rfl at_118 (q := 119) rfl ?_
    refine g_callS1 C X209 (y := (⟨"com/example/sober_repository/soberrepository/OperatorForNullPinLaw", "pick", "(I)Lcom/example/sober_repository/soberrepository/DerivedName$Operator;"⟩ : MethodName)) (by decide) (w2 hw) (w3 hw) (w5 hw) (w4 hw) (rm_pick_11 hw O119 W) (W := 0) (by decide) (by decide) (k' := 1) rfl (n' := 18) rfl (by decide) (by decide) rfl pd_5 (argsL := [(.int (11 : Int32))]) rfl (rest := []) rfl rfl rfl at_119 (q := 122) rfl ?_
    rintro _ T210 _ X211 ⟨rfl, rfl⟩
    refine g_astore C X211 at_122 (q := 124) rfl rfl (L' := #[.val (.int p0), .val (.ref b1), .val (.int (11 : Int32)), .val (.ref a_TRUE), .val (.ref a_TRUE), .unset]) rfl ?_
    refine g_aloadN C X211 at_124 (q := 125) rfl rfl rfl ?_
    refine g_callV1 C X211 (y := (⟨"com/example/sober_repository/soberrepository/DerivedName$Operator", "forNull", "()Lcom/example/sober_repository/soberrepository/DerivedName$Operator;"⟩ : MethodName)) (z := (⟨"com/example/sober_repository/soberrepository/DerivedName$Operator", "forNull", "()Lcom/example/sober_repository/soberrepository/DerivedName$Operator;"⟩ : MethodName)) (a := a_TRUE) (by decide) (w11 hw) (w12 hw) (w14 hw) (w13 hw) (nf_sel (w14 hw)) (W.2.2.2.2.2.2.2.2.2.2.2.2.2.2.2.2.2.2.2.1.ext O119.2) (w15 hw) (w7 hw) (rm_fn_11 hw O119 W) (W := 0) (by decide) (by decide) (k' := 1) rfl (n' := 18) rfl (by decide) (by decide) rfl pd_43 (argsL := []) rfl (rest := []) rfl rfl rfl at_125 (q := 128) rfl ?_
    rintro _ T212 _ X213 ⟨rfl, rfl⟩
    refine g_astore C X213 at_128 (q := 130) rfl rfl (L' := #[.val (.int p0), .val (.ref b1), .val (.int (11 : Int32)), .val (.ref a_TRUE), .val (.ref a_TRUE), .val (.ref a_TRUE)]) rfl ?_
    refine g_aload C X213 at_130 (q := 132) rfl rfl rfl ?_
    refine g_aload C X213 at_132 (q := 134) rfl rfl rfl ?_
    refine g_acmp C X213 at_134 rfl rfl (same := true) (decide_eq_true rfl) (by decide) (q := 137) (by decide) ?_
    refine g_aload C X213 at_137 (q := 139) rfl rfl rfl ?_
    refine g_callV1 C X213 (y := (⟨"com/example/sober_repository/soberrepository/DerivedName$Operator", "forNull", "()Lcom/example/sober_repository/soberrepository/DerivedName$Operator;"⟩ : MethodName)) (z := (⟨"com/example/sober_repository/soberrepository/DerivedName$Operator", "forNull", "()Lcom/example/sober_repository/soberrepository/DerivedName$Operator;"⟩ : MethodName)) (a := a_TRUE) (by decide) (w11 hw) (w12 hw) (w14 hw) (w13 hw) (nf_sel (w14 hw)) (W.2.2.2.2.2.2.2.2.2.2.2.2.2.2.2.2.2.2.2.1.ext O119.2) (w15 hw) (w7 hw) (rm_fn_11 hw O119 W) (W := 0) (by decide) (by decide) (k' := 1) rfl (n' := 18) rfl (by decide) (by decide) rfl pd_43 (argsL := []) rfl (rest := []) rfl rfl rfl at_139 (q := 142) rfl ?_
    rintro _ T214 _ X215 ⟨rfl, rfl⟩
    refine g_aload C X215 at_142 (q := 144) rfl rfl rfl ?_
    refine g_acmp C X215 at_144 rfl rfl (same := true) (decide_eq_true rfl) (by decide) (q := 147) (by decide) ?_
    refine g_iconst C X215 at_147 (q := 148) rfl (z := (1 : Int32)) rfl ?_
    refine g_goto C X215 at_148 (by decide) (q := 152) (by decide) ?_
    exact g_retN C X215 (Or.inl rfl) (z' := 1) (by decide) at_152 (by decide) (by decide) ⟨_, rfl, rfl, trivial⟩
  · refine g_irem C X116 at_109 (q := 110) rfl (by decide) (z := (12 : Int32)) hk ?_
    refine g_istoreN C X116 at_110 (q := 111) rfl (L' := #[.val (.int p0), .val (.ref b1), .val (.int (12 : Int32)), .unset, .unset, .unset]) rfl ?_
    refine g_iloadN C X116 at_111 (q := 112) rfl rfl ?_
    refine g_callS1 C X116 (y := (⟨"com/example/sober_repository/soberrepository/OperatorForNullPinLaw", "pick", "(I)Lcom/example/sober_repository/soberrepository/DerivedName$Operator;"⟩ : MethodName)) (by decide) (w2 hw) (w3 hw) (w5 hw) (w4 hw) (rm_pick_12 hw O119 W) (W := 0) (by decide) (by decide) (k' := 1) rfl (n' := 18) rfl (by decide) (by decide) rfl pd_5 (argsL := [(.int (12 : Int32))]) rfl (rest := []) rfl rfl rfl at_112 (q := 115) rfl ?_
    rintro _ T216 _ X217 ⟨rfl, rfl⟩
    refine g_astoreN C X217 at_115 (q := 116) rfl rfl (L' := #[.val (.int p0), .val (.ref b1), .val (.int (12 : Int32)), .val (.ref a_FALSE), .unset, .unset]) rfl ?_
    refine g_aloadN C X217 at_116 (q := 117) rfl rfl rfl ?_
    refine g_iloadN C X217 at_117 (q := 118) rfl rfl ?_
    refine g_iaload C X217 V118 (by decide) (w := (.int (12 : Int32))) rfl at_118 (q := 119) rfl ?_
    refine g_callS1 C X217 (y := (⟨"com/example/sober_repository/soberrepository/OperatorForNullPinLaw", "pick", "(I)Lcom/example/sober_repository/soberrepository/DerivedName$Operator;"⟩ : MethodName)) (by decide) (w2 hw) (w3 hw) (w5 hw) (w4 hw) (rm_pick_12 hw O119 W) (W := 0) (by decide) (by decide) (k' := 1) rfl (n' := 18) rfl (by decide) (by decide) rfl pd_5 (argsL := [(.int (12 : Int32))]) rfl (rest := []) rfl rfl rfl at_119 (q := 122) rfl ?_
    rintro _ T218 _ X219 ⟨rfl, rfl⟩
    refine g_astore C X219 at_122 (q := 124) rfl rfl (L' := #[.val (.int p0), .val (.ref b1), .val (.int (12 : Int32)), .val (.ref a_FALSE), .val (.ref a_FALSE), .unset]) rfl ?_
    refine g_aloadN C X219 at_124 (q := 125) rfl rfl rfl ?_
    refine g_callV1 C X219 (y := (⟨"com/example/sober_repository/soberrepository/DerivedName$Operator", "forNull", "()Lcom/example/sober_repository/soberrepository/DerivedName$Operator;"⟩ : MethodName)) (z := (⟨"com/example/sober_repository/soberrepository/DerivedName$Operator", "forNull", "()Lcom/example/sober_repository/soberrepository/DerivedName$Operator;"⟩ : MethodName)) (a := a_FALSE) (by decide) (w11 hw) (w12 hw) (w14 hw) (w13 hw) (nf_sel (w14 hw)) (W.2.2.2.2.2.2.2.2.2.2.2.2.2.2.2.2.2.2.2.2.2.2.2.2.2.1.ext O119.2) (w15 hw) (w7 hw) (rm_fn_12 hw O119 W) (W := 0) (by decide) (by decide) (k' := 1) rfl (n' := 18) rfl (by decide) (by decide) rfl pd_43 (argsL := []) rfl (rest := []) rfl rfl rfl at_125 (q := 128) rfl ?_
    rintro _ T220 _ X221 ⟨rfl, rfl⟩
    refine g_astore C X221 at_128 (q := 130) rfl rfl (L' := #[.val (.int p0), .val (.ref b1), .val (.int (12 : Int32)), .val (.ref a_FALSE), .val (.ref a_FALSE), .val (.ref a_FALSE)]) rfl ?_
    refine g_aload C X221 at_130 (q := 132) rfl rfl rfl ?_
    refine g_aload C X221 at_132 (q := 134) rfl rfl rfl ?_
    refine g_acmp C X221 at_134 rfl rfl (same := true) (decide_eq_true rfl) (by decide) (q := 137) (by decide) ?_
    refine g_aload C X221 at_137 (q := 139) rfl rfl rfl ?_
    refine g_callV1 C X221 (y := (⟨"com/example/sober_repository/soberrepository/DerivedName$Operator", "forNull", "()Lcom/example/sober_repository/soberrepository/DerivedName$Operator;"⟩ : MethodName)) (z := (⟨"com/example/sober_repository/soberrepository/DerivedName$Operator", "forNull", "()Lcom/example/sober_repository/soberrepository/DerivedName$Operator;"⟩ : MethodName)) (a := a_FALSE) (by decide) (w11 hw) (w12 hw) (w14 hw) (w13 hw) (nf_sel (w14 hw)) (W.2.2.2.2.2.2.2.2.2.2.2.2.2.2.2.2.2.2.2.2.2.2.2.2.2.1.ext O119.2) (w15 hw) (w7 hw) (rm_fn_12 hw O119 W) (W := 0) (by decide) (by decide) (k' := 1) rfl (n' := 18) rfl (by decide) (by decide) rfl pd_43 (argsL := []) rfl (rest := []) rfl rfl rfl at_139 (q := 142) rfl ?_
    rintro _ T222 _ X223 ⟨rfl, rfl⟩
    refine g_aload C X223 at_142 (q := 144) rfl rfl rfl ?_
    refine g_acmp C X223 at_144 rfl rfl (same := true) (decide_eq_true rfl) (by decide) (q := 147) (by decide) ?_
    refine g_iconst C X223 at_147 (q := 148) rfl (z := (1 : Int32)) rfl ?_
    refine g_goto C X223 at_148 (by decide) (q := 152) (by decide) ?_
    exact g_retN C X223 (Or.inl rfl) (z' := 1) (by decide) at_152 (by decide) (by decide) ⟨_, rfl, rfl, trivial⟩
  · refine g_irem C X116 at_109 (q := 110) rfl (by decide) (z := (13 : Int32)) hk ?_
    refine g_istoreN C X116 at_110 (q := 111) rfl (L' := #[.val (.int p0), .val (.ref b1), .val (.int (13 : Int32)), .unset, .unset, .unset]) rfl ?_
    refine g_iloadN C X116 at_111 (q := 112) rfl rfl ?_
    refine g_callS1 C X116 (y := (⟨"com/example/sober_repository/soberrepository/OperatorForNullPinLaw", "pick", "(I)Lcom/example/sober_repository/soberrepository/DerivedName$Operator;"⟩ : MethodName)) (by decide) (w2 hw) (w3 hw) (w5 hw) (w4 hw) (rm_pick_13 hw O119 W) (W := 0) (by decide) (by decide) (k' := 1) rfl (n' := 18) rfl (by decide) (by decide) rfl pd_5 (argsL := [(.int (13 : Int32))]) rfl (rest := []) rfl rfl rfl at_112 (q := 115) rfl ?_
    rintro _ T224 _ X225 ⟨rfl, rfl⟩
    refine g_astoreN C X225 at_115 (q := 116) rfl rfl (L' := #[.val (.int p0), .val (.ref b1), .val (.int (13 : Int32)), .val (.ref a_STARTING_WITH), .unset, .unset]) rfl ?_
    refine g_aloadN C X225 at_116 (q := 117) rfl rfl rfl ?_
    refine g_iloadN C X225 at_117 (q := 118) rfl rfl ?_
    refine g_iaload C X225 V118 (by decide) (w := (.int (13 : Int32))) rfl at_118 (q := 119) rfl ?_
    refine g_callS1 C X225 (y := (⟨"com/example/sober_repository/soberrepository/OperatorForNullPinLaw", "pick", "(I)Lcom/example/sober_repository/soberrepository/DerivedName$Operator;"⟩ : MethodName)) (by decide) (w2 hw) (w3 hw) (w5 hw) (w4 hw) (rm_pick_13 hw O119 W) (W := 0) (by decide) (by decide) (k' := 1) rfl (n' := 18) rfl (by decide) (by decide) rfl pd_5 (argsL := [(.int (13 : Int32))]) rfl (rest := []) rfl rfl rfl at_119 (q := 122) rfl ?_
    rintro _ T226 _ X227 ⟨rfl, rfl⟩
    refine g_astore C X227 at_122 (q := 124) rfl rfl (L' := #[.val (.int p0), .val (.ref b1), .val (.int (13 : Int32)), .val (.ref a_STARTING_WITH), .val (.ref a_STARTING_WITH), .unset]) rfl ?_
    refine g_aloadN C X227 at_124 (q := 125) rfl rfl rfl ?_
    refine g_callV1 C X227 (y := (⟨"com/example/sober_repository/soberrepository/DerivedName$Operator", "forNull", "()Lcom/example/sober_repository/soberrepository/DerivedName$Operator;"⟩ : MethodName)) (z := (⟨"com/example/sober_repository/soberrepository/DerivedName$Operator", "forNull", "()Lcom/example/sober_repository/soberrepository/DerivedName$Operator;"⟩ : MethodName)) (a := a_STARTING_WITH) (by decide) (w11 hw) (w12 hw) (w14 hw) (w13 hw) (nf_sel (w14 hw)) (W.2.2.2.2.2.2.2.2.2.2.2.2.2.2.2.2.2.2.2.2.2.2.2.2.2.2.2.2.2.2.2.2.2.2.2.2.2.1.ext O119.2) (w15 hw) (w7 hw) (rm_fn_13 hw O119 W) (W := 0) (by decide) (by decide) (k' := 1) rfl (n' := 18) rfl (by decide) (by decide) rfl pd_43 (argsL := []) rfl (rest := []) rfl rfl rfl at_125 (q := 128) rfl ?_
    rintro _ T228 _ X229 ⟨rfl, rfl⟩
    refine g_astore C X229 at_128 (q := 130) rfl rfl (L' := #[.val (.int p0), .val (.ref b1), .val (.int (13 : Int32)), .val (.ref a_STARTING_WITH), .val (.ref a_STARTING_WITH), .val (.ref a_STARTING_WITH)]) rfl ?_
    refine g_aload C X229 at_130 (q := 132) rfl rfl rfl ?_
    refine g_aload C X229 at_132 (q := 134) rfl rfl rfl ?_
    refine g_acmp C X229 at_134 rfl rfl (same := true) (decide_eq_true rfl) (by decide) (q := 137) (by decide) ?_
    refine g_aload C X229 at_137 (q := 139) rfl rfl rfl ?_
    refine g_callV1 C X229 (y := (⟨"com/example/sober_repository/soberrepository/DerivedName$Operator", "forNull", "()Lcom/example/sober_repository/soberrepository/DerivedName$Operator;"⟩ : MethodName)) (z := (⟨"com/example/sober_repository/soberrepository/DerivedName$Operator", "forNull", "()Lcom/example/sober_repository/soberrepository/DerivedName$Operator;"⟩ : MethodName)) (a := a_STARTING_WITH) (by decide) (w11 hw) (w12 hw) (w14 hw) (w13 hw) (nf_sel (w14 hw)) (W.2.2.2.2.2.2.2.2.2.2.2.2.2.2.2.2.2.2.2.2.2.2.2.2.2.2.2.2.2.2.2.2.2.2.2.2.2.1.ext O119.2) (w15 hw) (w7 hw) (rm_fn_13 hw O119 W) (W := 0) (by decide) (by decide) (k' := 1) rfl (n' := 18) rfl (by decide) (by decide) rfl pd_43 (argsL := []) rfl (rest := []) rfl rfl rfl at_139 (q := 142) rfl ?_
    rintro _ T230 _ X231 ⟨rfl, rfl⟩
    refine g_aload C X231 at_142 (q := 144) rfl rfl rfl ?_
    refine g_acmp C X231 at_144 rfl rfl (same := true) (decide_eq_true rfl) (by decide) (q := 147) (by decide) ?_
    refine g_iconst C X231 at_147 (q := 148) rfl (z := (1 : Int32)) rfl ?_
    refine g_goto C X231 at_148 (by decide) (q := 152) (by decide) ?_
    exact g_retN C X231 (Or.inl rfl) (z' := 1) (by decide) at_152 (by decide) (by decide) ⟨_, rfl, rfl, trivial⟩
  · refine g_irem C X116 at_109 (q := 110) rfl (by decide) (z := (14 : Int32)) hk ?_
    refine g_istoreN C X116 at_110 (q := 111) rfl (L' := #[.val (.int p0), .val (.ref b1), .val (.int (14 : Int32)), .unset, .unset, .unset]) rfl ?_
    refine g_iloadN C X116 at_111 (q := 112) rfl rfl ?_
    refine g_callS1 C X116 (y := (⟨"com/example/sober_repository/soberrepository/OperatorForNullPinLaw", "pick", "(I)Lcom/example/sober_repository/soberrepository/DerivedName$Operator;"⟩ : MethodName)) (by decide) (w2 hw) (w3 hw) (w5 hw) (w4 hw) (rm_pick_14 hw O119 W) (W := 0) (by decide) (by decide) (k' := 1) rfl (n' := 18) rfl (by decide) (by decide) rfl pd_5 (argsL := [(.int (14 : Int32))]) rfl (rest := []) rfl rfl rfl at_112 (q := 115) rfl ?_
    rintro _ T232 _ X233 ⟨rfl, rfl⟩
    refine g_astoreN C X233 at_115 (q := 116) rfl rfl (L' := #[.val (.int p0), .val (.ref b1), .val (.int (14 : Int32)), .val (.ref a_ENDING_WITH), .unset, .unset]) rfl ?_
    refine g_aloadN C X233 at_116 (q := 117) rfl rfl rfl ?_
    refine g_iloadN C X233 at_117 (q := 118) rfl rfl ?_
    refine g_iaload C X233 V118 (by decide) (w := (.int (14 : Int32))) rfl at_118 (q := 119) rfl ?_
    refine g_callS1 C X233 (y := (⟨"com/example/sober_repository/soberrepository/OperatorForNullPinLaw", "pick", "(I)Lcom/example/sober_repository/soberrepository/DerivedName$Operator;"⟩ : MethodName)) (by decide) (w2 hw) (w3 hw) (w5 hw) (w4 hw) (rm_pick_14 hw O119 W) (W := 0) (by decide) (by decide) (k' := 1) rfl (n' := 18) rfl (by decide) (by decide) rfl pd_5 (argsL := [(.int (14 : Int32))]) rfl (rest := []) rfl rfl rfl at_119 (q := 122) rfl ?_
    rintro _ T234 _ X235 ⟨rfl, rfl⟩
    refine g_astore C X235 at_122 (q := 124) rfl rfl (L' := #[.val (.int p0), .val (.ref b1), .val (.int (14 : Int32)), .val (.ref a_ENDING_WITH), .val (.ref a_ENDING_WITH), .unset]) rfl ?_
    refine g_aloadN C X235 at_124 (q := 125) rfl rfl rfl ?_
    refine g_callV1 C X235 (y := (⟨"com/example/sober_repository/soberrepository/DerivedName$Operator", "forNull", "()Lcom/example/sober_repository/soberrepository/DerivedName$Operator;"⟩ : MethodName)) (z := (⟨"com/example/sober_repository/soberrepository/DerivedName$Operator", "forNull", "()Lcom/example/sober_repository/soberrepository/DerivedName$Operator;"⟩ : MethodName)) (a := a_ENDING_WITH) (by decide) (w11 hw) (w12 hw) (w14 hw) (w13 hw) (nf_sel (w14 hw)) (W.2.2.2.2.2.2.2.2.2.2.2.2.2.2.2.2.2.2.2.2.2.2.2.2.2.2.2.2.2.2.2.2.2.2.2.2.2.2.2.2.2.2.2.2.2.2.1.ext O119.2) (w15 hw) (w7 hw) (rm_fn_14 hw O119 W) (W := 0) (by decide) (by decide) (k' := 1) rfl (n' := 18) rfl (by decide) (by decide) rfl pd_43 (argsL := []) rfl (rest := []) rfl rfl rfl at_125 (q := 128) rfl ?_
    rintro _ T236 _ X237 ⟨rfl, rfl⟩
    refine g_astore C X237 at_128 (q := 130) rfl rfl (L' := #[.val (.int p0), .val (.ref b1), .val (.int (14 : Int32)), .val (.ref a_ENDING_WITH), .val (.ref a_ENDING_WITH), .val (.ref a_ENDING_WITH)]) rfl ?_
    refine g_aload C X237 at_130 (q := 132) rfl rfl rfl ?_
    refine g_aload C X237 at_132 (q := 134) rfl rfl rfl ?_
    refine g_acmp C X237 at_134 rfl rfl (same := true) (decide_eq_true rfl) (by decide) (q := 137) (by decide) ?_
    refine g_aload C X237 at_137 (q := 139) rfl rfl rfl ?_
    refine g_callV1 C X237 (y := (⟨"com/example/sober_repository/soberrepository/DerivedName$Operator", "forNull", "()Lcom/example/sober_repository/soberrepository/DerivedName$Operator;"⟩ : MethodName)) (z := (⟨"com/example/sober_repository/soberrepository/DerivedName$Operator", "forNull", "()Lcom/example/sober_repository/soberrepository/DerivedName$Operator;"⟩ : MethodName)) (a := a_ENDING_WITH) (by decide) (w11 hw) (w12 hw) (w14 hw) (w13 hw) (nf_sel (w14 hw)) (W.2.2.2.2.2.2.2.2.2.2.2.2.2.2.2.2.2.2.2.2.2.2.2.2.2.2.2.2.2.2.2.2.2.2.2.2.2.2.2.2.2.2.2.2.2.2.1.ext O119.2) (w15 hw) (w7 hw) (rm_fn_14 hw O119 W) (W := 0) (by decide) (by decide) (k' := 1) rfl (n' := 18) rfl (by decide) (by decide) rfl pd_43 (argsL := []) rfl (rest := []) rfl rfl rfl at_139 (q := 142) rfl ?_
    rintro _ T238 _ X239 ⟨rfl, rfl⟩
    refine g_aload C X239 at_142 (q := 144) rfl rfl rfl ?_
    refine g_acmp C X239 at_144 rfl rfl (same := true) (decide_eq_true rfl) (by decide) (q := 147) (by decide) ?_
    refine g_iconst C X239 at_147 (q := 148) rfl (z := (1 : Int32)) rfl ?_
    refine g_goto C X239 at_148 (by decide) (q := 152) (by decide) ?_
    exact g_retN C X239 (Or.inl rfl) (z' := 1) (by decide) at_152 (by decide) (by decide) ⟨_, rfl, rfl, trivial⟩
  · refine g_irem C X116 at_109 (q := 110) rfl (by decide) (z := (15 : Int32)) hk ?_
    refine g_istoreN C X116 at_110 (q := 111) rfl (L' := #[.val (.int p0), .val (.ref b1), .val (.int (15 : Int32)), .unset, .unset, .unset]) rfl ?_
    refine g_iloadN C X116 at_111 (q := 112) rfl rfl ?_
    refine g_callS1 C X116 (y := (⟨"com/example/sober_repository/soberrepository/OperatorForNullPinLaw", "pick", "(I)Lcom/example/sober_repository/soberrepository/DerivedName$Operator;"⟩ : MethodName)) (by decide) (w2 hw) (w3 hw) (w5 hw) (w4 hw) (rm_pick_15 hw O119 W) (W := 0) (by decide) (by decide) (k' := 1) rfl (n' := 18) rfl (by decide) (by decide) rfl pd_5 (argsL := [(.int (15 : Int32))]) rfl (rest := []) rfl rfl rfl at_112 (q := 115) rfl ?_
    rintro _ T240 _ X241 ⟨rfl, rfl⟩
    refine g_astoreN C X241 at_115 (q := 116) rfl rfl (L' := #[.val (.int p0), .val (.ref b1), .val (.int (15 : Int32)), .val (.ref a_CONTAINING), .unset, .unset]) rfl ?_
    refine g_aloadN C X241 at_116 (q := 117) rfl rfl rfl ?_
    refine g_iloadN C X241 at_117 (q := 118) rfl rfl ?_
    refine g_iaload C X241 V118 (by decide) (w := (.int (15 : Int32))) rfl at_118 (q := 119) rfl ?_
    refine g_callS1 C X241 (y := (⟨"com/example/sober_repository/soberrepository/OperatorForNullPinLaw", "pick", "(I)Lcom/example/sober_repository/soberrepository/DerivedName$Operator;"⟩ : MethodName)) (by decide) (w2 hw) (w3 hw) (w5 hw) (w4 hw) (rm_pick_15 hw O119 W) (W := 0) (by decide) (by decide) (k' := 1) rfl (n' := 18) rfl (by decide) (by decide) rfl pd_5 (argsL := [(.int (15 : Int32))]) rfl (rest := []) rfl rfl rfl at_119 (q := 122) rfl ?_
    rintro _ T242 _ X243 ⟨rfl, rfl⟩
    refine g_astore C X243 at_122 (q := 124) rfl rfl (L' := #[.val (.int p0), .val (.ref b1), .val (.int (15 : Int32)), .val (.ref a_CONTAINING), .val (.ref a_CONTAINING), .unset]) rfl ?_
    refine g_aloadN C X243 at_124 (q := 125) rfl rfl rfl ?_
    refine g_callV1 C X243 (y := (⟨"com/example/sober_repository/soberrepository/DerivedName$Operator", "forNull", "()Lcom/example/sober_repository/soberrepository/DerivedName$Operator;"⟩ : MethodName)) (z := (⟨"com/example/sober_repository/soberrepository/DerivedName$Operator", "forNull", "()Lcom/example/sober_repository/soberrepository/DerivedName$Operator;"⟩ : MethodName)) (a := a_CONTAINING) (by decide) (w11 hw) (w12 hw) (w14 hw) (w13 hw) (nf_sel (w14 hw)) (W.2.2.2.2.2.2.2.2.2.2.2.2.2.2.2.2.2.2.2.2.2.2.2.2.2.2.2.2.2.2.2.1.ext O119.2) (w15 hw) (w7 hw) (rm_fn_15 hw O119 W) (W := 0) (by decide) (by decide) (k' := 1) rfl (n' := 18) rfl (by decide) (by decide) rfl pd_43 (argsL := []) rfl (rest := []) rfl rfl rfl at_125 (q := 128) rfl ?_
    rintro _ T244 _ X245 ⟨rfl, rfl⟩
    refine g_astore C X245 at_128 (q := 130) rfl rfl (L' := #[.val (.int p0), .val (.ref b1), .val (.int (15 : Int32)), .val (.ref a_CONTAINING), .val (.ref a_CONTAINING), .val (.ref a_CONTAINING)]) rfl ?_
    refine g_aload C X245 at_130 (q := 132) rfl rfl rfl ?_
    refine g_aload C X245 at_132 (q := 134) rfl rfl rfl ?_
    refine g_acmp C X245 at_134 rfl rfl (same := true) (decide_eq_true rfl) (by decide) (q := 137) (by decide) ?_
    refine g_aload C X245 at_137 (q := 139) rfl rfl rfl ?_
    refine g_callV1 C X245 (y := (⟨"com/example/sober_repository/soberrepository/DerivedName$Operator", "forNull", "()Lcom/example/sober_repository/soberrepository/DerivedName$Operator;"⟩ : MethodName)) (z := (⟨"com/example/sober_repository/soberrepository/DerivedName$Operator", "forNull", "()Lcom/example/sober_repository/soberrepository/DerivedName$Operator;"⟩ : MethodName)) (a := a_CONTAINING) (by decide) (w11 hw) (w12 hw) (w14 hw) (w13 hw) (nf_sel (w14 hw)) (W.2.2.2.2.2.2.2.2.2.2.2.2.2.2.2.2.2.2.2.2.2.2.2.2.2.2.2.2.2.2.2.1.ext O119.2) (w15 hw) (w7 hw) (rm_fn_15 hw O119 W) (W := 0) (by decide) (by decide) (k' := 1) rfl (n' := 18) rfl (by decide) (by decide) rfl pd_43 (argsL := []) rfl (rest := []) rfl rfl rfl at_139 (q := 142) rfl ?_
    rintro _ T246 _ X247 ⟨rfl, rfl⟩
    refine g_aload C X247 at_142 (q := 144) rfl rfl rfl ?_
    refine g_acmp C X247 at_144 rfl rfl (same := true) (decide_eq_true rfl) (by decide) (q := 147) (by decide) ?_
    refine g_iconst C X247 at_147 (q := 148) rfl (z := (1 : Int32)) rfl ?_
    refine g_goto C X247 at_148 (by decide) (q := 152) (by decide) ?_
    exact g_retN C X247 (Or.inl rfl) (z' := 1) (by decide) at_152 (by decide) (by decide) ⟨_, rfl, rfl, trivial⟩
  · refine g_irem C X116 at_109 (q := 110) rfl (by decide) (z := (16 : Int32)) hk ?_
    refine g_istoreN C X116 at_110 (q := 111) rfl (L' := #[.val (.int p0), .val (.ref b1), .val (.int (16 : Int32)), .unset, .unset, .unset]) rfl ?_
    refine g_iloadN C X116 at_111 (q := 112) rfl rfl ?_
    refine g_callS1 C X116 (y := (⟨"com/example/sober_repository/soberrepository/OperatorForNullPinLaw", "pick", "(I)Lcom/example/sober_repository/soberrepository/DerivedName$Operator;"⟩ : MethodName)) (by decide) (w2 hw) (w3 hw) (w5 hw) (w4 hw) (rm_pick_16 hw O119 W) (W := 0) (by decide) (by decide) (k' := 1) rfl (n' := 18) rfl (by decide) (by decide) rfl pd_5 (argsL := [(.int (16 : Int32))]) rfl (rest := []) rfl rfl rfl at_112 (q := 115) rfl ?_
    rintro _ T248 _ X249 ⟨rfl, rfl⟩
    refine g_astoreN C X249 at_115 (q := 116) rfl rfl (L' := #[.val (.int p0), .val (.ref b1), .val (.int (16 : Int32)), .val (.ref a_LIKE), .unset, .unset]) rfl ?_
    refine g_aloadN C X249 at_116 (q := 117) rfl rfl rfl ?_
    refine g_iloadN C X249 at_117 (q := 118) rfl rfl ?_
    refine g_iaload C X249 V118 (by decide) (w := (.int (16 : Int32))) rfl at_118 (q := 119) rfl ?_
    refine g_callS1 C X249 (y := (⟨"com/example/sober_repository/soberrepository/OperatorForNullPinLaw", "pick", "(I)Lcom/example/sober_repository/soberrepository/DerivedName$Operator;"⟩ : MethodName)) (by decide) (w2 hw) (w3 hw) (w5 hw) (w4 hw) (rm_pick_16 hw O119 W) (W := 0) (by decide) (by decide) (k' := 1) rfl (n' := 18) rfl (by decide) (by decide) rfl pd_5 (argsL := [(.int (16 : Int32))]) rfl (rest := []) rfl rfl rfl at_119 (q := 122) rfl ?_
    rintro _ T250 _ X251 ⟨rfl, rfl⟩
    refine g_astore C X251 at_122 (q := 124) rfl rfl (L' := #[.val (.int p0), .val (.ref b1), .val (.int (16 : Int32)), .val (.ref a_LIKE), .val (.ref a_LIKE), .unset]) rfl ?_
    refine g_aloadN C X251 at_124 (q := 125) rfl rfl rfl ?_
    refine g_callV1 C X251 (y := (⟨"com/example/sober_repository/soberrepository/DerivedName$Operator", "forNull", "()Lcom/example/sober_repository/soberrepository/DerivedName$Operator;"⟩ : MethodName)) (z := (⟨"com/example/sober_repository/soberrepository/DerivedName$Operator", "forNull", "()Lcom/example/sober_repository/soberrepository/DerivedName$Operator;"⟩ : MethodName)) (a := a_LIKE) (by decide) (w11 hw) (w12 hw) (w14 hw) (w13 hw) (nf_sel (w14 hw)) (W.2.2.2.2.2.2.2.2.2.2.2.2.2.2.2.2.2.2.2.2.2.2.2.2.2.2.2.2.1.ext O119.2) (w15 hw) (w7 hw) (rm_fn_16 hw O119 W) (W := 0) (by decide) (by decide) (k' := 1) rfl (n' := 18) rfl (by decide) (by decide) rfl pd_43 (argsL := []) rfl (rest := []) rfl rfl rfl at_125 (q := 128) rfl ?_
    rintro _ T252 _ X253 ⟨rfl, rfl⟩
    refine g_astore C X253 at_128 (q := 130) rfl rfl (L' := #[.val (.int p0), .val (.ref b1), .val (.int (16 : Int32)), .val (.ref a_LIKE), .val (.ref a_LIKE), .val (.ref a_LIKE)]) rfl ?_
    refine g_aload C X253 at_130 (q := 132) rfl rfl rfl ?_
    refine g_aload C X253 at_132 (q := 134) rfl rfl rfl ?_
    refine g_acmp C X253 at_134 rfl rfl (same := true) (decide_eq_true rfl) (by decide) (q := 137) (by decide) ?_
    refine g_aload C X253 at_137 (q := 139) rfl rfl rfl ?_
    refine g_callV1 C X253 (y := (⟨"com/example/sober_repository/soberrepository/DerivedName$Operator", "forNull", "()Lcom/example/sober_repository/soberrepository/DerivedName$Operator;"⟩ : MethodName)) (z := (⟨"com/example/sober_repository/soberrepository/DerivedName$Operator", "forNull", "()Lcom/example/sober_repository/soberrepository/DerivedName$Operator;"⟩ : MethodName)) (a := a_LIKE) (by decide) (w11 hw) (w12 hw) (w14 hw) (w13 hw) (nf_sel (w14 hw)) (W.2.2.2.2.2.2.2.2.2.2.2.2.2.2.2.2.2.2.2.2.2.2.2.2.2.2.2.2.1.ext O119.2) (w15 hw) (w7 hw) (rm_fn_16 hw O119 W) (W := 0) (by decide) (by decide) (k' := 1) rfl (n' := 18) rfl (by decide) (by decide) rfl pd_43 (argsL := []) rfl (rest := []) rfl rfl rfl at_139 (q := 142) rfl ?_
    rintro _ T254 _ X255 ⟨rfl, rfl⟩
    refine g_aload C X255 at_142 (q := 144) rfl rfl rfl ?_
    refine g_acmp C X255 at_144 rfl rfl (same := true) (decide_eq_true rfl) (by decide) (q := 147) (by decide) ?_
    refine g_iconst C X255 at_147 (q := 148) rfl (z := (1 : Int32)) rfl ?_
    refine g_goto C X255 at_148 (by decide) (q := 152) (by decide) ?_
    exact g_retN C X255 (Or.inl rfl) (z' := 1) (by decide) at_152 (by decide) (by decide) ⟨_, rfl, rfl, trivial⟩
  · refine g_irem C X116 at_109 (q := 110) rfl (by decide) (z := (17 : Int32)) hk ?_
    refine g_istoreN C X116 at_110 (q := 111) rfl (L' := #[.val (.int p0), .val (.ref b1), .val (.int (17 : Int32)), .unset, .unset, .unset]) rfl ?_
    refine g_iloadN C X116 at_111 (q := 112) rfl rfl ?_
    refine g_callS1 C X116 (y := (⟨"com/example/sober_repository/soberrepository/OperatorForNullPinLaw", "pick", "(I)Lcom/example/sober_repository/soberrepository/DerivedName$Operator;"⟩ : MethodName)) (by decide) (w2 hw) (w3 hw) (w5 hw) (w4 hw) (rm_pick_17 hw O119 W) (W := 0) (by decide) (by decide) (k' := 1) rfl (n' := 18) rfl (by decide) (by decide) rfl pd_5 (argsL := [(.int (17 : Int32))]) rfl (rest := []) rfl rfl rfl at_112 (q := 115) rfl ?_
    rintro _ T256 _ X257 ⟨rfl, rfl⟩
    refine g_astoreN C X257 at_115 (q := 116) rfl rfl (L' := #[.val (.int p0), .val (.ref b1), .val (.int (17 : Int32)), .val (.ref a_NOT_LIKE), .unset, .unset]) rfl ?_
    refine g_aloadN C X257 at_116 (q := 117) rfl rfl rfl ?_
    refine g_iloadN C X257 at_117 (q := 118) rfl rfl ?_
    refine g_iaload C X257 V118 (by decide) (w := (.int (17 : Int32))) rfl at_118 (q := 119) rfl ?_
    refine g_callS1 C X257 (y := (⟨"com/example/sober_repository/soberrepository/OperatorForNullPinLaw", "pick", "(I)Lcom/example/sober_repository/soberrepository/DerivedName$Operator;"⟩ : MethodName)) (by decide) (w2 hw) (w3 hw) (w5 hw) (w4 hw) (rm_pick_17 hw O119 W) (W := 0) (by decide) (by decide) (k' := 1) rfl (n' := 18) rfl (by decide) (by decide) rfl pd_5 (argsL := [(.int (17 : Int32))]) rfl (rest := []) rfl rfl rfl at_119 (q := 122) rfl ?_
    rintro _ T258 _ X259 ⟨rfl, rfl⟩
    refine g_astore C X259 at_122 (q := 124) rfl rfl (L' := #[.val (.int p0), .val (.ref b1), .val (.int (17 : Int32)), .val (.ref a_NOT_LIKE), .val (.ref a_NOT_LIKE), .unset]) rfl ?_
    refine g_aloadN C X259 at_124 (q := 125) rfl rfl rfl ?_
    refine g_callV1 C X259 (y := (⟨"com/example/sober_repository/soberrepository/DerivedName$Operator", "forNull", "()Lcom/example/sober_repository/soberrepository/DerivedName$Operator;"⟩ : MethodName)) (z := (⟨"com/example/sober_repository/soberrepository/DerivedName$Operator", "forNull", "()Lcom/example/sober_repository/soberrepository/DerivedName$Operator;"⟩ : MethodName)) (a := a_NOT_LIKE) (by decide) (w11 hw) (w12 hw) (w14 hw) (w13 hw) (nf_sel (w14 hw)) (W.2.2.2.2.2.2.2.2.2.2.2.2.2.2.2.2.2.2.2.2.2.2.2.2.2.2.2.2.2.2.2.2.2.2.2.2.2.2.2.2.2.2.2.1.ext O119.2) (w15 hw) (w7 hw) (rm_fn_17 hw O119 W) (W := 0) (by decide) (by decide) (k' := 1) rfl (n' := 18) rfl (by decide) (by decide) rfl pd_43 (argsL := []) rfl (rest := []) rfl rfl rfl at_125 (q := 128) rfl ?_
    rintro _ T260 _ X261 ⟨rfl, rfl⟩
    refine g_astore C X261 at_128 (q := 130) rfl rfl (L' := #[.val (.int p0), .val (.ref b1), .val (.int (17 : Int32)), .val (.ref a_NOT_LIKE), .val (.ref a_NOT_LIKE), .val (.ref a_NOT_LIKE)]) rfl ?_
    refine g_aload C X261 at_130 (q := 132) rfl rfl rfl ?_
    refine g_aload C X261 at_132 (q := 134) rfl rfl rfl ?_
    refine g_acmp C X261 at_134 rfl rfl (same := true) (decide_eq_true rfl) (by decide) (q := 137) (by decide) ?_
    refine g_aload C X261 at_137 (q := 139) rfl rfl rfl ?_
    refine g_callV1 C X261 (y := (⟨"com/example/sober_repository/soberrepository/DerivedName$Operator", "forNull", "()Lcom/example/sober_repository/soberrepository/DerivedName$Operator;"⟩ : MethodName)) (z := (⟨"com/example/sober_repository/soberrepository/DerivedName$Operator", "forNull", "()Lcom/example/sober_repository/soberrepository/DerivedName$Operator;"⟩ : MethodName)) (a := a_NOT_LIKE) (by decide) (w11 hw) (w12 hw) (w14 hw) (w13 hw) (nf_sel (w14 hw)) (W.2.2.2.2.2.2.2.2.2.2.2.2.2.2.2.2.2.2.2.2.2.2.2.2.2.2.2.2.2.2.2.2.2.2.2.2.2.2.2.2.2.2.2.1.ext O119.2) (w15 hw) (w7 hw) (rm_fn_17 hw O119 W) (W := 0) (by decide) (by decide) (k' := 1) rfl (n' := 18) rfl (by decide) (by decide) rfl pd_43 (argsL := []) rfl (rest := []) rfl rfl rfl at_139 (q := 142) rfl ?_
    rintro _ T262 _ X263 ⟨rfl, rfl⟩
    refine g_aload C X263 at_142 (q := 144) rfl rfl rfl ?_
    refine g_acmp C X263 at_144 rfl rfl (same := true) (decide_eq_true rfl) (by decide) (q := 147) (by decide) ?_
    refine g_iconst C X263 at_147 (q := 148) rfl (z := (1 : Int32)) rfl ?_
    refine g_goto C X263 at_148 (by decide) (q := 152) (by decide) ?_
    exact g_retN C X263 (Or.inl rfl) (z' := 1) (by decide) at_152 (by decide) (by decide) ⟨_, rfl, rfl, trivial⟩
set_option maxRecDepth 65536 in
set_option maxHeartbeats 40000000 in
theorem comes_1 {Post : Tables → Env → Array Value → State → Outcome → State → Prop} (hpost : ∀ tb e args s v u, (limb_1_1.after args s (.returned v) u = true ∧ limb_1_2.after args s (.returned v) u = true ∧ True) → FrameEnd s (.returned v) u (Jvm.fieldLocs frame_1_writes args s ++ Jvm.arrayLocs frame_1_arrays args s ++ Jvm.staticLocs frame_1_statics s) 16 128 → Post tb e args s (.returned v) u) :
    ArmFor flags0 classFile x code maxLocals ret World_1 tables_1 room_1 Calls_1 rest_1 Pre_1 Post := by
  intro l hfl _ _ p e ha hc hk s m args below hf hA hF happ hP
  obtain ⟨hcalls, hrest, hpre⟩ := hP
  obtain ⟨-, -, -, hnamed, -, -, -, hat⟩ := (Spec.applies_iff hf).mp happ
  obtain ⟨hg, hn⟩ := and_e (Cond.before_iff.mp (show (Jvm.Cond.and given_1 narrow_1).before args s = true from hpre))
  obtain ⟨y1, y2⟩ := and_e hg
  obtain ⟨u0, rfl⟩ : ∃ u0 : Value, args = #[u0] := by
    have hs : args.size = 1 := by simpa [Cond.value, given_1] using y1
    obtain ⟨L⟩ := args
    match L, hs with
    | [u0], _ => exact ⟨u0, rfl⟩
  have hw := fun d (hd : d ∈ tables_1) => atoms_spec (ws := Jvm.Cond.code x code maxLocals ret :: tables_1) hat d (List.mem_cons_of_mem _ hd)
  have hfit : Fit s := fun {y c} hc i hi => by
    obtain ⟨ha, rfl⟩ := Array.getElem?_eq_some_iff.mp hc
    have q := List.all_eq_true.mp ((Array.all_eq_true_iff_forall_mem.mp hF) _ (Array.getElem_mem ha)) i (List.mem_range.mpr hi)
    simpa [Array.getElem?_eq_getElem hi] using q
  obtain ⟨i0, ei0⟩ := is_v y2
  obtain rfl : u0 = (.int i0) := Option.some.inj ei0
  obtain ⟨y1, y2⟩ := and_e hn
  obtain ⟨o3, ev4, S5, E6⟩ := own_sta y1 (Or.inr ⟨(w7 hw), (w8 hw)⟩)
  obtain ⟨y7, y8⟩ := and_e y2
  obtain ⟨o9, ev10, S11, E12⟩ := own_sta y7 (Or.inr ⟨(w7 hw), (w10 hw)⟩)
  obtain ⟨y13, y14⟩ := and_e y8
  have F15 := own_fldI ev4 y13
  obtain ⟨y16, y17⟩ := and_e y14
  have F18 := own_fldI ev10 y16
  obtain ⟨y19, y20⟩ := and_e y17
  obtain ⟨o21, ev22, S23, E24⟩ := own_sta y19 (Or.inr ⟨(w7 hw), (w27 hw)⟩)
  obtain ⟨y25, y26⟩ := and_e y20
  have F27 := own_fldI ev22 y25
  obtain ⟨y28, y29⟩ := and_e y26
  obtain ⟨o30, ev31, S32, E33⟩ := own_sta y28 (Or.inr ⟨(w7 hw), (w29 hw)⟩)
  obtain ⟨y34, y35⟩ := and_e y29
  have F36 := own_fldI ev31 y34
  obtain ⟨y37, y38⟩ := and_e y35
  obtain ⟨o39, ev40, S41, E42⟩ := own_sta y37 (Or.inr ⟨(w7 hw), (w31 hw)⟩)
  obtain ⟨y43, y44⟩ := and_e y38
  obtain ⟨o45, ev46, S47, E48⟩ := own_sta y43 (Or.inr ⟨(w7 hw), (w33 hw)⟩)
  obtain ⟨y49, y50⟩ := and_e y44
  have F51 := own_fldI ev40 y49
  obtain ⟨y52, y53⟩ := and_e y50
  have F54 := own_fldI ev46 y52
  obtain ⟨y55, y56⟩ := and_e y53
  obtain ⟨o57, ev58, S59, E60⟩ := own_sta y55 (Or.inr ⟨(w7 hw), (w36 hw)⟩)
  obtain ⟨y61, y62⟩ := and_e y56
  have F63 := own_fldI ev58 y61
  obtain ⟨y64, y65⟩ := and_e y62
  obtain ⟨o66, ev67, S68, E69⟩ := own_sta y64 (Or.inr ⟨(w7 hw), (w38 hw)⟩)
  obtain ⟨y70, y71⟩ := and_e y65
  have F72 := own_fldI ev67 y70
  obtain ⟨y73, y74⟩ := and_e y71
  obtain ⟨o75, ev76, S77, E78⟩ := own_sta y73 (Or.inr ⟨(w7 hw), (w40 hw)⟩)
  obtain ⟨y79, y80⟩ := and_e y74
  have F81 := own_fldI ev76 y79
  obtain ⟨y82, y83⟩ := and_e y80
  obtain ⟨o84, ev85, S86, E87⟩ := own_sta y82 (Or.inr ⟨(w7 hw), (w42 hw)⟩)
  obtain ⟨y88, y89⟩ := and_e y83
  have F90 := own_fldI ev85 y88
  obtain ⟨y91, y92⟩ := and_e y89
  obtain ⟨o93, ev94, S95, E96⟩ := own_sta y91 (Or.inr ⟨(w7 hw), (w44 hw)⟩)
  obtain ⟨y97, y98⟩ := and_e y92
  have F99 := own_fldI ev94 y97
  obtain ⟨y100, y101⟩ := and_e y98
  obtain ⟨o102, ev103, S104, E105⟩ := own_sta y100 (Or.inr ⟨(w7 hw), (w46 hw)⟩)
  obtain ⟨y106, y107⟩ := and_e y101
  have F108 := own_fldI ev103 y106
  obtain ⟨y109, y110⟩ := and_e y107
  obtain ⟨o111, ev112, S113, E114⟩ := own_sta y109 (Or.inr ⟨(w7 hw), (w48 hw)⟩)
  obtain ⟨y115, y116⟩ := and_e y110
  have F117 := own_fldI ev112 y115
  obtain ⟨y118, y119⟩ := and_e y116
  obtain ⟨o120, ev121, S122, E123⟩ := own_sta y118 (Or.inr ⟨(w7 hw), (w50 hw)⟩)
  obtain ⟨y124, y125⟩ := and_e y119
  have F126 := own_fldI ev121 y124
  obtain ⟨y127, y128⟩ := and_e y125
  obtain ⟨o129, ev130, S131, E132⟩ := own_sta y127 (Or.inr ⟨(w7 hw), (w52 hw)⟩)
  obtain ⟨y133, y134⟩ := and_e y128
  have F135 := own_fldI ev130 y133
  obtain ⟨y136, y137⟩ := and_e y134
  obtain ⟨o138, ev139, S140, E141⟩ := own_sta y136 (Or.inr ⟨(w7 hw), (w54 hw)⟩)
  obtain ⟨y142, y143⟩ := and_e y137
  have F144 := own_fldI ev139 y142
  obtain ⟨y145, y146⟩ := and_e y143
  obtain ⟨o147, ev148, S149, E150⟩ := own_sta y145 (Or.inr ⟨(w7 hw), (w56 hw)⟩)
  obtain ⟨y151, y152⟩ := and_e y146
  have F153 := own_fldI ev148 y151
  obtain ⟨y154, y155⟩ := and_e y152
  obtain ⟨o156, ev157, S158, E159⟩ := own_sta y154 (Or.inr ⟨(w7 hw), (w58 hw)⟩)
  have F160 := own_fldI ev157 y155
  have hM := rmLaw (l := l) hw (p0 := i0) (Old.start s) (show Wd s o3 o9 o21 o30 o39 o45 o57 o66 o75 o84 o93 o102 o111 o120 o129 o138 o147 o156 from ⟨S5, E6, S11, E12, F15, F18, S23, E24, F27, S32, E33, F36, S41, E42, S47, E48, F51, F54, S59, E60, F63, S68, E69, F72, S77, E78, F81, S86, E87, F90, S95, E96, F99, S104, E105, F108, S113, E114, F117, S122, E123, F126, S131, E132, F135, S140, E141, F144, S149, E150, F153, S158, E159, F160⟩)
  obtain ⟨n, o, h1, h2, h3, _, L, rfl, ⟨N, _, rfl, rfl, -⟩, hq⟩ := hM tables_1 p e ha hc hk s m _ below hf ((Spec.applies_iff_loose hf).mp happ).1 ⟨rfl, State.Warmed39.refl s, rfl⟩ trivial
  refine ⟨n, _, h1, h2, h3, hpost _ _ _ _ _ _ ⟨Cond.after_iff.mpr rfl, Cond.after_iff.mpr (eq_i res_at (Term.int_eval (1)) rfl), trivial⟩ ⟨hq.1, hq.2.1, (hq.2.2.sift fun y hy => Or.inr (N y hy)).mono (by decide) (by decide)⟩⟩
theorem main_1_1 : Claimed_1_1 := comes_1 fun _ _ _ _ _ _ h hF => ⟨h.1, hF⟩
theorem main_1_2 : Claimed_1_2 := comes_1 fun _ _ _ _ _ _ h hF => ⟨h.2.1, hF⟩
end Jvm.Pilot.@@N@@
namespace Jvm.Pilot.@@N@@
open Jvm Jvm.ClassFile Sem Op Lib Jvm.Free Jvm.Stand Jvm.Pilot.@@N@@.Jvm.D
/-! MADE BY PROGRAM (witnessworld.py) out of the Statement's table words and the real class files: 12 classes; the members and pool entries that the words name. The judged class is class 1, her method 2. -/
namespace start1
open Jvm.ClassFile
def u (s : String) : CpInfo := .utf8 (stringToUtf16 s)
/-- a pool by its gaps: so many unusable entries, then the entry; so many at the end -/
def gap : Nat → List CpInfo → List CpInfo
  | 0, r => r
  | n + 1, r => .unusable :: gap n r
def poolList (es : List (Nat × CpInfo)) (last : Nat) : List CpInfo := es.foldr (fun e r => gap e.1 (e.2 :: r)) (gap last [])
def pool (es : List (Nat × CpInfo)) (last : Nat) : Array CpInfo := ⟨poolList es last⟩
def fileOf (pool : Array CpInfo) (this : Nat) (attrs : Array Attribute := #[]) (ms : Array MethodInfo := #[]) (fl : Nat := 33) (sup : Nat := 0) (ifs : Array Nat := #[]) (fds : Array FieldInfo := #[]) : ClassFile where
  minorVersion := 0
  majorVersion := 65
  constantPool := pool
  accessFlags := fl
  thisClass := this
  superClass := sup
  interfaces := ifs
  fields := fds
  methods := ms
  attributes := attrs
def plain (name : String) (sup : Option ClassId) : Class where
  name := name
  kind := .ordinary
  loader := none
  accessFlags := 33
  super := sup
  interfaces := #[]
  cf := none
  fields := #[]
  methods := #[]
  instanceTypes := #[]
  staticTypes := #[]
  resolved := #[]
  callSites := []
  init := .initialized
  statics := none
  mirror := none

def pool0 : Array CpInfo := pool [(5, u "<init>"), (0, u "()V"), (1, .class_ 10), (1, u "java/lang/Object")] 113

def k0m0 : Method := { name := "<init>", desc := "()V", sig := { parameters := [], returnType := none }, accessFlags := 1, code := none }
/-- java/lang/Object -/
def k0 : Class := { plain "java/lang/Object" none with
  accessFlags := 33
  interfaces := #[]
  cf := some (fileOf pool0 8 #[] #[{ accessFlags := 1, nameIndex := 5, descriptorIndex := 6, attributes := #[] }] 33 0 #[] #[])
  fields := #[]
  methods := #[k0m0]
  instanceTypes := #[]
  staticTypes := #[]
  resolved := Array.replicate 124 none
  statics := none }

def pool1 : Array CpInfo := pool [(2, .class_ 4), (1, u "java/lang/Object"), (0, u "<init>"), (0, u "()V"), (0, .fieldref 8 9), (0, .class_ 10), (0, .nameAndType 11 12), (0, u "com/example/sober_repository/soberrepository/DerivedName$Operator"), (0, u "EQUALS"), (0, u "Lcom/example/sober_repository/soberrepository/DerivedName$Operator;"), (0, .fieldref 8 14), (0, .nameAndType 15 12), (0, u "NOT"), (0, .fieldref 8 17), (0, .nameAndType 18 12), (0, u "GREATER_THAN"), (0, .fieldref 8 20), (0, .nameAndType 21 12), (0, u "GREATER_THAN_EQUAL"), (0, .fieldref 8 23), (0, .nameAndType 24 12), (0, u "LESS_THAN"), (0, .fieldref 8 26), (0, .nameAndType 27 12), (0, u "LESS_THAN_EQUAL"), (0, .fieldref 8 29), (0, .nameAndType 30 12), (0, u "BETWEEN"), (0, .fieldref 8 32), (0, .nameAndType 33 12), (0, u "IS_NULL"), (0, .fieldref 8 35), (0, .nameAndType 36 12), (0, u "IS_NOT_NULL"), (0, .fieldref 8 38), (0, .nameAndType 39 12), (0, u "IN"), (0, .fieldref 8 41), (0, .nameAndType 42 12), (0, u "NOT_IN"), (0, .fieldref 8 44), (0, .nameAndType 45 12), (0, u "TRUE"), (0, .fieldref 8 47), (0, .nameAndType 48 12), (0, u "FALSE"), (0, .fieldref 8 50), (0, .nameAndType 51 12), (0, u "STARTING_WITH"), (0, .fieldref 8 53), (0, .nameAndType 54 12), (0, u "ENDING_WITH"), (0, .fieldref 8 56), (0, .nameAndType 57 12), (0, u "CONTAINING"), (0, .fieldref 8 59), (0, .nameAndType 60 12), (0, u "LIKE"), (0, .fieldref 8 62), (0, .nameAndType 63 12), (0, u "NOT_LIKE"), (0, .integer 2147483647), (0, .methodref 66 67), (0, .class_ 68), (0, .nameAndType 69 70), (0, u "com/example/sober_repository/soberrepository/OperatorForNullPinLaw"), (0, u "pick"), (0, u "(I)Lcom/example/sober_repository/soberrepository/DerivedName$Operator;"), (0, .methodref 8 72), (0, .nameAndType 73 74), (0, u "forNull"), (0, u "()Lcom/example/sober_repository/soberrepository/DerivedName$Operator;"), (3, u "law"), (0, u "(I)Z")] 8

def k1m0 : Method := { name := "<init>", desc := "()V", sig := { parameters := [], returnType := none }, accessFlags := 1, code := none }
def k1c1 : Code := { maxStack := 2, maxLocals := 1, code := method_2_code, exceptionTable := #[], attributes := #[] }
def k1m1 : Method := { name := "pick", desc := "(I)Lcom/example/sober_repository/soberrepository/DerivedName$Operator;", sig := { parameters := [.int], returnType := some (.object "com/example/sober_repository/soberrepository/DerivedName$Operator") }, accessFlags := 10, code := some k1c1 }
def k1c2 : Code := { maxStack := 4, maxLocals := 6, code := code, exceptionTable := #[], attributes := #[] }
def k1m2 : Method := { name := "law", desc := "(I)Z", sig := { parameters := [.int], returnType := some .boolean }, accessFlags := 9, code := some k1c2 }
/-- com/example/sober_repository/soberrepository/OperatorForNullPinLaw -/
def k1 : Class := { plain "com/example/sober_repository/soberrepository/OperatorForNullPinLaw" (some 0) with
  accessFlags := 49
  interfaces := #[]
  cf := some (fileOf pool1 66 #[] #[{ accessFlags := 1, nameIndex := 5, descriptorIndex := 6, attributes := #[] }, { accessFlags := 10, nameIndex := 69, descriptorIndex := 70, attributes := #[] }, { accessFlags := 9, nameIndex := 78, descriptorIndex := 79, attributes := #[] }] 49 2 #[] #[])
  fields := #[]
  methods := #[k1m0, k1m1, k1m2]
  instanceTypes := #[]
  staticTypes := #[]
  resolved := Array.replicate 88 none
  statics := none }

def pool2 : Array CpInfo := pool [(1, .class_ 2), (0, u "java/lang/constant/Constable"), (0, .class_ 4), (0, u "java/lang/Object")] 6

/-- java/lang/constant/Constable -/
def k2 : Class := { plain "java/lang/constant/Constable" (some 0) with
  accessFlags := 1537
  interfaces := #[]
  cf := some (fileOf pool2 1 #[] #[] 1537 3 #[] #[])
  fields := #[]
  methods := #[]
  instanceTypes := #[]
  staticTypes := #[]
  resolved := Array.replicate 11 none
  statics := none }

def pool3 : Array CpInfo := pool [(1, .class_ 2), (0, u "java/lang/Comparable"), (0, .class_ 4), (0, u "java/lang/Object")] 7

/-- java/lang/Comparable -/
def k3 : Class := { plain "java/lang/Comparable" (some 0) with
  accessFlags := 1537
  interfaces := #[]
  cf := some (fileOf pool3 1 #[] #[] 1537 3 #[] #[])
  fields := #[]
  methods := #[]
  instanceTypes := #[]
  staticTypes := #[]
  resolved := Array.replicate 12 none
  statics := none }

def pool4 : Array CpInfo := pool [(1, .class_ 2), (0, u "java/io/Serializable"), (0, .class_ 4), (0, u "java/lang/Object")] 2

/-- java/io/Serializable -/
def k4 : Class := { plain "java/io/Serializable" (some 0) with
  accessFlags := 1537
  interfaces := #[]
  cf := some (fileOf pool4 1 #[] #[] 1537 3 #[] #[])
  fields := #[]
  methods := #[]
  instanceTypes := #[]
  staticTypes := #[]
  resolved := Array.replicate 7 none
  statics := none }

def pool5 : Array CpInfo := pool [(2, .class_ 4), (1, u "java/lang/Enum"), (0, u "name"), (0, u "Ljava/lang/String;"), (0, .fieldref 2 8), (0, .nameAndType 9 10), (0, u "ordinal"), (0, u "I"), (1, .class_ 14), (1, u "java/lang/Object"), (4, u "hash"), (86, .class_ 108), (1, u "java/lang/Enum$EnumDesc"), (2, .class_ 112), (0, u "java/lang/constant/Constable"), (0, .class_ 114), (0, u "java/lang/Comparable"), (0, .class_ 116), (0, u "java/io/Serializable"), (9, u "()I")] 77

def k5c0 : Code := { maxStack := 1, maxLocals := 1, code := jdk_37_method_2_code, exceptionTable := #[], attributes := #[] }
def k5m0 : Method := { name := "ordinal", desc := "()I", sig := { parameters := [], returnType := some .int }, accessFlags := 17, code := some k5c0 }
/-- java/lang/Enum -/
def k5 : Class := { plain "java/lang/Enum" (some 0) with
  accessFlags := 1057
  interfaces := #[2, 3, 4]
  cf := some (fileOf pool5 2 #[.nestMembers #[106]] #[{ accessFlags := 17, nameIndex := 9, descriptorIndex := 126, attributes := #[] }] 1057 12 #[111, 113, 115] #[{ accessFlags := 18, nameIndex := 5, descriptorIndex := 6, attributes := #[] }, { accessFlags := 18, nameIndex := 9, descriptorIndex := 10, attributes := #[] }, { accessFlags := 2, nameIndex := 19, descriptorIndex := 10, attributes := #[] }])
  fields := #[{ name := "name", type := (.object "java/lang/String"), accessFlags := 18, slot := 0, constantValue := 0 }, { name := "ordinal", type := .int, accessFlags := 18, slot := 1, constantValue := 0 }, { name := "hash", type := .int, accessFlags := 2, slot := 2, constantValue := 0 }]
  methods := #[k5m0]
  instanceTypes := #[(.object "java/lang/String"), .int, .int]
  staticTypes := #[]
  resolved := Array.replicate 204 none
  statics := none }

def pool6 : Array CpInfo := pool [(1, .class_ 2), (0, u "com/example/sober_repository/soberrepository/DerivedName$Operator"), (2, u "EQUALS"), (0, u "Lcom/example/sober_repository/soberrepository/DerivedName$Operator;"), (2, u "NOT"), (2, u "GREATER_THAN"), (2, u "GREATER_THAN_EQUAL"), (2, u "LESS_THAN"), (2, u "LESS_THAN_EQUAL"), (2, u "BETWEEN"), (0, .fieldref 1 26), (0, .nameAndType 27 6), (0, u "IS_NULL"), (0, .fieldref 1 29), (0, .nameAndType 30 6), (0, u "IS_NOT_NULL"), (2, u "IN"), (2, u "NOT_IN"), (2, u "TRUE"), (2, u "FALSE"), (2, u "STARTING_WITH"), (2, u "ENDING_WITH"), (2, u "CONTAINING"), (2, u "LIKE"), (2, u "NOT_LIKE"), (2, u "$VALUES"), (0, u "[Lcom/example/sober_repository/soberrepository/DerivedName$Operator;"), (6, .class_ 70), (1, u "java/lang/Enum"), (11, u "_arguments"), (0, u "I"), (2, u "_collection"), (0, u "Z"), (2, u "_propertyType"), (0, u "Ljava/lang/Class;"), (8, u "_spellings"), (0, u "Ljava/util/List;"), (0, .methodref 1 103), (0, .nameAndType 104 105), (0, u "ordinal"), (0, u "()I"), (137, u "forNull"), (0, u "()Lcom/example/sober_repository/soberrepository/DerivedName$Operator;"), (9, .class_ 255), (0, u "com/example/sober_repository/soberrepository/DerivedName")] 2

def k6c0 : Code := { maxStack := 1, maxLocals := 2, code := prog_12_method_8_code, exceptionTable := #[], attributes := #[] }
def k6m0 : Method := { name := "forNull", desc := "()Lcom/example/sober_repository/soberrepository/DerivedName$Operator;", sig := { parameters := [], returnType := some (.object "com/example/sober_repository/soberrepository/DerivedName$Operator") }, accessFlags := 0, code := some k6c0 }
/-- com/example/sober_repository/soberrepository/DerivedName$Operator -/
def k6 : Class := { plain "com/example/sober_repository/soberrepository/DerivedName$Operator" (some 5) with
  accessFlags := 16432
  interfaces := #[]
  cf := some (fileOf pool6 1 #[.nestHost 254] #[{ accessFlags := 0, nameIndex := 243, descriptorIndex := 244, attributes := #[] }] 16432 68 #[] #[{ accessFlags := 16409, nameIndex := 5, descriptorIndex := 6, attributes := #[] }, { accessFlags := 16409, nameIndex := 9, descriptorIndex := 6, attributes := #[] }, { accessFlags := 16409, nameIndex := 12, descriptorIndex := 6, attributes := #[] }, { accessFlags := 16409, nameIndex := 15, descriptorIndex := 6, attributes := #[] }, { accessFlags := 16409, nameIndex := 18, descriptorIndex := 6, attributes := #[] }, { accessFlags := 16409, nameIndex := 21, descriptorIndex := 6, attributes := #[] }, { accessFlags := 16409, nameIndex := 24, descriptorIndex := 6, attributes := #[] }, { accessFlags := 16409, nameIndex := 27, descriptorIndex := 6, attributes := #[] }, { accessFlags := 16409, nameIndex := 30, descriptorIndex := 6, attributes := #[] }, { accessFlags := 16409, nameIndex := 33, descriptorIndex := 6, attributes := #[] }, { accessFlags := 16409, nameIndex := 36, descriptorIndex := 6, attributes := #[] }, { accessFlags := 16409, nameIndex := 39, descriptorIndex := 6, attributes := #[] }, { accessFlags := 16409, nameIndex := 42, descriptorIndex := 6, attributes := #[] }, { accessFlags := 16409, nameIndex := 45, descriptorIndex := 6, attributes := #[] }, { accessFlags := 16409, nameIndex := 48, descriptorIndex := 6, attributes := #[] }, { accessFlags := 16409, nameIndex := 51, descriptorIndex := 6, attributes := #[] }, { accessFlags := 16409, nameIndex := 54, descriptorIndex := 6, attributes := #[] }, { accessFlags := 16409, nameIndex := 57, descriptorIndex := 6, attributes := #[] }, { accessFlags := 18, nameIndex := 82, descriptorIndex := 83, attributes := #[] }, { accessFlags := 18, nameIndex := 86, descriptorIndex := 87, attributes := #[] }, { accessFlags := 18, nameIndex := 90, descriptorIndex := 91, attributes := #[] }, { accessFlags := 18, nameIndex := 100, descriptorIndex := 101, attributes := #[] }, { accessFlags := 4122, nameIndex := 60, descriptorIndex := 61, attributes := #[] }])
  fields := #[{ name := "EQUALS", type := (.object "com/example/sober_repository/soberrepository/DerivedName$Operator"), accessFlags := 16409, slot := 0, constantValue := 0 }, { name := "NOT", type := (.object "com/example/sober_repository/soberrepository/DerivedName$Operator"), accessFlags := 16409, slot := 1, constantValue := 0 }, { name := "GREATER_THAN", type := (.object "com/example/sober_repository/soberrepository/DerivedName$Operator"), accessFlags := 16409, slot := 2, constantValue := 0 }, { name := "GREATER_THAN_EQUAL", type := (.object "com/example/sober_repository/soberrepository/DerivedName$Operator"), accessFlags := 16409, slot := 3, constantValue := 0 }, { name := "LESS_THAN", type := (.object "com/example/sober_repository/soberrepository/DerivedName$Operator"), accessFlags := 16409, slot := 4, constantValue := 0 }, { name := "LESS_THAN_EQUAL", type := (.object "com/example/sober_repository/soberrepository/DerivedName$Operator"), accessFlags := 16409, slot := 5, constantValue := 0 }, { name := "BETWEEN", type := (.object "com/example/sober_repository/soberrepository/DerivedName$Operator"), accessFlags := 16409, slot := 6, constantValue := 0 }, { name := "IS_NULL", type := (.object "com/example/sober_repository/soberrepository/DerivedName$Operator"), accessFlags := 16409, slot := 7, constantValue := 0 }, { name := "IS_NOT_NULL", type := (.object "com/example/sober_repository/soberrepository/DerivedName$Operator"), accessFlags := 16409, slot := 8, constantValue := 0 }, { name := "IN", type := (.object "com/example/sober_repository/soberrepository/DerivedName$Operator"), accessFlags := 16409, slot := 9, constantValue := 0 }, { name := "NOT_IN", type := (.object "com/example/sober_repository/soberrepository/DerivedName$Operator"), accessFlags := 16409, slot := 10, constantValue := 0 }, { name := "TRUE", type := (.object "com/example/sober_repository/soberrepository/DerivedName$Operator"), accessFlags := 16409, slot := 11, constantValue := 0 }, { name := "FALSE", type := (.object "com/example/sober_repository/soberrepository/DerivedName$Operator"), accessFlags := 16409, slot := 12, constantValue := 0 }, { name := "STARTING_WITH", type := (.object "com/example/sober_repository/soberrepository/DerivedName$Operator"), accessFlags := 16409, slot := 13, constantValue := 0 }, { name := "ENDING_WITH", type := (.object "com/example/sober_repository/soberrepository/DerivedName$Operator"), accessFlags := 16409, slot := 14, constantValue := 0 }, { name := "CONTAINING", type := (.object "com/example/sober_repository/soberrepository/DerivedName$Operator"), accessFlags := 16409, slot := 15, constantValue := 0 }, { name := "LIKE", type := (.object "com/example/sober_repository/soberrepository/DerivedName$Operator"), accessFlags := 16409, slot := 16, constantValue := 0 }, { name := "NOT_LIKE", type := (.object "com/example/sober_repository/soberrepository/DerivedName$Operator"), accessFlags := 16409, slot := 17, constantValue := 0 }, { name := "_arguments", type := .int, accessFlags := 18, slot := 3, constantValue := 0 }, { name := "_collection", type := .boolean, accessFlags := 18, slot := 4, constantValue := 0 }, { name := "_propertyType", type := (.object "java/lang/Class"), accessFlags := 18, slot := 5, constantValue := 0 }, { name := "_spellings", type := (.object "java/util/List"), accessFlags := 18, slot := 6, constantValue := 0 }, { name := "$VALUES", type := (.array (.object "com/example/sober_repository/soberrepository/DerivedName$Operator")), accessFlags := 4122, slot := 18, constantValue := 0 }]
  methods := #[k6m0]
  instanceTypes := #[(.object "java/lang/String"), .int, .int, .int, .boolean, (.object "java/lang/Class"), (.object "java/util/List")]
  staticTypes := #[(.object "com/example/sober_repository/soberrepository/DerivedName$Operator"), (.object "com/example/sober_repository/soberrepository/DerivedName$Operator"), (.object "com/example/sober_repository/soberrepository/DerivedName$Operator"), (.object "com/example/sober_repository/soberrepository/DerivedName$Operator"), (.object "com/example/sober_repository/soberrepository/DerivedName$Operator"), (.object "com/example/sober_repository/soberrepository/DerivedName$Operator"), (.object "com/example/sober_repository/soberrepository/DerivedName$Operator"), (.object "com/example/sober_repository/soberrepository/DerivedName$Operator"), (.object "com/example/sober_repository/soberrepository/DerivedName$Operator"), (.object "com/example/sober_repository/soberrepository/DerivedName$Operator"), (.object "com/example/sober_repository/soberrepository/DerivedName$Operator"), (.object "com/example/sober_repository/soberrepository/DerivedName$Operator"), (.object "com/example/sober_repository/soberrepository/DerivedName$Operator"), (.object "com/example/sober_repository/soberrepository/DerivedName$Operator"), (.object "com/example/sober_repository/soberrepository/DerivedName$Operator"), (.object "com/example/sober_repository/soberrepository/DerivedName$Operator"), (.object "com/example/sober_repository/soberrepository/DerivedName$Operator"), (.object "com/example/sober_repository/soberrepository/DerivedName$Operator"), (.array (.object "com/example/sober_repository/soberrepository/DerivedName$Operator"))]
  resolved := Array.replicate 258 none
  statics := some 0 }

def pool7 : Array CpInfo := pool [(1, u "java/lang/Cloneable"), (0, .class_ 1), (0, u "java/lang/Object"), (0, .class_ 3)] 3

/-- java/lang/Cloneable -/
def k7 : Class := { plain "java/lang/Cloneable" (some 0) with
  accessFlags := 1537
  interfaces := #[]
  cf := some (fileOf pool7 2 #[] #[] 1537 4 #[] #[])
  fields := #[]
  methods := #[]
  instanceTypes := #[]
  staticTypes := #[]
  resolved := Array.replicate 8 none
  statics := none }

/-- the primitive byte -/
def k8 : Class := { plain "byte" none with kind := .primitive 'B', accessFlags := 0x411 }
/-- [B -/
def k9 : Class := { plain "[B" (some 0) with kind := .array 8 .byte, interfaces := #[7, 4], accessFlags := 1041 }

/-- the primitive int -/
def k10 : Class := { plain "int" none with kind := .primitive 'I', accessFlags := 0x411 }
/-- [I -/
def k11 : Class := { plain "[I" (some 0) with kind := .array 10 .int, interfaces := #[7, 4], accessFlags := 1041 }

def heap : Heap := #[{ cls := 6, slots := #[.ref 1, .ref 5, .ref 4, .ref 3, .ref 8, .ref 17, .ref 14, .ref 2, .ref 6, .ref 18, .ref 12, .ref 7, .ref 9, .ref 13, .ref 16, .ref 11, .ref 10, .ref 15, .null], vm := .statics 6 },
  { cls := 6, slots := #[.null, .int 0, .int 0, .int 0, .int 0, .null, .null], vm := .none },
  { cls := 6, slots := #[.null, .int 7, .int 0, .int 0, .int 0, .null, .null], vm := .none },
  { cls := 6, slots := #[.null, .int 3, .int 0, .int 0, .int 0, .null, .null], vm := .none },
  { cls := 6, slots := #[.null, .int 2, .int 0, .int 0, .int 0, .null, .null], vm := .none },
  { cls := 6, slots := #[.null, .int 1, .int 0, .int 0, .int 0, .null, .null], vm := .none },
  { cls := 6, slots := #[.null, .int 8, .int 0, .int 0, .int 0, .null, .null], vm := .none },
  { cls := 6, slots := #[.null, .int 11, .int 0, .int 0, .int 0, .null, .null], vm := .none },
  { cls := 6, slots := #[.null, .int 4, .int 0, .int 0, .int 0, .null, .null], vm := .none },
  { cls := 6, slots := #[.null, .int 12, .int 0, .int 0, .int 0, .null, .null], vm := .none },
  { cls := 6, slots := #[.null, .int 16, .int 0, .int 0, .int 0, .null, .null], vm := .none },
  { cls := 6, slots := #[.null, .int 15, .int 0, .int 0, .int 0, .null, .null], vm := .none },
  { cls := 6, slots := #[.null, .int 10, .int 0, .int 0, .int 0, .null, .null], vm := .none },
  { cls := 6, slots := #[.null, .int 13, .int 0, .int 0, .int 0, .null, .null], vm := .none },
  { cls := 6, slots := #[.null, .int 6, .int 0, .int 0, .int 0, .null, .null], vm := .none },
  { cls := 6, slots := #[.null, .int 17, .int 0, .int 0, .int 0, .null, .null], vm := .none },
  { cls := 6, slots := #[.null, .int 14, .int 0, .int 0, .int 0, .null, .null], vm := .none },
  { cls := 6, slots := #[.null, .int 5, .int 0, .int 0, .int 0, .null, .null], vm := .none },
  { cls := 6, slots := #[.null, .int 9, .int 0, .int 0, .int 0, .null, .null], vm := .none }]
def classes : Array Class := #[k0, k1, k2, k3, k4, k5, k6, k7, k8, k9, k10, k11]
def interned : List (Array UInt16 × Addr) := []
def slotsUsed : Nat := 145
def theMethod : MethodId := ⟨1, 2⟩
def args0 : Array Value := #[.int 5]
def aboutOver (below : List Frame) : State where
  vm := { classes := classes, interned := interned.toArray }
  heap := heap
  slotsUsed := slotsUsed
  threads := #[{ frames := .invoking theMethod args0 :: below }]
def below0 : List Frame := [.native { method := ⟨0, 0⟩, args := #[] }]
def about1 : State := aboutOver below0
def p0 : Program := .bare "" "" ""
def e0 : Env := launch0.env 0 0 0
theorem w_frames : about1.frames = Frame.invoking theMethod args0 :: below0 := rfl
set_option maxRecDepth 65536 in
theorem w_args : argsFit about1.vm theMethod args0 = true := by decide +kernel
set_option maxRecDepth 65536 in
theorem w_heap : heapFits about1 = true := by decide +kernel
set_option maxRecDepth 65536 in
theorem w_runnable : about1.curStatus? = some .runnable := by decide +kernel
set_option maxRecDepth 65536 in
theorem w_alone : about1.alone = true := by decide +kernel
set_option maxRecDepth 65536 in
theorem w_named : about1.methodNamed? x = some theMethod := by decide +kernel
set_option maxRecDepth 65536 in
theorem w_hears : about1.hears theMethod below0 = true := by decide +kernel
set_option maxRecDepth 65536 in
theorem w_ripe : about1.ripe theMethod args0 below0 = true := by decide +kernel
theorem w_running : about1.status = .running := rfl
set_option maxRecDepth 65536 in
theorem w_room : about1.hasRoom e0.platform room_1 = true :=
  launch0.hasRoom_least _ room_1 (by decide +kernel) (by decide +kernel) (by decide +kernel) (by decide +kernel) (by decide +kernel) (by decide +kernel)
theorem allAtoms_all (ts : List Jvm.Cond) (a : Array Jvm.Value) (st : Jvm.State) : (allAtoms ts).before a st = ts.all (fun c => c.before a st) := by
  induction ts with
  | nil => rfl
  | cons c t ih =>
    show (Jvm.Cond.and c (allAtoms t)).before a st = _
    rw [Jvm.Cond.before_and, ih, List.all_cons]
def words1 : List Jvm.Cond := Jvm.Cond.code x code maxLocals ret :: tables_1
/-- a 'code' word, met by the world's own term for the bytes: nothing is compared byte by byte -/
theorem code_word {y : MethodName} {bytes : ByteArray} {mx : Nat} {rt : Option FieldType} {a : Array Value} {s : State} {m : MethodId} {meth : Method} {c : Code} (h1 : s.methodNamed? y = some m) (h2 : s.vm.method? m = some meth) (h3 : meth.code = some c) (h4 : c.code = bytes)
    (h5 : (c.maxLocals == mx && c.exceptionTable.isEmpty && decide (c.maxStack ≤ mostOperands) && decide (meth.sig.returnType = rt) && !meth.locks && decide (parseMethodDescriptor y.desc = some meth.sig)) = true) : (Jvm.Cond.code y bytes mx rt).before a s = true := by
  simp only [Bool.and_eq_true, beq_iff_eq, Bool.not_eq_true', decide_eq_true_eq] at h5
  obtain ⟨⟨⟨⟨⟨g1, g2⟩, g3⟩, g4⟩, g5⟩, g6⟩ := h5
  simp [Cond.before, Cond.holds, Cond.value, h1, h2, h3, h4, g1, g2, g3, g4, g5, g6]
def isCode : Jvm.Cond → Bool
  | .code _ _ _ _ => true
  | _ => false
theorem all_split {L : List Jvm.Cond} {P : Jvm.Cond → Bool} (h1 : L.all (fun c => isCode c || P c) = true) (h2 : ∀ c ∈ L.filter isCode, P c = true) : L.all P = true := by
  refine List.all_eq_true.mpr fun c hc => ?_
  have h := List.all_eq_true.mp h1 c hc
  rcases Bool.eq_false_or_eq_true (isCode c) with hi | hi
  · exact h2 c (List.mem_filter.mpr ⟨hc, hi⟩)
  · simpa [hi] using h
set_option maxRecDepth 65536 in
theorem w_c0 : (Jvm.Cond.code x code maxLocals ret).before args0 about1 = true := code_word (m := ⟨1, 2⟩) (meth := k1m2) (c := k1c2) (by decide +kernel) rfl rfl rfl (by decide +kernel)
set_option maxRecDepth 65536 in
theorem w_c1 : (Jvm.Cond.code ({ cls := "com/example/sober_repository/soberrepository/OperatorForNullPinLaw", name := "pick", desc := "(I)Lcom/example/sober_repository/soberrepository/DerivedName$Operator;" } : Jvm.MethodName) method_2_code (1 : Nat) (Option.some (Jvm.ClassFile.FieldType.object "com/example/sober_repository/soberrepository/DerivedName$Operator"))).before args0 about1 = true := code_word (m := ⟨1, 1⟩) (meth := k1m1) (c := k1c1) (by decide +kernel) rfl rfl rfl (by decide +kernel)
set_option maxRecDepth 65536 in
theorem w_c2 : (Jvm.Cond.code ({ cls := "com/example/sober_repository/soberrepository/DerivedName$Operator", name := "forNull", desc := "()Lcom/example/sober_repository/soberrepository/DerivedName$Operator;" } : Jvm.MethodName) prog_12_method_8_code (2 : Nat) (Option.some (Jvm.ClassFile.FieldType.object "com/example/sober_repository/soberrepository/DerivedName$Operator"))).before args0 about1 = true := code_word (m := ⟨6, 0⟩) (meth := k6m0) (c := k6c0) (by decide +kernel) rfl rfl rfl (by decide +kernel)
set_option maxRecDepth 65536 in
theorem w_c3 : (Jvm.Cond.code ({ cls := "java/lang/Enum", name := "ordinal", desc := "()I" } : Jvm.MethodName) jdk_37_method_2_code (1 : Nat) (Option.some Jvm.ClassFile.FieldType.int)).before args0 about1 = true := code_word (m := ⟨5, 0⟩) (meth := k5m0) (c := k5c0) (by decide +kernel) rfl rfl rfl (by decide +kernel)
def codes1 : List Jvm.Cond := [Jvm.Cond.code x code maxLocals ret, Jvm.Cond.code ({ cls := "com/example/sober_repository/soberrepository/OperatorForNullPinLaw", name := "pick", desc := "(I)Lcom/example/sober_repository/soberrepository/DerivedName$Operator;" } : Jvm.MethodName) method_2_code (1 : Nat) (Option.some (Jvm.ClassFile.FieldType.object "com/example/sober_repository/soberrepository/DerivedName$Operator")), Jvm.Cond.code ({ cls := "com/example/sober_repository/soberrepository/DerivedName$Operator", name := "forNull", desc := "()Lcom/example/sober_repository/soberrepository/DerivedName$Operator;" } : Jvm.MethodName) prog_12_method_8_code (2 : Nat) (Option.some (Jvm.ClassFile.FieldType.object "com/example/sober_repository/soberrepository/DerivedName$Operator")), Jvm.Cond.code ({ cls := "java/lang/Enum", name := "ordinal", desc := "()I" } : Jvm.MethodName) jdk_37_method_2_code (1 : Nat) (Option.some Jvm.ClassFile.FieldType.int)]
set_option maxRecDepth 65536 in
theorem codes_eq : words1.filter isCode = codes1 := rfl
theorem w_codes : ∀ c ∈ words1.filter isCode, c.before args0 about1 = true := by
  rw [codes_eq]
  intro c hc
  simp only [codes1, List.mem_cons, List.not_mem_nil, or_false] at hc
  rcases hc with rfl | rfl | rfl | rfl
  · exact w_c0
  · exact w_c1
  · exact w_c2
  · exact w_c3
set_option maxRecDepth 65536 in
theorem w_t1 : (words1.take 24).all (fun c => isCode c || c.before args0 about1) = true := by decide +kernel
set_option maxRecDepth 65536 in
theorem w_t2 : ((words1.drop 24).take 24).all (fun c => isCode c || c.before args0 about1) = true := by decide +kernel
set_option maxRecDepth 65536 in
theorem w_t3 : ((words1.drop 24).drop 24).all (fun c => isCode c || c.before args0 about1) = true := by decide +kernel
theorem w_tables : (allAtoms (Jvm.Cond.code x code maxLocals ret :: tables_1)).before args0 about1 = true := by
  rw [allAtoms_all]
  show words1.all (fun c => c.before args0 about1) = true
  refine all_split ?_ w_codes
  rw [← List.take_append_drop 24 words1, List.all_append, w_t1, ← List.take_append_drop 24 (words1.drop 24), List.all_append, w_t2, w_t3]
  rfl
set_option maxRecDepth 65536 in
theorem w_case : (Jvm.Cond.and given_1 narrow_1).before args0 about1 = true := by decide +kernel
theorem w_applies : (headSpec (Jvm.Cond.code x code maxLocals ret :: tables_1) room_1).applies x e0.platform about1 = true :=
  (Spec.applies_iff w_frames).mpr ⟨w_running, w_runnable, w_alone, w_named, w_hears, w_ripe, w_room, w_tables⟩
theorem atStart : AtStart classFile x code maxLocals ret World_1 tables_1 room_1 Calls_1 rest_1 Pre_1 launch0 p0 e0 about1 theMethod args0 below0 :=
  ⟨lists_1, trivial, launch0.admits_env _ _ _, launch0.least_env, fairChoices_fair.cas, fairChoices_fair.clock, w_frames, w_args, w_heap, w_applies, trivial, trivial, w_case⟩
end start1
theorem witness_1 : WitnessClaimed_1 := ⟨start1.p0, start1.e0, start1.about1, start1.theMethod, start1.args0, start1.below0, start1.atStart⟩
end Jvm.Pilot.@@N@@
