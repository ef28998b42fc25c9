import JvmDerived
import JvmDerived.Pilot.@@N@@Statement
import JvmDerived.Pilot.@@N@@Code
set_option linter.unusedVariables false
set_option linter.unusedSimpArgs false
namespace Jvm.Pilot.@@N@@
open Jvm Jvm.ClassFile Sem Op Lib Jvm.Free Jvm.Stand Jvm.LawKit Jvm.RoadKit Bundle Jvm.Pilot.@@N@@.Jvm.D
/-! ## own kit: one walk of a body in continuation style; the library's step laws of one family behind it -/
section OwnKit
variable {p : Program} {l : Launch} {e : Env} {R : Room} {s : State} {m : MethodId} {args : Array Value} {below : List Frame} {meth : Method} {c : Code} {Z : State} {own : String} {bytes : ByteArray} {maxL : Nat} {ret : Option FieldType} {nm : String} {n0 km : Nat} {Q : Option Value → Heap → Prop} {RR : State → Outcome → Prop} {T : State} {h : Heap} {cells slots : Nat} {a0 : Array Value} {pc pc' : Nat} {Ls : Array Slot} {S : List Value}
def OwnGo (p : Program) (e : Env) (below : List Frame) (S : State) (RR : State → Outcome → Prop) : Prop :=
  ∃ s₂ o, Steps p.tables e below S s₂ ∧ s₂.status = .running ∧ Ended s₂ below o ∧ RR s₂ o
theorem own_step {S S' : State} (k : OwnGo p e below S' RR) (h : ∀ t, Steps p.tables e below S' t → Steps p.tables e below S t) : OwnGo p e below S RR := by
  obtain ⟨s₂, o, h1, h2⟩ := k
  exact ⟨s₂, o, h _ h1, h2⟩
/-- the context of one body: what holds all along its walk -/
def OwnCx (p : Program) (l : Launch) (e : Env) (R : Room) (s : State) (m : MethodId) (meth : Method) (c : Code) (Z : State) (own : String) (bytes : ByteArray) (maxL : Nat) (ret : Option FieldType) (nm : String) (n0 km : Nat) (Q : Option Value → Heap → Prop) (RR : State → Outcome → Prop) : Prop :=
  p.tables.exec = Jvm.exec ∧ c.code = bytes ∧ c.maxLocals = maxL ∧ Z.Warmed39 s.vm ∧ s.vm.findClass own = some m.cls ∧ meth.name = nm ∧ meth.sig.returnType = ret ∧ meth.locks = false ∧
  ∀ (U : State) (v : Option Value) (L : List Loc), Q v U.heap → km ≤ U.heap.size → Fr n0 L → s.WarmedH U.vm → s.sameButNew ({ U with vm := s.vm } : State) L R.cells R.slots → RR U (.returned v)
/-- where the walk stands: the state T, its heap h, so many cells and slots made -/
def OwnSt (p : Program) (l : Launch) (e : Env) (R : Room) (s : State) (m : MethodId) (args : Array Value) (below : List Frame) (meth : Method) (c : Code) (Z : State) (own : String) (bytes : ByteArray) (maxL : Nat) (ret : Option FieldType) (nm : String) (n0 km : Nat) (Q : Option Value → Heap → Prop) (RR : State → Outcome → Prop) (T : State) (h : Heap) (cells slots : Nat) : Prop :=
  OwnCx p l e R s m meth c Z own bytes maxL ret nm n0 km Q RR ∧ T.heap = h ∧ km ≤ h.size ∧ ∃ locs, Stand p l e R s m args below meth c T locs cells slots ∧ Fr n0 locs
/-- a body's contract: called with these arguments at the heap h it returns v and leaves a heap, with Q -/
def OwnMet (l : Launch) (Z : State) (y : MethodName) (bytes : ByteArray) (maxL : Nat) (ret : Option FieldType) (rm : Room) (as' : Array Value) (h : Heap) (n0 : Nat) (Q : Option Value → Heap → Prop) : Prop :=
  ∀ ws : List Jvm.Cond, MetFree l y (head1 (Jvm.Cond.code y bytes maxL ret :: ws) rm) (fun a U => a = as' ∧ Z.Warmed39 U.vm ∧ U.heap = h) (fun _ _ _ _ _ => True) (fun _ U o U' => ∃ v L, o = .returned v ∧ ((Q v U'.heap ∧ h.size ≤ U'.heap.size) ∧ Fr n0 L) ∧ FrameEnd U o U' L rm.cells rm.slots)
theorem own_body {y : MethodName} {rm : Room} {as' : Array Value} (hpl : plainFor y = true)
    (body : ∀ (p : Program) (e : Env) (s : State) (m : MethodId) (below : List Frame) (meth : Method) (c : Code) (s₁ : State) (RR : State → Outcome → Prop), OwnSt p l e rm s m as' below meth c Z y.cls bytes maxL ret y.name n0 0 Q RR s₁ h 0 0 → OwnGo p e below (s₁.setTop (entryFrame m as' maxL)) RR) :
    OwnMet l Z y bytes maxL ret rm as' h n0 Q := by
  intro ws
  refine MetFree.of_bodySF hpl hisR ?_
  intro p e s m args below meth c s₁ Bd hml0 hP hK
  obtain ⟨rfl, hZ, hh⟩ := hP
  refine body p e s m below meth c s₁ _ ⟨⟨Bd.exec, Bd.bytes, hml0, hZ, findClass_of_methodNamed Bd.named, (name_of_methodNamed Bd.named Bd.method).1, Bd.returns, Bd.notSynchronized, ?_⟩, by rw [← hh, Bd.state]; rfl, Nat.zero_le _, [], Stand.of_body Bd, Fr.nil n0⟩
  intro U v L hQ _ hN hW hs
  exact ⟨v, L, rfl, ⟨⟨hQ, by rw [← hh]; exact hs.2.1⟩, hN⟩, ⟨_, rfl⟩, hW, hs⟩
theorem own_enter {g g' : JFrame} (q : g = g') (k : OwnGo p e below (T.setTop g') RR) : OwnGo p e below (T.setTop g) RR := q ▸ k
theorem own_ret {v : Option Value} {g : State} (X : OwnSt p l e R s m args below meth c Z own bytes maxL ret nm n0 km Q RR T h cells slots) (hv : ret = none → v = none) (hQ : Q v h) (hc : cells ≤ R.cells) (hl : slots ≤ R.slots)
    (k : ∀ locs, Stand p l e R s m args below meth c T locs cells slots → ∀ fs, (∀ (f : JFrame) (acts : List Action), f.method = m → f.locked = none → f.entered = [] → (doReturn e (T.setTop f) acts v).1 = T.setFrames fs) → Steps p.tables e below g (T.setFrames fs)) : OwnGo p e below g RR := by
  obtain ⟨⟨hx, hby, hml, hZ, hown, hnm, hret, hlk, hR⟩, hh, hkm, locs, X0, N⟩ := X
  obtain ⟨fs, hr, hrun, hended, hW, hsame⟩ := X0.leave (v := v) (fun q => hv (hret ▸ q)) hlk
  exact ⟨_, _, k _ X0 fs hr, hrun, hended, hR _ _ _ (by show Q v T.heap; rw [hh]; exact hQ) (by show km ≤ T.heap.size; rw [hh]; exact hkm) N hW (hsame.mono hc hl)⟩
theorem own_retV (X : OwnSt p l e R s m args below meth c Z own bytes maxL none nm n0 km Q RR T h cells slots) (hd : decode bytes pc = .ok (.return_, 1)) (hQ : Q none h) (hc : cells ≤ R.cells) (hl : slots ≤ R.slots) : OwnGo p e below (T.setTop (mkF m pc Ls [])) RR := by
  refine own_ret X (fun _ => rfl) hQ hc hl fun locs X0 fs hr => ?_
  obtain ⟨⟨hx, hby, hml, hZ, hown, hnm, hret, hlk, hR⟩, hh, -⟩ := X
  exact X0.returnOut hx hret (hb hby hd) hr
theorem own_retI {z : Int32} {rest : List Value} (X : OwnSt p l e R s m args below meth c Z own bytes maxL (some .int) nm n0 km Q RR T h cells slots) (hd : decode bytes pc = .ok (.ireturn, 1)) (hQ : Q (some (.int z)) h) (hc : cells ≤ R.cells) (hl : slots ≤ R.slots) : OwnGo p e below (T.setTop (mkF m pc Ls (.int z :: rest))) RR := by
  refine own_ret X (fun q => nomatch q) hQ hc hl fun locs X0 fs hr => ?_
  obtain ⟨⟨hx, hby, hml, hZ, hown, hnm, hret, hlk, hR⟩, hh, -⟩ := X
  exact retOut X0 hx hret rfl (Or.inl ⟨rfl, Or.inl rfl, z, rfl⟩) (hb hby hd) hr
theorem own_retJ {z : Int64} {rest : List Value} (X : OwnSt p l e R s m args below meth c Z own bytes maxL (some .long) nm n0 km Q RR T h cells slots) (hd : decode bytes pc = .ok (.lreturn, 1)) (hQ : Q (some (.long z)) h) (hc : cells ≤ R.cells) (hl : slots ≤ R.slots) : OwnGo p e below (T.setTop (mkF m pc Ls (.long z :: rest))) RR := by
  refine own_ret X (fun q => nomatch q) hQ hc hl fun locs X0 fs hr => ?_
  obtain ⟨⟨hx, hby, hml, hZ, hown, hnm, hret, hlk, hR⟩, hh, -⟩ := X
  exact retOut X0 hx hret rfl (Or.inr (Or.inl ⟨rfl, rfl, z, rfl⟩)) (hb hby hd) hr
theorem own_retA {v : Value} {t : FieldType} {rest : List Value} (X : OwnSt p l e R s m args below meth c Z own bytes maxL (some t) nm n0 km Q RR T h cells slots) (ht : t.isReference = true) (hv : v.isRef = true) (hn : narrow t v = v) (hd : decode bytes pc = .ok (.areturn, 1)) (hQ : Q (some v) h) (hc : cells ≤ R.cells) (hl : slots ≤ R.slots) : OwnGo p e below (T.setTop (mkF m pc Ls (v :: rest))) RR := by
  refine own_ret X (fun q => nomatch q) hQ hc hl fun locs X0 fs hr => ?_
  obtain ⟨⟨hx, hby, hml, hZ, hown, hnm, hret, hlk, hR⟩, hh, -⟩ := X
  exact retOut X0 hx hret hn (Or.inr (Or.inr (Or.inr (Or.inr ⟨rfl, ht, hv⟩)))) (hb hby hd) hr
theorem own_retZ {z : Int32} {rest : List Value} (X : OwnSt p l e R s m args below meth c Z own bytes maxL (some .boolean) nm n0 km Q RR T h cells slots) (hd : decode bytes pc = .ok (.ireturn, 1)) (hz : z &&& 1 = z) (hQ : Q (some (.int z)) h) (hc : cells ≤ R.cells) (hl : slots ≤ R.slots) : OwnGo p e below (T.setTop (mkF m pc Ls (.int z :: rest))) RR := by
  refine own_ret X (fun q => nomatch q) hQ hc hl fun locs X0 fs hr => ?_
  obtain ⟨⟨hx, hby, hml, hZ, hown, hnm, hret, hlk, hR⟩, hh, -⟩ := X
  exact retOut X0 hx hret (by show Value.int (z &&& 1) = _; rw [hz]) (Or.inl ⟨rfl, Or.inr (Or.inl rfl), z, rfl⟩) (hb hby hd) hr
theorem OwnSt.here (X : OwnSt p l e R s m args below meth c Z own bytes maxL ret nm n0 km Q RR T h cells slots) : At T m c below := X.2.2.2.elim fun _ q => q.1.here
theorem OwnSt.hx (X : OwnSt p l e R s m args below meth c Z own bytes maxL ret nm n0 km Q RR T h cells slots) : p.tables.exec = Jvm.exec := X.1.1
theorem OwnSt.by' (X : OwnSt p l e R s m args below meth c Z own bytes maxL ret nm n0 km Q RR T h cells slots) : c.code = bytes := X.1.2.1
theorem OwnSt.hZ (X : OwnSt p l e R s m args below meth c Z own bytes maxL ret nm n0 km Q RR T h cells slots) : Z.Warmed39 s.vm := X.1.2.2.2.1
theorem own_aloadN {k : Fin 4} {v : Value} (X : OwnSt p l e R s m args below meth c Z own bytes maxL ret nm n0 km Q RR T h cells slots) (hd : decode bytes pc = .ok (.aload_n k, 1)) (hp : pc + 1 = pc') (hl : Ls[k.val]? = some (.val v)) (hv : v.isRef = true) (k : OwnGo p e below (T.setTop (mkF m pc' Ls (v :: S))) RR) : OwnGo p e below (T.setTop (mkF m pc Ls (S))) RR := by
  subst hp
  exact own_step k fun t k => XS.aloadN X.here X.hx rfl (hb X.by' hd) hl hv k
theorem own_aload {k : Nat} {v : Value} (X : OwnSt p l e R s m args below meth c Z own bytes maxL ret nm n0 km Q RR T h cells slots) (hd : decode bytes pc = .ok (.aload k, 2)) (hp : pc + 2 = pc') (hl : Ls[k]? = some (.val v)) (hv : v.isRef = true) (k : OwnGo p e below (T.setTop (mkF m pc' Ls (v :: S))) RR) : OwnGo p e below (T.setTop (mkF m pc Ls (S))) RR := by
  subst hp
  exact own_step k fun t k => XS.aload X.here X.hx rfl (hb X.by' hd) hl hv k
theorem own_iloadN {k : Fin 4} {v : Int32} (X : OwnSt p l e R s m args below meth c Z own bytes maxL ret nm n0 km Q RR T h cells slots) (hd : decode bytes pc = .ok (.iload_n k, 1)) (hp : pc + 1 = pc') (hl : Ls[k.val]? = some (.val (.int v))) (k : OwnGo p e below (T.setTop (mkF m pc' Ls (.int v :: S))) RR) : OwnGo p e below (T.setTop (mkF m pc Ls (S))) RR := by
  subst hp
  exact own_step k fun t k => XS.iloadN X.here X.hx rfl (hb X.by' hd) hl k
theorem own_iload {k : Nat} {v : Int32} (X : OwnSt p l e R s m args below meth c Z own bytes maxL ret nm n0 km Q RR T h cells slots) (hd : decode bytes pc = .ok (.iload k, 2)) (hp : pc + 2 = pc') (hl : Ls[k]? = some (.val (.int v))) (k : OwnGo p e below (T.setTop (mkF m pc' Ls (.int v :: S))) RR) : OwnGo p e below (T.setTop (mkF m pc Ls (S))) RR := by
  subst hp
  exact own_step k fun t k => XS.iload X.here X.hx rfl (hb X.by' hd) hl k
theorem own_lloadN {k : Fin 4} {v : Int64} (X : OwnSt p l e R s m args below meth c Z own bytes maxL ret nm n0 km Q RR T h cells slots) (hd : decode bytes pc = .ok (.lload_n k, 1)) (hp : pc + 1 = pc') (hl : Ls[k.val]? = some (.val (.long v))) (k : OwnGo p e below (T.setTop (mkF m pc' Ls (.long v :: S))) RR) : OwnGo p e below (T.setTop (mkF m pc Ls (S))) RR := by
  subst hp
  exact own_step k fun t k => XS.lloadN X.here X.hx rfl (hb X.by' hd) hl k
theorem own_lload {k : Nat} {v : Int64} (X : OwnSt p l e R s m args below meth c Z own bytes maxL ret nm n0 km Q RR T h cells slots) (hd : decode bytes pc = .ok (.lload k, 2)) (hp : pc + 2 = pc') (hl : Ls[k]? = some (.val (.long v))) (k : OwnGo p e below (T.setTop (mkF m pc' Ls (.long v :: S))) RR) : OwnGo p e below (T.setTop (mkF m pc Ls (S))) RR := by
  subst hp
  exact own_step k fun t k => XS.lload X.here X.hx rfl (hb X.by' hd) hl k
theorem own_iconst {i : Int} {v : Int32} (X : OwnSt p l e R s m args below meth c Z own bytes maxL ret nm n0 km Q RR T h cells slots) (hd : decode bytes pc = .ok (.iconst i, 1)) (hp : pc + 1 = pc') (hv : Int32.ofInt i = v) (k : OwnGo p e below (T.setTop (mkF m pc' Ls (.int v :: S))) RR) : OwnGo p e below (T.setTop (mkF m pc Ls (S))) RR := by
  subst hp
  subst hv
  exact own_step k fun t k => XS.iconst X.here X.hx rfl (hb X.by' hd) k
theorem own_bipush {i : Int} {v : Int32} (X : OwnSt p l e R s m args below meth c Z own bytes maxL ret nm n0 km Q RR T h cells slots) (hd : decode bytes pc = .ok (.bipush i, 2)) (hp : pc + 2 = pc') (hv : (Int8.ofInt i).toInt32 = v) (k : OwnGo p e below (T.setTop (mkF m pc' Ls (.int v :: S))) RR) : OwnGo p e below (T.setTop (mkF m pc Ls (S))) RR := by
  subst hp
  subst hv
  exact own_step k fun t k => XS.bipush X.here X.hx rfl (hb X.by' hd) k
theorem own_sipush {i : Int} {v : Int32} (X : OwnSt p l e R s m args below meth c Z own bytes maxL ret nm n0 km Q RR T h cells slots) (hd : decode bytes pc = .ok (.sipush i, 3)) (hp : pc + 3 = pc') (hv : (Int16.ofInt i).toInt32 = v) (k : OwnGo p e below (T.setTop (mkF m pc' Ls (.int v :: S))) RR) : OwnGo p e below (T.setTop (mkF m pc Ls (S))) RR := by
  subst hp
  subst hv
  exact own_step k fun t k => XS.sipush X.here X.hx rfl (hb X.by' hd) k
theorem own_lconst {i : Fin 2} {v : Int64} (X : OwnSt p l e R s m args below meth c Z own bytes maxL ret nm n0 km Q RR T h cells slots) (hd : decode bytes pc = .ok (.lconst i, 1)) (hp : pc + 1 = pc') (hv : Int64.ofNat i = v) (k : OwnGo p e below (T.setTop (mkF m pc' Ls (.long v :: S))) RR) : OwnGo p e below (T.setTop (mkF m pc Ls (S))) RR := by
  subst hp
  subst hv
  exact own_step k fun t k => XS.lconst X.here X.hx rfl (hb X.by' hd) k
theorem own_aconst_null  (X : OwnSt p l e R s m args below meth c Z own bytes maxL ret nm n0 km Q RR T h cells slots) (hd : decode bytes pc = .ok (.aconst_null, 1)) (hp : pc + 1 = pc')  (k : OwnGo p e below (T.setTop (mkF m pc' Ls (.null :: S))) RR) : OwnGo p e below (T.setTop (mkF m pc Ls (S))) RR := by
  subst hp
  exact own_step k fun t k => XS.aconstNull X.here X.hx rfl (hb X.by' hd) k
theorem own_iadd {x y : Int32} (X : OwnSt p l e R s m args below meth c Z own bytes maxL ret nm n0 km Q RR T h cells slots) (hd : decode bytes pc = .ok (.iadd, 1)) (hp : pc + 1 = pc')  (k : OwnGo p e below (T.setTop (mkF m pc' Ls (.int (x + y) :: S))) RR) : OwnGo p e below (T.setTop (mkF m pc Ls (.int y :: .int x :: S))) RR := by
  subst hp
  exact own_step k fun t k => XS.iadd X.here X.hx rfl (hb X.by' hd) rfl k
theorem own_isub {x y : Int32} (X : OwnSt p l e R s m args below meth c Z own bytes maxL ret nm n0 km Q RR T h cells slots) (hd : decode bytes pc = .ok (.isub, 1)) (hp : pc + 1 = pc')  (k : OwnGo p e below (T.setTop (mkF m pc' Ls (.int (x - y) :: S))) RR) : OwnGo p e below (T.setTop (mkF m pc Ls (.int y :: .int x :: S))) RR := by
  subst hp
  exact own_step k fun t k => XS.isub X.here X.hx rfl (hb X.by' hd) rfl k
theorem own_imul {x y : Int32} (X : OwnSt p l e R s m args below meth c Z own bytes maxL ret nm n0 km Q RR T h cells slots) (hd : decode bytes pc = .ok (.imul, 1)) (hp : pc + 1 = pc')  (k : OwnGo p e below (T.setTop (mkF m pc' Ls (.int (x * y) :: S))) RR) : OwnGo p e below (T.setTop (mkF m pc Ls (.int y :: .int x :: S))) RR := by
  subst hp
  exact own_step k fun t k => XS.imul X.here X.hx rfl (hb X.by' hd) rfl k
theorem own_iand {x y : Int32} (X : OwnSt p l e R s m args below meth c Z own bytes maxL ret nm n0 km Q RR T h cells slots) (hd : decode bytes pc = .ok (.iand, 1)) (hp : pc + 1 = pc')  (k : OwnGo p e below (T.setTop (mkF m pc' Ls (.int (x &&& y) :: S))) RR) : OwnGo p e below (T.setTop (mkF m pc Ls (.int y :: .int x :: S))) RR := by
  subst hp
  exact own_step k fun t k => XS.iand X.here X.hx rfl (hb X.by' hd) rfl k
theorem own_ior {x y : Int32} (X : OwnSt p l e R s m args below meth c Z own bytes maxL ret nm n0 km Q RR T h cells slots) (hd : decode bytes pc = .ok (.ior, 1)) (hp : pc + 1 = pc')  (k : OwnGo p e below (T.setTop (mkF m pc' Ls (.int (x ||| y) :: S))) RR) : OwnGo p e below (T.setTop (mkF m pc Ls (.int y :: .int x :: S))) RR := by
  subst hp
  exact own_step k fun t k => XS.ior X.here X.hx rfl (hb X.by' hd) rfl k
theorem own_ixor {x y : Int32} (X : OwnSt p l e R s m args below meth c Z own bytes maxL ret nm n0 km Q RR T h cells slots) (hd : decode bytes pc = .ok (.ixor, 1)) (hp : pc + 1 = pc')  (k : OwnGo p e below (T.setTop (mkF m pc' Ls (.int (x ^^^ y) :: S))) RR) : OwnGo p e below (T.setTop (mkF m pc Ls (.int y :: .int x :: S))) RR := by
  subst hp
  exact own_step k fun t k => XS.ixor X.here X.hx rfl (hb X.by' hd) rfl k
theorem own_ishl {x y : Int32} (X : OwnSt p l e R s m args below meth c Z own bytes maxL ret nm n0 km Q RR T h cells slots) (hd : decode bytes pc = .ok (.ishl, 1)) (hp : pc + 1 = pc')  (k : OwnGo p e below (T.setTop (mkF m pc' Ls (.int (x <<< (y &&& 31)) :: S))) RR) : OwnGo p e below (T.setTop (mkF m pc Ls (.int y :: .int x :: S))) RR := by
  subst hp
  exact own_step k fun t k => XS.ishl X.here X.hx rfl (hb X.by' hd) rfl k
theorem own_ishr {x y : Int32} (X : OwnSt p l e R s m args below meth c Z own bytes maxL ret nm n0 km Q RR T h cells slots) (hd : decode bytes pc = .ok (.ishr, 1)) (hp : pc + 1 = pc')  (k : OwnGo p e below (T.setTop (mkF m pc' Ls (.int (x >>> (y &&& 31)) :: S))) RR) : OwnGo p e below (T.setTop (mkF m pc Ls (.int y :: .int x :: S))) RR := by
  subst hp
  exact own_step k fun t k => XS.ishr X.here X.hx rfl (hb X.by' hd) rfl k
theorem own_iushr {x y : Int32} (X : OwnSt p l e R s m args below meth c Z own bytes maxL ret nm n0 km Q RR T h cells slots) (hd : decode bytes pc = .ok (.iushr, 1)) (hp : pc + 1 = pc')  (k : OwnGo p e below (T.setTop (mkF m pc' Ls (.int ((x.toUInt32 >>> (y &&& 31).toUInt32).toInt32) :: S))) RR) : OwnGo p e below (T.setTop (mkF m pc Ls (.int y :: .int x :: S))) RR := by
  subst hp
  exact own_step k fun t k => XS.iushr X.here X.hx rfl (hb X.by' hd) rfl k
theorem own_idiv {x y : Int32} (X : OwnSt p l e R s m args below meth c Z own bytes maxL ret nm n0 km Q RR T h cells slots) (hd : decode bytes pc = .ok (.idiv, 1)) (hp : pc + 1 = pc') (hy : y ≠ 0) (k : OwnGo p e below (T.setTop (mkF m pc' Ls (.int (x / y) :: S))) RR) : OwnGo p e below (T.setTop (mkF m pc Ls (.int y :: .int x :: S))) RR := by
  subst hp
  exact own_step k fun t k => XS.idiv X.here X.hx rfl (hb X.by' hd) rfl hy k
theorem own_irem {x y : Int32} (X : OwnSt p l e R s m args below meth c Z own bytes maxL ret nm n0 km Q RR T h cells slots) (hd : decode bytes pc = .ok (.irem, 1)) (hp : pc + 1 = pc') (hy : y ≠ 0) (k : OwnGo p e below (T.setTop (mkF m pc' Ls (.int (x % y) :: S))) RR) : OwnGo p e below (T.setTop (mkF m pc Ls (.int y :: .int x :: S))) RR := by
  subst hp
  exact own_step k fun t k => XS.irem X.here X.hx rfl (hb X.by' hd) rfl hy (by rw [irem_eq_mod]; exact k)
theorem own_ladd {x y : Int64} (X : OwnSt p l e R s m args below meth c Z own bytes maxL ret nm n0 km Q RR T h cells slots) (hd : decode bytes pc = .ok (.ladd, 1)) (hp : pc + 1 = pc')  (k : OwnGo p e below (T.setTop (mkF m pc' Ls (.long (x + y) :: S))) RR) : OwnGo p e below (T.setTop (mkF m pc Ls (.long y :: .long x :: S))) RR := by
  subst hp
  exact own_step k fun t k => XS.ladd X.here X.hx rfl (hb X.by' hd) rfl k
theorem own_lsub {x y : Int64} (X : OwnSt p l e R s m args below meth c Z own bytes maxL ret nm n0 km Q RR T h cells slots) (hd : decode bytes pc = .ok (.lsub, 1)) (hp : pc + 1 = pc')  (k : OwnGo p e below (T.setTop (mkF m pc' Ls (.long (x - y) :: S))) RR) : OwnGo p e below (T.setTop (mkF m pc Ls (.long y :: .long x :: S))) RR := by
  subst hp
  exact own_step k fun t k => XS.lsub X.here X.hx rfl (hb X.by' hd) rfl k
theorem own_lmul {x y : Int64} (X : OwnSt p l e R s m args below meth c Z own bytes maxL ret nm n0 km Q RR T h cells slots) (hd : decode bytes pc = .ok (.lmul, 1)) (hp : pc + 1 = pc')  (k : OwnGo p e below (T.setTop (mkF m pc' Ls (.long (x * y) :: S))) RR) : OwnGo p e below (T.setTop (mkF m pc Ls (.long y :: .long x :: S))) RR := by
  subst hp
  exact own_step k fun t k => XS.lmul X.here X.hx rfl (hb X.by' hd) rfl k
theorem own_land {x y : Int64} (X : OwnSt p l e R s m args below meth c Z own bytes maxL ret nm n0 km Q RR T h cells slots) (hd : decode bytes pc = .ok (.land, 1)) (hp : pc + 1 = pc')  (k : OwnGo p e below (T.setTop (mkF m pc' Ls (.long (x &&& y) :: S))) RR) : OwnGo p e below (T.setTop (mkF m pc Ls (.long y :: .long x :: S))) RR := by
  subst hp
  exact own_step k fun t k => XS.land X.here X.hx rfl (hb X.by' hd) rfl k
theorem own_lor {x y : Int64} (X : OwnSt p l e R s m args below meth c Z own bytes maxL ret nm n0 km Q RR T h cells slots) (hd : decode bytes pc = .ok (.lor, 1)) (hp : pc + 1 = pc')  (k : OwnGo p e below (T.setTop (mkF m pc' Ls (.long (x ||| y) :: S))) RR) : OwnGo p e below (T.setTop (mkF m pc Ls (.long y :: .long x :: S))) RR := by
  subst hp
  exact own_step k fun t k => XS.lor X.here X.hx rfl (hb X.by' hd) rfl k
theorem own_lxor {x y : Int64} (X : OwnSt p l e R s m args below meth c Z own bytes maxL ret nm n0 km Q RR T h cells slots) (hd : decode bytes pc = .ok (.lxor, 1)) (hp : pc + 1 = pc')  (k : OwnGo p e below (T.setTop (mkF m pc' Ls (.long (x ^^^ y) :: S))) RR) : OwnGo p e below (T.setTop (mkF m pc Ls (.long y :: .long x :: S))) RR := by
  subst hp
  exact own_step k fun t k => XS.lxor X.here X.hx rfl (hb X.by' hd) rfl k
theorem own_ldiv {x y : Int64} (X : OwnSt p l e R s m args below meth c Z own bytes maxL ret nm n0 km Q RR T h cells slots) (hd : decode bytes pc = .ok (.ldiv, 1)) (hp : pc + 1 = pc') (hy : y ≠ 0) (k : OwnGo p e below (T.setTop (mkF m pc' Ls (.long (x / y) :: S))) RR) : OwnGo p e below (T.setTop (mkF m pc Ls (.long y :: .long x :: S))) RR := by
  subst hp
  exact own_step k fun t k => XS.ldiv X.here X.hx rfl (hb X.by' hd) rfl hy k
theorem own_lrem {x y : Int64} (X : OwnSt p l e R s m args below meth c Z own bytes maxL ret nm n0 km Q RR T h cells slots) (hd : decode bytes pc = .ok (.lrem, 1)) (hp : pc + 1 = pc') (hy : y ≠ 0) (k : OwnGo p e below (T.setTop (mkF m pc' Ls (.long (x - (x / y) * y) :: S))) RR) : OwnGo p e below (T.setTop (mkF m pc Ls (.long y :: .long x :: S))) RR := by
  subst hp
  exact own_step k fun t k => XS.lrem X.here X.hx rfl (hb X.by' hd) rfl hy k
theorem own_lshl {x : Int64} {y : Int32} (X : OwnSt p l e R s m args below meth c Z own bytes maxL ret nm n0 km Q RR T h cells slots) (hd : decode bytes pc = .ok (.lshl, 1)) (hp : pc + 1 = pc')  (k : OwnGo p e below (T.setTop (mkF m pc' Ls (.long (x <<< (y &&& 0x3f).toInt64) :: S))) RR) : OwnGo p e below (T.setTop (mkF m pc Ls (.int y :: .long x :: S))) RR := by
  subst hp
  exact own_step k fun t k => XS.lshl X.here X.hx rfl (hb X.by' hd) rfl k
theorem own_lshr {x : Int64} {y : Int32} (X : OwnSt p l e R s m args below meth c Z own bytes maxL ret nm n0 km Q RR T h cells slots) (hd : decode bytes pc = .ok (.lshr, 1)) (hp : pc + 1 = pc')  (k : OwnGo p e below (T.setTop (mkF m pc' Ls (.long (x >>> (y &&& 0x3f).toInt64) :: S))) RR) : OwnGo p e below (T.setTop (mkF m pc Ls (.int y :: .long x :: S))) RR := by
  subst hp
  exact own_step k fun t k => XS.lshr X.here X.hx rfl (hb X.by' hd) rfl k
theorem own_lushr {x : Int64} {y : Int32} (X : OwnSt p l e R s m args below meth c Z own bytes maxL ret nm n0 km Q RR T h cells slots) (hd : decode bytes pc = .ok (.lushr, 1)) (hp : pc + 1 = pc')  (k : OwnGo p e below (T.setTop (mkF m pc' Ls (.long ((x.toUInt64 >>> (y &&& 0x3f).toInt64.toUInt64).toInt64) :: S))) RR) : OwnGo p e below (T.setTop (mkF m pc Ls (.int y :: .long x :: S))) RR := by
  subst hp
  exact own_step k fun t k => XS.lushr X.here X.hx rfl (hb X.by' hd) rfl k
theorem own_ineg {x : Int32} (X : OwnSt p l e R s m args below meth c Z own bytes maxL ret nm n0 km Q RR T h cells slots) (hd : decode bytes pc = .ok (.ineg, 1)) (hp : pc + 1 = pc')  (k : OwnGo p e below (T.setTop (mkF m pc' Ls (.int (-x) :: S))) RR) : OwnGo p e below (T.setTop (mkF m pc Ls (.int x :: S))) RR := by
  subst hp
  exact own_step k fun t k => XS.ineg X.here X.hx rfl (hb X.by' hd) rfl k
theorem own_lneg {x : Int64} (X : OwnSt p l e R s m args below meth c Z own bytes maxL ret nm n0 km Q RR T h cells slots) (hd : decode bytes pc = .ok (.lneg, 1)) (hp : pc + 1 = pc')  (k : OwnGo p e below (T.setTop (mkF m pc' Ls (.long (-x) :: S))) RR) : OwnGo p e below (T.setTop (mkF m pc Ls (.long x :: S))) RR := by
  subst hp
  exact own_step k fun t k => XS.lneg X.here X.hx rfl (hb X.by' hd) rfl k
theorem own_i2l {x : Int32} (X : OwnSt p l e R s m args below meth c Z own bytes maxL ret nm n0 km Q RR T h cells slots) (hd : decode bytes pc = .ok (.i2l, 1)) (hp : pc + 1 = pc')  (k : OwnGo p e below (T.setTop (mkF m pc' Ls (.long (x.toInt64) :: S))) RR) : OwnGo p e below (T.setTop (mkF m pc Ls (.int x :: S))) RR := by
  subst hp
  exact own_step k fun t k => XS.i2l X.here X.hx rfl (hb X.by' hd) rfl k
theorem own_l2i {x : Int64} (X : OwnSt p l e R s m args below meth c Z own bytes maxL ret nm n0 km Q RR T h cells slots) (hd : decode bytes pc = .ok (.l2i, 1)) (hp : pc + 1 = pc')  (k : OwnGo p e below (T.setTop (mkF m pc' Ls (.int (x.toInt32) :: S))) RR) : OwnGo p e below (T.setTop (mkF m pc Ls (.long x :: S))) RR := by
  subst hp
  exact own_step k fun t k => XS.l2i X.here X.hx rfl (hb X.by' hd) rfl k
theorem own_i2b {x : Int32} (X : OwnSt p l e R s m args below meth c Z own bytes maxL ret nm n0 km Q RR T h cells slots) (hd : decode bytes pc = .ok (.i2b, 1)) (hp : pc + 1 = pc')  (k : OwnGo p e below (T.setTop (mkF m pc' Ls (.int (x.toInt8.toInt32) :: S))) RR) : OwnGo p e below (T.setTop (mkF m pc Ls (.int x :: S))) RR := by
  subst hp
  exact own_step k fun t k => XS.i2b X.here X.hx rfl (hb X.by' hd) rfl k
theorem own_i2s {x : Int32} (X : OwnSt p l e R s m args below meth c Z own bytes maxL ret nm n0 km Q RR T h cells slots) (hd : decode bytes pc = .ok (.i2s, 1)) (hp : pc + 1 = pc')  (k : OwnGo p e below (T.setTop (mkF m pc' Ls (.int (x.toInt16.toInt32) :: S))) RR) : OwnGo p e below (T.setTop (mkF m pc Ls (.int x :: S))) RR := by
  subst hp
  exact own_step k fun t k => XS.i2s X.here X.hx rfl (hb X.by' hd) rfl k
theorem own_i2c {x : Int32} (X : OwnSt p l e R s m args below meth c Z own bytes maxL ret nm n0 km Q RR T h cells slots) (hd : decode bytes pc = .ok (.i2c, 1)) (hp : pc + 1 = pc')  (k : OwnGo p e below (T.setTop (mkF m pc' Ls (.int (x.toUInt32.toUInt16.toUInt32.toInt32) :: S))) RR) : OwnGo p e below (T.setTop (mkF m pc Ls (.int x :: S))) RR := by
  subst hp
  exact own_step k fun t k => XS.i2c X.here X.hx rfl (hb X.by' hd) rfl k
theorem own_dup {x : Value} (X : OwnSt p l e R s m args below meth c Z own bytes maxL ret nm n0 km Q RR T h cells slots) (hd : decode bytes pc = .ok (.dup, 1)) (hp : pc + 1 = pc') (hc : x.category = 1) (k : OwnGo p e below (T.setTop (mkF m pc' Ls (x :: x :: S))) RR) : OwnGo p e below (T.setTop (mkF m pc Ls (x :: S))) RR := by
  subst hp
  exact own_step k fun t k => XS.dup X.here X.hx rfl (hb X.by' hd) rfl hc k
theorem own_pop {x : Value} (X : OwnSt p l e R s m args below meth c Z own bytes maxL ret nm n0 km Q RR T h cells slots) (hd : decode bytes pc = .ok (.pop, 1)) (hp : pc + 1 = pc') (hc : x.category = 1) (k : OwnGo p e below (T.setTop (mkF m pc' Ls (S))) RR) : OwnGo p e below (T.setTop (mkF m pc Ls (x :: S))) RR := by
  subst hp
  exact own_step k fun t k => XS.pop X.here X.hx rfl (hb X.by' hd) rfl hc k
theorem own_dup_x1 {x y : Value} (X : OwnSt p l e R s m args below meth c Z own bytes maxL ret nm n0 km Q RR T h cells slots) (hd : decode bytes pc = .ok (.dup_x1, 1)) (hp : pc + 1 = pc') (hc : x.category = 1) (hc' : y.category = 1) (k : OwnGo p e below (T.setTop (mkF m pc' Ls (x :: y :: x :: S))) RR) : OwnGo p e below (T.setTop (mkF m pc Ls (x :: y :: S))) RR := by
  subst hp
  exact own_step k fun t k => XS.dupX1 X.here X.hx rfl (hb X.by' hd) rfl hc hc' k
theorem own_istoreN {k : Fin 4} {x : Int32} {l' : Array Slot} (X : OwnSt p l e R s m args below meth c Z own bytes maxL ret nm n0 km Q RR T h cells slots) (hd : decode bytes pc = .ok (.istore_n k, 1)) (hp : pc + 1 = pc') (hl : storeLocals Ls k.val (.int x) = some l') (k : OwnGo p e below (T.setTop (mkF m pc' l' (S))) RR) : OwnGo p e below (T.setTop (mkF m pc Ls (.int x :: S))) RR := by
  subst hp
  exact own_step k fun t k => XS.istoreN X.here X.hx rfl (hb X.by' hd) rfl hl k
theorem own_istoreNV {k : Fin 4} {x : Int32} {l' : Int32 → Array Slot} (X : OwnSt p l e R s m args below meth c Z own bytes maxL ret nm n0 km Q RR T h cells slots) (hd : decode bytes pc = .ok (.istore_n k, 1)) (hp : pc + 1 = pc') (hl : ∀ v, storeLocals Ls k.val (.int v) = some (l' v)) (k : ∀ v, v = x → OwnGo p e below (T.setTop (mkF m pc' (l' v) (S))) RR) : OwnGo p e below (T.setTop (mkF m pc Ls (.int x :: S))) RR := by
  subst hp
  exact own_step (k _ rfl) fun t k => XS.istoreN X.here X.hx rfl (hb X.by' hd) rfl (hl _) k
theorem own_istore {k : Nat} {x : Int32} {l' : Array Slot} (X : OwnSt p l e R s m args below meth c Z own bytes maxL ret nm n0 km Q RR T h cells slots) (hd : decode bytes pc = .ok (.istore k, 2)) (hp : pc + 2 = pc') (hl : storeLocals Ls k (.int x) = some l') (k : OwnGo p e below (T.setTop (mkF m pc' l' (S))) RR) : OwnGo p e below (T.setTop (mkF m pc Ls (.int x :: S))) RR := by
  subst hp
  exact own_step k fun t k => XS.istore X.here X.hx rfl (hb X.by' hd) rfl hl k
theorem own_istoreV {k : Nat} {x : Int32} {l' : Int32 → Array Slot} (X : OwnSt p l e R s m args below meth c Z own bytes maxL ret nm n0 km Q RR T h cells slots) (hd : decode bytes pc = .ok (.istore k, 2)) (hp : pc + 2 = pc') (hl : ∀ v, storeLocals Ls k (.int v) = some (l' v)) (k : ∀ v, v = x → OwnGo p e below (T.setTop (mkF m pc' (l' v) (S))) RR) : OwnGo p e below (T.setTop (mkF m pc Ls (.int x :: S))) RR := by
  subst hp
  exact own_step (k _ rfl) fun t k => XS.istore X.here X.hx rfl (hb X.by' hd) rfl (hl _) k
theorem own_lstoreN {k : Fin 4} {x : Int64} {l' : Array Slot} (X : OwnSt p l e R s m args below meth c Z own bytes maxL ret nm n0 km Q RR T h cells slots) (hd : decode bytes pc = .ok (.lstore_n k, 1)) (hp : pc + 1 = pc') (hl : storeLocals Ls k.val (.long x) = some l') (k : OwnGo p e below (T.setTop (mkF m pc' l' (S))) RR) : OwnGo p e below (T.setTop (mkF m pc Ls (.long x :: S))) RR := by
  subst hp
  exact own_step k fun t k => XS.lstoreN X.here X.hx rfl (hb X.by' hd) rfl hl k
theorem own_lstoreNV {k : Fin 4} {x : Int64} {l' : Int64 → Array Slot} (X : OwnSt p l e R s m args below meth c Z own bytes maxL ret nm n0 km Q RR T h cells slots) (hd : decode bytes pc = .ok (.lstore_n k, 1)) (hp : pc + 1 = pc') (hl : ∀ v, storeLocals Ls k.val (.long v) = some (l' v)) (k : ∀ v, v = x → OwnGo p e below (T.setTop (mkF m pc' (l' v) (S))) RR) : OwnGo p e below (T.setTop (mkF m pc Ls (.long x :: S))) RR := by
  subst hp
  exact own_step (k _ rfl) fun t k => XS.lstoreN X.here X.hx rfl (hb X.by' hd) rfl (hl _) k
theorem own_lstore {k : Nat} {x : Int64} {l' : Array Slot} (X : OwnSt p l e R s m args below meth c Z own bytes maxL ret nm n0 km Q RR T h cells slots) (hd : decode bytes pc = .ok (.lstore k, 2)) (hp : pc + 2 = pc') (hl : storeLocals Ls k (.long x) = some l') (k : OwnGo p e below (T.setTop (mkF m pc' l' (S))) RR) : OwnGo p e below (T.setTop (mkF m pc Ls (.long x :: S))) RR := by
  subst hp
  exact own_step k fun t k => XS.lstore X.here X.hx rfl (hb X.by' hd) rfl hl k
theorem own_lstoreV {k : Nat} {x : Int64} {l' : Int64 → Array Slot} (X : OwnSt p l e R s m args below meth c Z own bytes maxL ret nm n0 km Q RR T h cells slots) (hd : decode bytes pc = .ok (.lstore k, 2)) (hp : pc + 2 = pc') (hl : ∀ v, storeLocals Ls k (.long v) = some (l' v)) (k : ∀ v, v = x → OwnGo p e below (T.setTop (mkF m pc' (l' v) (S))) RR) : OwnGo p e below (T.setTop (mkF m pc Ls (.long x :: S))) RR := by
  subst hp
  exact own_step (k _ rfl) fun t k => XS.lstore X.here X.hx rfl (hb X.by' hd) rfl (hl _) k
theorem own_astoreN {k : Fin 4} {x : Value} {l' : Array Slot} (X : OwnSt p l e R s m args below meth c Z own bytes maxL ret nm n0 km Q RR T h cells slots) (hd : decode bytes pc = .ok (.astore_n k, 1)) (hp : pc + 1 = pc') (hv : x.isRef = true) (hl : storeLocals Ls k.val x = some l') (k : OwnGo p e below (T.setTop (mkF m pc' l' (S))) RR) : OwnGo p e below (T.setTop (mkF m pc Ls (x :: S))) RR := by
  subst hp
  exact own_step k fun t k => XS.astoreN X.here X.hx rfl (hb X.by' hd) rfl hv hl k
theorem own_astore {k : Nat} {x : Value} {l' : Array Slot} (X : OwnSt p l e R s m args below meth c Z own bytes maxL ret nm n0 km Q RR T h cells slots) (hd : decode bytes pc = .ok (.astore k, 2)) (hp : pc + 2 = pc') (hv : x.isRef = true) (hl : storeLocals Ls k x = some l') (k : OwnGo p e below (T.setTop (mkF m pc' l' (S))) RR) : OwnGo p e below (T.setTop (mkF m pc Ls (x :: S))) RR := by
  subst hp
  exact own_step k fun t k => XS.astore X.here X.hx rfl (hb X.by' hd) rfl hv hl k
theorem own_iinc {k : Nat} {d : Int} {x y : Int32} {l' : Array Slot} (X : OwnSt p l e R s m args below meth c Z own bytes maxL ret nm n0 km Q RR T h cells slots) (hd : decode bytes pc = .ok (.iinc k d, 3)) (hp : pc + 3 = pc') (hx' : Ls[k]? = some (.val (.int x))) (hy : x + Int32.ofInt d = y) (hl : storeLocals Ls k (.int y) = some l') (k : OwnGo p e below (T.setTop (mkF m pc' l' (S))) RR) : OwnGo p e below (T.setTop (mkF m pc Ls (S))) RR := by
  subst hp
  subst hy
  exact own_step k fun t k => XS.iinc X.here X.hx rfl (hb X.by' hd) hx' hl k
theorem own_ifnonnullN {o : Int} (X : OwnSt p l e R s m args below meth c Z own bytes maxL ret nm n0 km Q RR T h cells slots) (hd : decode bytes pc = .ok (.ifnonnull o, 3)) (hp : pc + 3 = pc')  (k : OwnGo p e below (T.setTop (mkF m pc' Ls (S))) RR) : OwnGo p e below (T.setTop (mkF m pc Ls (.null :: S))) RR := by
  subst hp
  exact own_step k fun t k => XS.ifnonnullNo X.here X.hx rfl (hb X.by' hd) rfl k
theorem own_ifnullN {o : Int} {b : Addr} (X : OwnSt p l e R s m args below meth c Z own bytes maxL ret nm n0 km Q RR T h cells slots) (hd : decode bytes pc = .ok (.ifnull o, 3)) (hp : pc + 3 = pc')  (k : OwnGo p e below (T.setTop (mkF m pc' Ls (S))) RR) : OwnGo p e below (T.setTop (mkF m pc Ls (.ref b :: S))) RR := by
  subst hp
  exact own_step k fun t k => XS.ifnullNo X.here X.hx rfl (hb X.by' hd) rfl k
theorem own_ifnonnullY {o : Int} {b : Addr} (X : OwnSt p l e R s m args below meth c Z own bytes maxL ret nm n0 km Q RR T h cells slots) (hd : decode bytes pc = .ok (.ifnonnull o, 3)) (hp : ((pc : Int) + o).toNat = pc') (ho : 0 ≤ (pc : Int) + o) (k : OwnGo p e below (T.setTop (mkF m pc' Ls S)) RR) : OwnGo p e below (T.setTop (mkF m pc Ls (.ref b :: S))) RR :=
  own_step k fun t k => XS.ifnonnullYes X.here X.hx rfl (pc0 := pc) rfl (hb X.by' hd) rfl ho hp k
theorem own_ifnullY {o : Int} (X : OwnSt p l e R s m args below meth c Z own bytes maxL ret nm n0 km Q RR T h cells slots) (hd : decode bytes pc = .ok (.ifnull o, 3)) (hp : ((pc : Int) + o).toNat = pc') (ho : 0 ≤ (pc : Int) + o) (k : OwnGo p e below (T.setTop (mkF m pc' Ls S)) RR) : OwnGo p e below (T.setTop (mkF m pc Ls (.null :: S))) RR :=
  own_step k fun t k => XS.ifnullYes X.here X.hx rfl (pc0 := pc) rfl (hb X.by' hd) rfl ho hp k
theorem own_ldcInt {i : Nat} {v : Int32} (X : OwnSt p l e R s m args below meth c Z own bytes maxL ret nm n0 km Q RR T h cells slots) (hd : decode bytes pc = .ok (.ldc i, 2)) (hp : pc + 2 = pc') (w : (Cond.constant own i v).before a0 Z = true) (k : OwnGo p e below (T.setTop (mkF m pc' Ls (.int v :: S))) RR) : OwnGo p e below (T.setTop (mkF m pc Ls S)) RR := by
  subst hp
  obtain ⟨C, hh, hkm, locs, X0, N⟩ := id X
  exact own_step k (X0.ldcInt X.hx C.2.2.2.2.1 (mvT X.hZ w) (g := mkF m pc Ls S) rfl (hb X.by' hd))
theorem own_ldc2Long {i : Nat} {v : Int64} (X : OwnSt p l e R s m args below meth c Z own bytes maxL ret nm n0 km Q RR T h cells slots) (hd : decode bytes pc = .ok (.ldc2_w i, 3)) (hp : pc + 3 = pc') (w : (Cond.constantLong own i v).before a0 Z = true) (k : OwnGo p e below (T.setTop (mkF m pc' Ls (.long v :: S))) RR) : OwnGo p e below (T.setTop (mkF m pc Ls S)) RR := by
  subst hp
  obtain ⟨C, hh, hkm, locs, X0, N⟩ := id X
  exact own_step k (X0.ldc2Long X.hx C.2.2.2.2.1 (mvT X.hZ w) (g := mkF m pc Ls S) rfl (hb X.by' hd))
/-! forks -/
theorem own_ifY {cd : ClassFile.Cond} {x : Int32} {o : Int} (X : OwnSt p l e R s m args below meth c Z own bytes maxL ret nm n0 km Q RR T h cells slots) (hd : decode bytes pc = .ok (.ifCond cd o, 3)) (hc : if_icmp.holds cd x 0 = true) (hp : ((pc : Int) + o).toNat = pc') (ho : 0 ≤ (pc : Int) + o) (k : OwnGo p e below (T.setTop (mkF m pc' Ls S)) RR) : OwnGo p e below (T.setTop (mkF m pc Ls (.int x :: S))) RR :=
  own_step k fun t k => XS.ifYes X.here X.hx rfl (pc0 := pc) rfl (hb X.by' hd) rfl ((if0 _ _).trans hc) ho hp k
theorem own_ifN {cd : ClassFile.Cond} {x : Int32} {o : Int} (X : OwnSt p l e R s m args below meth c Z own bytes maxL ret nm n0 km Q RR T h cells slots) (hd : decode bytes pc = .ok (.ifCond cd o, 3)) (hc : if_icmp.holds cd x 0 = false) (hp : pc + 3 = pc') (k : OwnGo p e below (T.setTop (mkF m pc' Ls S)) RR) : OwnGo p e below (T.setTop (mkF m pc Ls (.int x :: S))) RR := by
  subst hp
  exact own_step k fun t k => XS.ifNo X.here X.hx rfl (hb X.by' hd) rfl ((if0 _ _).trans hc) k
theorem own_icY {cd : ClassFile.Cond} {x y : Int32} {o : Int} (X : OwnSt p l e R s m args below meth c Z own bytes maxL ret nm n0 km Q RR T h cells slots) (hd : decode bytes pc = .ok (.if_icmp cd o, 3)) (hc : if_icmp.holds cd x y = true) (hp : ((pc : Int) + o).toNat = pc') (ho : 0 ≤ (pc : Int) + o) (k : OwnGo p e below (T.setTop (mkF m pc' Ls S)) RR) : OwnGo p e below (T.setTop (mkF m pc Ls (.int y :: .int x :: S))) RR :=
  own_step k fun t k => XS.icmpYes X.here X.hx rfl (pc0 := pc) rfl (hb X.by' hd) rfl hc ho hp k
theorem own_icN {cd : ClassFile.Cond} {x y : Int32} {o : Int} (X : OwnSt p l e R s m args below meth c Z own bytes maxL ret nm n0 km Q RR T h cells slots) (hd : decode bytes pc = .ok (.if_icmp cd o, 3)) (hc : if_icmp.holds cd x y = false) (hp : pc + 3 = pc') (k : OwnGo p e below (T.setTop (mkF m pc' Ls S)) RR) : OwnGo p e below (T.setTop (mkF m pc Ls (.int y :: .int x :: S))) RR := by
  subst hp
  exact own_step k fun t k => XS.icmpNo X.here X.hx rfl (hb X.by' hd) rfl hc k
def ownLc (cd : ClassFile.Cond) (x y : Int64) : Bool := match cd with
  | .eq => decide (x = y) | .ne => !decide (x = y) | .lt => decide (x < y) | .ge => !decide (x < y) | .gt => decide (y < x) | .le => !decide (y < x)
theorem own_lc (cd : ClassFile.Cond) (x y : Int64) : if_icmp.holds cd (lcmpW x y) 0 = ownLc cd x y := by
  rw [lcW]
  have h1 := lc_eq x y
  have h2 := lc_lt x y
  have h3 := lc_gt x y
  cases cd <;> simp only [ownLc]
  · by_cases q : x = y
    · rw [(teq (h1.mpr q)).1]; simp [q]
    · rw [(feq fun w => q (h1.mp w)).1]; simp [q]
  · by_cases q : x = y
    · rw [(teq (h1.mpr q)).2]; simp [q]
    · rw [(feq fun w => q (h1.mp w)).2]; simp [q]
  · by_cases q : x < y
    · rw [(tlt (h2.mpr q)).1]; simp [q]
    · rw [(flt fun w => q (h2.mp w)).1]; simp [q]
  · by_cases q : x < y
    · rw [(tlt (h2.mpr q)).2.1]; simp [q]
    · rw [(flt fun w => q (h2.mp w)).2.1]; simp [q]
  · by_cases q : y < x
    · rw [(tlt (h3.mpr q)).2.2.1]; simp [q]
    · rw [(flt fun w => q (h3.mp w)).2.2.1]; simp [q]
  · by_cases q : y < x
    · rw [(tlt (h3.mpr q)).2.2.2]; simp [q]
    · rw [(flt fun w => q (h3.mp w)).2.2.2]; simp [q]
theorem own_ljY {cd : ClassFile.Cond} {x y : Int64} {o : Int} (X : OwnSt p l e R s m args below meth c Z own bytes maxL ret nm n0 km Q RR T h cells slots) (hd : decode bytes pc = .ok (.lcmp, 1)) (hd2 : decode bytes (pc + 1) = .ok (.ifCond cd o, 3)) (hc : ownLc cd x y = true) (hp : (((pc + 1 : Nat) : Int) + o).toNat = pc') (ho : 0 ≤ ((pc + 1 : Nat) : Int) + o) (k : OwnGo p e below (T.setTop (mkF m pc' Ls S)) RR) : OwnGo p e below (T.setTop (mkF m pc Ls (.long y :: .long x :: S))) RR :=
  own_step (own_ifY (pc := pc + 1) (x := lcmpW x y) X hd2 ((own_lc cd x y).trans hc) hp ho k) fun t k => XS.lcmp X.here X.hx rfl (hb X.by' hd) rfl k
theorem own_ljN {cd : ClassFile.Cond} {x y : Int64} {o : Int} (X : OwnSt p l e R s m args below meth c Z own bytes maxL ret nm n0 km Q RR T h cells slots) (hd : decode bytes pc = .ok (.lcmp, 1)) (hd2 : decode bytes (pc + 1) = .ok (.ifCond cd o, 3)) (hc : ownLc cd x y = false) (hp : pc + 4 = pc') (k : OwnGo p e below (T.setTop (mkF m pc' Ls S)) RR) : OwnGo p e below (T.setTop (mkF m pc Ls (.long y :: .long x :: S))) RR :=
  own_step (own_ifN (pc := pc + 1) (x := lcmpW x y) X hd2 ((own_lc cd x y).trans hc) hp k) fun t k => XS.lcmp X.here X.hx rfl (hb X.by' hd) rfl k
theorem own_teqA {a b : Addr} (h : a = b) : if_acmp.holds .eq (some a) (some b) = true ∧ if_acmp.holds .ne (some a) (some b) = false := by simp [if_acmp.holds, h]
theorem own_feqA {a b : Addr} (h : ¬ a = b) : if_acmp.holds .eq (some a) (some b) = false ∧ if_acmp.holds .ne (some a) (some b) = true := by simp [if_acmp.holds, h]
theorem own_acY {cd : ClassFile.ACond} {a b : Addr} {o : Int} (X : OwnSt p l e R s m args below meth c Z own bytes maxL ret nm n0 km Q RR T h cells slots) (hd : decode bytes pc = .ok (.if_acmp cd o, 3)) (hc : if_acmp.holds cd (some a) (some b) = true) (hp : ((pc : Int) + o).toNat = pc') (ho : 0 ≤ (pc : Int) + o) (k : OwnGo p e below (T.setTop (mkF m pc' Ls S)) RR) : OwnGo p e below (T.setTop (mkF m pc Ls (.ref b :: .ref a :: S))) RR :=
  own_step k fun t k => XS.acmpYes X.here X.hx rfl (pc0 := pc) rfl (hb X.by' hd) rfl hc ho hp k
theorem own_acN {cd : ClassFile.ACond} {a b : Addr} {o : Int} (X : OwnSt p l e R s m args below meth c Z own bytes maxL ret nm n0 km Q RR T h cells slots) (hd : decode bytes pc = .ok (.if_acmp cd o, 3)) (hc : if_acmp.holds cd (some a) (some b) = false) (hp : pc + 3 = pc') (k : OwnGo p e below (T.setTop (mkF m pc' Ls S)) RR) : OwnGo p e below (T.setTop (mkF m pc Ls (.ref b :: .ref a :: S))) RR := by
  subst hp
  exact own_step k fun t k => XS.acmpNo X.here X.hx rfl (hb X.by' hd) rfl hc k
theorem own_goto {o : Int} (X : OwnSt p l e R s m args below meth c Z own bytes maxL ret nm n0 km Q RR T h cells slots) (hd : decode bytes pc = .ok (.goto o, 3)) (hp : ((pc : Int) + o).toNat = pc') (ho : 0 ≤ (pc : Int) + o) (k : OwnGo p e below (T.setTop (mkF m pc' Ls S)) RR) : OwnGo p e below (T.setTop (mkF m pc Ls S)) RR :=
  own_step k fun t k => XS.goto X.here X.hx rfl (pc0 := pc) rfl (hb X.by' hd) ho hp k
theorem own_tltL {x y : Int64} (h : x < y) : ownLc .lt x y = true ∧ ownLc .ge x y = false ∧ ownLc .gt y x = true ∧ ownLc .le y x = false := by simp [ownLc, h]
theorem own_fltL {x y : Int64} (h : ¬ x < y) : ownLc .lt x y = false ∧ ownLc .ge x y = true ∧ ownLc .gt y x = false ∧ ownLc .le y x = true := by simp [ownLc, h]
theorem own_teqL {x y : Int64} (h : x = y) : ownLc .eq x y = true ∧ ownLc .ne x y = false := by simp [ownLc, h]
theorem own_feqL {x y : Int64} (h : ¬ x = y) : ownLc .eq x y = false ∧ ownLc .ne x y = true := by simp [ownLc, h]
/-- the same stand at another state with the same heap; with another heap -/
abbrev OwnAt (X : OwnSt p l e R s m args below meth c Z own bytes maxL ret nm n0 km Q RR T h cells slots) (T' : State) : Prop := OwnSt p l e R s m args below meth c Z own bytes maxL ret nm n0 km Q RR T' h cells slots
abbrev OwnAtH (X : OwnSt p l e R s m args below meth c Z own bytes maxL ret nm n0 km Q RR T h cells slots) (T' : State) (h' : Heap) : Prop := OwnSt p l e R s m args below meth c Z own bytes maxL ret nm n0 km Q RR T' h' cells slots
/-! heap steps -/
theorem own_init {index : Nat} {a : Addr} (X : OwnSt p l e R s m args below meth c Z own bytes maxL ret nm n0 km Q RR T h cells slots) (hd : decode bytes pc = .ok (.invokespecial index, 3)) (w1 : (Cond.methodLink own index Lib.objectInit).before a0 Z = true) (w2 : (Cond.instanceMethod Lib.objectInit).before a0 Z = true) (w3 : (Cond.code Lib.objectInit ⟨#[0xb1]⟩ 1 none).before a0 Z = true)
    (hp : pc + 3 = pc') (hsz : Ls.size = maxL) (hf : 1 ≤ R.frames) {W : Nat} (hW : 0 + (S.map fun v => v.category).sum ≤ W) (hlo : W + 12 ≤ R.locals)
    (k : ∀ T', OwnSt p l e R s m args below meth c Z own bytes maxL ret nm n0 km Q RR T' h cells slots → OwnGo p e below (T'.setTop (mkF m pc' Ls S)) RR) : OwnGo p e below (T.setTop (mkF m pc Ls (.ref a :: S))) RR := by
  subst hp
  obtain ⟨C, hh, hkm, locs, X0, N⟩ := X
  obtain ⟨hx, hby, hml, hZ, hown, hnm, hret, hlk, hR⟩ := id C
  obtain ⟨T', X', e', st⟩ := initO X0 hx hZ hown w1 w2 w3 hh (g := mkF m pc Ls (.ref a :: S)) rfl (hsz.trans hml.symm) rfl (hb hby hd) hf hW hlo
  exact own_step (k T' ⟨C, e', hkm, locs, X', N⟩) st
theorem own_new {index n : Nat} {K : String} (X : OwnSt p l e R s m args below meth c Z own bytes maxL ret nm n0 km Q RR T h cells slots) (hd : decode bytes pc = .ok (.new index, 3)) (w1 : (Cond.classLink own index K).before a0 Z = true) (w2 : (Cond.instantiable K n).before a0 Z = true) (w3 : (Cond.initialized K).before a0 Z = true)
    (hp : pc + 3 = pc') (hc : cells + 1 ≤ R.cells) (hl : slots + n ≤ R.slots)
    (k : ∀ T' h' b, b = h.size → OwnSt p l e R s m args below meth c Z own bytes maxL ret nm n0 km Q RR T' h' (cells + 1) (slots + n) → Ext h h' → Exa Z h' b K → (∀ {O nm d : String} {ty : FieldType}, Laid Z a0 K O nm d → parseFieldDescriptor d = some ty → Fld Z h' b O nm d (defaultValue ty)) → OwnGo p e below (T'.setTop (mkF m pc' Ls (.ref b :: S))) RR) : OwnGo p e below (T.setTop (mkF m pc Ls S)) RR := by
  subst hp
  obtain ⟨C, hh, hkm, locs, X0, N⟩ := X
  obtain ⟨hx, hby, hml, hZ, hown, hnm, hret, hlk, hR⟩ := id C
  obtain ⟨T', h', X', e', E', A', D', -, st⟩ := newO X0 hx hZ hown w1 w2 w3 hh (g := mkF m pc Ls S) rfl (hb hby hd) hc hl
  exact own_step (k T' h' _ rfl ⟨C, e', Nat.le_trans hkm E'.1, locs, X', N⟩ E' A' D') st
theorem own_getF {index : Nat} {O n d R0 : String} {a : Addr} {v : Value} (X : OwnSt p l e R s m args below meth c Z own bytes maxL ret nm n0 km Q RR T h cells slots) (hd : decode bytes pc = .ok (.getfield index, 3)) (w : (Cond.fieldLink own index R0 n d).before a0 Z = true) (via : Via Z R0 O n d) (F : Fld Z h a O n d v) (hp : pc + 3 = pc')
    (k : ∀ T', OwnSt p l e R s m args below meth c Z own bytes maxL ret nm n0 km Q RR T' h cells slots → OwnGo p e below (T'.setTop (mkF m pc' Ls (v :: S))) RR) : OwnGo p e below (T.setTop (mkF m pc Ls (.ref a :: S))) RR := by
  subst hp
  obtain ⟨C, hh, hkm, locs, X0, N⟩ := X
  obtain ⟨hx, hby, hml, hZ, hown, hnm, hret, hlk, hR⟩ := id C
  obtain ⟨T', X', e', st⟩ := getF X0 hx hZ hown (host := "") (Or.inl w) via hh F (g := mkF m pc Ls (.ref a :: S)) rfl rfl (hb hby hd)
  exact own_step (k T' ⟨C, e', hkm, locs, X', N⟩) st
theorem own_getS {index : Nat} {O n d R0 : String} {v : Value} (X : OwnSt p l e R s m args below meth c Z own bytes maxL ret nm n0 km Q RR T h cells slots) (hd : decode bytes pc = .ok (.getstatic index, 3)) (w : (Cond.fieldLink own index R0 n d).before a0 Z = true) (via : Via Z R0 O n d) (F : Sta Z h O n d v) (hp : pc + 3 = pc')
    (k : ∀ T', OwnSt p l e R s m args below meth c Z own bytes maxL ret nm n0 km Q RR T' h cells slots → OwnGo p e below (T'.setTop (mkF m pc' Ls (v :: S))) RR) : OwnGo p e below (T.setTop (mkF m pc Ls S)) RR := by
  subst hp
  obtain ⟨C, hh, hkm, locs, X0, N⟩ := X
  obtain ⟨hx, hby, hml, hZ, hown, hnm, hret, hlk, hR⟩ := id C
  obtain ⟨T', X', e', st⟩ := getS X0 hx hZ (host := "") hown w via hh F (g := mkF m pc Ls S) rfl (hb hby hd)
  exact own_step (k T' ⟨C, e', hkm, locs, X', N⟩) st
theorem own_putF {index kk : Nat} {O n d R0 K : String} {a : Addr} {v v' old : Value} {ty : FieldType} (X : OwnSt p l e R s m args below meth c Z own bytes maxL ret nm n0 km Q RR T h cells slots) (hd : decode bytes pc = .ok (.putfield index, 3)) (w : (Cond.fieldLink own index R0 n d).before a0 Z = true) (via : Via Z R0 O n d) (F : Fld Z h a O n d old) (E : Exa Z h a K) (L : (Cond.lays K O n d).before a0 Z = true ∨ ((Cond.laysFinal K O n d).before a0 Z = true ∧ own = O ∧ nm = "<init>")) (wi : (Cond.instantiable K kk).before a0 Z = true)
    (hty : parseFieldDescriptor d = some ty) (hn : narrow ty v = v') (hf : fits ty v' = true) (hge : n0 ≤ a) (hp : pc + 3 = pc')
    (k : ∀ T' h', OwnSt p l e R s m args below meth c Z own bytes maxL ret nm n0 km Q RR T' h' cells slots → Wr h h' a (Jvm.RoadKit.slotOf Z O n d) v' → OwnGo p e below (T'.setTop (mkF m pc' Ls S)) RR) : OwnGo p e below (T.setTop (mkF m pc Ls (v :: .ref a :: S))) RR := by
  subst hp
  obtain ⟨C, hh, hkm, locs, X0, N⟩ := X
  obtain ⟨hx, hby, hml, hZ, hown, hnm, hret, hlk, hR⟩ := id C
  obtain ⟨T', h', X', e', W', st⟩ := putFN X0 hx hZ hown w via hh F E (L.imp id fun q => ⟨q.1, q.2.1, hnm.trans q.2.2⟩) wi hty hn hf (g := mkF m pc Ls (v :: .ref a :: S)) rfl rfl (hb hby hd)
  exact own_step (k T' h' ⟨C, e', Nat.le_trans hkm (Nat.le_of_eq W'.size.symm), _, X', Fr.snoc X' N hge⟩ W') st
/-! from the case's words to facts -/
theorem own_fldL {st : State} {as' : Array Value} {t : Term} {C n d : String} {x : Addr} {z : Int64} (ht : t.eval as' st none [] st = some (.ref x)) (h : (Cond.eq (.field t C n d) (.long z)).value as' st none st [] = some true) : Fld st st.heap x C n d (.long z) := by
  obtain ⟨a, b, e1, e2, k1, k2⟩ := cmp_v (Or.inl h)
  cases (long_at z).symm.trans e2
  obtain ⟨w, rfl⟩ := k2
  have q := gotT (eq_L e1 e2) h
  subst q
  exact Fld.start ((fld_at ht).symm.trans e1)
theorem own_fldI {st : State} {as' : Array Value} {t : Term} {C n d : String} {x : Addr} {z : Int32} (ht : t.eval as' st none [] st = some (.ref x)) (h : (Cond.eq (.field t C n d) (.int z)).value as' st none st [] = some true) : Fld st st.heap x C n d (.int z) := by
  obtain ⟨a, b, e1, e2, k1, k2⟩ := cmp_v (Or.inl h)
  cases (Term.int_eval z).symm.trans e2
  obtain ⟨w, rfl⟩ := k2
  have q : w = z := by simpa [Cond.value, e1, e2] using h
  subst q
  exact Fld.start ((fld_at ht).symm.trans e1)
/-! calls by contract -/
theorem own_callC {index : Nat} {y : MethodName} {bytes' : ByteArray} {maxL' : Nat} {rm : Room} {a : Addr} {argsL : List Value} {Q' : Option Value → Heap → Prop} {ps : List FieldType} {W : Nat}
    (X : OwnSt p l e R s m args below meth c Z own bytes maxL ret nm n0 km Q RR T h cells slots) (hd : decode bytes pc = .ok (.invokespecial index, 3)) (hy : y.name = "<init>" ∧ y.cls ≠ "java/lang/invoke/MethodHandle" ∧ y.cls ≠ "java/lang/invoke/VarHandle")
    (w1 : (Cond.methodLink own index y).before a0 Z = true) (w2 : (Cond.instanceMethod y).before a0 Z = true) (w3 : (Cond.code y bytes' maxL' none).before a0 Z = true) (w4 : (Cond.initialized y.cls).before a0 Z = true)
    (M : OwnMet l Z y bytes' maxL' none rm (.ref a :: argsL).toArray h n0 Q') (hpd : parseMethodDescriptor y.desc = some ⟨ps, none⟩) (hlen : argsL.length = ps.length) {st : List Value} (hst : st = argsL.reverse ++ .ref a :: S) (hp : pc + 3 = pc') (hsz : Ls.size = maxL)
    (hW : 0 + (S.map fun v => v.category).sum ≤ W) (hf : rm.frames + 1 ≤ R.frames) (hlo : W + (maxL' + 11) + rm.locals ≤ R.locals) (hc : cells + rm.cells ≤ R.cells) (hl : slots + rm.slots ≤ R.slots)
    (k : ∀ T' h' v, OwnSt p l e R s m args below meth c Z own bytes maxL ret nm n0 km Q RR T' h' (cells + rm.cells) (slots + rm.slots) → Q' v h' → OwnGo p e below (T'.setTop (mkF m pc' Ls (v.toList ++ S))) RR) : OwnGo p e below (T.setTop (mkF m pc Ls st)) RR := by
  subst hp hst
  obtain ⟨C, hh, hkm, locs, X0, N⟩ := X
  obtain ⟨hx, hby, hml, hZ, hown, hnm, hret, hlk, hR⟩ := id C
  obtain ⟨v, _, ⟨T', L', c', s'⟩, -, X', ⟨Lc, hQ, e1, e2, e3⟩, st⟩ := X0.specialBack hx hy.1 hown (mvT hZ w1) (mvT hZ w2) (mvT hZ w3) hy.2 (backOf (W := W) (Q := fun v h' L => (Q' v h' ∧ h.size ≤ h'.size) ∧ Fr n0 L) (M []) hZ w3 w4 hf hlo) (g := mkF m pc Ls (argsL.reverse ++ .ref a :: S)) rfl (hsz.trans hml.symm) (Steps.refl _) (a := a) (argsL := argsL) (rest := S) (lenOf hpd hlen) rfl hW (hb hby hd) (fun _ _ => ⟨rfl, hh, hc, hl⟩)
  dsimp only [Pt.U, Pt.locs, Pt.cells, Pt.slots] at X' e1 e2 e3 st hQ
  subst e1 e2 e3
  exact own_step (k T' _ v ⟨C, rfl, Nat.le_trans hkm hQ.1.2, _, X', Fr.app N hQ.2⟩ hQ.1.1) fun t q => st.trans q
theorem own_callV {index : Nat} {y : MethodName} {K : String} {bytes' : ByteArray} {maxL' : Nat} {ret' : Option FieldType} {rm : Room} {a : Addr} {argsL : List Value} {Q' : Option Value → Heap → Prop} {ps : List FieldType} {W : Nat}
    (X : OwnSt p l e R s m args below meth c Z own bytes maxL ret nm n0 km Q RR T h cells slots) (hd : decode bytes pc = .ok (.invokevirtual index, 3)) (hy : y.cls ≠ "java/lang/invoke/MethodHandle" ∧ y.cls ≠ "java/lang/invoke/VarHandle")
    (w1 : (Cond.methodLink own index y).before a0 Z = true) (w2 : (Cond.declares y).before a0 Z = true) (w3 : (Cond.selects K y y).before a0 Z = true) (w4 : (Cond.instanceMethod y).before a0 Z = true) (w5 : (Cond.code y bytes' maxL' ret').before a0 Z = true) (w6 : (Cond.initialized y.cls).before a0 Z = true) (E : Exa Z h a K)
    (M : OwnMet l Z y bytes' maxL' ret' rm (.ref a :: argsL).toArray h n0 Q') {rt : Option FieldType} (hpd : parseMethodDescriptor y.desc = some ⟨ps, rt⟩) (hlen : argsL.length = ps.length) {st : List Value} (hst : st = argsL.reverse ++ .ref a :: S) (hp : pc + 3 = pc') (hsz : Ls.size = maxL)
    (hW : 0 + (S.map fun v => v.category).sum ≤ W) (hf : rm.frames + 1 ≤ R.frames) (hlo : W + (maxL' + 11) + rm.locals ≤ R.locals) (hc : cells + rm.cells ≤ R.cells) (hl : slots + rm.slots ≤ R.slots)
    (k : ∀ T' h' v, OwnSt p l e R s m args below meth c Z own bytes maxL ret nm n0 km Q RR T' h' (cells + rm.cells) (slots + rm.slots) → Q' v h' → OwnGo p e below (T'.setTop (mkF m pc' Ls (v.toList ++ S))) RR) : OwnGo p e below (T.setTop (mkF m pc Ls st)) RR := by
  subst hp hst
  obtain ⟨C, hh, hkm, locs, X0, N⟩ := X
  obtain ⟨hx, hby, hml, hZ, hown, hnm, hret, hlk, hR⟩ := id C
  obtain ⟨cq, kq, qa, qb, qc⟩ := isOf hZ hh E
  obtain ⟨v, _, ⟨T', L', c', s'⟩, -, X', ⟨Lc, hQ, e1, e2, e3⟩, st⟩ := X0.virtualBack hx (y := y) (z := y) hown (mvT hZ w1) (mvT hZ w2) (notFace_of_selects (args := #[]) (mvT hZ w3)) (mvT hZ w3) (mvT hZ w4) hy (backOf (W := W) (Q := fun v h' L => (Q' v h' ∧ h.size ≤ h'.size) ∧ Fr n0 L) (M []) hZ w5 w6 hf hlo) qa qc (g := mkF m pc Ls (argsL.reverse ++ .ref a :: S)) rfl (hsz.trans hml.symm) (Steps.refl _) (argsL := argsL) (rest := S) (lenOf hpd hlen) rfl hW (hb hby hd) (fun _ _ => ⟨rfl, hh, hc, hl⟩)
  dsimp only [Pt.U, Pt.locs, Pt.cells, Pt.slots] at X' e1 e2 e3 st hQ
  subst e1 e2 e3
  exact own_step (k T' _ v ⟨C, rfl, Nat.le_trans hkm hQ.1.2, _, X', Fr.app N hQ.2⟩ hQ.1.1) fun t q => st.trans q
theorem own_callP {index kk : Nat} {y : MethodName} {K : String} {bytes' : ByteArray} {maxL' : Nat} {ret' : Option FieldType} {rm : Room} {a : Addr} {argsL : List Value} {Q' : Option Value → Heap → Prop} {ps : List FieldType} {W : Nat}
    (X : OwnSt p l e R s m args below meth c Z own bytes maxL ret nm n0 km Q RR T h cells slots) (hd : decode bytes pc = .ok (.invokevirtual index, 3)) (hy : y.cls ≠ "java/lang/invoke/MethodHandle" ∧ y.cls ≠ "java/lang/invoke/VarHandle")
    (w1 : (Cond.methodLink own index y).before a0 Z = true) (w2 : (Cond.privateMethod y).before a0 Z = true) (w3 : (Cond.instantiable y.cls kk).before a0 Z = true) (w4 : (Cond.instanceMethod y).before a0 Z = true) (w5 : (Cond.code y bytes' maxL' ret').before a0 Z = true) (w6 : (Cond.initialized y.cls).before a0 Z = true) (E : Exa Z h a K)
    (M : OwnMet l Z y bytes' maxL' ret' rm (.ref a :: argsL).toArray h n0 Q') {rt : Option FieldType} (hpd : parseMethodDescriptor y.desc = some ⟨ps, rt⟩) (hlen : argsL.length = ps.length) {st : List Value} (hst : st = argsL.reverse ++ .ref a :: S) (hp : pc + 3 = pc') (hsz : Ls.size = maxL)
    (hW : 0 + (S.map fun v => v.category).sum ≤ W) (hf : rm.frames + 1 ≤ R.frames) (hlo : W + (maxL' + 11) + rm.locals ≤ R.locals) (hc : cells + rm.cells ≤ R.cells) (hl : slots + rm.slots ≤ R.slots)
    (k : ∀ T' h' v, OwnSt p l e R s m args below meth c Z own bytes maxL ret nm n0 km Q RR T' h' (cells + rm.cells) (slots + rm.slots) → Q' v h' → OwnGo p e below (T'.setTop (mkF m pc' Ls (v.toList ++ S))) RR) : OwnGo p e below (T.setTop (mkF m pc Ls st)) RR := by
  subst hp hst
  obtain ⟨C, hh, hkm, locs, X0, N⟩ := X
  obtain ⟨hx, hby, hml, hZ, hown, hnm, hret, hlk, hR⟩ := id C
  obtain ⟨cl, q, q'⟩ := E.cell
  have hpriv : s.PrivateAt y := Cond.privateMethod_at (mvP hZ w2 (args := #[]))
  have wi : (Cond.instantiable y.cls kk).before args s = true := mvT hZ w3
  obtain ⟨c2, k2, i1, i2, i3, i4, -⟩ := Cond.instantiable_spec wi
  have i5 : k2.isInterface = false := by
    cases hq : k2.isInterface
    · rfl
    · rw [hq] at i4; cases i4
  have hsel : (Cond.selects y.cls y y).before args s = true := selects_self_of_private i1 i2 i5 hpriv (mvT hZ w4) hy
  obtain ⟨v, _, ⟨T', L', c', s'⟩, -, X', ⟨Lc, hQ, e1, e2, e3⟩, st⟩ := X0.privateBack hx (y := y) hown (mvT hZ w1) (mvT hZ w4) hsel hpriv (mvT hZ w5) hy (backOf (W := W) (Q := fun v h' L => (Q' v h' ∧ h.size ≤ h'.size) ∧ Fr n0 L) (M []) hZ w5 w6 hf hlo) (g := mkF m pc Ls (argsL.reverse ++ .ref a :: S)) rfl (hsz.trans hml.symm) (Steps.refl _) (a := a) (by rw [hh]; exact q) q' (argsL := argsL) (rest := S) (lenOf hpd hlen) rfl hW (hb hby hd) (fun _ _ => ⟨rfl, hh, hc, hl⟩)
  dsimp only [Pt.U, Pt.locs, Pt.cells, Pt.slots] at X' e1 e2 e3 st hQ
  subst e1 e2 e3
  exact own_step (k T' _ v ⟨C, rfl, Nat.le_trans hkm hQ.1.2, _, X', Fr.app N hQ.2⟩ hQ.1.1) fun t q => st.trans q
theorem own_callS {index : Nat} {y : MethodName} {bytes' : ByteArray} {maxL' : Nat} {ret' : Option FieldType} {rm : Room} {argsL : List Value} {Q' : Option Value → Heap → Prop} {ps : List FieldType} {W : Nat}
    (X : OwnSt p l e R s m args below meth c Z own bytes maxL ret nm n0 km Q RR T h cells slots) (hd : decode bytes pc = .ok (.invokestatic index, 3)) (hy : y.cls ≠ "java/lang/invoke/MethodHandle" ∧ y.cls ≠ "java/lang/invoke/VarHandle")
    (w1 : (Cond.methodLink own index y).before a0 Z = true) (w2 : (Cond.static y).before a0 Z = true) (w5 : (Cond.code y bytes' maxL' ret').before a0 Z = true) (w6 : (Cond.initialized y.cls).before a0 Z = true)
    (M : OwnMet l Z y bytes' maxL' ret' rm argsL.toArray h n0 Q') {rt : Option FieldType} (hpd : parseMethodDescriptor y.desc = some ⟨ps, rt⟩) (hlen : argsL.length = ps.length) {st : List Value} (hst : st = argsL.reverse ++ S) (hp : pc + 3 = pc') (hsz : Ls.size = maxL)
    (hW : 0 + (S.map fun v => v.category).sum ≤ W) (hf : rm.frames + 1 ≤ R.frames) (hlo : W + (maxL' + 11) + rm.locals ≤ R.locals) (hc : cells + rm.cells ≤ R.cells) (hl : slots + rm.slots ≤ R.slots)
    (k : ∀ T' h' v, OwnSt p l e R s m args below meth c Z own bytes maxL ret nm n0 km Q RR T' h' (cells + rm.cells) (slots + rm.slots) → Q' v h' → OwnGo p e below (T'.setTop (mkF m pc' Ls (v.toList ++ S))) RR) : OwnGo p e below (T.setTop (mkF m pc Ls st)) RR := by
  subst hp hst
  obtain ⟨C, hh, hkm, locs, X0, N⟩ := X
  obtain ⟨hx, hby, hml, hZ, hown, hnm, hret, hlk, hR⟩ := id C
  obtain ⟨v, _, ⟨T', L', c', s'⟩, -, X', ⟨Lc, hQ, e1, e2, e3⟩, st⟩ := Jvm.LawKit.callS X0 hx (y := y) hown (mvT hZ w1) (mvT hZ w2) (mvT hZ w6) (mvT hZ w5) hy (backOf (W := W) (Q := fun v h' L => (Q' v h' ∧ h.size ≤ h'.size) ∧ Fr n0 L) (M []) hZ w5 w6 hf hlo) (g := mkF m pc Ls (argsL.reverse ++ S)) rfl (hsz.trans hml.symm) (argsL := argsL) (rest := S) (lenOf hpd hlen) rfl hW (hb hby hd) (fun _ _ => ⟨rfl, hh, hc, hl⟩)
  dsimp only [Pt.U, Pt.locs, Pt.cells, Pt.slots] at X' e1 e2 e3 st hQ
  subst e1 e2 e3
  exact own_step (k T' _ v ⟨C, rfl, Nat.le_trans hkm hQ.1.2, _, X', Fr.app N hQ.2⟩ hQ.1.1) st
end OwnKit
/-! ## own kit, arrays: the whole list of what lies in them -/
section OwnArr
variable {p : Program} {l : Launch} {e : Env} {R : Room} {s : State} {m : MethodId} {args : Array Value} {below : List Frame} {meth : Method} {c : Code} {Z : State} {own : String} {bytes : ByteArray} {maxL : Nat} {ret : Option FieldType} {nm : String} {n0 km : Nat} {Q : Option Value → Heap → Prop} {RR : State → Outcome → Prop} {T : State} {h h' : Heap} {cells slots : Nat} {a0 : Array Value} {pc pc' : Nat} {Ls : Array Slot} {S : List Value} {a b : Addr} {ty : FieldType} {vs : List Value} {sl : Nat} {v : Value} {ws : List Addr}
def OwnAr (Z : State) (h : Heap) (a : Addr) (ty : FieldType) (vs : List Value) : Prop := ∃ c : Cell, Arr Z h a c ty ∧ c.slots = vs.toArray ∧ vs.length < 2 ^ 31
theorem OwnAr.lt (F : OwnAr Z h a ty vs) : a < h.size := F.elim fun _ q => q.1.lt
theorem OwnAr.ext (F : OwnAr Z h a ty vs) (E : Ext h h') : OwnAr Z h' a ty vs := by obtain ⟨c, A, r⟩ := F; exact ⟨c, A.ext E, r⟩
theorem OwnAr.other (F : OwnAr Z h b ty vs) (W : Wr h h' a sl v) (q : b ≠ a) : OwnAr Z h' b ty vs := by obtain ⟨c, A, r⟩ := F; exact ⟨c, A.other W q, r⟩
theorem OwnAr.keep (F : OwnAr Z h a ty vs) (K : Keep h h' ws) (q : a ∉ ws) : OwnAr Z h' a ty vs := by obtain ⟨c, A, r⟩ := F; exact ⟨c, ⟨K.2.1 a c A.1 q, A.2⟩, r⟩
theorem OwnAr.same (F : OwnAr Z h a ty vs) (W : Wr h h' a sl v) : OwnAr Z h' a ty (vs.set sl v) := by
  obtain ⟨c, A, r1, r2⟩ := F
  exact ⟨_, A.same W, by simp [Cell.setSlot, r1], by simpa using r2⟩
theorem OwnAr.in (F : OwnAr Z h a ty vs) {j : Int32} (h1 : ¬ j < 0) (h2 : j.toNatClampNeg < vs.length) {c : Cell} (r1 : c.slots = vs.toArray) : ¬ (j < 0 ∨ c.slots.size ≤ j.toNatClampNeg) := by
  rintro (q | q)
  · exact h1 q
  · rw [r1, List.size_toArray] at q; omega
theorem own_lt_of_get {i : Nat} {x : Value} (q : vs[i]? = some x) : i < vs.length := (List.getElem?_eq_some_iff.mp q).1
theorem own_getI {xs : List Int32} {i : Nat} (q : i < xs.length) : (xs.map Value.int)[i]? = some (.int (xs.getD i 0)) := by
  rw [List.getElem?_map, List.getElem?_eq_getElem q, List.getD_eq_getElem?_getD, List.getElem?_eq_getElem q]; rfl
theorem own_getJ {xs : List Int64} {i : Nat} (q : i < xs.length) : (xs.map Value.long)[i]? = some (.long (xs.getD i 0)) := by
  rw [List.getElem?_map, List.getElem?_eq_getElem q, List.getD_eq_getElem?_getD, List.getElem?_eq_getElem q]; rfl
theorem own_newarr {aty : ArrayType} {n : Int32} {cap : Nat} (X : OwnSt p l e R s m args below meth c Z own bytes maxL ret nm n0 km Q RR T h cells slots) (hd : decode bytes pc = .ok (.newarray aty, 2)) (w : (Cond.arrayClass (newarray.typeOf aty)).before a0 Z = true) (hp : pc + 2 = pc') (hn : ¬ n < 0) (hcap : n.toNatClampNeg ≤ cap) (hbig : cap * 8 ≤ 536870912) (hc : cells + 1 ≤ R.cells) (hl : slots + cap ≤ R.slots)
    (k : ∀ T' h' b, b = h.size → OwnSt p l e R s m args below meth c Z own bytes maxL ret nm n0 km Q RR T' h' (cells + 1) (slots + cap) → Ext h h' → OwnAr Z h' b (newarray.typeOf aty) (List.replicate n.toNatClampNeg (defaultValue (newarray.typeOf aty))) → OwnGo p e below (T'.setTop (mkF m pc' Ls (.ref b :: S))) RR) : OwnGo p e below (T.setTop (mkF m pc Ls (.int n :: S))) RR := by
  subst hp
  obtain ⟨C, hh, hkm, locs, X0, N⟩ := X
  obtain ⟨hx, hby, hml, hZ, hown, hnm, hret, hlk, hR⟩ := id C
  obtain ⟨T', h', cA, X', e', E', A', st⟩ := newP X0 hx hZ w hh (g := mkF m pc Ls (.int n :: S)) rfl (hb hby hd) rfl hn hcap hbig hc hl
  exact own_step (k T' h' _ rfl ⟨C, e', Nat.le_trans hkm E'.1, locs, X', N⟩ E' ⟨_, A', by simp [newA], by simp only [List.length_replicate]; omega⟩) st
theorem own_arraylength (X : OwnSt p l e R s m args below meth c Z own bytes maxL ret nm n0 km Q RR T h cells slots) (hd : decode bytes pc = .ok (.arraylength, 1)) (A : OwnAr Z h a ty vs) {n : Int32} (hn : vs.length.toInt32 = n) (hp : pc + 1 = pc') (k : OwnGo p e below (T.setTop (mkF m pc' Ls (.int n :: S))) RR) : OwnGo p e below (T.setTop (mkF m pc Ls (.ref a :: S))) RR := by
  subst hp hn
  obtain ⟨C, hh, hkm, locs, X0, N⟩ := id X
  obtain ⟨cl, A0, r1, r2⟩ := A
  refine own_step k fun t q => ?_
  refine X0.arraylength X.hx (by rw [hh]; exact A0.1) (State.isArrayOf_alike X.hZ.alike A0.2.1) (g := mkF m pc Ls (.ref a :: S)) rfl rfl (hb X.by' hd) _ ?_
  rw [r1, List.size_toArray]; exact q
theorem own_iaload {j : Int32} (X : OwnSt p l e R s m args below meth c Z own bytes maxL ret nm n0 km Q RR T h cells slots) (hd : decode bytes pc = .ok (.iaload, 1)) (A : OwnAr Z h a .int vs) (hj : ¬ j < 0) (hv : vs[j.toNatClampNeg]? = some v) (hp : pc + 1 = pc') (k : OwnGo p e below (T.setTop (mkF m pc' Ls (v :: S))) RR) : OwnGo p e below (T.setTop (mkF m pc Ls (.int j :: .ref a :: S))) RR := by
  subst hp
  obtain ⟨C, hh, hkm, locs, X0, N⟩ := id X
  obtain ⟨cl, A0, r1, r2⟩ := id A
  exact own_step k fun t q => X0.iaload X.hx (by rw [hh]; exact A0.1) (State.isArrayOf_alike X.hZ.alike A0.2.1) A0.2.2 (A.in hj (own_lt_of_get hv) r1) (by rw [r1, List.getElem?_toArray]; exact hv) (g := mkF m pc Ls (.int j :: .ref a :: S)) rfl rfl (hb X.by' hd) _ q
theorem own_laload {j : Int32} (X : OwnSt p l e R s m args below meth c Z own bytes maxL ret nm n0 km Q RR T h cells slots) (hd : decode bytes pc = .ok (.laload, 1)) (A : OwnAr Z h a .long vs) (hj : ¬ j < 0) (hv : vs[j.toNatClampNeg]? = some v) (hp : pc + 1 = pc') (k : OwnGo p e below (T.setTop (mkF m pc' Ls (v :: S))) RR) : OwnGo p e below (T.setTop (mkF m pc Ls (.int j :: .ref a :: S))) RR := by
  subst hp
  obtain ⟨C, hh, hkm, locs, X0, N⟩ := id X
  obtain ⟨cl, A0, r1, r2⟩ := id A
  exact own_step k fun t q => X0.laload X.hx (by rw [hh]; exact A0.1) (State.isArrayOf_alike X.hZ.alike A0.2.1) A0.2.2 (A.in hj (own_lt_of_get hv) r1) (by rw [r1, List.getElem?_toArray]; exact hv) (g := mkF m pc Ls (.int j :: .ref a :: S)) rfl rfl (hb X.by' hd) _ q
theorem own_caload {j : Int32} (X : OwnSt p l e R s m args below meth c Z own bytes maxL ret nm n0 km Q RR T h cells slots) (hd : decode bytes pc = .ok (.caload, 1)) (A : OwnAr Z h a .char vs) (hj : ¬ j < 0) (hv : vs[j.toNatClampNeg]? = some v) (hp : pc + 1 = pc') (k : OwnGo p e below (T.setTop (mkF m pc' Ls (v :: S))) RR) : OwnGo p e below (T.setTop (mkF m pc Ls (.int j :: .ref a :: S))) RR := by
  subst hp
  obtain ⟨C, hh, hkm, locs, X0, N⟩ := id X
  obtain ⟨cl, A0, r1, r2⟩ := id A
  exact own_step k fun t q => X0.caload X.hx (by rw [hh]; exact A0.1) (State.isArrayOf_alike X.hZ.alike A0.2.1) A0.2.2 (A.in hj (own_lt_of_get hv) r1) (by rw [r1, List.getElem?_toArray]; exact hv) (g := mkF m pc Ls (.int j :: .ref a :: S)) rfl rfl (hb X.by' hd) _ q
theorem own_baload {j : Int32} (X : OwnSt p l e R s m args below meth c Z own bytes maxL ret nm n0 km Q RR T h cells slots) (hd : decode bytes pc = .ok (.baload, 1)) (A : OwnAr Z h a .byte vs) (hj : ¬ j < 0) (hv : vs[j.toNatClampNeg]? = some v) (hp : pc + 1 = pc') (k : OwnGo p e below (T.setTop (mkF m pc' Ls (v :: S))) RR) : OwnGo p e below (T.setTop (mkF m pc Ls (.int j :: .ref a :: S))) RR := by
  subst hp
  obtain ⟨C, hh, hkm, locs, X0, N⟩ := id X
  obtain ⟨cl, A0, r1, r2⟩ := id A
  exact own_step k fun t q => X0.baloadBytes X.hx (by rw [hh]; exact A0.1) (State.isArrayOf_alike X.hZ.alike A0.2.1) A0.2.2 (A.in hj (own_lt_of_get hv) r1) (by rw [r1, List.getElem?_toArray]; exact hv) (g := mkF m pc Ls (.int j :: .ref a :: S)) rfl rfl (hb X.by' hd) _ q
theorem own_aaload {j : Int32} (X : OwnSt p l e R s m args below meth c Z own bytes maxL ret nm n0 km Q RR T h cells slots) (hd : decode bytes pc = .ok (.aaload, 1)) (A : OwnAr Z h a ty vs) (hty : ty.isReference = true) (hj : ¬ j < 0) (hv : vs[j.toNatClampNeg]? = some v) (hp : pc + 1 = pc') (k : OwnGo p e below (T.setTop (mkF m pc' Ls (v :: S))) RR) : OwnGo p e below (T.setTop (mkF m pc Ls (.int j :: .ref a :: S))) RR := by
  subst hp
  obtain ⟨C, hh, hkm, locs, X0, N⟩ := id X
  obtain ⟨cl, A0, r1, r2⟩ := id A
  exact own_step k fun t q => X0.aaload X.hx (by rw [hh]; exact A0.1) (State.isArrayOf_alike X.hZ.alike A0.2.1) hty A0.2.2 (A.in hj (own_lt_of_get hv) r1) (by rw [r1, List.getElem?_toArray]; exact hv) (g := mkF m pc Ls (.int j :: .ref a :: S)) rfl rfl (hb X.by' hd) _ q
theorem own_iastore {j : Int32} {x : Int32} (X : OwnSt p l e R s m args below meth c Z own bytes maxL ret nm n0 km Q RR T h cells slots) (hd : decode bytes pc = .ok (.iastore, 1)) (A : OwnAr Z h a .int vs) (hj : ¬ j < 0) (hj2 : j.toNatClampNeg < vs.length) (hge : n0 ≤ a) (hp : pc + 1 = pc') (k : ∀ T' h', OwnSt p l e R s m args below meth c Z own bytes maxL ret nm n0 km Q RR T' h' cells slots → Wr h h' a j.toNatClampNeg (.int x) → OwnAr Z h' a .int (vs.set j.toNatClampNeg (.int x)) → OwnGo p e below (T'.setTop (mkF m pc' Ls S)) RR) : OwnGo p e below (T.setTop (mkF m pc Ls (.int x :: .int j :: .ref a :: S))) RR := by
  subst hp
  obtain ⟨C, hh, hkm, locs, X0, N⟩ := id X
  obtain ⟨cl, A0, r1, r2⟩ := id A
  obtain ⟨T', h', X', e', W', st⟩ := stI X0 X.hx X.hZ hh A0 (A.in hj hj2 r1) (g := mkF m pc Ls (.int x :: .int j :: .ref a :: S)) rfl rfl (hb X.by' hd)
  exact own_step (k T' h' ⟨C, e', Nat.le_trans hkm (Nat.le_of_eq W'.size.symm), _, X', Fr.snoc X' N hge⟩ W' (A.same W')) st
theorem own_lastore {j : Int32} {x : Int64} (X : OwnSt p l e R s m args below meth c Z own bytes maxL ret nm n0 km Q RR T h cells slots) (hd : decode bytes pc = .ok (.lastore, 1)) (A : OwnAr Z h a .long vs) (hj : ¬ j < 0) (hj2 : j.toNatClampNeg < vs.length) (hge : n0 ≤ a) (hp : pc + 1 = pc') (k : ∀ T' h', OwnSt p l e R s m args below meth c Z own bytes maxL ret nm n0 km Q RR T' h' cells slots → Wr h h' a j.toNatClampNeg (.long x) → OwnAr Z h' a .long (vs.set j.toNatClampNeg (.long x)) → OwnGo p e below (T'.setTop (mkF m pc' Ls S)) RR) : OwnGo p e below (T.setTop (mkF m pc Ls (.long x :: .int j :: .ref a :: S))) RR := by
  subst hp
  obtain ⟨C, hh, hkm, locs, X0, N⟩ := id X
  obtain ⟨cl, A0, r1, r2⟩ := id A
  obtain ⟨T', h', X', e', W', st⟩ := stJ X0 X.hx X.hZ hh A0 (A.in hj hj2 r1) (g := mkF m pc Ls (.long x :: .int j :: .ref a :: S)) rfl rfl (hb X.by' hd)
  exact own_step (k T' h' ⟨C, e', Nat.le_trans hkm (Nat.le_of_eq W'.size.symm), _, X', Fr.snoc X' N hge⟩ W' (A.same W')) st
theorem own_castore {j : Int32} {x : Int32} (X : OwnSt p l e R s m args below meth c Z own bytes maxL ret nm n0 km Q RR T h cells slots) (hd : decode bytes pc = .ok (.castore, 1)) (A : OwnAr Z h a .char vs) (hj : ¬ j < 0) (hj2 : j.toNatClampNeg < vs.length) (hge : n0 ≤ a) (hp : pc + 1 = pc') (k : ∀ T' h', OwnSt p l e R s m args below meth c Z own bytes maxL ret nm n0 km Q RR T' h' cells slots → Wr h h' a j.toNatClampNeg (.int (x.toUInt32.toUInt16.toUInt32.toInt32)) → OwnAr Z h' a .char (vs.set j.toNatClampNeg (.int (x.toUInt32.toUInt16.toUInt32.toInt32))) → OwnGo p e below (T'.setTop (mkF m pc' Ls S)) RR) : OwnGo p e below (T.setTop (mkF m pc Ls (.int x :: .int j :: .ref a :: S))) RR := by
  subst hp
  obtain ⟨C, hh, hkm, locs, X0, N⟩ := id X
  obtain ⟨cl, A0, r1, r2⟩ := id A
  obtain ⟨T', h', X', e', W', st⟩ := stC X0 X.hx X.hZ hh A0 (A.in hj hj2 r1) (g := mkF m pc Ls (.int x :: .int j :: .ref a :: S)) rfl rfl (hb X.by' hd)
  exact own_step (k T' h' ⟨C, e', Nat.le_trans hkm (Nat.le_of_eq W'.size.symm), _, X', Fr.snoc X' N hge⟩ W' (A.same W')) st
end OwnArr
/-! ## own kit, arrays: their class, a copy of one, a cast, a pair doubled -/
section OwnArr2
variable {p : Program} {l : Launch} {e : Env} {R : Room} {s : State} {m : MethodId} {args : Array Value} {below : List Frame} {meth : Method} {c : Code} {Z : State} {own : String} {bytes : ByteArray} {maxL : Nat} {ret : Option FieldType} {nm : String} {n0 km : Nat} {Q : Option Value → Heap → Prop} {RR : State → Outcome → Prop} {T : State} {h h' : Heap} {cells slots : Nat} {a0 : Array Value} {pc pc' : Nat} {Ls : Array Slot} {S : List Value} {a b : Addr} {ty : FieldType} {vs : List Value} {sl : Nat} {v : Value} {ws : List Addr}
theorem own_newarrE {aty : ArrayType} {n : Int32} {cap : Nat} {K : String} (X : OwnSt p l e R s m args below meth c Z own bytes maxL ret nm n0 km Q RR T h cells slots) (hd : decode bytes pc = .ok (.newarray aty, 2)) (w : (Cond.arrayClass (newarray.typeOf aty)).before a0 Z = true) (hK : "[" ++ (newarray.typeOf aty).toString = K) (hp : pc + 2 = pc') (hn : ¬ n < 0) (hcap : n.toNatClampNeg ≤ cap) (hbig : cap * 8 ≤ 536870912) (hc : cells + 1 ≤ R.cells) (hl : slots + cap ≤ R.slots)
    (k : ∀ T' h' b, b = h.size → OwnSt p l e R s m args below meth c Z own bytes maxL ret nm n0 km Q RR T' h' (cells + 1) (slots + cap) → Ext h h' → OwnAr Z h' b (newarray.typeOf aty) (List.replicate n.toNatClampNeg (defaultValue (newarray.typeOf aty))) → Exa Z h' b K → OwnGo p e below (T'.setTop (mkF m pc' Ls (.ref b :: S))) RR) : OwnGo p e below (T.setTop (mkF m pc Ls (.int n :: S))) RR := by
  subst hp hK
  obtain ⟨C, hh, hkm, locs, X0, N⟩ := X
  obtain ⟨hx, hby, hml, hZ, hown, hnm, hret, hlk, hR⟩ := id C
  have hcb : componentBytes (newarray.typeOf aty) ≤ 8 := by cases aty <;> decide
  obtain ⟨cA, kA, comp, h1, h2, h3, X', st⟩ := X0.newarrayPrim hx (mvA hZ w) (g := mkF m pc Ls (.int n :: S)) rfl (hb hby hd) rfl hn (Nat.le_trans (Nat.mul_le_mul hcap hcb) hbig) hc (by omega)
  subst hh
  rw [hZ.alike.findClass] at h1
  obtain ⟨kZ, z1, -⟩ := Vm.findClass_spec h1
  obtain ⟨k', z2, z3⟩ := hZ.alike.2.2 _ _ z1
  cases h2.symm.trans z2
  have z4 : kZ.kind = .array comp (newarray.typeOf aty) := by rw [← h3, z3]
  have E : Ext T.heap (T.heap.push { cls := cA, slots := Array.replicate n.toNatClampNeg (defaultValue (newarray.typeOf aty)), vm := .none }) := ext_of fun a q => Array.getElem?_push_lt q |>.trans (Array.getElem?_eq_getElem q).symm
  have hN : (T.heap.push { cls := cA, slots := Array.replicate n.toNatClampNeg (defaultValue (newarray.typeOf aty)), vm := .none })[T.heap.size]? = some ({ cls := cA, slots := Array.replicate n.toNatClampNeg (defaultValue (newarray.typeOf aty)), vm := .none } : Cell) := by simp
  refine own_step (k _ _ _ rfl ⟨C, rfl, Nat.le_trans hkm E.1, locs, X'.more (Nat.le_refl _) (by omega), N⟩ E ⟨_, ⟨hN, ⟨fun _ z => (by cases z), kZ, z1, comp, z4⟩, fun z => (by cases z)⟩, by simp, by simp only [List.length_replicate]; omega⟩ ⟨_, kZ, hN, h1, z1, rfl, fun q => by rw [z4] at q; cases q⟩) st
theorem own_clone {index cap : Nat} {ad : String} {W : Nat} (X : OwnSt p l e R s m args below meth c Z own bytes maxL ret nm n0 km Q RR T h cells slots) (hd : decode bytes pc = .ok (.invokevirtual index, 3))
    (w1 : (Cond.methodLink own index ⟨ad, "clone", "()Ljava/lang/Object;"⟩).before a0 Z = true) (w2 : (Cond.sameMethod ad "java/lang/Object" "clone" "()Ljava/lang/Object;").before a0 Z = true) (w3 : (Cond.native ⟨"java/lang/Object", "clone", "()Ljava/lang/Object;"⟩).before a0 Z = true)
    (w4 : (Cond.instanceMethod ⟨"java/lang/Object", "clone", "()Ljava/lang/Object;"⟩).before a0 Z = true) (w5 : (Cond.selects ad ⟨ad, "clone", "()Ljava/lang/Object;"⟩ ⟨"java/lang/Object", "clone", "()Ljava/lang/Object;"⟩).before a0 Z = true) (w6 : (Cond.castable ad "java/lang/Cloneable").before a0 Z = true)
    (A : OwnAr Z h a ty vs) (E : Exa Z h a ad) (hfit : ∀ v ∈ vs, fits ty v = true) (hp : pc + 3 = pc') (hsz : Ls.size = maxL) (hf : 1 ≤ R.frames) (hW : 0 + (S.map fun v => v.category).sum ≤ W) (hlo : W + 14 ≤ R.locals) (hcap : vs.length ≤ cap) (hc : cells + 1 ≤ R.cells) (hl : slots + cap ≤ R.slots)
    (k : ∀ T' h' b, b = h.size → OwnSt p l e R s m args below meth c Z own bytes maxL ret nm n0 km Q RR T' h' (cells + 1) (slots + cap) → Ext h h' → OwnAr Z h' b ty vs → Exa Z h' b ad → OwnGo p e below (T'.setTop (mkF m pc' Ls (.ref b :: S))) RR) : OwnGo p e below (T.setTop (mkF m pc Ls (.ref a :: S))) RR := by
  subst hp
  obtain ⟨C, hh, hkm, locs, X0, N⟩ := X
  obtain ⟨hx, hby, hml, hZ, hown, hnm, hret, hlk, hR⟩ := id C
  obtain ⟨cl, A0, r1, r2⟩ := A
  have F : FitC Z cl := fun i v hv => by
    obtain ⟨hs, kk, hk, comp, hkind⟩ := A0.2.1
    rw [r1, List.getElem?_toArray] at hv
    have q := hfit v (List.mem_of_getElem? hv)
    simp [State.fitsSlot, State.slotType?, hk, hkind, q]
  obtain ⟨T', h', X', e', E', A', Ex', st⟩ := cloneA X0 hx hZ hown w1 w2 w3 w4 w5 w6 hh A0 E F (g := mkF m pc Ls (.ref a :: S)) rfl (hsz.trans hml.symm) rfl (hb hby hd) hf hW hlo (by rw [r1, List.size_toArray]; exact hcap) hc hl
  exact own_step (k T' h' _ rfl ⟨C, e', Nat.le_trans hkm E'.1, locs, X', N⟩ E' ⟨_, A', r1, r2⟩ Ex') st
theorem own_cast {index : Nat} {K : String} (X : OwnSt p l e R s m args below meth c Z own bytes maxL ret nm n0 km Q RR T h cells slots) (hd : decode bytes pc = .ok (.checkcast index, 3)) (w : (Cond.classLink own index K).before a0 Z = true) (F : Ins Z h a K true) (hp : pc + 3 = pc')
    (k : ∀ T', OwnSt p l e R s m args below meth c Z own bytes maxL ret nm n0 km Q RR T' h cells slots → OwnGo p e below (T'.setTop (mkF m pc' Ls (.ref a :: S))) RR) : OwnGo p e below (T.setTop (mkF m pc Ls (.ref a :: S))) RR := by
  subst hp
  obtain ⟨C, hh, hkm, locs, X0, N⟩ := X
  obtain ⟨hx, hby, hml, hZ, hown, hnm, hret, hlk, hR⟩ := id C
  obtain ⟨T', X', e', st⟩ := castY X0 hx hZ hown w hh F (g := mkF m pc Ls (.ref a :: S)) rfl rfl (hb hby hd)
  exact own_step (k T' ⟨C, e', hkm, locs, X', N⟩) st
theorem own_dup2 {x y : Value} (X : OwnSt p l e R s m args below meth c Z own bytes maxL ret nm n0 km Q RR T h cells slots) (hd : decode bytes pc = .ok (.dup2, 1)) (hp : pc + 1 = pc') (hc : x.category = 1) (hc' : y.category = 1) (k : OwnGo p e below (T.setTop (mkF m pc' Ls (x :: y :: x :: y :: S))) RR) : OwnGo p e below (T.setTop (mkF m pc Ls (x :: y :: S))) RR := by
  subst hp
  exact own_step k fun t k => Jvm.Free.XT.dup2 X.here X.hx rfl (hb X.by' hd) rfl hc hc' k
end OwnArr2
theorem own_nn (x : Int32) : (x.toUInt32.toUInt16.toUInt32.toInt32).toUInt32.toUInt16.toUInt32.toInt32 = x.toUInt32.toUInt16.toUInt32.toInt32 := by
  have h : ∀ u : UInt16, u.toUInt32.toInt32.toUInt32.toUInt16 = u := fun u => by simp
  rw [h]
theorem own_and (x m : Int32) (hm : 0 ≤ m.toInt) : 0 ≤ (x &&& m).toInt ∧ (x &&& m).toInt ≤ m.toInt := by
  have e1 : m.toInt = (m.toBitVec.toNat : Int) := by
    show m.toBitVec.toInt = _
    have q : 0 ≤ m.toBitVec.toInt := hm
    have := m.toBitVec.isLt
    rw [BitVec.toInt_eq_toNat_cond] at q ⊢
    split at q <;> split <;> omega
  have h1 : (x &&& m).toBitVec.toNat ≤ m.toBitVec.toNat := by
    rw [Int32.toBitVec_and, BitVec.toNat_and]; exact Nat.and_le_right
  have h3 : m.toInt < 2147483648 := m.toInt_lt
  have e2 : (x &&& m).toInt = ((x &&& m).toBitVec.toNat : Int) := by
    show (x &&& m).toBitVec.toInt = _
    rw [BitVec.toInt_eq_toNat_cond]
    split <;> omega
  omega
theorem own_or32 (c : BitVec 32) (k : BitVec 32) (hk : k.getLsbD 5 = true) : c ||| 32#32 = k ↔ c = k ∨ c = k ^^^ 32#32 := by
  have t : (32#32 : BitVec 32) = BitVec.twoPow 32 5 := by decide
  constructor
  · intro h
    by_cases b : c.getLsbD 5
    · left; rw [← h]; apply BitVec.eq_of_getLsbD_eq; intro i hi
      rw [BitVec.getLsbD_or, t, BitVec.getLsbD_twoPow]
      by_cases q : 5 = i
      · subst q; simp [b]
      · simp [q]
    · right; rw [← h]; apply BitVec.eq_of_getLsbD_eq; intro i hi
      rw [BitVec.getLsbD_xor, BitVec.getLsbD_or, t, BitVec.getLsbD_twoPow]
      by_cases q : 5 = i
      · subst q; rw [Bool.not_eq_true] at b; rw [b]; rfl
      · simp [q]
  · rintro (rfl | rfl) <;> (apply BitVec.eq_of_getLsbD_eq; intro i hi; rw [BitVec.getLsbD_or]; try rw [BitVec.getLsbD_xor]) <;> rw [t, BitVec.getLsbD_twoPow]
    · by_cases q : 5 = i
      · subst q; simp [hk]
      · simp [q]
    · by_cases q : 5 = i
      · subst q; simp [hk]
      · simp [q]
theorem own_or (c k k' : Int32) (hk : k.toBitVec.getLsbD 5 = true) (hk' : k.toBitVec ^^^ 32#32 = k'.toBitVec) : c ||| (32 : Int32) = k ↔ c = k ∨ c = k' := by
  rw [← Int32.toBitVec_inj, Int32.toBitVec_or, ← Int32.toBitVec_inj (a := c) (b := k), ← Int32.toBitVec_inj (a := c) (b := k'), ← hk']
  exact own_or32 _ _ hk
theorem own_st (c : Int32) : (if c = (84 : Int32) then (1 : Int32) else (if c = (116 : Int32) then (1 : Int32) else (0 : Int32))) = (if c ||| (32 : Int32) = (116 : Int32) then (1 : Int32) else (0 : Int32)) := by
  simp only [own_or c 116 84 (by decide) (by decide)]
  by_cases h : c = 84 <;> by_cases h2 : c = 116 <;> simp [h, h2]
theorem own_p3 (x : Int32) : ((x &&& (65535 : Int32)) % (3 : Int32)) = 0 ∨ ((x &&& (65535 : Int32)) % (3 : Int32)) = 1 ∨ ((x &&& (65535 : Int32)) % (3 : Int32)) = 2 := by
  have h1 := own_and x 65535 (by decide)
  have h2 := (Jvm.RoadKit.c_irem (x &&& (65535 : Int32)) 3 3 rfl).1 h1.1
  have h3 : ((x &&& (65535 : Int32)) % (3 : Int32)).toInt = 0 ∨ ((x &&& (65535 : Int32)) % (3 : Int32)).toInt = 1 ∨ ((x &&& (65535 : Int32)) % (3 : Int32)).toInt = 2 := by omega
  simp only [← Int32.toInt_inj]; exact h3
theorem own_p1 (x : Int32) : (x &&& (1 : Int32)) = 0 ∨ (x &&& (1 : Int32)) = 1 ∨ (x &&& (1 : Int32)) = 2 := by
  have h1 := own_and x 1 (by decide)
  have e : (1 : Int32).toInt = 1 := rfl
  have h3 : (x &&& (1 : Int32)).toInt = 0 ∨ (x &&& (1 : Int32)).toInt = 1 ∨ (x &&& (1 : Int32)).toInt = 2 := by omega
  simp only [← Int32.toInt_inj]; exact h3
theorem own_p5 (x : Int32) : ((x &&& (7 : Int32)) % (5 : Int32)) = 0 ∨ ((x &&& (7 : Int32)) % (5 : Int32)) = 1 ∨ ((x &&& (7 : Int32)) % (5 : Int32)) = 2 ∨ ((x &&& (7 : Int32)) % (5 : Int32)) = 3 ∨ ((x &&& (7 : Int32)) % (5 : Int32)) = 4 := by
  have h1 := own_and x 7 (by decide)
  have h2 := (Jvm.RoadKit.c_irem (x &&& (7 : Int32)) 5 5 rfl).1 h1.1
  have h3 : ((x &&& (7 : Int32)) % (5 : Int32)).toInt = 0 ∨ ((x &&& (7 : Int32)) % (5 : Int32)).toInt = 1 ∨ ((x &&& (7 : Int32)) % (5 : Int32)).toInt = 2 ∨ ((x &&& (7 : Int32)) % (5 : Int32)).toInt = 3 ∨ ((x &&& (7 : Int32)) % (5 : Int32)).toInt = 4 := by omega
  simp only [← Int32.toInt_inj]; exact h3
theorem own_ix {k n : Nat} (h : k < n) (hn : n < 2147483648) : ¬ (Int32.ofNat k < 0) ∧ (Int32.ofNat k).toNatClampNeg = k ∧ Int32.ofNat k < Int32.ofNat n := by
  have e1 : (Int32.ofNat k).toInt = k := len_toInt (n := k) (by omega)
  have e2 : (Int32.ofNat n).toInt = n := len_toInt (n := n) (by omega)
  have e0 : (0 : Int32).toInt = 0 := rfl
  refine ⟨?_, ?_, ?_⟩
  · rw [Int32.lt_iff_toInt_lt]; omega
  · simp only [Int32.toNatClampNeg, e1]; rfl
  · rw [Int32.lt_iff_toInt_lt]; omega
theorem own_ofs (k : Nat) : Int32.ofNat k + Int32.ofInt 1 = Int32.ofNat (k + 1) := by
  rw [Int32.ofNat_add]; rfl
def ownUp (xs ys : List Int64) : Nat → List Int64
  | 0 => xs
  | k + 1 => (ownUp xs ys k).set k ((ownUp xs ys k).getD k 0 + ys.getD k 0)
theorem own_upl (xs ys : List Int64) (k : Nat) : (ownUp xs ys k).length = xs.length := by
  induction k with
  | zero => rfl
  | succ k ih => rw [ownUp, List.length_set, ih]
theorem own_gs {xs : List Int64} {i j : Nat} {v : Int64} (h : i < xs.length) : (xs.set i v).getD j 0 = if i = j then v else xs.getD j 0 := by
  simp only [List.getD_eq_getElem?_getD]
  by_cases q : i = j
  · subst q; simp [h]
  · rw [List.getElem?_set_ne q, if_neg q]
theorem own_upg (xs ys : List Int64) (n j : Nat) (hn : n ≤ xs.length) : (ownUp xs ys n).getD j 0 = if j < n then xs.getD j 0 + ys.getD j 0 else xs.getD j 0 := by
  induction n with
  | zero => simp [ownUp]
  | succ n ih =>
    have ih' := ih (by omega)
    rw [ownUp, own_gs (by rw [own_upl]; omega)]
    by_cases q : n = j
    · subst q; rw [if_pos rfl, if_pos (by omega), ih', if_neg (by omega)]
    · rw [if_neg q, ih']
      by_cases r : j < n
      · rw [if_pos r, if_pos (by omega)]
      · rw [if_neg r, if_neg (by omega)]
theorem own_rg (n j : Nat) : (List.replicate n (0 : Int64)).getD j 0 = 0 := by
  simp only [List.getD_eq_getElem?_getD, List.getElem?_replicate]; split <;> rfl
abbrev ownZ : List Int64 := List.replicate 128 (0 : Int64)
abbrev ownW : List Int64 := List.replicate 2 (0 : Int64)
theorem own_c1 (t : Nat) (ht : t < 128) : (ownUp (ownZ.set t (ownZ.getD t 0 + 1)) ((ownZ.set t (ownZ.getD t 0 + 1)).set t ((ownZ.set t (ownZ.getD t 0 + 1)).getD t 0 + 1)) 128).getD t 0 = 3 := by
  rw [own_upg _ _ _ _ (by simp)]
  rw [if_pos ht, own_gs (by simpa using ht), own_gs (by simpa using ht), own_gs (by simpa using ht), own_rg]
  simp
theorem own_c2 (t : Nat) (ht : t < 128) (x y : Int64) : (ownUp (ownZ.set t (ownZ.getD t 0 + x)) (ownZ.set t (ownZ.getD t 0 + y)) 128).getD t 0 = x + y := by
  rw [own_upg _ _ _ _ (by simp)]
  rw [if_pos ht, own_gs (by simpa using ht), own_gs (by simpa using ht), own_rg]
  simp
theorem own_c3 (t u : Nat) (ht : t < 2) (hu : u < 2) (x y : Int64) : (ownUp (ownW.set t (ownW.getD t 0 + x)) (ownW.set t (ownW.getD t 0 + y)) 2).getD u 0 = if t = u then x + y else 0 := by
  rw [own_upg _ _ _ _ (by simp)]
  rw [if_pos hu, own_gs (by simpa using ht), own_gs (by simpa using ht), own_rg, own_rg]
  split <;> simp
theorem own_fitJ {xs : List Int64} : ∀ v ∈ xs.map Value.long, fits .long v = true := by
  intro v hv
  obtain ⟨x, -, rfl⟩ := List.mem_map.mp hv
  rfl
theorem own_d1_0 : decode prog_80_method_1_code 0 = .ok (.aload_n 0, 1) := by decide +kernel
theorem own_d1_1 : decode prog_80_method_1_code 1 = .ok (.invokespecial 1, 3) := by decide +kernel
theorem own_d1_4 : decode prog_80_method_1_code 4 = .ok (.aload_n 0, 1) := by decide +kernel
theorem own_d1_5 : decode prog_80_method_1_code 5 = .ok (.sipush 128, 3) := by decide +kernel
theorem own_d1_8 : decode prog_80_method_1_code 8 = .ok (.newarray .long, 2) := by decide +kernel
theorem own_d1_10 : decode prog_80_method_1_code 10 = .ok (.putfield 9, 3) := by decide +kernel
theorem own_d1_13 : decode prog_80_method_1_code 13 = .ok (.aload_n 0, 1) := by decide +kernel
theorem own_d1_14 : decode prog_80_method_1_code 14 = .ok (.sipush 128, 3) := by decide +kernel
theorem own_d1_17 : decode prog_80_method_1_code 17 = .ok (.newarray .long, 2) := by decide +kernel
theorem own_d1_19 : decode prog_80_method_1_code 19 = .ok (.putfield 15, 3) := by decide +kernel
theorem own_d1_22 : decode prog_80_method_1_code 22 = .ok (.aload_n 0, 1) := by decide +kernel
theorem own_d1_23 : decode prog_80_method_1_code 23 = .ok (.sipush 128, 3) := by decide +kernel
theorem own_d1_26 : decode prog_80_method_1_code 26 = .ok (.newarray .long, 2) := by decide +kernel
theorem own_d1_28 : decode prog_80_method_1_code 28 = .ok (.putfield 18, 3) := by decide +kernel
theorem own_d1_31 : decode prog_80_method_1_code 31 = .ok (.aload_n 0, 1) := by decide +kernel
theorem own_d1_32 : decode prog_80_method_1_code 32 = .ok (.iload_n 1, 1) := by decide +kernel
theorem own_d1_33 : decode prog_80_method_1_code 33 = .ok (.newarray .long, 2) := by decide +kernel
theorem own_d1_35 : decode prog_80_method_1_code 35 = .ok (.putfield 21, 3) := by decide +kernel
theorem own_d1_38 : decode prog_80_method_1_code 38 = .ok (.aload_n 0, 1) := by decide +kernel
theorem own_d1_39 : decode prog_80_method_1_code 39 = .ok (.iload_n 1, 1) := by decide +kernel
theorem own_d1_40 : decode prog_80_method_1_code 40 = .ok (.newarray .long, 2) := by decide +kernel
theorem own_d1_42 : decode prog_80_method_1_code 42 = .ok (.putfield 24, 3) := by decide +kernel
theorem own_d1_45 : decode prog_80_method_1_code 45 = .ok (.return_, 1) := by decide +kernel
theorem own_ef1 (m : MethodId) (x0 : Addr) (x1 : Int32) : entryFrame m #[(.ref x0), (.int x1)] 2 = mkF m 0 #[.val (.ref x0), .val (.int x1)] [] := by first | (simp [entryFrame, mkF, argsToLocals, Value.category]; done) | rfl
theorem own_pn1 : plainFor (⟨"com/example/evenkeel/evenkeel/shuffle/ShuffleStats", "<init>", "(I)V"⟩ : MethodName) = true := by first | exact plainFor_of_name (by first | (simp [plainName, overriddenIn]; done) | decide +kernel) | exact Jvm.Free.JP.mathPlain rfl (by decide +kernel)
set_option maxRecDepth 65536 in
set_option maxHeartbeats 40000000 in
theorem own_rm1 (l : Launch) (Z : State) (a0 : Array Value) (hw : ∀ d ∈ tables_1, d.before a0 Z = true) (a1 : Addr) (u0 : Int64) (u1 : Int64) (u2 : Int64) (u3 : Int64) (h0 : Heap) (n0 : Nat) (Z0 : n0 ≤ h0.size) (E_a1 : Exa Z h0 a1 "com/example/evenkeel/evenkeel/shuffle/ShuffleStats") (F_inputRecords_a1 : Fld Z h0 a1 "com/example/evenkeel/evenkeel/shuffle/ShuffleStats" "inputRecords" "[J" .null) (F_unroutedRecords_a1 : Fld Z h0 a1 "com/example/evenkeel/evenkeel/shuffle/ShuffleStats" "unroutedRecords" "[J" .null) (F_extraCopies_a1 : Fld Z h0 a1 "com/example/evenkeel/evenkeel/shuffle/ShuffleStats" "extraCopies" "[J" .null) (F_partitionRecords_a1 : Fld Z h0 a1 "com/example/evenkeel/evenkeel/shuffle/ShuffleStats" "partitionRecords" "[J" .null) (F_partitionBytes_a1 : Fld Z h0 a1 "com/example/evenkeel/evenkeel/shuffle/ShuffleStats" "partitionBytes" "[J" .null) (F_sortBufferRecords_a1 : Fld Z h0 a1 "com/example/evenkeel/evenkeel/shuffle/ShuffleStats" "sortBufferRecords" "J" (.long u0)) (F_hotKeyRecords_a1 : Fld Z h0 a1 "com/example/evenkeel/evenkeel/shuffle/ShuffleStats" "hotKeyRecords" "J" (.long u1)) (F_hotKeyFlushes_a1 : Fld Z h0 a1 "com/example/evenkeel/evenkeel/shuffle/ShuffleStats" "hotKeyFlushes" "J" (.long u2)) (F_shuffleRecords_a1 : Fld Z h0 a1 "com/example/evenkeel/evenkeel/shuffle/ShuffleStats" "shuffleRecords" "J" (.long u3)) (g_a1 : n0 ≤ a1) :
    OwnMet l Z (⟨"com/example/evenkeel/evenkeel/shuffle/ShuffleStats", "<init>", "(I)V"⟩ : MethodName) prog_80_method_1_code 2 none ({ frames := 1, cells := 5, slots := 388, locals := 12 } : Room) #[(.ref a1), (.int (2 : Int32))] h0 n0 (fun v h => ∃ (b1 : Addr), ∃ (b2 : Addr), ∃ (b3 : Addr), ∃ (b4 : Addr), ∃ (b5 : Addr), v = none ∧ Keep h0 h [a1] ∧ Fld Z h a1 "com/example/evenkeel/evenkeel/shuffle/ShuffleStats" "inputRecords" "[J" (.ref b1) ∧ Fld Z h a1 "com/example/evenkeel/evenkeel/shuffle/ShuffleStats" "unroutedRecords" "[J" (.ref b2) ∧ Fld Z h a1 "com/example/evenkeel/evenkeel/shuffle/ShuffleStats" "extraCopies" "[J" (.ref b3) ∧ Fld Z h a1 "com/example/evenkeel/evenkeel/shuffle/ShuffleStats" "partitionRecords" "[J" (.ref b4) ∧ Fld Z h a1 "com/example/evenkeel/evenkeel/shuffle/ShuffleStats" "partitionBytes" "[J" (.ref b5) ∧ Fld Z h a1 "com/example/evenkeel/evenkeel/shuffle/ShuffleStats" "sortBufferRecords" "J" (.long u0) ∧ Fld Z h a1 "com/example/evenkeel/evenkeel/shuffle/ShuffleStats" "hotKeyRecords" "J" (.long u1) ∧ Fld Z h a1 "com/example/evenkeel/evenkeel/shuffle/ShuffleStats" "hotKeyFlushes" "J" (.long u2) ∧ Fld Z h a1 "com/example/evenkeel/evenkeel/shuffle/ShuffleStats" "shuffleRecords" "J" (.long u3) ∧ h0.size ≤ b1 ∧ h0.size ≤ b2 ∧ h0.size ≤ b3 ∧ h0.size ≤ b4 ∧ h0.size ≤ b5 ∧ b1 ≠ b2 ∧ b1 ≠ b3 ∧ b1 ≠ b4 ∧ b1 ≠ b5 ∧ b2 ≠ b3 ∧ b2 ≠ b4 ∧ b2 ≠ b5 ∧ b3 ≠ b4 ∧ b3 ≠ b5 ∧ b4 ≠ b5 ∧ OwnAr Z h b1 .long ((List.replicate 128 (0 : Int64)).map Value.long) ∧ OwnAr Z h b2 .long ((List.replicate 128 (0 : Int64)).map Value.long) ∧ OwnAr Z h b3 .long ((List.replicate 128 (0 : Int64)).map Value.long) ∧ OwnAr Z h b4 .long ((List.replicate 2 (0 : Int64)).map Value.long) ∧ OwnAr Z h b5 .long ((List.replicate 2 (0 : Int64)).map Value.long) ∧ Exa Z h b4 "[J" ∧ Exa Z h b5 "[J") := by
  refine own_body own_pn1 ?_
  intro p e s m below meth c s₁ RR X0
  refine own_enter (own_ef1 m a1 (2 : Int32)) ?_
  refine own_aloadN X0 own_d1_0 (pc' := 1) rfl rfl rfl ?_
  refine own_init X0 own_d1_1 (hw _ (List.mem_of_getElem? (i := 6) rfl)) (hw _ (List.mem_of_getElem? (i := 7) rfl)) (hw _ (List.mem_of_getElem? (i := 8) rfl)) (pc' := 4) rfl rfl (by decide) (W := 0) (Nat.le_of_eq rfl) (by decide) ?_
  intro T1 X1
  refine own_aloadN X1 own_d1_4 (pc' := 5) rfl rfl rfl ?_
  refine own_sipush X1 own_d1_5 (pc' := 8) rfl (v := (128 : Int32)) (by decide) ?_
  refine own_newarrE X1 own_d1_8 (hw _ (List.mem_of_getElem? (i := 9) rfl)) (K := "[J") (by decide) (pc' := 10) rfl (by decide) (cap := 128) (by decide) (by decide) (by decide) (by decide) ?_
  intro T2 h2 b2 hb2 X2 E2 B2 EA2
  have g_b2 : n0 ≤ b2 := Nat.le_trans Z0 (Nat.le_of_eq hb2.symm)
  have ne_a1_b2 : a1 ≠ b2 := Nat.ne_of_lt (Nat.lt_of_lt_of_le (E_a1).lt (Nat.le_of_eq hb2.symm))
  have E_a1_2 := (E_a1).ext E2
  have F_inputRecords_a1_2 := (F_inputRecords_a1).ext E2
  have F_unroutedRecords_a1_2 := (F_unroutedRecords_a1).ext E2
  have F_extraCopies_a1_2 := (F_extraCopies_a1).ext E2
  have F_partitionRecords_a1_2 := (F_partitionRecords_a1).ext E2
  have F_partitionBytes_a1_2 := (F_partitionBytes_a1).ext E2
  have F_sortBufferRecords_a1_2 := (F_sortBufferRecords_a1).ext E2
  have F_hotKeyRecords_a1_2 := (F_hotKeyRecords_a1).ext E2
  have F_hotKeyFlushes_a1_2 := (F_hotKeyFlushes_a1).ext E2
  have F_shuffleRecords_a1_2 := (F_shuffleRecords_a1).ext E2
  have Z2 : n0 ≤ h2.size := Nat.le_trans Z0 E2.1
  have sz_b2 : h0.size ≤ b2 := Nat.le_trans ((Keep.refl h0 [a1])).1 (Nat.le_of_eq hb2.symm)
  have K2 := ((Keep.refl h0 [a1])).ext E2
  have V_b2 : OwnAr Z h2 b2 .long ((List.replicate 128 (0 : Int64)).map Value.long) := (by rw [List.map_replicate]; exact B2)
  refine own_putF X2 own_d1_10 (hw _ (List.mem_of_getElem? (i := 10) rfl)) Via.refl F_inputRecords_a1_2 E_a1_2 (Or.inr ⟨(hw _ (List.mem_of_getElem? (i := 11) rfl)), rfl, rfl⟩) (hw _ (List.mem_of_getElem? (i := 1) rfl)) (ty := (.array .long)) (v' := (.ref b2)) (by decide) rfl rfl g_a1 (pc' := 13) rfl ?_
  intro T3 h3 X3 W3
  have E_a1_3 := (E_a1_2).wr W3
  have F_inputRecords_a1_3 := (F_inputRecords_a1_2).same W3
  have F_unroutedRecords_a1_3 := (F_unroutedRecords_a1_2).other W3 (Or.inr (slot_ne (Or.inr (hw _ (List.mem_of_getElem? (i := 13) rfl))) (Or.inr (hw _ (List.mem_of_getElem? (i := 11) rfl))) (by decide) (t := (.array .long)) (t' := (.array .long)) (by decide) (by decide)))
  have F_extraCopies_a1_3 := (F_extraCopies_a1_2).other W3 (Or.inr (slot_ne (Or.inr (hw _ (List.mem_of_getElem? (i := 15) rfl))) (Or.inr (hw _ (List.mem_of_getElem? (i := 11) rfl))) (by decide) (t := (.array .long)) (t' := (.array .long)) (by decide) (by decide)))
  have F_partitionRecords_a1_3 := (F_partitionRecords_a1_2).other W3 (Or.inr (slot_ne (Or.inr (hw _ (List.mem_of_getElem? (i := 17) rfl))) (Or.inr (hw _ (List.mem_of_getElem? (i := 11) rfl))) (by decide) (t := (.array .long)) (t' := (.array .long)) (by decide) (by decide)))
  have F_partitionBytes_a1_3 := (F_partitionBytes_a1_2).other W3 (Or.inr (slot_ne (Or.inr (hw _ (List.mem_of_getElem? (i := 19) rfl))) (Or.inr (hw _ (List.mem_of_getElem? (i := 11) rfl))) (by decide) (t := (.array .long)) (t' := (.array .long)) (by decide) (by decide)))
  have F_sortBufferRecords_a1_3 := (F_sortBufferRecords_a1_2).other W3 (Or.inr (slot_ne (Or.inl (hw _ (List.mem_of_getElem? (i := 46) rfl))) (Or.inr (hw _ (List.mem_of_getElem? (i := 11) rfl))) (by decide) (t := .long) (t' := (.array .long)) (by decide) (by decide)))
  have F_hotKeyRecords_a1_3 := (F_hotKeyRecords_a1_2).other W3 (Or.inr (slot_ne (Or.inl (hw _ (List.mem_of_getElem? (i := 53) rfl))) (Or.inr (hw _ (List.mem_of_getElem? (i := 11) rfl))) (by decide) (t := .long) (t' := (.array .long)) (by decide) (by decide)))
  have F_hotKeyFlushes_a1_3 := (F_hotKeyFlushes_a1_2).other W3 (Or.inr (slot_ne (Or.inl (hw _ (List.mem_of_getElem? (i := 55) rfl))) (Or.inr (hw _ (List.mem_of_getElem? (i := 11) rfl))) (by decide) (t := .long) (t' := (.array .long)) (by decide) (by decide)))
  have F_shuffleRecords_a1_3 := (F_shuffleRecords_a1_2).other W3 (Or.inr (slot_ne (Or.inl (hw _ (List.mem_of_getElem? (i := 62) rfl))) (Or.inr (hw _ (List.mem_of_getElem? (i := 11) rfl))) (by decide) (t := .long) (t' := (.array .long)) (by decide) (by decide)))
  have EA2_3 := (EA2).wr W3
  have V_b2_3 := (V_b2).other W3 ne_a1_b2.symm
  have Z3 : n0 ≤ h3.size := Nat.le_trans Z2 (Nat.le_of_eq W3.size.symm)
  have K3 := (K2).wr W3 (Or.inl (List.mem_of_getElem? (i := 0) rfl))
  refine own_aloadN X3 own_d1_13 (pc' := 14) rfl rfl rfl ?_
  refine own_sipush X3 own_d1_14 (pc' := 17) rfl (v := (128 : Int32)) (by decide) ?_
  refine own_newarrE X3 own_d1_17 (hw _ (List.mem_of_getElem? (i := 9) rfl)) (K := "[J") (by decide) (pc' := 19) rfl (by decide) (cap := 128) (by decide) (by decide) (by decide) (by decide) ?_
  intro T4 h4 b4 hb4 X4 E4 B4 EA4
  have g_b4 : n0 ≤ b4 := Nat.le_trans Z3 (Nat.le_of_eq hb4.symm)
  have ne_a1_b4 : a1 ≠ b4 := Nat.ne_of_lt (Nat.lt_of_lt_of_le (E_a1_3).lt (Nat.le_of_eq hb4.symm))
  have ne_b2_b4 : b2 ≠ b4 := Nat.ne_of_lt (Nat.lt_of_lt_of_le (EA2_3).lt (Nat.le_of_eq hb4.symm))
  have E_a1_4 := (E_a1_3).ext E4
  have F_inputRecords_a1_4 := (F_inputRecords_a1_3).ext E4
  have F_unroutedRecords_a1_4 := (F_unroutedRecords_a1_3).ext E4
  have F_extraCopies_a1_4 := (F_extraCopies_a1_3).ext E4
  have F_partitionRecords_a1_4 := (F_partitionRecords_a1_3).ext E4
  have F_partitionBytes_a1_4 := (F_partitionBytes_a1_3).ext E4
  have F_sortBufferRecords_a1_4 := (F_sortBufferRecords_a1_3).ext E4
  have F_hotKeyRecords_a1_4 := (F_hotKeyRecords_a1_3).ext E4
  have F_hotKeyFlushes_a1_4 := (F_hotKeyFlushes_a1_3).ext E4
  have F_shuffleRecords_a1_4 := (F_shuffleRecords_a1_3).ext E4
  have EA2_4 := (EA2_3).ext E4
  have V_b2_4 := (V_b2_3).ext E4
  have Z4 : n0 ≤ h4.size := Nat.le_trans Z3 E4.1
  have sz_b4 : h0.size ≤ b4 := Nat.le_trans (K3).1 (Nat.le_of_eq hb4.symm)
  have K4 := (K3).ext E4
  have V_b4 : OwnAr Z h4 b4 .long ((List.replicate 128 (0 : Int64)).map Value.long) := (by rw [List.map_replicate]; exact B4)
  refine own_putF X4 own_d1_19 (hw _ (List.mem_of_getElem? (i := 12) rfl)) Via.refl F_unroutedRecords_a1_4 E_a1_4 (Or.inr ⟨(hw _ (List.mem_of_getElem? (i := 13) rfl)), rfl, rfl⟩) (hw _ (List.mem_of_getElem? (i := 1) rfl)) (ty := (.array .long)) (v' := (.ref b4)) (by decide) rfl rfl g_a1 (pc' := 22) rfl ?_
  intro T5 h5 X5 W5
  have E_a1_5 := (E_a1_4).wr W5
  have F_inputRecords_a1_5 := (F_inputRecords_a1_4).other W5 (Or.inr (slot_ne (Or.inr (hw _ (List.mem_of_getElem? (i := 11) rfl))) (Or.inr (hw _ (List.mem_of_getElem? (i := 13) rfl))) (by decide) (t := (.array .long)) (t' := (.array .long)) (by decide) (by decide)))
  have F_unroutedRecords_a1_5 := (F_unroutedRecords_a1_4).same W5
  have F_extraCopies_a1_5 := (F_extraCopies_a1_4).other W5 (Or.inr (slot_ne (Or.inr (hw _ (List.mem_of_getElem? (i := 15) rfl))) (Or.inr (hw _ (List.mem_of_getElem? (i := 13) rfl))) (by decide) (t := (.array .long)) (t' := (.array .long)) (by decide) (by decide)))
  have F_partitionRecords_a1_5 := (F_partitionRecords_a1_4).other W5 (Or.inr (slot_ne (Or.inr (hw _ (List.mem_of_getElem? (i := 17) rfl))) (Or.inr (hw _ (List.mem_of_getElem? (i := 13) rfl))) (by decide) (t := (.array .long)) (t' := (.array .long)) (by decide) (by decide)))
  have F_partitionBytes_a1_5 := (F_partitionBytes_a1_4).other W5 (Or.inr (slot_ne (Or.inr (hw _ (List.mem_of_getElem? (i := 19) rfl))) (Or.inr (hw _ (List.mem_of_getElem? (i := 13) rfl))) (by decide) (t := (.array .long)) (t' := (.array .long)) (by decide) (by decide)))
  have F_sortBufferRecords_a1_5 := (F_sortBufferRecords_a1_4).other W5 (Or.inr (slot_ne (Or.inl (hw _ (List.mem_of_getElem? (i := 46) rfl))) (Or.inr (hw _ (List.mem_of_getElem? (i := 13) rfl))) (by decide) (t := .long) (t' := (.array .long)) (by decide) (by decide)))
  have F_hotKeyRecords_a1_5 := (F_hotKeyRecords_a1_4).other W5 (Or.inr (slot_ne (Or.inl (hw _ (List.mem_of_getElem? (i := 53) rfl))) (Or.inr (hw _ (List.mem_of_getElem? (i := 13) rfl))) (by decide) (t := .long) (t' := (.array .long)) (by decide) (by decide)))
  have F_hotKeyFlushes_a1_5 := (F_hotKeyFlushes_a1_4).other W5 (Or.inr (slot_ne (Or.inl (hw _ (List.mem_of_getElem? (i := 55) rfl))) (Or.inr (hw _ (List.mem_of_getElem? (i := 13) rfl))) (by decide) (t := .long) (t' := (.array .long)) (by decide) (by decide)))
  have F_shuffleRecords_a1_5 := (F_shuffleRecords_a1_4).other W5 (Or.inr (slot_ne (Or.inl (hw _ (List.mem_of_getElem? (i := 62) rfl))) (Or.inr (hw _ (List.mem_of_getElem? (i := 13) rfl))) (by decide) (t := .long) (t' := (.array .long)) (by decide) (by decide)))
  have EA2_5 := (EA2_4).wr W5
  have V_b2_5 := (V_b2_4).other W5 ne_a1_b2.symm
  have EA4_5 := (EA4).wr W5
  have V_b4_5 := (V_b4).other W5 ne_a1_b4.symm
  have Z5 : n0 ≤ h5.size := Nat.le_trans Z4 (Nat.le_of_eq W5.size.symm)
  have K5 := (K4).wr W5 (Or.inl (List.mem_of_getElem? (i := 0) rfl))
  refine own_aloadN X5 own_d1_22 (pc' := 23) rfl rfl rfl ?_
  refine own_sipush X5 own_d1_23 (pc' := 26) rfl (v := (128 : Int32)) (by decide) ?_
  refine own_newarrE X5 own_d1_26 (hw _ (List.mem_of_getElem? (i := 9) rfl)) (K := "[J") (by decide) (pc' := 28) rfl (by decide) (cap := 128) (by decide) (by decide) (by decide) (by decide) ?_
  intro T6 h6 b6 hb6 X6 E6 B6 EA6
  have g_b6 : n0 ≤ b6 := Nat.le_trans Z5 (Nat.le_of_eq hb6.symm)
  have ne_a1_b6 : a1 ≠ b6 := Nat.ne_of_lt (Nat.lt_of_lt_of_le (E_a1_5).lt (Nat.le_of_eq hb6.symm))
  have ne_b2_b6 : b2 ≠ b6 := Nat.ne_of_lt (Nat.lt_of_lt_of_le (EA2_5).lt (Nat.le_of_eq hb6.symm))
  have ne_b4_b6 : b4 ≠ b6 := Nat.ne_of_lt (Nat.lt_of_lt_of_le (EA4_5).lt (Nat.le_of_eq hb6.symm))
  have E_a1_6 := (E_a1_5).ext E6
  have F_inputRecords_a1_6 := (F_inputRecords_a1_5).ext E6
  have F_unroutedRecords_a1_6 := (F_unroutedRecords_a1_5).ext E6
  have F_extraCopies_a1_6 := (F_extraCopies_a1_5).ext E6
  have F_partitionRecords_a1_6 := (F_partitionRecords_a1_5).ext E6
  have F_partitionBytes_a1_6 := (F_partitionBytes_a1_5).ext E6
  have F_sortBufferRecords_a1_6 := (F_sortBufferRecords_a1_5).ext E6
  have F_hotKeyRecords_a1_6 := (F_hotKeyRecords_a1_5).ext E6
  have F_hotKeyFlushes_a1_6 := (F_hotKeyFlushes_a1_5).ext E6
  have F_shuffleRecords_a1_6 := (F_shuffleRecords_a1_5).ext E6
  have EA2_6 := (EA2_5).ext E6
  have V_b2_6 := (V_b2_5).ext E6
  have EA4_6 := (EA4_5).ext E6
  have V_b4_6 := (V_b4_5).ext E6
  have Z6 : n0 ≤ h6.size := Nat.le_trans Z5 E6.1
  have sz_b6 : h0.size ≤ b6 := Nat.le_trans (K5).1 (Nat.le_of_eq hb6.symm)
  have K6 := (K5).ext E6
  have V_b6 : OwnAr Z h6 b6 .long ((List.replicate 128 (0 : Int64)).map Value.long) := (by rw [List.map_replicate]; exact B6)
  refine own_putF X6 own_d1_28 (hw _ (List.mem_of_getElem? (i := 14) rfl)) Via.refl F_extraCopies_a1_6 E_a1_6 (Or.inr ⟨(hw _ (List.mem_of_getElem? (i := 15) rfl)), rfl, rfl⟩) (hw _ (List.mem_of_getElem? (i := 1) rfl)) (ty := (.array .long)) (v' := (.ref b6)) (by decide) rfl rfl g_a1 (pc' := 31) rfl ?_
  intro T7 h7 X7 W7
  have E_a1_7 := (E_a1_6).wr W7
  have F_inputRecords_a1_7 := (F_inputRecords_a1_6).other W7 (Or.inr (slot_ne (Or.inr (hw _ (List.mem_of_getElem? (i := 11) rfl))) (Or.inr (hw _ (List.mem_of_getElem? (i := 15) rfl))) (by decide) (t := (.array .long)) (t' := (.array .long)) (by decide) (by decide)))
  have F_unroutedRecords_a1_7 := (F_unroutedRecords_a1_6).other W7 (Or.inr (slot_ne (Or.inr (hw _ (List.mem_of_getElem? (i := 13) rfl))) (Or.inr (hw _ (List.mem_of_getElem? (i := 15) rfl))) (by decide) (t := (.array .long)) (t' := (.array .long)) (by decide) (by decide)))
  have F_extraCopies_a1_7 := (F_extraCopies_a1_6).same W7
  have F_partitionRecords_a1_7 := (F_partitionRecords_a1_6).other W7 (Or.inr (slot_ne (Or.inr (hw _ (List.mem_of_getElem? (i := 17) rfl))) (Or.inr (hw _ (List.mem_of_getElem? (i := 15) rfl))) (by decide) (t := (.array .long)) (t' := (.array .long)) (by decide) (by decide)))
  have F_partitionBytes_a1_7 := (F_partitionBytes_a1_6).other W7 (Or.inr (slot_ne (Or.inr (hw _ (List.mem_of_getElem? (i := 19) rfl))) (Or.inr (hw _ (List.mem_of_getElem? (i := 15) rfl))) (by decide) (t := (.array .long)) (t' := (.array .long)) (by decide) (by decide)))
  have F_sortBufferRecords_a1_7 := (F_sortBufferRecords_a1_6).other W7 (Or.inr (slot_ne (Or.inl (hw _ (List.mem_of_getElem? (i := 46) rfl))) (Or.inr (hw _ (List.mem_of_getElem? (i := 15) rfl))) (by decide) (t := .long) (t' := (.array .long)) (by decide) (by decide)))
  have F_hotKeyRecords_a1_7 := (F_hotKeyRecords_a1_6).other W7 (Or.inr (slot_ne (Or.inl (hw _ (List.mem_of_getElem? (i := 53) rfl))) (Or.inr (hw _ (List.mem_of_getElem? (i := 15) rfl))) (by decide) (t := .long) (t' := (.array .long)) (by decide) (by decide)))
  have F_hotKeyFlushes_a1_7 := (F_hotKeyFlushes_a1_6).other W7 (Or.inr (slot_ne (Or.inl (hw _ (List.mem_of_getElem? (i := 55) rfl))) (Or.inr (hw _ (List.mem_of_getElem? (i := 15) rfl))) (by decide) (t := .long) (t' := (.array .long)) (by decide) (by decide)))
  have F_shuffleRecords_a1_7 := (F_shuffleRecords_a1_6).other W7 (Or.inr (slot_ne (Or.inl (hw _ (List.mem_of_getElem? (i := 62) rfl))) (Or.inr (hw _ (List.mem_of_getElem? (i := 15) rfl))) (by decide) (t := .long) (t' := (.array .long)) (by decide) (by decide)))
  have EA2_7 := (EA2_6).wr W7
  have V_b2_7 := (V_b2_6).other W7 ne_a1_b2.symm
  have EA4_7 := (EA4_6).wr W7
  have V_b4_7 := (V_b4_6).other W7 ne_a1_b4.symm
  have EA6_7 := (EA6).wr W7
  have V_b6_7 := (V_b6).other W7 ne_a1_b6.symm
  have Z7 : n0 ≤ h7.size := Nat.le_trans Z6 (Nat.le_of_eq W7.size.symm)
  have K7 := (K6).wr W7 (Or.inl (List.mem_of_getElem? (i := 0) rfl))
  refine own_aloadN X7 own_d1_31 (pc' := 32) rfl rfl rfl ?_
  refine own_iloadN X7 own_d1_32 (pc' := 33) rfl rfl ?_
  refine own_newarrE X7 own_d1_33 (hw _ (List.mem_of_getElem? (i := 9) rfl)) (K := "[J") (by decide) (pc' := 35) rfl (by decide) (cap := 2) (by decide) (by decide) (by decide) (by decide) ?_
  intro T8 h8 b8 hb8 X8 E8 B8 EA8
  have g_b8 : n0 ≤ b8 := Nat.le_trans Z7 (Nat.le_of_eq hb8.symm)
  have ne_a1_b8 : a1 ≠ b8 := Nat.ne_of_lt (Nat.lt_of_lt_of_le (E_a1_7).lt (Nat.le_of_eq hb8.symm))
  have ne_b2_b8 : b2 ≠ b8 := Nat.ne_of_lt (Nat.lt_of_lt_of_le (EA2_7).lt (Nat.le_of_eq hb8.symm))
  have ne_b4_b8 : b4 ≠ b8 := Nat.ne_of_lt (Nat.lt_of_lt_of_le (EA4_7).lt (Nat.le_of_eq hb8.symm))
  have ne_b6_b8 : b6 ≠ b8 := Nat.ne_of_lt (Nat.lt_of_lt_of_le (EA6_7).lt (Nat.le_of_eq hb8.symm))
  have E_a1_8 := (E_a1_7).ext E8
  have F_inputRecords_a1_8 := (F_inputRecords_a1_7).ext E8
  have F_unroutedRecords_a1_8 := (F_unroutedRecords_a1_7).ext E8
  have F_extraCopies_a1_8 := (F_extraCopies_a1_7).ext E8
  have F_partitionRecords_a1_8 := (F_partitionRecords_a1_7).ext E8
  have F_partitionBytes_a1_8 := (F_partitionBytes_a1_7).ext E8
  have F_sortBufferRecords_a1_8 := (F_sortBufferRecords_a1_7).ext E8
  have F_hotKeyRecords_a1_8 := (F_hotKeyRecords_a1_7).ext E8
  have F_hotKeyFlushes_a1_8 := (F_hotKeyFlushes_a1_7).ext E8
  have F_shuffleRecords_a1_8 := (F_shuffleRecords_a1_7).ext E8
  have EA2_8 := (EA2_7).ext E8
  have V_b2_8 := (V_b2_7).ext E8
  have EA4_8 := (EA4_7).ext E8
  have V_b4_8 := (V_b4_7).ext E8
  have EA6_8 := (EA6_7).ext E8
  have V_b6_8 := (V_b6_7).ext E8
  have Z8 : n0 ≤ h8.size := Nat.le_trans Z7 E8.1
  have sz_b8 : h0.size ≤ b8 := Nat.le_trans (K7).1 (Nat.le_of_eq hb8.symm)
  have K8 := (K7).ext E8
  have V_b8 : OwnAr Z h8 b8 .long ((List.replicate 2 (0 : Int64)).map Value.long) := (by rw [List.map_replicate]; exact B8)
  refine own_putF X8 own_d1_35 (hw _ (List.mem_of_getElem? (i := 16) rfl)) Via.refl F_partitionRecords_a1_8 E_a1_8 (Or.inr ⟨(hw _ (List.mem_of_getElem? (i := 17) rfl)), rfl, rfl⟩) (hw _ (List.mem_of_getElem? (i := 1) rfl)) (ty := (.array .long)) (v' := (.ref b8)) (by decide) rfl rfl g_a1 (pc' := 38) rfl ?_
  intro T9 h9 X9 W9
  have E_a1_9 := (E_a1_8).wr W9
  have F_inputRecords_a1_9 := (F_inputRecords_a1_8).other W9 (Or.inr (slot_ne (Or.inr (hw _ (List.mem_of_getElem? (i := 11) rfl))) (Or.inr (hw _ (List.mem_of_getElem? (i := 17) rfl))) (by decide) (t := (.array .long)) (t' := (.array .long)) (by decide) (by decide)))
  have F_unroutedRecords_a1_9 := (F_unroutedRecords_a1_8).other W9 (Or.inr (slot_ne (Or.inr (hw _ (List.mem_of_getElem? (i := 13) rfl))) (Or.inr (hw _ (List.mem_of_getElem? (i := 17) rfl))) (by decide) (t := (.array .long)) (t' := (.array .long)) (by decide) (by decide)))
  have F_extraCopies_a1_9 := (F_extraCopies_a1_8).other W9 (Or.inr (slot_ne (Or.inr (hw _ (List.mem_of_getElem? (i := 15) rfl))) (Or.inr (hw _ (List.mem_of_getElem? (i := 17) rfl))) (by decide) (t := (.array .long)) (t' := (.array .long)) (by decide) (by decide)))
  have F_partitionRecords_a1_9 := (F_partitionRecords_a1_8).same W9
  have F_partitionBytes_a1_9 := (F_partitionBytes_a1_8).other W9 (Or.inr (slot_ne (Or.inr (hw _ (List.mem_of_getElem? (i := 19) rfl))) (Or.inr (hw _ (List.mem_of_getElem? (i := 17) rfl))) (by decide) (t := (.array .long)) (t' := (.array .long)) (by decide) (by decide)))
  have F_sortBufferRecords_a1_9 := (F_sortBufferRecords_a1_8).other W9 (Or.inr (slot_ne (Or.inl (hw _ (List.mem_of_getElem? (i := 46) rfl))) (Or.inr (hw _ (List.mem_of_getElem? (i := 17) rfl))) (by decide) (t := .long) (t' := (.array .long)) (by decide) (by decide)))
  have F_hotKeyRecords_a1_9 := (F_hotKeyRecords_a1_8).other W9 (Or.inr (slot_ne (Or.inl (hw _ (List.mem_of_getElem? (i := 53) rfl))) (Or.inr (hw _ (List.mem_of_getElem? (i := 17) rfl))) (by decide) (t := .long) (t' := (.array .long)) (by decide) (by decide)))
  have F_hotKeyFlushes_a1_9 := (F_hotKeyFlushes_a1_8).other W9 (Or.inr (slot_ne (Or.inl (hw _ (List.mem_of_getElem? (i := 55) rfl))) (Or.inr (hw _ (List.mem_of_getElem? (i := 17) rfl))) (by decide) (t := .long) (t' := (.array .long)) (by decide) (by decide)))
  have F_shuffleRecords_a1_9 := (F_shuffleRecords_a1_8).other W9 (Or.inr (slot_ne (Or.inl (hw _ (List.mem_of_getElem? (i := 62) rfl))) (Or.inr (hw _ (List.mem_of_getElem? (i := 17) rfl))) (by decide) (t := .long) (t' := (.array .long)) (by decide) (by decide)))
  have EA2_9 := (EA2_8).wr W9
  have V_b2_9 := (V_b2_8).other W9 ne_a1_b2.symm
  have EA4_9 := (EA4_8).wr W9
  have V_b4_9 := (V_b4_8).other W9 ne_a1_b4.symm
  have EA6_9 := (EA6_8).wr W9
  have V_b6_9 := (V_b6_8).other W9 ne_a1_b6.symm
  have EA8_9 := (EA8).wr W9
  have V_b8_9 := (V_b8).other W9 ne_a1_b8.symm
  have Z9 : n0 ≤ h9.size := Nat.le_trans Z8 (Nat.le_of_eq W9.size.symm)
  have K9 := (K8).wr W9 (Or.inl (List.mem_of_getElem? (i := 0) rfl))
  refine own_aloadN X9 own_d1_38 (pc' := 39) rfl rfl rfl ?_
  refine own_iloadN X9 own_d1_39 (pc' := 40) rfl rfl ?_
  refine own_newarrE X9 own_d1_40 (hw _ (List.mem_of_getElem? (i := 9) rfl)) (K := "[J") (by decide) (pc' := 42) rfl (by decide) (cap := 2) (by decide) (by decide) (by decide) (by decide) ?_
  intro T10 h10 b10 hb10 X10 E10 B10 EA10
  have g_b10 : n0 ≤ b10 := Nat.le_trans Z9 (Nat.le_of_eq hb10.symm)
  have ne_a1_b10 : a1 ≠ b10 := Nat.ne_of_lt (Nat.lt_of_lt_of_le (E_a1_9).lt (Nat.le_of_eq hb10.symm))
  have ne_b2_b10 : b2 ≠ b10 := Nat.ne_of_lt (Nat.lt_of_lt_of_le (EA2_9).lt (Nat.le_of_eq hb10.symm))
  have ne_b4_b10 : b4 ≠ b10 := Nat.ne_of_lt (Nat.lt_of_lt_of_le (EA4_9).lt (Nat.le_of_eq hb10.symm))
  have ne_b6_b10 : b6 ≠ b10 := Nat.ne_of_lt (Nat.lt_of_lt_of_le (EA6_9).lt (Nat.le_of_eq hb10.symm))
  have ne_b8_b10 : b8 ≠ b10 := Nat.ne_of_lt (Nat.lt_of_lt_of_le (EA8_9).lt (Nat.le_of_eq hb10.symm))
  have E_a1_10 := (E_a1_9).ext E10
  have F_inputRecords_a1_10 := (F_inputRecords_a1_9).ext E10
  have F_unroutedRecords_a1_10 := (F_unroutedRecords_a1_9).ext E10
  have F_extraCopies_a1_10 := (F_extraCopies_a1_9).ext E10
  have F_partitionRecords_a1_10 := (F_partitionRecords_a1_9).ext E10
  have F_partitionBytes_a1_10 := (F_partitionBytes_a1_9).ext E10
  have F_sortBufferRecords_a1_10 := (F_sortBufferRecords_a1_9).ext E10
  have F_hotKeyRecords_a1_10 := (F_hotKeyRecords_a1_9).ext E10
  have F_hotKeyFlushes_a1_10 := (F_hotKeyFlushes_a1_9).ext E10
  have F_shuffleRecords_a1_10 := (F_shuffleRecords_a1_9).ext E10
  have EA2_10 := (EA2_9).ext E10
  have V_b2_10 := (V_b2_9).ext E10
  have EA4_10 := (EA4_9).ext E10
  have V_b4_10 := (V_b4_9).ext E10
  have EA6_10 := (EA6_9).ext E10
  have V_b6_10 := (V_b6_9).ext E10
  have EA8_10 := (EA8_9).ext E10
  have V_b8_10 := (V_b8_9).ext E10
  have Z10 : n0 ≤ h10.size := Nat.le_trans Z9 E10.1
  have sz_b10 : h0.size ≤ b10 := Nat.le_trans (K9).1 (Nat.le_of_eq hb10.symm)
  have K10 := (K9).ext E10
  have V_b10 : OwnAr Z h10 b10 .long ((List.replicate 2 (0 : Int64)).map Value.long) := (by rw [List.map_replicate]; exact B10)
  refine own_putF X10 own_d1_42 (hw _ (List.mem_of_getElem? (i := 18) rfl)) Via.refl F_partitionBytes_a1_10 E_a1_10 (Or.inr ⟨(hw _ (List.mem_of_getElem? (i := 19) rfl)), rfl, rfl⟩) (hw _ (List.mem_of_getElem? (i := 1) rfl)) (ty := (.array .long)) (v' := (.ref b10)) (by decide) rfl rfl g_a1 (pc' := 45) rfl ?_
  intro T11 h11 X11 W11
  have E_a1_11 := (E_a1_10).wr W11
  have F_inputRecords_a1_11 := (F_inputRecords_a1_10).other W11 (Or.inr (slot_ne (Or.inr (hw _ (List.mem_of_getElem? (i := 11) rfl))) (Or.inr (hw _ (List.mem_of_getElem? (i := 19) rfl))) (by decide) (t := (.array .long)) (t' := (.array .long)) (by decide) (by decide)))
  have F_unroutedRecords_a1_11 := (F_unroutedRecords_a1_10).other W11 (Or.inr (slot_ne (Or.inr (hw _ (List.mem_of_getElem? (i := 13) rfl))) (Or.inr (hw _ (List.mem_of_getElem? (i := 19) rfl))) (by decide) (t := (.array .long)) (t' := (.array .long)) (by decide) (by decide)))
  have F_extraCopies_a1_11 := (F_extraCopies_a1_10).other W11 (Or.inr (slot_ne (Or.inr (hw _ (List.mem_of_getElem? (i := 15) rfl))) (Or.inr (hw _ (List.mem_of_getElem? (i := 19) rfl))) (by decide) (t := (.array .long)) (t' := (.array .long)) (by decide) (by decide)))
  have F_partitionRecords_a1_11 := (F_partitionRecords_a1_10).other W11 (Or.inr (slot_ne (Or.inr (hw _ (List.mem_of_getElem? (i := 17) rfl))) (Or.inr (hw _ (List.mem_of_getElem? (i := 19) rfl))) (by decide) (t := (.array .long)) (t' := (.array .long)) (by decide) (by decide)))
  have F_partitionBytes_a1_11 := (F_partitionBytes_a1_10).same W11
  have F_sortBufferRecords_a1_11 := (F_sortBufferRecords_a1_10).other W11 (Or.inr (slot_ne (Or.inl (hw _ (List.mem_of_getElem? (i := 46) rfl))) (Or.inr (hw _ (List.mem_of_getElem? (i := 19) rfl))) (by decide) (t := .long) (t' := (.array .long)) (by decide) (by decide)))
  have F_hotKeyRecords_a1_11 := (F_hotKeyRecords_a1_10).other W11 (Or.inr (slot_ne (Or.inl (hw _ (List.mem_of_getElem? (i := 53) rfl))) (Or.inr (hw _ (List.mem_of_getElem? (i := 19) rfl))) (by decide) (t := .long) (t' := (.array .long)) (by decide) (by decide)))
  have F_hotKeyFlushes_a1_11 := (F_hotKeyFlushes_a1_10).other W11 (Or.inr (slot_ne (Or.inl (hw _ (List.mem_of_getElem? (i := 55) rfl))) (Or.inr (hw _ (List.mem_of_getElem? (i := 19) rfl))) (by decide) (t := .long) (t' := (.array .long)) (by decide) (by decide)))
  have F_shuffleRecords_a1_11 := (F_shuffleRecords_a1_10).other W11 (Or.inr (slot_ne (Or.inl (hw _ (List.mem_of_getElem? (i := 62) rfl))) (Or.inr (hw _ (List.mem_of_getElem? (i := 19) rfl))) (by decide) (t := .long) (t' := (.array .long)) (by decide) (by decide)))
  have EA2_11 := (EA2_10).wr W11
  have V_b2_11 := (V_b2_10).other W11 ne_a1_b2.symm
  have EA4_11 := (EA4_10).wr W11
  have V_b4_11 := (V_b4_10).other W11 ne_a1_b4.symm
  have EA6_11 := (EA6_10).wr W11
  have V_b6_11 := (V_b6_10).other W11 ne_a1_b6.symm
  have EA8_11 := (EA8_10).wr W11
  have V_b8_11 := (V_b8_10).other W11 ne_a1_b8.symm
  have EA10_11 := (EA10).wr W11
  have V_b10_11 := (V_b10).other W11 ne_a1_b10.symm
  have Z11 : n0 ≤ h11.size := Nat.le_trans Z10 (Nat.le_of_eq W11.size.symm)
  have K11 := (K10).wr W11 (Or.inl (List.mem_of_getElem? (i := 0) rfl))
  exact own_retV X11 own_d1_45 ⟨b2, b4, b6, b8, b10, rfl, K11, F_inputRecords_a1_11, F_unroutedRecords_a1_11, F_extraCopies_a1_11, F_partitionRecords_a1_11, F_partitionBytes_a1_11, F_sortBufferRecords_a1_11, F_hotKeyRecords_a1_11, F_hotKeyFlushes_a1_11, F_shuffleRecords_a1_11, sz_b2, sz_b4, sz_b6, sz_b8, sz_b10, ne_b2_b4, ne_b2_b6, ne_b2_b8, ne_b2_b10, ne_b4_b6, ne_b4_b8, ne_b4_b10, ne_b6_b8, ne_b6_b10, ne_b8_b10, V_b2_11, V_b4_11, V_b6_11, V_b8_11, V_b10_11, EA8_11, EA10_11⟩ (by decide) (by decide)
theorem own_d3_0 : decode prog_80_method_2_code 0 = .ok (.aload_n 0, 1) := by decide +kernel
theorem own_d3_1 : decode prog_80_method_2_code 1 = .ok (.getfield 9, 3) := by decide +kernel
theorem own_d3_4 : decode prog_80_method_2_code 4 = .ok (.iload_n 1, 1) := by decide +kernel
theorem own_d3_5 : decode prog_80_method_2_code 5 = .ok (.dup2, 1) := by decide +kernel
theorem own_d3_6 : decode prog_80_method_2_code 6 = .ok (.laload, 1) := by decide +kernel
theorem own_d3_7 : decode prog_80_method_2_code 7 = .ok (.lconst 1, 1) := by decide +kernel
theorem own_d3_8 : decode prog_80_method_2_code 8 = .ok (.ladd, 1) := by decide +kernel
theorem own_d3_9 : decode prog_80_method_2_code 9 = .ok (.lastore, 1) := by decide +kernel
theorem own_d3_10 : decode prog_80_method_2_code 10 = .ok (.return_, 1) := by decide +kernel
theorem own_ef3 (m : MethodId) (x0 : Addr) (x1 : Int32) : entryFrame m #[(.ref x0), (.int x1)] 2 = mkF m 0 #[.val (.ref x0), .val (.int x1)] [] := by first | (simp [entryFrame, mkF, argsToLocals, Value.category]; done) | rfl
theorem own_pn3 : plainFor (⟨"com/example/evenkeel/evenkeel/shuffle/ShuffleStats", "read", "(I)V"⟩ : MethodName) = true := by first | exact plainFor_of_name (by first | (simp [plainName, overriddenIn]; done) | decide +kernel) | exact Jvm.Free.JP.mathPlain rfl (by decide +kernel)
set_option maxRecDepth 65536 in
set_option maxHeartbeats 40000000 in
theorem own_rm3 (l : Launch) (Z : State) (a0 : Array Value) (hw : ∀ d ∈ tables_1, d.before a0 Z = true) (a1 : Addr) (b1 : Addr) (xs : List Int64) (p2 : Int32) (h0 : Heap) (n0 : Nat) (Z0 : n0 ≤ h0.size) (F_inputRecords_a1 : Fld Z h0 a1 "com/example/evenkeel/evenkeel/shuffle/ShuffleStats" "inputRecords" "[J" (.ref b1)) (V_b1 : OwnAr Z h0 b1 .long (xs.map Value.long)) (g_b1 : n0 ≤ b1) (hp : ¬ p2 < 0) (hq : p2.toNatClampNeg < xs.length) :
    OwnMet l Z (⟨"com/example/evenkeel/evenkeel/shuffle/ShuffleStats", "read", "(I)V"⟩ : MethodName) prog_80_method_2_code 2 none ({ frames := 0, cells := 0, slots := 0, locals := 0 } : Room) #[(.ref a1), (.int p2)] h0 n0 (fun v h => v = none ∧ Keep h0 h [b1] ∧ OwnAr Z h b1 .long ((xs.set (p2).toNatClampNeg ((xs.getD (p2).toNatClampNeg 0) + (1 : Int64))).map Value.long)) := by
  refine own_body own_pn3 ?_
  intro p e s m below meth c s₁ RR X0
  refine own_enter (own_ef3 m a1 p2) ?_
  refine own_aloadN X0 own_d3_0 (pc' := 1) rfl rfl rfl ?_
  refine own_getF X0 own_d3_1 (hw _ (List.mem_of_getElem? (i := 10) rfl)) Via.refl F_inputRecords_a1 (pc' := 4) rfl ?_
  intro T1 X1
  refine own_iloadN X1 own_d3_4 (pc' := 5) rfl rfl ?_
  refine own_dup2 X1 own_d3_5 (pc' := 6) rfl rfl rfl ?_
  refine own_laload X1 own_d3_6 V_b1 hp (v := (.long (xs.getD (p2).toNatClampNeg 0))) (own_getJ hq) (pc' := 7) rfl ?_
  refine own_lconst X1 own_d3_7 (pc' := 8) rfl (v := (1 : Int64)) (by decide) ?_
  refine own_ladd X1 own_d3_8 (pc' := 9) rfl ?_
  refine own_lastore X1 own_d3_9 V_b1 hp (by rw [List.length_map]; exact hq) g_b1 (pc' := 10) rfl ?_
  intro T2 h2 X2 W2 B2
  have Z2 : n0 ≤ h2.size := Nat.le_trans Z0 (Nat.le_of_eq W2.size.symm)
  have V_b1_2 : OwnAr Z h2 b1 .long ((xs.set (p2).toNatClampNeg ((xs.getD (p2).toNatClampNeg 0) + (1 : Int64))).map Value.long) := (by rw [List.map_set]; exact B2)
  have K2 := ((Keep.refl h0 [b1])).wr W2 (Or.inl (List.mem_of_getElem? (i := 0) rfl))
  exact own_retV X2 own_d3_10 ⟨rfl, K2, V_b1_2⟩ (by decide) (by decide)
theorem own_d4_0 : decode prog_80_method_3_code 0 = .ok (.aload_n 0, 1) := by decide +kernel
theorem own_d4_1 : decode prog_80_method_3_code 1 = .ok (.getfield 15, 3) := by decide +kernel
theorem own_d4_4 : decode prog_80_method_3_code 4 = .ok (.iload_n 1, 1) := by decide +kernel
theorem own_d4_5 : decode prog_80_method_3_code 5 = .ok (.dup2, 1) := by decide +kernel
theorem own_d4_6 : decode prog_80_method_3_code 6 = .ok (.laload, 1) := by decide +kernel
theorem own_d4_7 : decode prog_80_method_3_code 7 = .ok (.lconst 1, 1) := by decide +kernel
theorem own_d4_8 : decode prog_80_method_3_code 8 = .ok (.ladd, 1) := by decide +kernel
theorem own_d4_9 : decode prog_80_method_3_code 9 = .ok (.lastore, 1) := by decide +kernel
theorem own_d4_10 : decode prog_80_method_3_code 10 = .ok (.return_, 1) := by decide +kernel
theorem own_ef4 (m : MethodId) (x0 : Addr) (x1 : Int32) : entryFrame m #[(.ref x0), (.int x1)] 2 = mkF m 0 #[.val (.ref x0), .val (.int x1)] [] := by first | (simp [entryFrame, mkF, argsToLocals, Value.category]; done) | rfl
theorem own_pn4 : plainFor (⟨"com/example/evenkeel/evenkeel/shuffle/ShuffleStats", "unrouted", "(I)V"⟩ : MethodName) = true := by first | exact plainFor_of_name (by first | (simp [plainName, overriddenIn]; done) | decide +kernel) | exact Jvm.Free.JP.mathPlain rfl (by decide +kernel)
set_option maxRecDepth 65536 in
set_option maxHeartbeats 40000000 in
theorem own_rm4 (l : Launch) (Z : State) (a0 : Array Value) (hw : ∀ d ∈ tables_1, d.before a0 Z = true) (a1 : Addr) (b1 : Addr) (xs : List Int64) (p2 : Int32) (h0 : Heap) (n0 : Nat) (Z0 : n0 ≤ h0.size) (F_unroutedRecords_a1 : Fld Z h0 a1 "com/example/evenkeel/evenkeel/shuffle/ShuffleStats" "unroutedRecords" "[J" (.ref b1)) (V_b1 : OwnAr Z h0 b1 .long (xs.map Value.long)) (g_b1 : n0 ≤ b1) (hp : ¬ p2 < 0) (hq : p2.toNatClampNeg < xs.length) :
    OwnMet l Z (⟨"com/example/evenkeel/evenkeel/shuffle/ShuffleStats", "unrouted", "(I)V"⟩ : MethodName) prog_80_method_3_code 2 none ({ frames := 0, cells := 0, slots := 0, locals := 0 } : Room) #[(.ref a1), (.int p2)] h0 n0 (fun v h => v = none ∧ Keep h0 h [b1] ∧ OwnAr Z h b1 .long ((xs.set (p2).toNatClampNeg ((xs.getD (p2).toNatClampNeg 0) + (1 : Int64))).map Value.long)) := by
  refine own_body own_pn4 ?_
  intro p e s m below meth c s₁ RR X0
  refine own_enter (own_ef4 m a1 p2) ?_
  refine own_aloadN X0 own_d4_0 (pc' := 1) rfl rfl rfl ?_
  refine own_getF X0 own_d4_1 (hw _ (List.mem_of_getElem? (i := 12) rfl)) Via.refl F_unroutedRecords_a1 (pc' := 4) rfl ?_
  intro T1 X1
  refine own_iloadN X1 own_d4_4 (pc' := 5) rfl rfl ?_
  refine own_dup2 X1 own_d4_5 (pc' := 6) rfl rfl rfl ?_
  refine own_laload X1 own_d4_6 V_b1 hp (v := (.long (xs.getD (p2).toNatClampNeg 0))) (own_getJ hq) (pc' := 7) rfl ?_
  refine own_lconst X1 own_d4_7 (pc' := 8) rfl (v := (1 : Int64)) (by decide) ?_
  refine own_ladd X1 own_d4_8 (pc' := 9) rfl ?_
  refine own_lastore X1 own_d4_9 V_b1 hp (by rw [List.length_map]; exact hq) g_b1 (pc' := 10) rfl ?_
  intro T2 h2 X2 W2 B2
  have Z2 : n0 ≤ h2.size := Nat.le_trans Z0 (Nat.le_of_eq W2.size.symm)
  have V_b1_2 : OwnAr Z h2 b1 .long ((xs.set (p2).toNatClampNeg ((xs.getD (p2).toNatClampNeg 0) + (1 : Int64))).map Value.long) := (by rw [List.map_set]; exact B2)
  have K2 := ((Keep.refl h0 [b1])).wr W2 (Or.inl (List.mem_of_getElem? (i := 0) rfl))
  exact own_retV X2 own_d4_10 ⟨rfl, K2, V_b1_2⟩ (by decide) (by decide)
theorem own_d5_0 : decode prog_80_method_4_code 0 = .ok (.aload_n 0, 1) := by decide +kernel
theorem own_d5_1 : decode prog_80_method_4_code 1 = .ok (.getfield 18, 3) := by decide +kernel
theorem own_d5_4 : decode prog_80_method_4_code 4 = .ok (.iload_n 1, 1) := by decide +kernel
theorem own_d5_5 : decode prog_80_method_4_code 5 = .ok (.dup2, 1) := by decide +kernel
theorem own_d5_6 : decode prog_80_method_4_code 6 = .ok (.laload, 1) := by decide +kernel
theorem own_d5_7 : decode prog_80_method_4_code 7 = .ok (.iload_n 2, 1) := by decide +kernel
theorem own_d5_8 : decode prog_80_method_4_code 8 = .ok (.i2l, 1) := by decide +kernel
theorem own_d5_9 : decode prog_80_method_4_code 9 = .ok (.ladd, 1) := by decide +kernel
theorem own_d5_10 : decode prog_80_method_4_code 10 = .ok (.lastore, 1) := by decide +kernel
theorem own_d5_11 : decode prog_80_method_4_code 11 = .ok (.return_, 1) := by decide +kernel
theorem own_ef5 (m : MethodId) (x0 : Addr) (x1 : Int32) (x2 : Int32) : entryFrame m #[(.ref x0), (.int x1), (.int x2)] 3 = mkF m 0 #[.val (.ref x0), .val (.int x1), .val (.int x2)] [] := by first | (simp [entryFrame, mkF, argsToLocals, Value.category]; done) | rfl
theorem own_pn5 : plainFor (⟨"com/example/evenkeel/evenkeel/shuffle/ShuffleStats", "copied", "(II)V"⟩ : MethodName) = true := by first | exact plainFor_of_name (by first | (simp [plainName, overriddenIn]; done) | decide +kernel) | exact Jvm.Free.JP.mathPlain rfl (by decide +kernel)
set_option maxRecDepth 65536 in
set_option maxHeartbeats 40000000 in
theorem own_rm5 (l : Launch) (Z : State) (a0 : Array Value) (hw : ∀ d ∈ tables_1, d.before a0 Z = true) (a1 : Addr) (b1 : Addr) (xs : List Int64) (p2 : Int32) (p3 : Int32) (h0 : Heap) (n0 : Nat) (Z0 : n0 ≤ h0.size) (F_extraCopies_a1 : Fld Z h0 a1 "com/example/evenkeel/evenkeel/shuffle/ShuffleStats" "extraCopies" "[J" (.ref b1)) (V_b1 : OwnAr Z h0 b1 .long (xs.map Value.long)) (g_b1 : n0 ≤ b1) (hp : ¬ p2 < 0) (hq : p2.toNatClampNeg < xs.length) :
    OwnMet l Z (⟨"com/example/evenkeel/evenkeel/shuffle/ShuffleStats", "copied", "(II)V"⟩ : MethodName) prog_80_method_4_code 3 none ({ frames := 0, cells := 0, slots := 0, locals := 0 } : Room) #[(.ref a1), (.int p2), (.int p3)] h0 n0 (fun v h => v = none ∧ Keep h0 h [b1] ∧ OwnAr Z h b1 .long ((xs.set (p2).toNatClampNeg ((xs.getD (p2).toNatClampNeg 0) + (p3.toInt64))).map Value.long)) := by
  refine own_body own_pn5 ?_
  intro p e s m below meth c s₁ RR X0
  refine own_enter (own_ef5 m a1 p2 p3) ?_
  refine own_aloadN X0 own_d5_0 (pc' := 1) rfl rfl rfl ?_
  refine own_getF X0 own_d5_1 (hw _ (List.mem_of_getElem? (i := 14) rfl)) Via.refl F_extraCopies_a1 (pc' := 4) rfl ?_
  intro T1 X1
  refine own_iloadN X1 own_d5_4 (pc' := 5) rfl rfl ?_
  refine own_dup2 X1 own_d5_5 (pc' := 6) rfl rfl rfl ?_
  refine own_laload X1 own_d5_6 V_b1 hp (v := (.long (xs.getD (p2).toNatClampNeg 0))) (own_getJ hq) (pc' := 7) rfl ?_
  refine own_iloadN X1 own_d5_7 (pc' := 8) rfl rfl ?_
  refine own_i2l X1 own_d5_8 (pc' := 9) rfl ?_
  refine own_ladd X1 own_d5_9 (pc' := 10) rfl ?_
  refine own_lastore X1 own_d5_10 V_b1 hp (by rw [List.length_map]; exact hq) g_b1 (pc' := 11) rfl ?_
  intro T2 h2 X2 W2 B2
  have Z2 : n0 ≤ h2.size := Nat.le_trans Z0 (Nat.le_of_eq W2.size.symm)
  have V_b1_2 : OwnAr Z h2 b1 .long ((xs.set (p2).toNatClampNeg ((xs.getD (p2).toNatClampNeg 0) + (p3.toInt64))).map Value.long) := (by rw [List.map_set]; exact B2)
  have K2 := ((Keep.refl h0 [b1])).wr W2 (Or.inl (List.mem_of_getElem? (i := 0) rfl))
  exact own_retV X2 own_d5_11 ⟨rfl, K2, V_b1_2⟩ (by decide) (by decide)
theorem own_d6_0 : decode prog_80_method_5_code 0 = .ok (.aload_n 0, 1) := by decide +kernel
theorem own_d6_1 : decode prog_80_method_5_code 1 = .ok (.getfield 21, 3) := by decide +kernel
theorem own_d6_4 : decode prog_80_method_5_code 4 = .ok (.iload_n 1, 1) := by decide +kernel
theorem own_d6_5 : decode prog_80_method_5_code 5 = .ok (.dup2, 1) := by decide +kernel
theorem own_d6_6 : decode prog_80_method_5_code 6 = .ok (.laload, 1) := by decide +kernel
theorem own_d6_7 : decode prog_80_method_5_code 7 = .ok (.lconst 1, 1) := by decide +kernel
theorem own_d6_8 : decode prog_80_method_5_code 8 = .ok (.ladd, 1) := by decide +kernel
theorem own_d6_9 : decode prog_80_method_5_code 9 = .ok (.lastore, 1) := by decide +kernel
theorem own_d6_10 : decode prog_80_method_5_code 10 = .ok (.aload_n 0, 1) := by decide +kernel
theorem own_d6_11 : decode prog_80_method_5_code 11 = .ok (.getfield 24, 3) := by decide +kernel
theorem own_d6_14 : decode prog_80_method_5_code 14 = .ok (.iload_n 1, 1) := by decide +kernel
theorem own_d6_15 : decode prog_80_method_5_code 15 = .ok (.dup2, 1) := by decide +kernel
theorem own_d6_16 : decode prog_80_method_5_code 16 = .ok (.laload, 1) := by decide +kernel
theorem own_d6_17 : decode prog_80_method_5_code 17 = .ok (.lload_n 2, 1) := by decide +kernel
theorem own_d6_18 : decode prog_80_method_5_code 18 = .ok (.ladd, 1) := by decide +kernel
theorem own_d6_19 : decode prog_80_method_5_code 19 = .ok (.lastore, 1) := by decide +kernel
theorem own_d6_20 : decode prog_80_method_5_code 20 = .ok (.return_, 1) := by decide +kernel
theorem own_ef6 (m : MethodId) (x0 : Addr) (x1 : Int32) (x2 : Int64) : entryFrame m #[(.ref x0), (.int x1), (.long x2)] 4 = mkF m 0 #[.val (.ref x0), .val (.int x1), .val (.long x2), .second] [] := by first | (simp [entryFrame, mkF, argsToLocals, Value.category]; done) | rfl
theorem own_pn6 : plainFor (⟨"com/example/evenkeel/evenkeel/shuffle/ShuffleStats", "routed", "(IJ)V"⟩ : MethodName) = true := by first | exact plainFor_of_name (by first | (simp [plainName, overriddenIn]; done) | decide +kernel) | exact Jvm.Free.JP.mathPlain rfl (by decide +kernel)
set_option maxRecDepth 65536 in
set_option maxHeartbeats 40000000 in
theorem own_rm6 (l : Launch) (Z : State) (a0 : Array Value) (hw : ∀ d ∈ tables_1, d.before a0 Z = true) (a1 : Addr) (b1 : Addr) (b2 : Addr) (xs : List Int64) (ys : List Int64) (p2 : Int32) (q3 : Int64) (h0 : Heap) (n0 : Nat) (Z0 : n0 ≤ h0.size) (F_partitionRecords_a1 : Fld Z h0 a1 "com/example/evenkeel/evenkeel/shuffle/ShuffleStats" "partitionRecords" "[J" (.ref b1)) (F_partitionBytes_a1 : Fld Z h0 a1 "com/example/evenkeel/evenkeel/shuffle/ShuffleStats" "partitionBytes" "[J" (.ref b2)) (V_b1 : OwnAr Z h0 b1 .long (xs.map Value.long)) (V_b2 : OwnAr Z h0 b2 .long (ys.map Value.long)) (g_b1 : n0 ≤ b1) (g_b2 : n0 ≤ b2) (ne_b1_b2 : b1 ≠ b2) (ne_a1_b1 : a1 ≠ b1) (ne_a1_b2 : a1 ≠ b2) (hp : ¬ p2 < 0) (hq : p2.toNatClampNeg < xs.length) (hq2 : p2.toNatClampNeg < ys.length) :
    OwnMet l Z (⟨"com/example/evenkeel/evenkeel/shuffle/ShuffleStats", "routed", "(IJ)V"⟩ : MethodName) prog_80_method_5_code 4 none ({ frames := 0, cells := 0, slots := 0, locals := 0 } : Room) #[(.ref a1), (.int p2), (.long q3)] h0 n0 (fun v h => v = none ∧ Keep h0 h [b1, b2] ∧ OwnAr Z h b1 .long ((xs.set (p2).toNatClampNeg ((xs.getD (p2).toNatClampNeg 0) + (1 : Int64))).map Value.long) ∧ OwnAr Z h b2 .long ((ys.set (p2).toNatClampNeg ((ys.getD (p2).toNatClampNeg 0) + q3)).map Value.long)) := by
  refine own_body own_pn6 ?_
  intro p e s m below meth c s₁ RR X0
  refine own_enter (own_ef6 m a1 p2 q3) ?_
  refine own_aloadN X0 own_d6_0 (pc' := 1) rfl rfl rfl ?_
  refine own_getF X0 own_d6_1 (hw _ (List.mem_of_getElem? (i := 16) rfl)) Via.refl F_partitionRecords_a1 (pc' := 4) rfl ?_
  intro T1 X1
  refine own_iloadN X1 own_d6_4 (pc' := 5) rfl rfl ?_
  refine own_dup2 X1 own_d6_5 (pc' := 6) rfl rfl rfl ?_
  refine own_laload X1 own_d6_6 V_b1 hp (v := (.long (xs.getD (p2).toNatClampNeg 0))) (own_getJ hq) (pc' := 7) rfl ?_
  refine own_lconst X1 own_d6_7 (pc' := 8) rfl (v := (1 : Int64)) (by decide) ?_
  refine own_ladd X1 own_d6_8 (pc' := 9) rfl ?_
  refine own_lastore X1 own_d6_9 V_b1 hp (by rw [List.length_map]; exact hq) g_b1 (pc' := 10) rfl ?_
  intro T2 h2 X2 W2 B2
  have F_partitionRecords_a1_2 := (F_partitionRecords_a1).other W2 (Or.inl ne_a1_b1)
  have F_partitionBytes_a1_2 := (F_partitionBytes_a1).other W2 (Or.inl ne_a1_b1)
  have V_b2_2 := (V_b2).other W2 ne_b1_b2.symm
  have Z2 : n0 ≤ h2.size := Nat.le_trans Z0 (Nat.le_of_eq W2.size.symm)
  have V_b1_2 : OwnAr Z h2 b1 .long ((xs.set (p2).toNatClampNeg ((xs.getD (p2).toNatClampNeg 0) + (1 : Int64))).map Value.long) := (by rw [List.map_set]; exact B2)
  have K2 := ((Keep.refl h0 [b1, b2])).wr W2 (Or.inl (List.mem_of_getElem? (i := 0) rfl))
  refine own_aloadN X2 own_d6_10 (pc' := 11) rfl rfl rfl ?_
  refine own_getF X2 own_d6_11 (hw _ (List.mem_of_getElem? (i := 18) rfl)) Via.refl F_partitionBytes_a1_2 (pc' := 14) rfl ?_
  intro T3 X3
  refine own_iloadN X3 own_d6_14 (pc' := 15) rfl rfl ?_
  refine own_dup2 X3 own_d6_15 (pc' := 16) rfl rfl rfl ?_
  refine own_laload X3 own_d6_16 V_b2_2 hp (v := (.long (ys.getD (p2).toNatClampNeg 0))) (own_getJ hq2) (pc' := 17) rfl ?_
  refine own_lloadN X3 own_d6_17 (pc' := 18) rfl rfl ?_
  refine own_ladd X3 own_d6_18 (pc' := 19) rfl ?_
  refine own_lastore X3 own_d6_19 V_b2_2 hp (by rw [List.length_map]; exact hq2) g_b2 (pc' := 20) rfl ?_
  intro T4 h4 X4 W4 B4
  have F_partitionRecords_a1_4 := (F_partitionRecords_a1_2).other W4 (Or.inl ne_a1_b2)
  have F_partitionBytes_a1_4 := (F_partitionBytes_a1_2).other W4 (Or.inl ne_a1_b2)
  have V_b1_4 := (V_b1_2).other W4 ne_b1_b2
  have Z4 : n0 ≤ h4.size := Nat.le_trans Z2 (Nat.le_of_eq W4.size.symm)
  have V_b2_4 : OwnAr Z h4 b2 .long ((ys.set (p2).toNatClampNeg ((ys.getD (p2).toNatClampNeg 0) + q3)).map Value.long) := (by rw [List.map_set]; exact B4)
  have K4 := (K2).wr W4 (Or.inl (List.mem_of_getElem? (i := 1) rfl))
  exact own_retV X4 own_d6_20 ⟨rfl, K4, V_b1_4, V_b2_4⟩ (by decide) (by decide)
theorem own_d7_0 : decode prog_80_method_6_code 0 = .ok (.aload_n 0, 1) := by decide +kernel
theorem own_d7_1 : decode prog_80_method_6_code 1 = .ok (.dup, 1) := by decide +kernel
theorem own_d7_2 : decode prog_80_method_6_code 2 = .ok (.getfield 27, 3) := by decide +kernel
theorem own_d7_5 : decode prog_80_method_6_code 5 = .ok (.lload_n 1, 1) := by decide +kernel
theorem own_d7_6 : decode prog_80_method_6_code 6 = .ok (.ladd, 1) := by decide +kernel
theorem own_d7_7 : decode prog_80_method_6_code 7 = .ok (.putfield 27, 3) := by decide +kernel
theorem own_d7_10 : decode prog_80_method_6_code 10 = .ok (.return_, 1) := by decide +kernel
theorem own_ef7 (m : MethodId) (x0 : Addr) (x1 : Int64) : entryFrame m #[(.ref x0), (.long x1)] 3 = mkF m 0 #[.val (.ref x0), .val (.long x1), .second] [] := by first | (simp [entryFrame, mkF, argsToLocals, Value.category]; done) | rfl
theorem own_pn7 : plainFor (⟨"com/example/evenkeel/evenkeel/shuffle/ShuffleStats", "buffered", "(J)V"⟩ : MethodName) = true := by first | exact plainFor_of_name (by first | (simp [plainName, overriddenIn]; done) | decide +kernel) | exact Jvm.Free.JP.mathPlain rfl (by decide +kernel)
set_option maxRecDepth 65536 in
set_option maxHeartbeats 40000000 in
theorem own_rm7 (l : Launch) (Z : State) (a0 : Array Value) (hw : ∀ d ∈ tables_1, d.before a0 Z = true) (a1 : Addr) (b1 : Addr) (b2 : Addr) (b3 : Addr) (b4 : Addr) (b5 : Addr) (s0 : Int64) (s1 : Int64) (s2 : Int64) (s3 : Int64) (q1 : Int64) (h0 : Heap) (n0 : Nat) (Z0 : n0 ≤ h0.size) (E_a1 : Exa Z h0 a1 "com/example/evenkeel/evenkeel/shuffle/ShuffleStats") (g_a1 : n0 ≤ a1) (F_inputRecords_a1 : Fld Z h0 a1 "com/example/evenkeel/evenkeel/shuffle/ShuffleStats" "inputRecords" "[J" (.ref b1)) (F_unroutedRecords_a1 : Fld Z h0 a1 "com/example/evenkeel/evenkeel/shuffle/ShuffleStats" "unroutedRecords" "[J" (.ref b2)) (F_extraCopies_a1 : Fld Z h0 a1 "com/example/evenkeel/evenkeel/shuffle/ShuffleStats" "extraCopies" "[J" (.ref b3)) (F_partitionRecords_a1 : Fld Z h0 a1 "com/example/evenkeel/evenkeel/shuffle/ShuffleStats" "partitionRecords" "[J" (.ref b4)) (F_partitionBytes_a1 : Fld Z h0 a1 "com/example/evenkeel/evenkeel/shuffle/ShuffleStats" "partitionBytes" "[J" (.ref b5)) (F_sortBufferRecords_a1 : Fld Z h0 a1 "com/example/evenkeel/evenkeel/shuffle/ShuffleStats" "sortBufferRecords" "J" (.long s0)) (F_hotKeyRecords_a1 : Fld Z h0 a1 "com/example/evenkeel/evenkeel/shuffle/ShuffleStats" "hotKeyRecords" "J" (.long s1)) (F_hotKeyFlushes_a1 : Fld Z h0 a1 "com/example/evenkeel/evenkeel/shuffle/ShuffleStats" "hotKeyFlushes" "J" (.long s2)) (F_shuffleRecords_a1 : Fld Z h0 a1 "com/example/evenkeel/evenkeel/shuffle/ShuffleStats" "shuffleRecords" "J" (.long s3)) :
    OwnMet l Z (⟨"com/example/evenkeel/evenkeel/shuffle/ShuffleStats", "buffered", "(J)V"⟩ : MethodName) prog_80_method_6_code 3 none ({ frames := 0, cells := 0, slots := 0, locals := 0 } : Room) #[(.ref a1), (.long q1)] h0 n0 (fun v h => v = none ∧ Keep h0 h [a1] ∧ Fld Z h a1 "com/example/evenkeel/evenkeel/shuffle/ShuffleStats" "inputRecords" "[J" (.ref b1) ∧ Fld Z h a1 "com/example/evenkeel/evenkeel/shuffle/ShuffleStats" "unroutedRecords" "[J" (.ref b2) ∧ Fld Z h a1 "com/example/evenkeel/evenkeel/shuffle/ShuffleStats" "extraCopies" "[J" (.ref b3) ∧ Fld Z h a1 "com/example/evenkeel/evenkeel/shuffle/ShuffleStats" "partitionRecords" "[J" (.ref b4) ∧ Fld Z h a1 "com/example/evenkeel/evenkeel/shuffle/ShuffleStats" "partitionBytes" "[J" (.ref b5) ∧ Fld Z h a1 "com/example/evenkeel/evenkeel/shuffle/ShuffleStats" "sortBufferRecords" "J" (.long (s0 + q1)) ∧ Fld Z h a1 "com/example/evenkeel/evenkeel/shuffle/ShuffleStats" "hotKeyRecords" "J" (.long s1) ∧ Fld Z h a1 "com/example/evenkeel/evenkeel/shuffle/ShuffleStats" "hotKeyFlushes" "J" (.long s2) ∧ Fld Z h a1 "com/example/evenkeel/evenkeel/shuffle/ShuffleStats" "shuffleRecords" "J" (.long s3)) := by
  refine own_body own_pn7 ?_
  intro p e s m below meth c s₁ RR X0
  refine own_enter (own_ef7 m a1 q1) ?_
  refine own_aloadN X0 own_d7_0 (pc' := 1) rfl rfl rfl ?_
  refine own_dup X0 own_d7_1 (pc' := 2) rfl rfl ?_
  refine own_getF X0 own_d7_2 (hw _ (List.mem_of_getElem? (i := 45) rfl)) Via.refl F_sortBufferRecords_a1 (pc' := 5) rfl ?_
  intro T1 X1
  refine own_lloadN X1 own_d7_5 (pc' := 6) rfl rfl ?_
  refine own_ladd X1 own_d7_6 (pc' := 7) rfl ?_
  refine own_putF X1 own_d7_7 (hw _ (List.mem_of_getElem? (i := 45) rfl)) Via.refl F_sortBufferRecords_a1 E_a1 (Or.inl (hw _ (List.mem_of_getElem? (i := 46) rfl))) (hw _ (List.mem_of_getElem? (i := 1) rfl)) (ty := .long) (v' := (.long (s0 + q1))) (by decide) rfl rfl g_a1 (pc' := 10) rfl ?_
  intro T2 h2 X2 W2
  have E_a1_2 := (E_a1).wr W2
  have F_inputRecords_a1_2 := (F_inputRecords_a1).other W2 (Or.inr (slot_ne (Or.inr (hw _ (List.mem_of_getElem? (i := 11) rfl))) (Or.inl (hw _ (List.mem_of_getElem? (i := 46) rfl))) (by decide) (t := (.array .long)) (t' := .long) (by decide) (by decide)))
  have F_unroutedRecords_a1_2 := (F_unroutedRecords_a1).other W2 (Or.inr (slot_ne (Or.inr (hw _ (List.mem_of_getElem? (i := 13) rfl))) (Or.inl (hw _ (List.mem_of_getElem? (i := 46) rfl))) (by decide) (t := (.array .long)) (t' := .long) (by decide) (by decide)))
  have F_extraCopies_a1_2 := (F_extraCopies_a1).other W2 (Or.inr (slot_ne (Or.inr (hw _ (List.mem_of_getElem? (i := 15) rfl))) (Or.inl (hw _ (List.mem_of_getElem? (i := 46) rfl))) (by decide) (t := (.array .long)) (t' := .long) (by decide) (by decide)))
  have F_partitionRecords_a1_2 := (F_partitionRecords_a1).other W2 (Or.inr (slot_ne (Or.inr (hw _ (List.mem_of_getElem? (i := 17) rfl))) (Or.inl (hw _ (List.mem_of_getElem? (i := 46) rfl))) (by decide) (t := (.array .long)) (t' := .long) (by decide) (by decide)))
  have F_partitionBytes_a1_2 := (F_partitionBytes_a1).other W2 (Or.inr (slot_ne (Or.inr (hw _ (List.mem_of_getElem? (i := 19) rfl))) (Or.inl (hw _ (List.mem_of_getElem? (i := 46) rfl))) (by decide) (t := (.array .long)) (t' := .long) (by decide) (by decide)))
  have F_sortBufferRecords_a1_2 := (F_sortBufferRecords_a1).same W2
  have F_hotKeyRecords_a1_2 := (F_hotKeyRecords_a1).other W2 (Or.inr (slot_ne (Or.inl (hw _ (List.mem_of_getElem? (i := 53) rfl))) (Or.inl (hw _ (List.mem_of_getElem? (i := 46) rfl))) (by decide) (t := .long) (t' := .long) (by decide) (by decide)))
  have F_hotKeyFlushes_a1_2 := (F_hotKeyFlushes_a1).other W2 (Or.inr (slot_ne (Or.inl (hw _ (List.mem_of_getElem? (i := 55) rfl))) (Or.inl (hw _ (List.mem_of_getElem? (i := 46) rfl))) (by decide) (t := .long) (t' := .long) (by decide) (by decide)))
  have F_shuffleRecords_a1_2 := (F_shuffleRecords_a1).other W2 (Or.inr (slot_ne (Or.inl (hw _ (List.mem_of_getElem? (i := 62) rfl))) (Or.inl (hw _ (List.mem_of_getElem? (i := 46) rfl))) (by decide) (t := .long) (t' := .long) (by decide) (by decide)))
  have Z2 : n0 ≤ h2.size := Nat.le_trans Z0 (Nat.le_of_eq W2.size.symm)
  have K2 := ((Keep.refl h0 [a1])).wr W2 (Or.inl (List.mem_of_getElem? (i := 0) rfl))
  exact own_retV X2 own_d7_10 ⟨rfl, K2, F_inputRecords_a1_2, F_unroutedRecords_a1_2, F_extraCopies_a1_2, F_partitionRecords_a1_2, F_partitionBytes_a1_2, F_sortBufferRecords_a1_2, F_hotKeyRecords_a1_2, F_hotKeyFlushes_a1_2, F_shuffleRecords_a1_2⟩ (by decide) (by decide)
theorem own_d8_0 : decode prog_80_method_7_code 0 = .ok (.aload_n 0, 1) := by decide +kernel
theorem own_d8_1 : decode prog_80_method_7_code 1 = .ok (.dup, 1) := by decide +kernel
theorem own_d8_2 : decode prog_80_method_7_code 2 = .ok (.getfield 31, 3) := by decide +kernel
theorem own_d8_5 : decode prog_80_method_7_code 5 = .ok (.lload_n 1, 1) := by decide +kernel
theorem own_d8_6 : decode prog_80_method_7_code 6 = .ok (.ladd, 1) := by decide +kernel
theorem own_d8_7 : decode prog_80_method_7_code 7 = .ok (.putfield 31, 3) := by decide +kernel
theorem own_d8_10 : decode prog_80_method_7_code 10 = .ok (.aload_n 0, 1) := by decide +kernel
theorem own_d8_11 : decode prog_80_method_7_code 11 = .ok (.dup, 1) := by decide +kernel
theorem own_d8_12 : decode prog_80_method_7_code 12 = .ok (.getfield 34, 3) := by decide +kernel
theorem own_d8_15 : decode prog_80_method_7_code 15 = .ok (.lload_n 3, 1) := by decide +kernel
theorem own_d8_16 : decode prog_80_method_7_code 16 = .ok (.ladd, 1) := by decide +kernel
theorem own_d8_17 : decode prog_80_method_7_code 17 = .ok (.putfield 34, 3) := by decide +kernel
theorem own_d8_20 : decode prog_80_method_7_code 20 = .ok (.return_, 1) := by decide +kernel
theorem own_ef8 (m : MethodId) (x0 : Addr) (x1 : Int64) (x2 : Int64) : entryFrame m #[(.ref x0), (.long x1), (.long x2)] 5 = mkF m 0 #[.val (.ref x0), .val (.long x1), .second, .val (.long x2), .second] [] := by first | (simp [entryFrame, mkF, argsToLocals, Value.category]; done) | rfl
theorem own_pn8 : plainFor (⟨"com/example/evenkeel/evenkeel/shuffle/ShuffleStats", "hotKeys", "(JJ)V"⟩ : MethodName) = true := by first | exact plainFor_of_name (by first | (simp [plainName, overriddenIn]; done) | decide +kernel) | exact Jvm.Free.JP.mathPlain rfl (by decide +kernel)
set_option maxRecDepth 65536 in
set_option maxHeartbeats 40000000 in
theorem own_rm8 (l : Launch) (Z : State) (a0 : Array Value) (hw : ∀ d ∈ tables_1, d.before a0 Z = true) (a1 : Addr) (b1 : Addr) (b2 : Addr) (b3 : Addr) (b4 : Addr) (b5 : Addr) (s0 : Int64) (s1 : Int64) (s2 : Int64) (s3 : Int64) (q1 : Int64) (q2 : Int64) (h0 : Heap) (n0 : Nat) (Z0 : n0 ≤ h0.size) (E_a1 : Exa Z h0 a1 "com/example/evenkeel/evenkeel/shuffle/ShuffleStats") (g_a1 : n0 ≤ a1) (F_inputRecords_a1 : Fld Z h0 a1 "com/example/evenkeel/evenkeel/shuffle/ShuffleStats" "inputRecords" "[J" (.ref b1)) (F_unroutedRecords_a1 : Fld Z h0 a1 "com/example/evenkeel/evenkeel/shuffle/ShuffleStats" "unroutedRecords" "[J" (.ref b2)) (F_extraCopies_a1 : Fld Z h0 a1 "com/example/evenkeel/evenkeel/shuffle/ShuffleStats" "extraCopies" "[J" (.ref b3)) (F_partitionRecords_a1 : Fld Z h0 a1 "com/example/evenkeel/evenkeel/shuffle/ShuffleStats" "partitionRecords" "[J" (.ref b4)) (F_partitionBytes_a1 : Fld Z h0 a1 "com/example/evenkeel/evenkeel/shuffle/ShuffleStats" "partitionBytes" "[J" (.ref b5)) (F_sortBufferRecords_a1 : Fld Z h0 a1 "com/example/evenkeel/evenkeel/shuffle/ShuffleStats" "sortBufferRecords" "J" (.long s0)) (F_hotKeyRecords_a1 : Fld Z h0 a1 "com/example/evenkeel/evenkeel/shuffle/ShuffleStats" "hotKeyRecords" "J" (.long s1)) (F_hotKeyFlushes_a1 : Fld Z h0 a1 "com/example/evenkeel/evenkeel/shuffle/ShuffleStats" "hotKeyFlushes" "J" (.long s2)) (F_shuffleRecords_a1 : Fld Z h0 a1 "com/example/evenkeel/evenkeel/shuffle/ShuffleStats" "shuffleRecords" "J" (.long s3)) :
    OwnMet l Z (⟨"com/example/evenkeel/evenkeel/shuffle/ShuffleStats", "hotKeys", "(JJ)V"⟩ : MethodName) prog_80_method_7_code 5 none ({ frames := 0, cells := 0, slots := 0, locals := 0 } : Room) #[(.ref a1), (.long q1), (.long q2)] h0 n0 (fun v h => v = none ∧ Keep h0 h [a1] ∧ Fld Z h a1 "com/example/evenkeel/evenkeel/shuffle/ShuffleStats" "inputRecords" "[J" (.ref b1) ∧ Fld Z h a1 "com/example/evenkeel/evenkeel/shuffle/ShuffleStats" "unroutedRecords" "[J" (.ref b2) ∧ Fld Z h a1 "com/example/evenkeel/evenkeel/shuffle/ShuffleStats" "extraCopies" "[J" (.ref b3) ∧ Fld Z h a1 "com/example/evenkeel/evenkeel/shuffle/ShuffleStats" "partitionRecords" "[J" (.ref b4) ∧ Fld Z h a1 "com/example/evenkeel/evenkeel/shuffle/ShuffleStats" "partitionBytes" "[J" (.ref b5) ∧ Fld Z h a1 "com/example/evenkeel/evenkeel/shuffle/ShuffleStats" "sortBufferRecords" "J" (.long s0) ∧ Fld Z h a1 "com/example/evenkeel/evenkeel/shuffle/ShuffleStats" "hotKeyRecords" "J" (.long (s1 + q1)) ∧ Fld Z h a1 "com/example/evenkeel/evenkeel/shuffle/ShuffleStats" "hotKeyFlushes" "J" (.long (s2 + q2)) ∧ Fld Z h a1 "com/example/evenkeel/evenkeel/shuffle/ShuffleStats" "shuffleRecords" "J" (.long s3)) := by
  refine own_body own_pn8 ?_
  intro p e s m below meth c s₁ RR X0
  refine own_enter (own_ef8 m a1 q1 q2) ?_
  refine own_aloadN X0 own_d8_0 (pc' := 1) rfl rfl rfl ?_
  refine own_dup X0 own_d8_1 (pc' := 2) rfl rfl ?_
  refine own_getF X0 own_d8_2 (hw _ (List.mem_of_getElem? (i := 52) rfl)) Via.refl F_hotKeyRecords_a1 (pc' := 5) rfl ?_
  intro T1 X1
  refine own_lloadN X1 own_d8_5 (pc' := 6) rfl rfl ?_
  refine own_ladd X1 own_d8_6 (pc' := 7) rfl ?_
  refine own_putF X1 own_d8_7 (hw _ (List.mem_of_getElem? (i := 52) rfl)) Via.refl F_hotKeyRecords_a1 E_a1 (Or.inl (hw _ (List.mem_of_getElem? (i := 53) rfl))) (hw _ (List.mem_of_getElem? (i := 1) rfl)) (ty := .long) (v' := (.long (s1 + q1))) (by decide) rfl rfl g_a1 (pc' := 10) rfl ?_
  intro T2 h2 X2 W2
  have E_a1_2 := (E_a1).wr W2
  have F_inputRecords_a1_2 := (F_inputRecords_a1).other W2 (Or.inr (slot_ne (Or.inr (hw _ (List.mem_of_getElem? (i := 11) rfl))) (Or.inl (hw _ (List.mem_of_getElem? (i := 53) rfl))) (by decide) (t := (.array .long)) (t' := .long) (by decide) (by decide)))
  have F_unroutedRecords_a1_2 := (F_unroutedRecords_a1).other W2 (Or.inr (slot_ne (Or.inr (hw _ (List.mem_of_getElem? (i := 13) rfl))) (Or.inl (hw _ (List.mem_of_getElem? (i := 53) rfl))) (by decide) (t := (.array .long)) (t' := .long) (by decide) (by decide)))
  have F_extraCopies_a1_2 := (F_extraCopies_a1).other W2 (Or.inr (slot_ne (Or.inr (hw _ (List.mem_of_getElem? (i := 15) rfl))) (Or.inl (hw _ (List.mem_of_getElem? (i := 53) rfl))) (by decide) (t := (.array .long)) (t' := .long) (by decide) (by decide)))
  have F_partitionRecords_a1_2 := (F_partitionRecords_a1).other W2 (Or.inr (slot_ne (Or.inr (hw _ (List.mem_of_getElem? (i := 17) rfl))) (Or.inl (hw _ (List.mem_of_getElem? (i := 53) rfl))) (by decide) (t := (.array .long)) (t' := .long) (by decide) (by decide)))
  have F_partitionBytes_a1_2 := (F_partitionBytes_a1).other W2 (Or.inr (slot_ne (Or.inr (hw _ (List.mem_of_getElem? (i := 19) rfl))) (Or.inl (hw _ (List.mem_of_getElem? (i := 53) rfl))) (by decide) (t := (.array .long)) (t' := .long) (by decide) (by decide)))
  have F_sortBufferRecords_a1_2 := (F_sortBufferRecords_a1).other W2 (Or.inr (slot_ne (Or.inl (hw _ (List.mem_of_getElem? (i := 46) rfl))) (Or.inl (hw _ (List.mem_of_getElem? (i := 53) rfl))) (by decide) (t := .long) (t' := .long) (by decide) (by decide)))
  have F_hotKeyRecords_a1_2 := (F_hotKeyRecords_a1).same W2
  have F_hotKeyFlushes_a1_2 := (F_hotKeyFlushes_a1).other W2 (Or.inr (slot_ne (Or.inl (hw _ (List.mem_of_getElem? (i := 55) rfl))) (Or.inl (hw _ (List.mem_of_getElem? (i := 53) rfl))) (by decide) (t := .long) (t' := .long) (by decide) (by decide)))
  have F_shuffleRecords_a1_2 := (F_shuffleRecords_a1).other W2 (Or.inr (slot_ne (Or.inl (hw _ (List.mem_of_getElem? (i := 62) rfl))) (Or.inl (hw _ (List.mem_of_getElem? (i := 53) rfl))) (by decide) (t := .long) (t' := .long) (by decide) (by decide)))
  have Z2 : n0 ≤ h2.size := Nat.le_trans Z0 (Nat.le_of_eq W2.size.symm)
  have K2 := ((Keep.refl h0 [a1])).wr W2 (Or.inl (List.mem_of_getElem? (i := 0) rfl))
  refine own_aloadN X2 own_d8_10 (pc' := 11) rfl rfl rfl ?_
  refine own_dup X2 own_d8_11 (pc' := 12) rfl rfl ?_
  refine own_getF X2 own_d8_12 (hw _ (List.mem_of_getElem? (i := 54) rfl)) Via.refl F_hotKeyFlushes_a1_2 (pc' := 15) rfl ?_
  intro T3 X3
  refine own_lloadN X3 own_d8_15 (pc' := 16) rfl rfl ?_
  refine own_ladd X3 own_d8_16 (pc' := 17) rfl ?_
  refine own_putF X3 own_d8_17 (hw _ (List.mem_of_getElem? (i := 54) rfl)) Via.refl F_hotKeyFlushes_a1_2 E_a1_2 (Or.inl (hw _ (List.mem_of_getElem? (i := 55) rfl))) (hw _ (List.mem_of_getElem? (i := 1) rfl)) (ty := .long) (v' := (.long (s2 + q2))) (by decide) rfl rfl g_a1 (pc' := 20) rfl ?_
  intro T4 h4 X4 W4
  have E_a1_4 := (E_a1_2).wr W4
  have F_inputRecords_a1_4 := (F_inputRecords_a1_2).other W4 (Or.inr (slot_ne (Or.inr (hw _ (List.mem_of_getElem? (i := 11) rfl))) (Or.inl (hw _ (List.mem_of_getElem? (i := 55) rfl))) (by decide) (t := (.array .long)) (t' := .long) (by decide) (by decide)))
  have F_unroutedRecords_a1_4 := (F_unroutedRecords_a1_2).other W4 (Or.inr (slot_ne (Or.inr (hw _ (List.mem_of_getElem? (i := 13) rfl))) (Or.inl (hw _ (List.mem_of_getElem? (i := 55) rfl))) (by decide) (t := (.array .long)) (t' := .long) (by decide) (by decide)))
  have F_extraCopies_a1_4 := (F_extraCopies_a1_2).other W4 (Or.inr (slot_ne (Or.inr (hw _ (List.mem_of_getElem? (i := 15) rfl))) (Or.inl (hw _ (List.mem_of_getElem? (i := 55) rfl))) (by decide) (t := (.array .long)) (t' := .long) (by decide) (by decide)))
  have F_partitionRecords_a1_4 := (F_partitionRecords_a1_2).other W4 (Or.inr (slot_ne (Or.inr (hw _ (List.mem_of_getElem? (i := 17) rfl))) (Or.inl (hw _ (List.mem_of_getElem? (i := 55) rfl))) (by decide) (t := (.array .long)) (t' := .long) (by decide) (by decide)))
  have F_partitionBytes_a1_4 := (F_partitionBytes_a1_2).other W4 (Or.inr (slot_ne (Or.inr (hw _ (List.mem_of_getElem? (i := 19) rfl))) (Or.inl (hw _ (List.mem_of_getElem? (i := 55) rfl))) (by decide) (t := (.array .long)) (t' := .long) (by decide) (by decide)))
  have F_sortBufferRecords_a1_4 := (F_sortBufferRecords_a1_2).other W4 (Or.inr (slot_ne (Or.inl (hw _ (List.mem_of_getElem? (i := 46) rfl))) (Or.inl (hw _ (List.mem_of_getElem? (i := 55) rfl))) (by decide) (t := .long) (t' := .long) (by decide) (by decide)))
  have F_hotKeyRecords_a1_4 := (F_hotKeyRecords_a1_2).other W4 (Or.inr (slot_ne (Or.inl (hw _ (List.mem_of_getElem? (i := 53) rfl))) (Or.inl (hw _ (List.mem_of_getElem? (i := 55) rfl))) (by decide) (t := .long) (t' := .long) (by decide) (by decide)))
  have F_hotKeyFlushes_a1_4 := (F_hotKeyFlushes_a1_2).same W4
  have F_shuffleRecords_a1_4 := (F_shuffleRecords_a1_2).other W4 (Or.inr (slot_ne (Or.inl (hw _ (List.mem_of_getElem? (i := 62) rfl))) (Or.inl (hw _ (List.mem_of_getElem? (i := 55) rfl))) (by decide) (t := .long) (t' := .long) (by decide) (by decide)))
  have Z4 : n0 ≤ h4.size := Nat.le_trans Z2 (Nat.le_of_eq W4.size.symm)
  have K4 := (K2).wr W4 (Or.inl (List.mem_of_getElem? (i := 0) rfl))
  exact own_retV X4 own_d8_20 ⟨rfl, K4, F_inputRecords_a1_4, F_unroutedRecords_a1_4, F_extraCopies_a1_4, F_partitionRecords_a1_4, F_partitionBytes_a1_4, F_sortBufferRecords_a1_4, F_hotKeyRecords_a1_4, F_hotKeyFlushes_a1_4, F_shuffleRecords_a1_4⟩ (by decide) (by decide)
theorem own_d9_0 : decode prog_80_method_8_code 0 = .ok (.aload_n 0, 1) := by decide +kernel
theorem own_d9_1 : decode prog_80_method_8_code 1 = .ok (.dup, 1) := by decide +kernel
theorem own_d9_2 : decode prog_80_method_8_code 2 = .ok (.getfield 37, 3) := by decide +kernel
theorem own_d9_5 : decode prog_80_method_8_code 5 = .ok (.lload_n 1, 1) := by decide +kernel
theorem own_d9_6 : decode prog_80_method_8_code 6 = .ok (.ladd, 1) := by decide +kernel
theorem own_d9_7 : decode prog_80_method_8_code 7 = .ok (.putfield 37, 3) := by decide +kernel
theorem own_d9_10 : decode prog_80_method_8_code 10 = .ok (.return_, 1) := by decide +kernel
theorem own_ef9 (m : MethodId) (x0 : Addr) (x1 : Int64) : entryFrame m #[(.ref x0), (.long x1)] 3 = mkF m 0 #[.val (.ref x0), .val (.long x1), .second] [] := by first | (simp [entryFrame, mkF, argsToLocals, Value.category]; done) | rfl
theorem own_pn9 : plainFor (⟨"com/example/evenkeel/evenkeel/shuffle/ShuffleStats", "shuffled", "(J)V"⟩ : MethodName) = true := by first | exact plainFor_of_name (by first | (simp [plainName, overriddenIn]; done) | decide +kernel) | exact Jvm.Free.JP.mathPlain rfl (by decide +kernel)
set_option maxRecDepth 65536 in
set_option maxHeartbeats 40000000 in
theorem own_rm9 (l : Launch) (Z : State) (a0 : Array Value) (hw : ∀ d ∈ tables_1, d.before a0 Z = true) (a1 : Addr) (b1 : Addr) (b2 : Addr) (b3 : Addr) (b4 : Addr) (b5 : Addr) (s0 : Int64) (s1 : Int64) (s2 : Int64) (s3 : Int64) (q1 : Int64) (h0 : Heap) (n0 : Nat) (Z0 : n0 ≤ h0.size) (E_a1 : Exa Z h0 a1 "com/example/evenkeel/evenkeel/shuffle/ShuffleStats") (g_a1 : n0 ≤ a1) (F_inputRecords_a1 : Fld Z h0 a1 "com/example/evenkeel/evenkeel/shuffle/ShuffleStats" "inputRecords" "[J" (.ref b1)) (F_unroutedRecords_a1 : Fld Z h0 a1 "com/example/evenkeel/evenkeel/shuffle/ShuffleStats" "unroutedRecords" "[J" (.ref b2)) (F_extraCopies_a1 : Fld Z h0 a1 "com/example/evenkeel/evenkeel/shuffle/ShuffleStats" "extraCopies" "[J" (.ref b3)) (F_partitionRecords_a1 : Fld Z h0 a1 "com/example/evenkeel/evenkeel/shuffle/ShuffleStats" "partitionRecords" "[J" (.ref b4)) (F_partitionBytes_a1 : Fld Z h0 a1 "com/example/evenkeel/evenkeel/shuffle/ShuffleStats" "partitionBytes" "[J" (.ref b5)) (F_sortBufferRecords_a1 : Fld Z h0 a1 "com/example/evenkeel/evenkeel/shuffle/ShuffleStats" "sortBufferRecords" "J" (.long s0)) (F_hotKeyRecords_a1 : Fld Z h0 a1 "com/example/evenkeel/evenkeel/shuffle/ShuffleStats" "hotKeyRecords" "J" (.long s1)) (F_hotKeyFlushes_a1 : Fld Z h0 a1 "com/example/evenkeel/evenkeel/shuffle/ShuffleStats" "hotKeyFlushes" "J" (.long s2)) (F_shuffleRecords_a1 : Fld Z h0 a1 "com/example/evenkeel/evenkeel/shuffle/ShuffleStats" "shuffleRecords" "J" (.long s3)) :
    OwnMet l Z (⟨"com/example/evenkeel/evenkeel/shuffle/ShuffleStats", "shuffled", "(J)V"⟩ : MethodName) prog_80_method_8_code 3 none ({ frames := 0, cells := 0, slots := 0, locals := 0 } : Room) #[(.ref a1), (.long q1)] h0 n0 (fun v h => v = none ∧ Keep h0 h [a1] ∧ Fld Z h a1 "com/example/evenkeel/evenkeel/shuffle/ShuffleStats" "inputRecords" "[J" (.ref b1) ∧ Fld Z h a1 "com/example/evenkeel/evenkeel/shuffle/ShuffleStats" "unroutedRecords" "[J" (.ref b2) ∧ Fld Z h a1 "com/example/evenkeel/evenkeel/shuffle/ShuffleStats" "extraCopies" "[J" (.ref b3) ∧ Fld Z h a1 "com/example/evenkeel/evenkeel/shuffle/ShuffleStats" "partitionRecords" "[J" (.ref b4) ∧ Fld Z h a1 "com/example/evenkeel/evenkeel/shuffle/ShuffleStats" "partitionBytes" "[J" (.ref b5) ∧ Fld Z h a1 "com/example/evenkeel/evenkeel/shuffle/ShuffleStats" "sortBufferRecords" "J" (.long s0) ∧ Fld Z h a1 "com/example/evenkeel/evenkeel/shuffle/ShuffleStats" "hotKeyRecords" "J" (.long s1) ∧ Fld Z h a1 "com/example/evenkeel/evenkeel/shuffle/ShuffleStats" "hotKeyFlushes" "J" (.long s2) ∧ Fld Z h a1 "com/example/evenkeel/evenkeel/shuffle/ShuffleStats" "shuffleRecords" "J" (.long (s3 + q1))) := by
  refine own_body own_pn9 ?_
  intro p e s m below meth c s₁ RR X0
  refine own_enter (own_ef9 m a1 q1) ?_
  refine own_aloadN X0 own_d9_0 (pc' := 1) rfl rfl rfl ?_
  refine own_dup X0 own_d9_1 (pc' := 2) rfl rfl ?_
  refine own_getF X0 own_d9_2 (hw _ (List.mem_of_getElem? (i := 61) rfl)) Via.refl F_shuffleRecords_a1 (pc' := 5) rfl ?_
  intro T1 X1
  refine own_lloadN X1 own_d9_5 (pc' := 6) rfl rfl ?_
  refine own_ladd X1 own_d9_6 (pc' := 7) rfl ?_
  refine own_putF X1 own_d9_7 (hw _ (List.mem_of_getElem? (i := 61) rfl)) Via.refl F_shuffleRecords_a1 E_a1 (Or.inl (hw _ (List.mem_of_getElem? (i := 62) rfl))) (hw _ (List.mem_of_getElem? (i := 1) rfl)) (ty := .long) (v' := (.long (s3 + q1))) (by decide) rfl rfl g_a1 (pc' := 10) rfl ?_
  intro T2 h2 X2 W2
  have E_a1_2 := (E_a1).wr W2
  have F_inputRecords_a1_2 := (F_inputRecords_a1).other W2 (Or.inr (slot_ne (Or.inr (hw _ (List.mem_of_getElem? (i := 11) rfl))) (Or.inl (hw _ (List.mem_of_getElem? (i := 62) rfl))) (by decide) (t := (.array .long)) (t' := .long) (by decide) (by decide)))
  have F_unroutedRecords_a1_2 := (F_unroutedRecords_a1).other W2 (Or.inr (slot_ne (Or.inr (hw _ (List.mem_of_getElem? (i := 13) rfl))) (Or.inl (hw _ (List.mem_of_getElem? (i := 62) rfl))) (by decide) (t := (.array .long)) (t' := .long) (by decide) (by decide)))
  have F_extraCopies_a1_2 := (F_extraCopies_a1).other W2 (Or.inr (slot_ne (Or.inr (hw _ (List.mem_of_getElem? (i := 15) rfl))) (Or.inl (hw _ (List.mem_of_getElem? (i := 62) rfl))) (by decide) (t := (.array .long)) (t' := .long) (by decide) (by decide)))
  have F_partitionRecords_a1_2 := (F_partitionRecords_a1).other W2 (Or.inr (slot_ne (Or.inr (hw _ (List.mem_of_getElem? (i := 17) rfl))) (Or.inl (hw _ (List.mem_of_getElem? (i := 62) rfl))) (by decide) (t := (.array .long)) (t' := .long) (by decide) (by decide)))
  have F_partitionBytes_a1_2 := (F_partitionBytes_a1).other W2 (Or.inr (slot_ne (Or.inr (hw _ (List.mem_of_getElem? (i := 19) rfl))) (Or.inl (hw _ (List.mem_of_getElem? (i := 62) rfl))) (by decide) (t := (.array .long)) (t' := .long) (by decide) (by decide)))
  have F_sortBufferRecords_a1_2 := (F_sortBufferRecords_a1).other W2 (Or.inr (slot_ne (Or.inl (hw _ (List.mem_of_getElem? (i := 46) rfl))) (Or.inl (hw _ (List.mem_of_getElem? (i := 62) rfl))) (by decide) (t := .long) (t' := .long) (by decide) (by decide)))
  have F_hotKeyRecords_a1_2 := (F_hotKeyRecords_a1).other W2 (Or.inr (slot_ne (Or.inl (hw _ (List.mem_of_getElem? (i := 53) rfl))) (Or.inl (hw _ (List.mem_of_getElem? (i := 62) rfl))) (by decide) (t := .long) (t' := .long) (by decide) (by decide)))
  have F_hotKeyFlushes_a1_2 := (F_hotKeyFlushes_a1).other W2 (Or.inr (slot_ne (Or.inl (hw _ (List.mem_of_getElem? (i := 55) rfl))) (Or.inl (hw _ (List.mem_of_getElem? (i := 62) rfl))) (by decide) (t := .long) (t' := .long) (by decide) (by decide)))
  have F_shuffleRecords_a1_2 := (F_shuffleRecords_a1).same W2
  have Z2 : n0 ≤ h2.size := Nat.le_trans Z0 (Nat.le_of_eq W2.size.symm)
  have K2 := ((Keep.refl h0 [a1])).wr W2 (Or.inl (List.mem_of_getElem? (i := 0) rfl))
  exact own_retV X2 own_d9_10 ⟨rfl, K2, F_inputRecords_a1_2, F_unroutedRecords_a1_2, F_extraCopies_a1_2, F_partitionRecords_a1_2, F_partitionBytes_a1_2, F_sortBufferRecords_a1_2, F_hotKeyRecords_a1_2, F_hotKeyFlushes_a1_2, F_shuffleRecords_a1_2⟩ (by decide) (by decide)
theorem own_d10_0 : decode prog_80_method_9_code 0 = .ok (.iconst 0, 1) := by decide +kernel
theorem own_d10_1 : decode prog_80_method_9_code 1 = .ok (.istore_n 2, 1) := by decide +kernel
theorem own_d10_2 : decode prog_80_method_9_code 2 = .ok (.iload_n 2, 1) := by decide +kernel
theorem own_d10_3 : decode prog_80_method_9_code 3 = .ok (.aload_n 0, 1) := by decide +kernel
theorem own_d10_4 : decode prog_80_method_9_code 4 = .ok (.getfield 9, 3) := by decide +kernel
theorem own_d10_7 : decode prog_80_method_9_code 7 = .ok (.arraylength, 1) := by decide +kernel
theorem own_d10_8 : decode prog_80_method_9_code 8 = .ok (.if_icmp .ge 54, 3) := by decide +kernel
theorem own_d10_11 : decode prog_80_method_9_code 11 = .ok (.aload_n 0, 1) := by decide +kernel
theorem own_d10_12 : decode prog_80_method_9_code 12 = .ok (.getfield 9, 3) := by decide +kernel
theorem own_d10_15 : decode prog_80_method_9_code 15 = .ok (.iload_n 2, 1) := by decide +kernel
theorem own_d10_16 : decode prog_80_method_9_code 16 = .ok (.dup2, 1) := by decide +kernel
theorem own_d10_17 : decode prog_80_method_9_code 17 = .ok (.laload, 1) := by decide +kernel
theorem own_d10_18 : decode prog_80_method_9_code 18 = .ok (.aload_n 1, 1) := by decide +kernel
theorem own_d10_19 : decode prog_80_method_9_code 19 = .ok (.getfield 9, 3) := by decide +kernel
theorem own_d10_22 : decode prog_80_method_9_code 22 = .ok (.iload_n 2, 1) := by decide +kernel
theorem own_d10_23 : decode prog_80_method_9_code 23 = .ok (.laload, 1) := by decide +kernel
theorem own_d10_24 : decode prog_80_method_9_code 24 = .ok (.ladd, 1) := by decide +kernel
theorem own_d10_25 : decode prog_80_method_9_code 25 = .ok (.lastore, 1) := by decide +kernel
theorem own_d10_26 : decode prog_80_method_9_code 26 = .ok (.aload_n 0, 1) := by decide +kernel
theorem own_d10_27 : decode prog_80_method_9_code 27 = .ok (.getfield 15, 3) := by decide +kernel
theorem own_d10_30 : decode prog_80_method_9_code 30 = .ok (.iload_n 2, 1) := by decide +kernel
theorem own_d10_31 : decode prog_80_method_9_code 31 = .ok (.dup2, 1) := by decide +kernel
theorem own_d10_32 : decode prog_80_method_9_code 32 = .ok (.laload, 1) := by decide +kernel
theorem own_d10_33 : decode prog_80_method_9_code 33 = .ok (.aload_n 1, 1) := by decide +kernel
theorem own_d10_34 : decode prog_80_method_9_code 34 = .ok (.getfield 15, 3) := by decide +kernel
theorem own_d10_37 : decode prog_80_method_9_code 37 = .ok (.iload_n 2, 1) := by decide +kernel
theorem own_d10_38 : decode prog_80_method_9_code 38 = .ok (.laload, 1) := by decide +kernel
theorem own_d10_39 : decode prog_80_method_9_code 39 = .ok (.ladd, 1) := by decide +kernel
theorem own_d10_40 : decode prog_80_method_9_code 40 = .ok (.lastore, 1) := by decide +kernel
theorem own_d10_41 : decode prog_80_method_9_code 41 = .ok (.aload_n 0, 1) := by decide +kernel
theorem own_d10_42 : decode prog_80_method_9_code 42 = .ok (.getfield 18, 3) := by decide +kernel
theorem own_d10_45 : decode prog_80_method_9_code 45 = .ok (.iload_n 2, 1) := by decide +kernel
theorem own_d10_46 : decode prog_80_method_9_code 46 = .ok (.dup2, 1) := by decide +kernel
theorem own_d10_47 : decode prog_80_method_9_code 47 = .ok (.laload, 1) := by decide +kernel
theorem own_d10_48 : decode prog_80_method_9_code 48 = .ok (.aload_n 1, 1) := by decide +kernel
theorem own_d10_49 : decode prog_80_method_9_code 49 = .ok (.getfield 18, 3) := by decide +kernel
theorem own_d10_52 : decode prog_80_method_9_code 52 = .ok (.iload_n 2, 1) := by decide +kernel
theorem own_d10_53 : decode prog_80_method_9_code 53 = .ok (.laload, 1) := by decide +kernel
theorem own_d10_54 : decode prog_80_method_9_code 54 = .ok (.ladd, 1) := by decide +kernel
theorem own_d10_55 : decode prog_80_method_9_code 55 = .ok (.lastore, 1) := by decide +kernel
theorem own_d10_56 : decode prog_80_method_9_code 56 = .ok (.iinc 2 1, 3) := by decide +kernel
theorem own_d10_59 : decode prog_80_method_9_code 59 = .ok (.goto (-57), 3) := by decide +kernel
theorem own_d10_62 : decode prog_80_method_9_code 62 = .ok (.iconst 0, 1) := by decide +kernel
theorem own_d10_63 : decode prog_80_method_9_code 63 = .ok (.istore_n 2, 1) := by decide +kernel
theorem own_d10_64 : decode prog_80_method_9_code 64 = .ok (.iload_n 2, 1) := by decide +kernel
theorem own_d10_65 : decode prog_80_method_9_code 65 = .ok (.aload_n 0, 1) := by decide +kernel
theorem own_d10_66 : decode prog_80_method_9_code 66 = .ok (.getfield 21, 3) := by decide +kernel
theorem own_d10_69 : decode prog_80_method_9_code 69 = .ok (.arraylength, 1) := by decide +kernel
theorem own_d10_70 : decode prog_80_method_9_code 70 = .ok (.if_icmp .ge 39, 3) := by decide +kernel
theorem own_d10_73 : decode prog_80_method_9_code 73 = .ok (.aload_n 0, 1) := by decide +kernel
theorem own_d10_74 : decode prog_80_method_9_code 74 = .ok (.getfield 21, 3) := by decide +kernel
theorem own_d10_77 : decode prog_80_method_9_code 77 = .ok (.iload_n 2, 1) := by decide +kernel
theorem own_d10_78 : decode prog_80_method_9_code 78 = .ok (.dup2, 1) := by decide +kernel
theorem own_d10_79 : decode prog_80_method_9_code 79 = .ok (.laload, 1) := by decide +kernel
theorem own_d10_80 : decode prog_80_method_9_code 80 = .ok (.aload_n 1, 1) := by decide +kernel
theorem own_d10_81 : decode prog_80_method_9_code 81 = .ok (.getfield 21, 3) := by decide +kernel
theorem own_d10_84 : decode prog_80_method_9_code 84 = .ok (.iload_n 2, 1) := by decide +kernel
theorem own_d10_85 : decode prog_80_method_9_code 85 = .ok (.laload, 1) := by decide +kernel
theorem own_d10_86 : decode prog_80_method_9_code 86 = .ok (.ladd, 1) := by decide +kernel
theorem own_d10_87 : decode prog_80_method_9_code 87 = .ok (.lastore, 1) := by decide +kernel
theorem own_d10_88 : decode prog_80_method_9_code 88 = .ok (.aload_n 0, 1) := by decide +kernel
theorem own_d10_89 : decode prog_80_method_9_code 89 = .ok (.getfield 24, 3) := by decide +kernel
theorem own_d10_92 : decode prog_80_method_9_code 92 = .ok (.iload_n 2, 1) := by decide +kernel
theorem own_d10_93 : decode prog_80_method_9_code 93 = .ok (.dup2, 1) := by decide +kernel
theorem own_d10_94 : decode prog_80_method_9_code 94 = .ok (.laload, 1) := by decide +kernel
theorem own_d10_95 : decode prog_80_method_9_code 95 = .ok (.aload_n 1, 1) := by decide +kernel
theorem own_d10_96 : decode prog_80_method_9_code 96 = .ok (.getfield 24, 3) := by decide +kernel
theorem own_d10_99 : decode prog_80_method_9_code 99 = .ok (.iload_n 2, 1) := by decide +kernel
theorem own_d10_100 : decode prog_80_method_9_code 100 = .ok (.laload, 1) := by decide +kernel
theorem own_d10_101 : decode prog_80_method_9_code 101 = .ok (.ladd, 1) := by decide +kernel
theorem own_d10_102 : decode prog_80_method_9_code 102 = .ok (.lastore, 1) := by decide +kernel
theorem own_d10_103 : decode prog_80_method_9_code 103 = .ok (.iinc 2 1, 3) := by decide +kernel
theorem own_d10_106 : decode prog_80_method_9_code 106 = .ok (.goto (-42), 3) := by decide +kernel
theorem own_d10_109 : decode prog_80_method_9_code 109 = .ok (.aload_n 0, 1) := by decide +kernel
theorem own_d10_110 : decode prog_80_method_9_code 110 = .ok (.dup, 1) := by decide +kernel
theorem own_d10_111 : decode prog_80_method_9_code 111 = .ok (.getfield 27, 3) := by decide +kernel
theorem own_d10_114 : decode prog_80_method_9_code 114 = .ok (.aload_n 1, 1) := by decide +kernel
theorem own_d10_115 : decode prog_80_method_9_code 115 = .ok (.getfield 27, 3) := by decide +kernel
theorem own_d10_118 : decode prog_80_method_9_code 118 = .ok (.ladd, 1) := by decide +kernel
theorem own_d10_119 : decode prog_80_method_9_code 119 = .ok (.putfield 27, 3) := by decide +kernel
theorem own_d10_122 : decode prog_80_method_9_code 122 = .ok (.aload_n 0, 1) := by decide +kernel
theorem own_d10_123 : decode prog_80_method_9_code 123 = .ok (.dup, 1) := by decide +kernel
theorem own_d10_124 : decode prog_80_method_9_code 124 = .ok (.getfield 31, 3) := by decide +kernel
theorem own_d10_127 : decode prog_80_method_9_code 127 = .ok (.aload_n 1, 1) := by decide +kernel
theorem own_d10_128 : decode prog_80_method_9_code 128 = .ok (.getfield 31, 3) := by decide +kernel
theorem own_d10_131 : decode prog_80_method_9_code 131 = .ok (.ladd, 1) := by decide +kernel
theorem own_d10_132 : decode prog_80_method_9_code 132 = .ok (.putfield 31, 3) := by decide +kernel
theorem own_d10_135 : decode prog_80_method_9_code 135 = .ok (.aload_n 0, 1) := by decide +kernel
theorem own_d10_136 : decode prog_80_method_9_code 136 = .ok (.dup, 1) := by decide +kernel
theorem own_d10_137 : decode prog_80_method_9_code 137 = .ok (.getfield 34, 3) := by decide +kernel
theorem own_d10_140 : decode prog_80_method_9_code 140 = .ok (.aload_n 1, 1) := by decide +kernel
theorem own_d10_141 : decode prog_80_method_9_code 141 = .ok (.getfield 34, 3) := by decide +kernel
theorem own_d10_144 : decode prog_80_method_9_code 144 = .ok (.ladd, 1) := by decide +kernel
theorem own_d10_145 : decode prog_80_method_9_code 145 = .ok (.putfield 34, 3) := by decide +kernel
theorem own_d10_148 : decode prog_80_method_9_code 148 = .ok (.aload_n 0, 1) := by decide +kernel
theorem own_d10_149 : decode prog_80_method_9_code 149 = .ok (.dup, 1) := by decide +kernel
theorem own_d10_150 : decode prog_80_method_9_code 150 = .ok (.getfield 37, 3) := by decide +kernel
theorem own_d10_153 : decode prog_80_method_9_code 153 = .ok (.aload_n 1, 1) := by decide +kernel
theorem own_d10_154 : decode prog_80_method_9_code 154 = .ok (.getfield 37, 3) := by decide +kernel
theorem own_d10_157 : decode prog_80_method_9_code 157 = .ok (.ladd, 1) := by decide +kernel
theorem own_d10_158 : decode prog_80_method_9_code 158 = .ok (.putfield 37, 3) := by decide +kernel
theorem own_d10_161 : decode prog_80_method_9_code 161 = .ok (.return_, 1) := by decide +kernel
theorem own_ef10 (m : MethodId) (x0 : Addr) (x1 : Addr) : entryFrame m #[(.ref x0), (.ref x1)] 3 = mkF m 0 #[.val (.ref x0), .val (.ref x1), .unset] [] := by first | (simp [entryFrame, mkF, argsToLocals, Value.category]; done) | rfl
theorem own_pn10 : plainFor (⟨"com/example/evenkeel/evenkeel/shuffle/ShuffleStats", "add", "(Lcom/example/evenkeel/evenkeel/shuffle/ShuffleStats;)V"⟩ : MethodName) = true := by first | exact plainFor_of_name (by first | (simp [plainName, overriddenIn]; done) | decide +kernel) | exact Jvm.Free.JP.mathPlain rfl (by decide +kernel)
set_option maxRecDepth 65536 in
set_option maxHeartbeats 40000000 in
theorem own_rm10 (l : Launch) (Z : State) (a0 : Array Value) (hw : ∀ d ∈ tables_1, d.before a0 Z = true) (a1 : Addr) (a2 : Addr) (b1 : Addr) (b2 : Addr) (b3 : Addr) (b4 : Addr) (b5 : Addr) (c1 : Addr) (c2 : Addr) (c3 : Addr) (c4 : Addr) (c5 : Addr) (xs1 : List Int64) (xs2 : List Int64) (xs3 : List Int64) (xs4 : List Int64) (xs5 : List Int64) (ys1 : List Int64) (ys2 : List Int64) (ys3 : List Int64) (ys4 : List Int64) (ys5 : List Int64) (s0 : Int64) (s1 : Int64) (s2 : Int64) (s3 : Int64) (t0 : Int64) (t1 : Int64) (t2 : Int64) (t3 : Int64) (h0 : Heap) (n0 : Nat) (Z0 : n0 ≤ h0.size) (E_a1 : Exa Z h0 a1 "com/example/evenkeel/evenkeel/shuffle/ShuffleStats") (F_inputRecords_a1 : Fld Z h0 a1 "com/example/evenkeel/evenkeel/shuffle/ShuffleStats" "inputRecords" "[J" (.ref b1)) (F_unroutedRecords_a1 : Fld Z h0 a1 "com/example/evenkeel/evenkeel/shuffle/ShuffleStats" "unroutedRecords" "[J" (.ref b2)) (F_extraCopies_a1 : Fld Z h0 a1 "com/example/evenkeel/evenkeel/shuffle/ShuffleStats" "extraCopies" "[J" (.ref b3)) (F_partitionRecords_a1 : Fld Z h0 a1 "com/example/evenkeel/evenkeel/shuffle/ShuffleStats" "partitionRecords" "[J" (.ref b4)) (F_partitionBytes_a1 : Fld Z h0 a1 "com/example/evenkeel/evenkeel/shuffle/ShuffleStats" "partitionBytes" "[J" (.ref b5)) (F_sortBufferRecords_a1 : Fld Z h0 a1 "com/example/evenkeel/evenkeel/shuffle/ShuffleStats" "sortBufferRecords" "J" (.long s0)) (F_hotKeyRecords_a1 : Fld Z h0 a1 "com/example/evenkeel/evenkeel/shuffle/ShuffleStats" "hotKeyRecords" "J" (.long s1)) (F_hotKeyFlushes_a1 : Fld Z h0 a1 "com/example/evenkeel/evenkeel/shuffle/ShuffleStats" "hotKeyFlushes" "J" (.long s2)) (F_shuffleRecords_a1 : Fld Z h0 a1 "com/example/evenkeel/evenkeel/shuffle/ShuffleStats" "shuffleRecords" "J" (.long s3)) (F_inputRecords_a2 : Fld Z h0 a2 "com/example/evenkeel/evenkeel/shuffle/ShuffleStats" "inputRecords" "[J" (.ref c1)) (F_unroutedRecords_a2 : Fld Z h0 a2 "com/example/evenkeel/evenkeel/shuffle/ShuffleStats" "unroutedRecords" "[J" (.ref c2)) (F_extraCopies_a2 : Fld Z h0 a2 "com/example/evenkeel/evenkeel/shuffle/ShuffleStats" "extraCopies" "[J" (.ref c3)) (F_partitionRecords_a2 : Fld Z h0 a2 "com/example/evenkeel/evenkeel/shuffle/ShuffleStats" "partitionRecords" "[J" (.ref c4)) (F_partitionBytes_a2 : Fld Z h0 a2 "com/example/evenkeel/evenkeel/shuffle/ShuffleStats" "partitionBytes" "[J" (.ref c5)) (F_sortBufferRecords_a2 : Fld Z h0 a2 "com/example/evenkeel/evenkeel/shuffle/ShuffleStats" "sortBufferRecords" "J" (.long t0)) (F_hotKeyRecords_a2 : Fld Z h0 a2 "com/example/evenkeel/evenkeel/shuffle/ShuffleStats" "hotKeyRecords" "J" (.long t1)) (F_hotKeyFlushes_a2 : Fld Z h0 a2 "com/example/evenkeel/evenkeel/shuffle/ShuffleStats" "hotKeyFlushes" "J" (.long t2)) (F_shuffleRecords_a2 : Fld Z h0 a2 "com/example/evenkeel/evenkeel/shuffle/ShuffleStats" "shuffleRecords" "J" (.long t3)) (V_b1 : OwnAr Z h0 b1 .long (xs1.map Value.long)) (V_b2 : OwnAr Z h0 b2 .long (xs2.map Value.long)) (V_b3 : OwnAr Z h0 b3 .long (xs3.map Value.long)) (V_b4 : OwnAr Z h0 b4 .long (xs4.map Value.long)) (V_b5 : OwnAr Z h0 b5 .long (xs5.map Value.long)) (V_c1 : OwnAr Z h0 c1 .long (ys1.map Value.long)) (V_c2 : OwnAr Z h0 c2 .long (ys2.map Value.long)) (V_c3 : OwnAr Z h0 c3 .long (ys3.map Value.long)) (V_c4 : OwnAr Z h0 c4 .long (ys4.map Value.long)) (V_c5 : OwnAr Z h0 c5 .long (ys5.map Value.long)) (g_a1 : n0 ≤ a1) (g_b1 : n0 ≤ b1) (g_b2 : n0 ≤ b2) (g_b3 : n0 ≤ b3) (g_b4 : n0 ≤ b4) (g_b5 : n0 ≤ b5) (ne_a1_a2 : a1 ≠ a2) (ne_a1_b1 : a1 ≠ b1) (ne_a1_b2 : a1 ≠ b2) (ne_a1_b3 : a1 ≠ b3) (ne_a1_b4 : a1 ≠ b4) (ne_a1_b5 : a1 ≠ b5) (ne_a1_c1 : a1 ≠ c1) (ne_a1_c2 : a1 ≠ c2) (ne_a1_c3 : a1 ≠ c3) (ne_a1_c4 : a1 ≠ c4) (ne_a1_c5 : a1 ≠ c5) (ne_b1_a2 : b1 ≠ a2) (ne_b1_b2 : b1 ≠ b2) (ne_b1_b3 : b1 ≠ b3) (ne_b1_b4 : b1 ≠ b4) (ne_b1_b5 : b1 ≠ b5) (ne_b1_c1 : b1 ≠ c1) (ne_b1_c2 : b1 ≠ c2) (ne_b1_c3 : b1 ≠ c3) (ne_b1_c4 : b1 ≠ c4) (ne_b1_c5 : b1 ≠ c5) (ne_b2_a2 : b2 ≠ a2) (ne_b2_b3 : b2 ≠ b3) (ne_b2_b4 : b2 ≠ b4) (ne_b2_b5 : b2 ≠ b5) (ne_b2_c1 : b2 ≠ c1) (ne_b2_c2 : b2 ≠ c2) (ne_b2_c3 : b2 ≠ c3) (ne_b2_c4 : b2 ≠ c4) (ne_b2_c5 : b2 ≠ c5) (ne_b3_a2 : b3 ≠ a2) (ne_b3_b4 : b3 ≠ b4) (ne_b3_b5 : b3 ≠ b5) (ne_b3_c1 : b3 ≠ c1) (ne_b3_c2 : b3 ≠ c2) (ne_b3_c3 : b3 ≠ c3) (ne_b3_c4 : b3 ≠ c4) (ne_b3_c5 : b3 ≠ c5) (ne_b4_a2 : b4 ≠ a2) (ne_b4_b5 : b4 ≠ b5) (ne_b4_c1 : b4 ≠ c1) (ne_b4_c2 : b4 ≠ c2) (ne_b4_c3 : b4 ≠ c3) (ne_b4_c4 : b4 ≠ c4) (ne_b4_c5 : b4 ≠ c5) (ne_b5_a2 : b5 ≠ a2) (ne_b5_c1 : b5 ≠ c1) (ne_b5_c2 : b5 ≠ c2) (ne_b5_c3 : b5 ≠ c3) (ne_b5_c4 : b5 ≠ c4) (ne_b5_c5 : b5 ≠ c5) (hx1 : xs1.length = 128) (hx2 : xs2.length = 128) (hx3 : xs3.length = 128) (hx4 : xs4.length = 2) (hx5 : xs5.length = 2) (hy1 : ys1.length = 128) (hy2 : ys2.length = 128) (hy3 : ys3.length = 128) (hy4 : ys4.length = 2) (hy5 : ys5.length = 2) :
    OwnMet l Z (⟨"com/example/evenkeel/evenkeel/shuffle/ShuffleStats", "add", "(Lcom/example/evenkeel/evenkeel/shuffle/ShuffleStats;)V"⟩ : MethodName) prog_80_method_9_code 3 none ({ frames := 0, cells := 0, slots := 0, locals := 0 } : Room) #[(.ref a1), (.ref a2)] h0 n0 (fun v h => v = none ∧ Keep h0 h [a1, b1, b2, b3, b4, b5] ∧ Fld Z h a1 "com/example/evenkeel/evenkeel/shuffle/ShuffleStats" "inputRecords" "[J" (.ref b1) ∧ Fld Z h a1 "com/example/evenkeel/evenkeel/shuffle/ShuffleStats" "unroutedRecords" "[J" (.ref b2) ∧ Fld Z h a1 "com/example/evenkeel/evenkeel/shuffle/ShuffleStats" "extraCopies" "[J" (.ref b3) ∧ Fld Z h a1 "com/example/evenkeel/evenkeel/shuffle/ShuffleStats" "partitionRecords" "[J" (.ref b4) ∧ Fld Z h a1 "com/example/evenkeel/evenkeel/shuffle/ShuffleStats" "partitionBytes" "[J" (.ref b5) ∧ Fld Z h a1 "com/example/evenkeel/evenkeel/shuffle/ShuffleStats" "sortBufferRecords" "J" (.long (s0 + t0)) ∧ Fld Z h a1 "com/example/evenkeel/evenkeel/shuffle/ShuffleStats" "hotKeyRecords" "J" (.long (s1 + t1)) ∧ Fld Z h a1 "com/example/evenkeel/evenkeel/shuffle/ShuffleStats" "hotKeyFlushes" "J" (.long (s2 + t2)) ∧ Fld Z h a1 "com/example/evenkeel/evenkeel/shuffle/ShuffleStats" "shuffleRecords" "J" (.long (s3 + t3)) ∧ OwnAr Z h b1 .long ((ownUp xs1 ys1 128).map Value.long) ∧ OwnAr Z h b2 .long ((ownUp xs2 ys2 128).map Value.long) ∧ OwnAr Z h b3 .long ((ownUp xs3 ys3 128).map Value.long) ∧ OwnAr Z h b4 .long ((ownUp xs4 ys4 2).map Value.long) ∧ OwnAr Z h b5 .long ((ownUp xs5 ys5 2).map Value.long)) := by
  refine own_body own_pn10 ?_
  intro p e s m below meth c s₁ RR X0
  refine own_enter (own_ef10 m a1 a2) ?_
  refine own_iconst X0 own_d10_0 (pc' := 1) rfl (v := (0 : Int32)) (by decide) ?_
  refine own_istoreN X0 own_d10_1 (pc' := 2) rfl (l' := #[.val (.ref a1), .val (.ref a2), .val (.int (0 : Int32))]) rfl ?_
  have loop2 : ∀ (d k2 : Nat) (Tl2 : State) (hl2 : Heap), d + k2 = 128 → OwnAtH X0 Tl2 hl2 → n0 ≤ hl2.size → Keep h0 hl2 [a1, b1, b2, b3, b4, b5] → Exa Z hl2 a1 "com/example/evenkeel/evenkeel/shuffle/ShuffleStats" → Fld Z hl2 a1 "com/example/evenkeel/evenkeel/shuffle/ShuffleStats" "inputRecords" "[J" (.ref b1) → Fld Z hl2 a1 "com/example/evenkeel/evenkeel/shuffle/ShuffleStats" "unroutedRecords" "[J" (.ref b2) → Fld Z hl2 a1 "com/example/evenkeel/evenkeel/shuffle/ShuffleStats" "extraCopies" "[J" (.ref b3) → Fld Z hl2 a1 "com/example/evenkeel/evenkeel/shuffle/ShuffleStats" "partitionRecords" "[J" (.ref b4) → Fld Z hl2 a1 "com/example/evenkeel/evenkeel/shuffle/ShuffleStats" "partitionBytes" "[J" (.ref b5) → Fld Z hl2 a1 "com/example/evenkeel/evenkeel/shuffle/ShuffleStats" "sortBufferRecords" "J" (.long s0) → Fld Z hl2 a1 "com/example/evenkeel/evenkeel/shuffle/ShuffleStats" "hotKeyRecords" "J" (.long s1) → Fld Z hl2 a1 "com/example/evenkeel/evenkeel/shuffle/ShuffleStats" "hotKeyFlushes" "J" (.long s2) → Fld Z hl2 a1 "com/example/evenkeel/evenkeel/shuffle/ShuffleStats" "shuffleRecords" "J" (.long s3) → Fld Z hl2 a2 "com/example/evenkeel/evenkeel/shuffle/ShuffleStats" "inputRecords" "[J" (.ref c1) → Fld Z hl2 a2 "com/example/evenkeel/evenkeel/shuffle/ShuffleStats" "unroutedRecords" "[J" (.ref c2) → Fld Z hl2 a2 "com/example/evenkeel/evenkeel/shuffle/ShuffleStats" "extraCopies" "[J" (.ref c3) → Fld Z hl2 a2 "com/example/evenkeel/evenkeel/shuffle/ShuffleStats" "partitionRecords" "[J" (.ref c4) → Fld Z hl2 a2 "com/example/evenkeel/evenkeel/shuffle/ShuffleStats" "partitionBytes" "[J" (.ref c5) → Fld Z hl2 a2 "com/example/evenkeel/evenkeel/shuffle/ShuffleStats" "sortBufferRecords" "J" (.long t0) → Fld Z hl2 a2 "com/example/evenkeel/evenkeel/shuffle/ShuffleStats" "hotKeyRecords" "J" (.long t1) → Fld Z hl2 a2 "com/example/evenkeel/evenkeel/shuffle/ShuffleStats" "hotKeyFlushes" "J" (.long t2) → Fld Z hl2 a2 "com/example/evenkeel/evenkeel/shuffle/ShuffleStats" "shuffleRecords" "J" (.long t3) → OwnAr Z hl2 b1 .long ((ownUp xs1 ys1 k2).map Value.long) → OwnAr Z hl2 b2 .long ((ownUp xs2 ys2 k2).map Value.long) → OwnAr Z hl2 b3 .long ((ownUp xs3 ys3 k2).map Value.long) → OwnAr Z hl2 b4 .long (xs4.map Value.long) → OwnAr Z hl2 b5 .long (xs5.map Value.long) → OwnAr Z hl2 c1 .long (ys1.map Value.long) → OwnAr Z hl2 c2 .long (ys2.map Value.long) → OwnAr Z hl2 c3 .long (ys3.map Value.long) → OwnAr Z hl2 c4 .long (ys4.map Value.long) → OwnAr Z hl2 c5 .long (ys5.map Value.long) → OwnGo p e below (Tl2.setTop (mkF m 2 #[.val (.ref a1), .val (.ref a2), .val (.int (Int32.ofNat k2))] [])) RR := by
    intro d
    induction d with
    | zero =>
      intro k2 Tl2 hl2 hdk2 Xl2 Zl2 Kl2 Fl2_0x Fl2_1x Fl2_2x Fl2_3x Fl2_4x Fl2_5x Fl2_6x Fl2_7x Fl2_8x Fl2_9x Fl2_10x Fl2_11x Fl2_12x Fl2_13x Fl2_14x Fl2_15x Fl2_16x Fl2_17x Fl2_18x Fl2_19x Fl2_20x Fl2_21x Fl2_22x Fl2_23x Fl2_24x Fl2_25x Fl2_26x Fl2_27x Fl2_28x
      obtain rfl : k2 = 128 := by omega
      refine own_iloadN Xl2 own_d10_2 (pc' := 3) rfl rfl ?_
      refine own_aloadN Xl2 own_d10_3 (pc' := 4) rfl rfl rfl ?_
      refine own_getF Xl2 own_d10_4 (hw _ (List.mem_of_getElem? (i := 10) rfl)) Via.refl Fl2_1x (pc' := 7) rfl ?_
      intro T1 X1
      refine own_arraylength X1 own_d10_7 Fl2_19x (n := (128 : Int32)) (by simp only [List.length_map, own_upl, hx1]; rfl) (pc' := 8) rfl ?_
      refine own_icY X1 own_d10_8 (flt ((by decide : ¬ ((Int32.ofNat 128) < (128 : Int32))))).2.1 (pc' := 62) (by decide) (by decide) ?_
      refine own_iconst X1 own_d10_62 (pc' := 63) rfl (v := (0 : Int32)) (by decide) ?_
      refine own_istoreN X1 own_d10_63 (pc' := 64) rfl (l' := #[.val (.ref a1), .val (.ref a2), .val (.int (0 : Int32))]) rfl ?_
      have loop64 : ∀ (d k64 : Nat) (Tl64 : State) (hl64 : Heap), d + k64 = 2 → OwnAtH X1 Tl64 hl64 → n0 ≤ hl64.size → Keep h0 hl64 [a1, b1, b2, b3, b4, b5] → Exa Z hl64 a1 "com/example/evenkeel/evenkeel/shuffle/ShuffleStats" → Fld Z hl64 a1 "com/example/evenkeel/evenkeel/shuffle/ShuffleStats" "inputRecords" "[J" (.ref b1) → Fld Z hl64 a1 "com/example/evenkeel/evenkeel/shuffle/ShuffleStats" "unroutedRecords" "[J" (.ref b2) → Fld Z hl64 a1 "com/example/evenkeel/evenkeel/shuffle/ShuffleStats" "extraCopies" "[J" (.ref b3) → Fld Z hl64 a1 "com/example/evenkeel/evenkeel/shuffle/ShuffleStats" "partitionRecords" "[J" (.ref b4) → Fld Z hl64 a1 "com/example/evenkeel/evenkeel/shuffle/ShuffleStats" "partitionBytes" "[J" (.ref b5) → Fld Z hl64 a1 "com/example/evenkeel/evenkeel/shuffle/ShuffleStats" "sortBufferRecords" "J" (.long s0) → Fld Z hl64 a1 "com/example/evenkeel/evenkeel/shuffle/ShuffleStats" "hotKeyRecords" "J" (.long s1) → Fld Z hl64 a1 "com/example/evenkeel/evenkeel/shuffle/ShuffleStats" "hotKeyFlushes" "J" (.long s2) → Fld Z hl64 a1 "com/example/evenkeel/evenkeel/shuffle/ShuffleStats" "shuffleRecords" "J" (.long s3) → Fld Z hl64 a2 "com/example/evenkeel/evenkeel/shuffle/ShuffleStats" "inputRecords" "[J" (.ref c1) → Fld Z hl64 a2 "com/example/evenkeel/evenkeel/shuffle/ShuffleStats" "unroutedRecords" "[J" (.ref c2) → Fld Z hl64 a2 "com/example/evenkeel/evenkeel/shuffle/ShuffleStats" "extraCopies" "[J" (.ref c3) → Fld Z hl64 a2 "com/example/evenkeel/evenkeel/shuffle/ShuffleStats" "partitionRecords" "[J" (.ref c4) → Fld Z hl64 a2 "com/example/evenkeel/evenkeel/shuffle/ShuffleStats" "partitionBytes" "[J" (.ref c5) → Fld Z hl64 a2 "com/example/evenkeel/evenkeel/shuffle/ShuffleStats" "sortBufferRecords" "J" (.long t0) → Fld Z hl64 a2 "com/example/evenkeel/evenkeel/shuffle/ShuffleStats" "hotKeyRecords" "J" (.long t1) → Fld Z hl64 a2 "com/example/evenkeel/evenkeel/shuffle/ShuffleStats" "hotKeyFlushes" "J" (.long t2) → Fld Z hl64 a2 "com/example/evenkeel/evenkeel/shuffle/ShuffleStats" "shuffleRecords" "J" (.long t3) → OwnAr Z hl64 b1 .long ((ownUp xs1 ys1 128).map Value.long) → OwnAr Z hl64 b2 .long ((ownUp xs2 ys2 128).map Value.long) → OwnAr Z hl64 b3 .long ((ownUp xs3 ys3 128).map Value.long) → OwnAr Z hl64 b4 .long ((ownUp xs4 ys4 k64).map Value.long) → OwnAr Z hl64 b5 .long ((ownUp xs5 ys5 k64).map Value.long) → OwnAr Z hl64 c1 .long (ys1.map Value.long) → OwnAr Z hl64 c2 .long (ys2.map Value.long) → OwnAr Z hl64 c3 .long (ys3.map Value.long) → OwnAr Z hl64 c4 .long (ys4.map Value.long) → OwnAr Z hl64 c5 .long (ys5.map Value.long) → OwnGo p e below (Tl64.setTop (mkF m 64 #[.val (.ref a1), .val (.ref a2), .val (.int (Int32.ofNat k64))] [])) RR := by
        intro d
        induction d with
        | zero =>
          intro k64 Tl64 hl64 hdk64 Xl64 Zl64 Kl64 Fl64_0x Fl64_1x Fl64_2x Fl64_3x Fl64_4x Fl64_5x Fl64_6x Fl64_7x Fl64_8x Fl64_9x Fl64_10x Fl64_11x Fl64_12x Fl64_13x Fl64_14x Fl64_15x Fl64_16x Fl64_17x Fl64_18x Fl64_19x Fl64_20x Fl64_21x Fl64_22x Fl64_23x Fl64_24x Fl64_25x Fl64_26x Fl64_27x Fl64_28x
          obtain rfl : k64 = 2 := by omega
          refine own_iloadN Xl64 own_d10_64 (pc' := 65) rfl rfl ?_
          refine own_aloadN Xl64 own_d10_65 (pc' := 66) rfl rfl rfl ?_
          refine own_getF Xl64 own_d10_66 (hw _ (List.mem_of_getElem? (i := 16) rfl)) Via.refl Fl64_4x (pc' := 69) rfl ?_
          intro T2 X2
          refine own_arraylength X2 own_d10_69 Fl64_22x (n := (2 : Int32)) (by simp only [List.length_map, own_upl, hx4]; rfl) (pc' := 70) rfl ?_
          refine own_icY X2 own_d10_70 (flt ((by decide : ¬ ((Int32.ofNat 2) < (2 : Int32))))).2.1 (pc' := 109) (by decide) (by decide) ?_
          refine own_aloadN X2 own_d10_109 (pc' := 110) rfl rfl rfl ?_
          refine own_dup X2 own_d10_110 (pc' := 111) rfl rfl ?_
          refine own_getF X2 own_d10_111 (hw _ (List.mem_of_getElem? (i := 45) rfl)) Via.refl Fl64_6x (pc' := 114) rfl ?_
          intro T3 X3
          refine own_aloadN X3 own_d10_114 (pc' := 115) rfl rfl rfl ?_
          refine own_getF X3 own_d10_115 (hw _ (List.mem_of_getElem? (i := 45) rfl)) Via.refl Fl64_15x (pc' := 118) rfl ?_
          intro T4 X4
          refine own_ladd X4 own_d10_118 (pc' := 119) rfl ?_
          refine own_putF X4 own_d10_119 (hw _ (List.mem_of_getElem? (i := 45) rfl)) Via.refl Fl64_6x Fl64_0x (Or.inl (hw _ (List.mem_of_getElem? (i := 46) rfl))) (hw _ (List.mem_of_getElem? (i := 1) rfl)) (ty := .long) (v' := (.long (s0 + t0))) (by decide) rfl rfl g_a1 (pc' := 122) rfl ?_
          intro T5 h5 X5 W5
          have Fl64_0x_5 := (Fl64_0x).wr W5
          have Fl64_1x_5 := (Fl64_1x).other W5 (Or.inr (slot_ne (Or.inr (hw _ (List.mem_of_getElem? (i := 11) rfl))) (Or.inl (hw _ (List.mem_of_getElem? (i := 46) rfl))) (by decide) (t := (.array .long)) (t' := .long) (by decide) (by decide)))
          have Fl64_2x_5 := (Fl64_2x).other W5 (Or.inr (slot_ne (Or.inr (hw _ (List.mem_of_getElem? (i := 13) rfl))) (Or.inl (hw _ (List.mem_of_getElem? (i := 46) rfl))) (by decide) (t := (.array .long)) (t' := .long) (by decide) (by decide)))
          have Fl64_3x_5 := (Fl64_3x).other W5 (Or.inr (slot_ne (Or.inr (hw _ (List.mem_of_getElem? (i := 15) rfl))) (Or.inl (hw _ (List.mem_of_getElem? (i := 46) rfl))) (by decide) (t := (.array .long)) (t' := .long) (by decide) (by decide)))
          have Fl64_4x_5 := (Fl64_4x).other W5 (Or.inr (slot_ne (Or.inr (hw _ (List.mem_of_getElem? (i := 17) rfl))) (Or.inl (hw _ (List.mem_of_getElem? (i := 46) rfl))) (by decide) (t := (.array .long)) (t' := .long) (by decide) (by decide)))
          have Fl64_5x_5 := (Fl64_5x).other W5 (Or.inr (slot_ne (Or.inr (hw _ (List.mem_of_getElem? (i := 19) rfl))) (Or.inl (hw _ (List.mem_of_getElem? (i := 46) rfl))) (by decide) (t := (.array .long)) (t' := .long) (by decide) (by decide)))
          have Fl64_6x_5 := (Fl64_6x).same W5
          have Fl64_7x_5 := (Fl64_7x).other W5 (Or.inr (slot_ne (Or.inl (hw _ (List.mem_of_getElem? (i := 53) rfl))) (Or.inl (hw _ (List.mem_of_getElem? (i := 46) rfl))) (by decide) (t := .long) (t' := .long) (by decide) (by decide)))
          have Fl64_8x_5 := (Fl64_8x).other W5 (Or.inr (slot_ne (Or.inl (hw _ (List.mem_of_getElem? (i := 55) rfl))) (Or.inl (hw _ (List.mem_of_getElem? (i := 46) rfl))) (by decide) (t := .long) (t' := .long) (by decide) (by decide)))
          have Fl64_9x_5 := (Fl64_9x).other W5 (Or.inr (slot_ne (Or.inl (hw _ (List.mem_of_getElem? (i := 62) rfl))) (Or.inl (hw _ (List.mem_of_getElem? (i := 46) rfl))) (by decide) (t := .long) (t' := .long) (by decide) (by decide)))
          have Fl64_10x_5 := (Fl64_10x).other W5 (Or.inl ne_a1_a2.symm)
          have Fl64_11x_5 := (Fl64_11x).other W5 (Or.inl ne_a1_a2.symm)
          have Fl64_12x_5 := (Fl64_12x).other W5 (Or.inl ne_a1_a2.symm)
          have Fl64_13x_5 := (Fl64_13x).other W5 (Or.inl ne_a1_a2.symm)
          have Fl64_14x_5 := (Fl64_14x).other W5 (Or.inl ne_a1_a2.symm)
          have Fl64_15x_5 := (Fl64_15x).other W5 (Or.inl ne_a1_a2.symm)
          have Fl64_16x_5 := (Fl64_16x).other W5 (Or.inl ne_a1_a2.symm)
          have Fl64_17x_5 := (Fl64_17x).other W5 (Or.inl ne_a1_a2.symm)
          have Fl64_18x_5 := (Fl64_18x).other W5 (Or.inl ne_a1_a2.symm)
          have Fl64_19x_5 := (Fl64_19x).other W5 ne_a1_b1.symm
          have Fl64_20x_5 := (Fl64_20x).other W5 ne_a1_b2.symm
          have Fl64_21x_5 := (Fl64_21x).other W5 ne_a1_b3.symm
          have Fl64_22x_5 := (Fl64_22x).other W5 ne_a1_b4.symm
          have Fl64_23x_5 := (Fl64_23x).other W5 ne_a1_b5.symm
          have Fl64_24x_5 := (Fl64_24x).other W5 ne_a1_c1.symm
          have Fl64_25x_5 := (Fl64_25x).other W5 ne_a1_c2.symm
          have Fl64_26x_5 := (Fl64_26x).other W5 ne_a1_c3.symm
          have Fl64_27x_5 := (Fl64_27x).other W5 ne_a1_c4.symm
          have Fl64_28x_5 := (Fl64_28x).other W5 ne_a1_c5.symm
          have Z5 : n0 ≤ h5.size := Nat.le_trans Zl64 (Nat.le_of_eq W5.size.symm)
          have K5 := (Kl64).wr W5 (Or.inl (List.mem_of_getElem? (i := 0) rfl))
          refine own_aloadN X5 own_d10_122 (pc' := 123) rfl rfl rfl ?_
          refine own_dup X5 own_d10_123 (pc' := 124) rfl rfl ?_
          refine own_getF X5 own_d10_124 (hw _ (List.mem_of_getElem? (i := 52) rfl)) Via.refl Fl64_7x_5 (pc' := 127) rfl ?_
          intro T6 X6
          refine own_aloadN X6 own_d10_127 (pc' := 128) rfl rfl rfl ?_
          refine own_getF X6 own_d10_128 (hw _ (List.mem_of_getElem? (i := 52) rfl)) Via.refl Fl64_16x_5 (pc' := 131) rfl ?_
          intro T7 X7
          refine own_ladd X7 own_d10_131 (pc' := 132) rfl ?_
          refine own_putF X7 own_d10_132 (hw _ (List.mem_of_getElem? (i := 52) rfl)) Via.refl Fl64_7x_5 Fl64_0x_5 (Or.inl (hw _ (List.mem_of_getElem? (i := 53) rfl))) (hw _ (List.mem_of_getElem? (i := 1) rfl)) (ty := .long) (v' := (.long (s1 + t1))) (by decide) rfl rfl g_a1 (pc' := 135) rfl ?_
          intro T8 h8 X8 W8
          have Fl64_0x_8 := (Fl64_0x_5).wr W8
          have Fl64_1x_8 := (Fl64_1x_5).other W8 (Or.inr (slot_ne (Or.inr (hw _ (List.mem_of_getElem? (i := 11) rfl))) (Or.inl (hw _ (List.mem_of_getElem? (i := 53) rfl))) (by decide) (t := (.array .long)) (t' := .long) (by decide) (by decide)))
          have Fl64_2x_8 := (Fl64_2x_5).other W8 (Or.inr (slot_ne (Or.inr (hw _ (List.mem_of_getElem? (i := 13) rfl))) (Or.inl (hw _ (List.mem_of_getElem? (i := 53) rfl))) (by decide) (t := (.array .long)) (t' := .long) (by decide) (by decide)))
          have Fl64_3x_8 := (Fl64_3x_5).other W8 (Or.inr (slot_ne (Or.inr (hw _ (List.mem_of_getElem? (i := 15) rfl))) (Or.inl (hw _ (List.mem_of_getElem? (i := 53) rfl))) (by decide) (t := (.array .long)) (t' := .long) (by decide) (by decide)))
          have Fl64_4x_8 := (Fl64_4x_5).other W8 (Or.inr (slot_ne (Or.inr (hw _ (List.mem_of_getElem? (i := 17) rfl))) (Or.inl (hw _ (List.mem_of_getElem? (i := 53) rfl))) (by decide) (t := (.array .long)) (t' := .long) (by decide) (by decide)))
          have Fl64_5x_8 := (Fl64_5x_5).other W8 (Or.inr (slot_ne (Or.inr (hw _ (List.mem_of_getElem? (i := 19) rfl))) (Or.inl (hw _ (List.mem_of_getElem? (i := 53) rfl))) (by decide) (t := (.array .long)) (t' := .long) (by decide) (by decide)))
          have Fl64_6x_8 := (Fl64_6x_5).other W8 (Or.inr (slot_ne (Or.inl (hw _ (List.mem_of_getElem? (i := 46) rfl))) (Or.inl (hw _ (List.mem_of_getElem? (i := 53) rfl))) (by decide) (t := .long) (t' := .long) (by decide) (by decide)))
          have Fl64_7x_8 := (Fl64_7x_5).same W8
          have Fl64_8x_8 := (Fl64_8x_5).other W8 (Or.inr (slot_ne (Or.inl (hw _ (List.mem_of_getElem? (i := 55) rfl))) (Or.inl (hw _ (List.mem_of_getElem? (i := 53) rfl))) (by decide) (t := .long) (t' := .long) (by decide) (by decide)))
          have Fl64_9x_8 := (Fl64_9x_5).other W8 (Or.inr (slot_ne (Or.inl (hw _ (List.mem_of_getElem? (i := 62) rfl))) (Or.inl (hw _ (List.mem_of_getElem? (i := 53) rfl))) (by decide) (t := .long) (t' := .long) (by decide) (by decide)))
          have Fl64_10x_8 := (Fl64_10x_5).other W8 (Or.inl ne_a1_a2.symm)
          have Fl64_11x_8 := (Fl64_11x_5).other W8 (Or.inl ne_a1_a2.symm)
          have Fl64_12x_8 := (Fl64_12x_5).other W8 (Or.inl ne_a1_a2.symm)
          have Fl64_13x_8 := (Fl64_13x_5).other W8 (Or.inl ne_a1_a2.symm)
          have Fl64_14x_8 := (Fl64_14x_5).other W8 (Or.inl ne_a1_a2.symm)
          have Fl64_15x_8 := (Fl64_15x_5).other W8 (Or.inl ne_a1_a2.symm)
          have Fl64_16x_8 := (Fl64_16x_5).other W8 (Or.inl ne_a1_a2.symm)
          have Fl64_17x_8 := (Fl64_17x_5).other W8 (Or.inl ne_a1_a2.symm)
          have Fl64_18x_8 := (Fl64_18x_5).other W8 (Or.inl ne_a1_a2.symm)
          have Fl64_19x_8 := (Fl64_19x_5).other W8 ne_a1_b1.symm
          have Fl64_20x_8 := (Fl64_20x_5).other W8 ne_a1_b2.symm
          have Fl64_21x_8 := (Fl64_21x_5).other W8 ne_a1_b3.symm
          have Fl64_22x_8 := (Fl64_22x_5).other W8 ne_a1_b4.symm
          have Fl64_23x_8 := (Fl64_23x_5).other W8 ne_a1_b5.symm
          have Fl64_24x_8 := (Fl64_24x_5).other W8 ne_a1_c1.symm
          have Fl64_25x_8 := (Fl64_25x_5).other W8 ne_a1_c2.symm
          have Fl64_26x_8 := (Fl64_26x_5).other W8 ne_a1_c3.symm
          have Fl64_27x_8 := (Fl64_27x_5).other W8 ne_a1_c4.symm
          have Fl64_28x_8 := (Fl64_28x_5).other W8 ne_a1_c5.symm
          have Z8 : n0 ≤ h8.size := Nat.le_trans Z5 (Nat.le_of_eq W8.size.symm)
          have K8 := (K5).wr W8 (Or.inl (List.mem_of_getElem? (i := 0) rfl))
          refine own_aloadN X8 own_d10_135 (pc' := 136) rfl rfl rfl ?_
          refine own_dup X8 own_d10_136 (pc' := 137) rfl rfl ?_
          refine own_getF X8 own_d10_137 (hw _ (List.mem_of_getElem? (i := 54) rfl)) Via.refl Fl64_8x_8 (pc' := 140) rfl ?_
          intro T9 X9
          refine own_aloadN X9 own_d10_140 (pc' := 141) rfl rfl rfl ?_
          refine own_getF X9 own_d10_141 (hw _ (List.mem_of_getElem? (i := 54) rfl)) Via.refl Fl64_17x_8 (pc' := 144) rfl ?_
          intro T10 X10
          refine own_ladd X10 own_d10_144 (pc' := 145) rfl ?_
          refine own_putF X10 own_d10_145 (hw _ (List.mem_of_getElem? (i := 54) rfl)) Via.refl Fl64_8x_8 Fl64_0x_8 (Or.inl (hw _ (List.mem_of_getElem? (i := 55) rfl))) (hw _ (List.mem_of_getElem? (i := 1) rfl)) (ty := .long) (v' := (.long (s2 + t2))) (by decide) rfl rfl g_a1 (pc' := 148) rfl ?_
          intro T11 h11 X11 W11
          have Fl64_0x_11 := (Fl64_0x_8).wr W11
          have Fl64_1x_11 := (Fl64_1x_8).other W11 (Or.inr (slot_ne (Or.inr (hw _ (List.mem_of_getElem? (i := 11) rfl))) (Or.inl (hw _ (List.mem_of_getElem? (i := 55) rfl))) (by decide) (t := (.array .long)) (t' := .long) (by decide) (by decide)))
          have Fl64_2x_11 := (Fl64_2x_8).other W11 (Or.inr (slot_ne (Or.inr (hw _ (List.mem_of_getElem? (i := 13) rfl))) (Or.inl (hw _ (List.mem_of_getElem? (i := 55) rfl))) (by decide) (t := (.array .long)) (t' := .long) (by decide) (by decide)))
          have Fl64_3x_11 := (Fl64_3x_8).other W11 (Or.inr (slot_ne (Or.inr (hw _ (List.mem_of_getElem? (i := 15) rfl))) (Or.inl (hw _ (List.mem_of_getElem? (i := 55) rfl))) (by decide) (t := (.array .long)) (t' := .long) (by decide) (by decide)))
          have Fl64_4x_11 := (Fl64_4x_8).other W11 (Or.inr (slot_ne (Or.inr (hw _ (List.mem_of_getElem? (i := 17) rfl))) (Or.inl (hw _ (List.mem_of_getElem? (i := 55) rfl))) (by decide) (t := (.array .long)) (t' := .long) (by decide) (by decide)))
          have Fl64_5x_11 := (Fl64_5x_8).other W11 (Or.inr (slot_ne (Or.inr (hw _ (List.mem_of_getElem? (i := 19) rfl))) (Or.inl (hw _ (List.mem_of_getElem? (i := 55) rfl))) (by decide) (t := (.array .long)) (t' := .long) (by decide) (by decide)))
          have Fl64_6x_11 := (Fl64_6x_8).other W11 (Or.inr (slot_ne (Or.inl (hw _ (List.mem_of_getElem? (i := 46) rfl))) (Or.inl (hw _ (List.mem_of_getElem? (i := 55) rfl))) (by decide) (t := .long) (t' := .long) (by decide) (by decide)))
          have Fl64_7x_11 := (Fl64_7x_8).other W11 (Or.inr (slot_ne (Or.inl (hw _ (List.mem_of_getElem? (i := 53) rfl))) (Or.inl (hw _ (List.mem_of_getElem? (i := 55) rfl))) (by decide) (t := .long) (t' := .long) (by decide) (by decide)))
          have Fl64_8x_11 := (Fl64_8x_8).same W11
          have Fl64_9x_11 := (Fl64_9x_8).other W11 (Or.inr (slot_ne (Or.inl (hw _ (List.mem_of_getElem? (i := 62) rfl))) (Or.inl (hw _ (List.mem_of_getElem? (i := 55) rfl))) (by decide) (t := .long) (t' := .long) (by decide) (by decide)))
          have Fl64_10x_11 := (Fl64_10x_8).other W11 (Or.inl ne_a1_a2.symm)
          have Fl64_11x_11 := (Fl64_11x_8).other W11 (Or.inl ne_a1_a2.symm)
          have Fl64_12x_11 := (Fl64_12x_8).other W11 (Or.inl ne_a1_a2.symm)
          have Fl64_13x_11 := (Fl64_13x_8).other W11 (Or.inl ne_a1_a2.symm)
          have Fl64_14x_11 := (Fl64_14x_8).other W11 (Or.inl ne_a1_a2.symm)
          have Fl64_15x_11 := (Fl64_15x_8).other W11 (Or.inl ne_a1_a2.symm)
          have Fl64_16x_11 := (Fl64_16x_8).other W11 (Or.inl ne_a1_a2.symm)
          have Fl64_17x_11 := (Fl64_17x_8).other W11 (Or.inl ne_a1_a2.symm)
          have Fl64_18x_11 := (Fl64_18x_8).other W11 (Or.inl ne_a1_a2.symm)
          have Fl64_19x_11 := (Fl64_19x_8).other W11 ne_a1_b1.symm
          have Fl64_20x_11 := (Fl64_20x_8).other W11 ne_a1_b2.symm
          have Fl64_21x_11 := (Fl64_21x_8).other W11 ne_a1_b3.symm
          have Fl64_22x_11 := (Fl64_22x_8).other W11 ne_a1_b4.symm
          have Fl64_23x_11 := (Fl64_23x_8).other W11 ne_a1_b5.symm
          have Fl64_24x_11 := (Fl64_24x_8).other W11 ne_a1_c1.symm
          have Fl64_25x_11 := (Fl64_25x_8).other W11 ne_a1_c2.symm
          have Fl64_26x_11 := (Fl64_26x_8).other W11 ne_a1_c3.symm
          have Fl64_27x_11 := (Fl64_27x_8).other W11 ne_a1_c4.symm
          have Fl64_28x_11 := (Fl64_28x_8).other W11 ne_a1_c5.symm
          have Z11 : n0 ≤ h11.size := Nat.le_trans Z8 (Nat.le_of_eq W11.size.symm)
          have K11 := (K8).wr W11 (Or.inl (List.mem_of_getElem? (i := 0) rfl))
          refine own_aloadN X11 own_d10_148 (pc' := 149) rfl rfl rfl ?_
          refine own_dup X11 own_d10_149 (pc' := 150) rfl rfl ?_
          refine own_getF X11 own_d10_150 (hw _ (List.mem_of_getElem? (i := 61) rfl)) Via.refl Fl64_9x_11 (pc' := 153) rfl ?_
          intro T12 X12
          refine own_aloadN X12 own_d10_153 (pc' := 154) rfl rfl rfl ?_
          refine own_getF X12 own_d10_154 (hw _ (List.mem_of_getElem? (i := 61) rfl)) Via.refl Fl64_18x_11 (pc' := 157) rfl ?_
          intro T13 X13
          refine own_ladd X13 own_d10_157 (pc' := 158) rfl ?_
          refine own_putF X13 own_d10_158 (hw _ (List.mem_of_getElem? (i := 61) rfl)) Via.refl Fl64_9x_11 Fl64_0x_11 (Or.inl (hw _ (List.mem_of_getElem? (i := 62) rfl))) (hw _ (List.mem_of_getElem? (i := 1) rfl)) (ty := .long) (v' := (.long (s3 + t3))) (by decide) rfl rfl g_a1 (pc' := 161) rfl ?_
          intro T14 h14 X14 W14
          have Fl64_0x_14 := (Fl64_0x_11).wr W14
          have Fl64_1x_14 := (Fl64_1x_11).other W14 (Or.inr (slot_ne (Or.inr (hw _ (List.mem_of_getElem? (i := 11) rfl))) (Or.inl (hw _ (List.mem_of_getElem? (i := 62) rfl))) (by decide) (t := (.array .long)) (t' := .long) (by decide) (by decide)))
          have Fl64_2x_14 := (Fl64_2x_11).other W14 (Or.inr (slot_ne (Or.inr (hw _ (List.mem_of_getElem? (i := 13) rfl))) (Or.inl (hw _ (List.mem_of_getElem? (i := 62) rfl))) (by decide) (t := (.array .long)) (t' := .long) (by decide) (by decide)))
          have Fl64_3x_14 := (Fl64_3x_11).other W14 (Or.inr (slot_ne (Or.inr (hw _ (List.mem_of_getElem? (i := 15) rfl))) (Or.inl (hw _ (List.mem_of_getElem? (i := 62) rfl))) (by decide) (t := (.array .long)) (t' := .long) (by decide) (by decide)))
          have Fl64_4x_14 := (Fl64_4x_11).other W14 (Or.inr (slot_ne (Or.inr (hw _ (List.mem_of_getElem? (i := 17) rfl))) (Or.inl (hw _ (List.mem_of_getElem? (i := 62) rfl))) (by decide) (t := (.array .long)) (t' := .long) (by decide) (by decide)))
          have Fl64_5x_14 := (Fl64_5x_11).other W14 (Or.inr (slot_ne (Or.inr (hw _ (List.mem_of_getElem? (i := 19) rfl))) (Or.inl (hw _ (List.mem_of_getElem? (i := 62) rfl))) (by decide) (t := (.array .long)) (t' := .long) (by decide) (by decide)))
          have Fl64_6x_14 := (Fl64_6x_11).other W14 (Or.inr (slot_ne (Or.inl (hw _ (List.mem_of_getElem? (i := 46) rfl))) (Or.inl (hw _ (List.mem_of_getElem? (i := 62) rfl))) (by decide) (t := .long) (t' := .long) (by decide) (by decide)))
          have Fl64_7x_14 := (Fl64_7x_11).other W14 (Or.inr (slot_ne (Or.inl (hw _ (List.mem_of_getElem? (i := 53) rfl))) (Or.inl (hw _ (List.mem_of_getElem? (i := 62) rfl))) (by decide) (t := .long) (t' := .long) (by decide) (by decide)))
          have Fl64_8x_14 := (Fl64_8x_11).other W14 (Or.inr (slot_ne (Or.inl (hw _ (List.mem_of_getElem? (i := 55) rfl))) (Or.inl (hw _ (List.mem_of_getElem? (i := 62) rfl))) (by decide) (t := .long) (t' := .long) (by decide) (by decide)))
          have Fl64_9x_14 := (Fl64_9x_11).same W14
          have Fl64_10x_14 := (Fl64_10x_11).other W14 (Or.inl ne_a1_a2.symm)
          have Fl64_11x_14 := (Fl64_11x_11).other W14 (Or.inl ne_a1_a2.symm)
          have Fl64_12x_14 := (Fl64_12x_11).other W14 (Or.inl ne_a1_a2.symm)
          have Fl64_13x_14 := (Fl64_13x_11).other W14 (Or.inl ne_a1_a2.symm)
          have Fl64_14x_14 := (Fl64_14x_11).other W14 (Or.inl ne_a1_a2.symm)
          have Fl64_15x_14 := (Fl64_15x_11).other W14 (Or.inl ne_a1_a2.symm)
          have Fl64_16x_14 := (Fl64_16x_11).other W14 (Or.inl ne_a1_a2.symm)
          have Fl64_17x_14 := (Fl64_17x_11).other W14 (Or.inl ne_a1_a2.symm)
          have Fl64_18x_14 := (Fl64_18x_11).other W14 (Or.inl ne_a1_a2.symm)
          have Fl64_19x_14 := (Fl64_19x_11).other W14 ne_a1_b1.symm
          have Fl64_20x_14 := (Fl64_20x_11).other W14 ne_a1_b2.symm
          have Fl64_21x_14 := (Fl64_21x_11).other W14 ne_a1_b3.symm
          have Fl64_22x_14 := (Fl64_22x_11).other W14 ne_a1_b4.symm
          have Fl64_23x_14 := (Fl64_23x_11).other W14 ne_a1_b5.symm
          have Fl64_24x_14 := (Fl64_24x_11).other W14 ne_a1_c1.symm
          have Fl64_25x_14 := (Fl64_25x_11).other W14 ne_a1_c2.symm
          have Fl64_26x_14 := (Fl64_26x_11).other W14 ne_a1_c3.symm
          have Fl64_27x_14 := (Fl64_27x_11).other W14 ne_a1_c4.symm
          have Fl64_28x_14 := (Fl64_28x_11).other W14 ne_a1_c5.symm
          have Z14 : n0 ≤ h14.size := Nat.le_trans Z11 (Nat.le_of_eq W14.size.symm)
          have K14 := (K11).wr W14 (Or.inl (List.mem_of_getElem? (i := 0) rfl))
          exact own_retV X14 own_d10_161 ⟨rfl, K14, Fl64_1x_14, Fl64_2x_14, Fl64_3x_14, Fl64_4x_14, Fl64_5x_14, Fl64_6x_14, Fl64_7x_14, Fl64_8x_14, Fl64_9x_14, Fl64_19x_14, Fl64_20x_14, Fl64_21x_14, Fl64_22x_14, Fl64_23x_14⟩ (by decide) (by decide)
        | succ d ih64 =>
          intro k64 Tl64 hl64 hdk64 Xl64 Zl64 Kl64 Fl64_0x Fl64_1x Fl64_2x Fl64_3x Fl64_4x Fl64_5x Fl64_6x Fl64_7x Fl64_8x Fl64_9x Fl64_10x Fl64_11x Fl64_12x Fl64_13x Fl64_14x Fl64_15x Fl64_16x Fl64_17x Fl64_18x Fl64_19x Fl64_20x Fl64_21x Fl64_22x Fl64_23x Fl64_24x Fl64_25x Fl64_26x Fl64_27x Fl64_28x
          have hk64 : k64 < 2 := by omega
          refine own_iloadN Xl64 own_d10_64 (pc' := 65) rfl rfl ?_
          refine own_aloadN Xl64 own_d10_65 (pc' := 66) rfl rfl rfl ?_
          refine own_getF Xl64 own_d10_66 (hw _ (List.mem_of_getElem? (i := 16) rfl)) Via.refl Fl64_4x (pc' := 69) rfl ?_
          intro T15 X15
          refine own_arraylength X15 own_d10_69 Fl64_22x (n := (2 : Int32)) (by simp only [List.length_map, own_upl, hx4]; rfl) (pc' := 70) rfl ?_
          refine own_icN X15 own_d10_70 (tlt (((own_ix hk64 (by decide)).2.2 : (Int32.ofNat k64) < (2 : Int32)))).2.1 (pc' := 73) rfl ?_
          refine own_aloadN X15 own_d10_73 (pc' := 74) rfl rfl rfl ?_
          refine own_getF X15 own_d10_74 (hw _ (List.mem_of_getElem? (i := 16) rfl)) Via.refl Fl64_4x (pc' := 77) rfl ?_
          intro T16 X16
          refine own_iloadN X16 own_d10_77 (pc' := 78) rfl rfl ?_
          refine own_dup2 X16 own_d10_78 (pc' := 79) rfl rfl rfl ?_
          refine own_laload X16 own_d10_79 Fl64_22x (own_ix hk64 (by decide)).1 (v := (.long ((ownUp xs4 ys4 k64).getD k64 0))) (by rw [(own_ix hk64 (by decide)).2.1]; exact own_getJ (by simp only [own_upl, hx4]; exact hk64)) (pc' := 80) rfl ?_
          refine own_aloadN X16 own_d10_80 (pc' := 81) rfl rfl rfl ?_
          refine own_getF X16 own_d10_81 (hw _ (List.mem_of_getElem? (i := 16) rfl)) Via.refl Fl64_13x (pc' := 84) rfl ?_
          intro T17 X17
          refine own_iloadN X17 own_d10_84 (pc' := 85) rfl rfl ?_
          refine own_laload X17 own_d10_85 Fl64_27x (own_ix hk64 (by decide)).1 (v := (.long (ys4.getD k64 0))) (by rw [(own_ix hk64 (by decide)).2.1]; exact own_getJ (by rw [hy4]; exact hk64)) (pc' := 86) rfl ?_
          refine own_ladd X17 own_d10_86 (pc' := 87) rfl ?_
          refine own_lastore X17 own_d10_87 Fl64_22x (own_ix hk64 (by decide)).1 (by rw [List.length_map]; exact (by rw [(own_ix hk64 (by decide)).2.1]; simp only [own_upl, hx4]; exact hk64)) g_b4 (pc' := 88) rfl ?_
          intro T18 h18 X18 W18 B18
          have Fl64_0x_18 := (Fl64_0x).wr W18
          have Fl64_1x_18 := (Fl64_1x).other W18 (Or.inl ne_a1_b4)
          have Fl64_2x_18 := (Fl64_2x).other W18 (Or.inl ne_a1_b4)
          have Fl64_3x_18 := (Fl64_3x).other W18 (Or.inl ne_a1_b4)
          have Fl64_4x_18 := (Fl64_4x).other W18 (Or.inl ne_a1_b4)
          have Fl64_5x_18 := (Fl64_5x).other W18 (Or.inl ne_a1_b4)
          have Fl64_6x_18 := (Fl64_6x).other W18 (Or.inl ne_a1_b4)
          have Fl64_7x_18 := (Fl64_7x).other W18 (Or.inl ne_a1_b4)
          have Fl64_8x_18 := (Fl64_8x).other W18 (Or.inl ne_a1_b4)
          have Fl64_9x_18 := (Fl64_9x).other W18 (Or.inl ne_a1_b4)
          have Fl64_10x_18 := (Fl64_10x).other W18 (Or.inl ne_b4_a2.symm)
          have Fl64_11x_18 := (Fl64_11x).other W18 (Or.inl ne_b4_a2.symm)
          have Fl64_12x_18 := (Fl64_12x).other W18 (Or.inl ne_b4_a2.symm)
          have Fl64_13x_18 := (Fl64_13x).other W18 (Or.inl ne_b4_a2.symm)
          have Fl64_14x_18 := (Fl64_14x).other W18 (Or.inl ne_b4_a2.symm)
          have Fl64_15x_18 := (Fl64_15x).other W18 (Or.inl ne_b4_a2.symm)
          have Fl64_16x_18 := (Fl64_16x).other W18 (Or.inl ne_b4_a2.symm)
          have Fl64_17x_18 := (Fl64_17x).other W18 (Or.inl ne_b4_a2.symm)
          have Fl64_18x_18 := (Fl64_18x).other W18 (Or.inl ne_b4_a2.symm)
          have Fl64_19x_18 := (Fl64_19x).other W18 ne_b1_b4
          have Fl64_20x_18 := (Fl64_20x).other W18 ne_b2_b4
          have Fl64_21x_18 := (Fl64_21x).other W18 ne_b3_b4
          have Fl64_23x_18 := (Fl64_23x).other W18 ne_b4_b5.symm
          have Fl64_24x_18 := (Fl64_24x).other W18 ne_b4_c1.symm
          have Fl64_25x_18 := (Fl64_25x).other W18 ne_b4_c2.symm
          have Fl64_26x_18 := (Fl64_26x).other W18 ne_b4_c3.symm
          have Fl64_27x_18 := (Fl64_27x).other W18 ne_b4_c4.symm
          have Fl64_28x_18 := (Fl64_28x).other W18 ne_b4_c5.symm
          have Z18 : n0 ≤ h18.size := Nat.le_trans Zl64 (Nat.le_of_eq W18.size.symm)
          have V_b4_18 : OwnAr Z h18 b4 .long ((ownUp xs4 ys4 (k64 + 1)).map Value.long) := (by rw [ownUp, List.map_set]; rw [(own_ix hk64 (by decide)).2.1] at B18; exact B18)/- B18 -/
          have K18 := (Kl64).wr W18 (Or.inl (List.mem_of_getElem? (i := 4) rfl))
          refine own_aloadN X18 own_d10_88 (pc' := 89) rfl rfl rfl ?_
          refine own_getF X18 own_d10_89 (hw _ (List.mem_of_getElem? (i := 18) rfl)) Via.refl Fl64_5x_18 (pc' := 92) rfl ?_
          intro T19 X19
          refine own_iloadN X19 own_d10_92 (pc' := 93) rfl rfl ?_
          refine own_dup2 X19 own_d10_93 (pc' := 94) rfl rfl rfl ?_
          refine own_laload X19 own_d10_94 Fl64_23x_18 (own_ix hk64 (by decide)).1 (v := (.long ((ownUp xs5 ys5 k64).getD k64 0))) (by rw [(own_ix hk64 (by decide)).2.1]; exact own_getJ (by simp only [own_upl, hx5]; exact hk64)) (pc' := 95) rfl ?_
          refine own_aloadN X19 own_d10_95 (pc' := 96) rfl rfl rfl ?_
          refine own_getF X19 own_d10_96 (hw _ (List.mem_of_getElem? (i := 18) rfl)) Via.refl Fl64_14x_18 (pc' := 99) rfl ?_
          intro T20 X20
          refine own_iloadN X20 own_d10_99 (pc' := 100) rfl rfl ?_
          refine own_laload X20 own_d10_100 Fl64_28x_18 (own_ix hk64 (by decide)).1 (v := (.long (ys5.getD k64 0))) (by rw [(own_ix hk64 (by decide)).2.1]; exact own_getJ (by rw [hy5]; exact hk64)) (pc' := 101) rfl ?_
          refine own_ladd X20 own_d10_101 (pc' := 102) rfl ?_
          refine own_lastore X20 own_d10_102 Fl64_23x_18 (own_ix hk64 (by decide)).1 (by rw [List.length_map]; exact (by rw [(own_ix hk64 (by decide)).2.1]; simp only [own_upl, hx5]; exact hk64)) g_b5 (pc' := 103) rfl ?_
          intro T21 h21 X21 W21 B21
          have Fl64_0x_21 := (Fl64_0x_18).wr W21
          have Fl64_1x_21 := (Fl64_1x_18).other W21 (Or.inl ne_a1_b5)
          have Fl64_2x_21 := (Fl64_2x_18).other W21 (Or.inl ne_a1_b5)
          have Fl64_3x_21 := (Fl64_3x_18).other W21 (Or.inl ne_a1_b5)
          have Fl64_4x_21 := (Fl64_4x_18).other W21 (Or.inl ne_a1_b5)
          have Fl64_5x_21 := (Fl64_5x_18).other W21 (Or.inl ne_a1_b5)
          have Fl64_6x_21 := (Fl64_6x_18).other W21 (Or.inl ne_a1_b5)
          have Fl64_7x_21 := (Fl64_7x_18).other W21 (Or.inl ne_a1_b5)
          have Fl64_8x_21 := (Fl64_8x_18).other W21 (Or.inl ne_a1_b5)
          have Fl64_9x_21 := (Fl64_9x_18).other W21 (Or.inl ne_a1_b5)
          have Fl64_10x_21 := (Fl64_10x_18).other W21 (Or.inl ne_b5_a2.symm)
          have Fl64_11x_21 := (Fl64_11x_18).other W21 (Or.inl ne_b5_a2.symm)
          have Fl64_12x_21 := (Fl64_12x_18).other W21 (Or.inl ne_b5_a2.symm)
          have Fl64_13x_21 := (Fl64_13x_18).other W21 (Or.inl ne_b5_a2.symm)
          have Fl64_14x_21 := (Fl64_14x_18).other W21 (Or.inl ne_b5_a2.symm)
          have Fl64_15x_21 := (Fl64_15x_18).other W21 (Or.inl ne_b5_a2.symm)
          have Fl64_16x_21 := (Fl64_16x_18).other W21 (Or.inl ne_b5_a2.symm)
          have Fl64_17x_21 := (Fl64_17x_18).other W21 (Or.inl ne_b5_a2.symm)
          have Fl64_18x_21 := (Fl64_18x_18).other W21 (Or.inl ne_b5_a2.symm)
          have Fl64_19x_21 := (Fl64_19x_18).other W21 ne_b1_b5
          have Fl64_20x_21 := (Fl64_20x_18).other W21 ne_b2_b5
          have Fl64_21x_21 := (Fl64_21x_18).other W21 ne_b3_b5
          have Fl64_24x_21 := (Fl64_24x_18).other W21 ne_b5_c1.symm
          have Fl64_25x_21 := (Fl64_25x_18).other W21 ne_b5_c2.symm
          have Fl64_26x_21 := (Fl64_26x_18).other W21 ne_b5_c3.symm
          have Fl64_27x_21 := (Fl64_27x_18).other W21 ne_b5_c4.symm
          have Fl64_28x_21 := (Fl64_28x_18).other W21 ne_b5_c5.symm
          have V_b4_21 := (V_b4_18).other W21 ne_b4_b5
          have Z21 : n0 ≤ h21.size := Nat.le_trans Z18 (Nat.le_of_eq W21.size.symm)
          have V_b5_21 : OwnAr Z h21 b5 .long ((ownUp xs5 ys5 (k64 + 1)).map Value.long) := (by rw [ownUp, List.map_set]; rw [(own_ix hk64 (by decide)).2.1] at B21; exact B21)/- B21 -/
          have K21 := (K18).wr W21 (Or.inl (List.mem_of_getElem? (i := 5) rfl))
          refine own_iinc X21 own_d10_103 (pc' := 106) rfl rfl (y := (Int32.ofNat (k64 + 1))) (own_ofs _) (l' := #[.val (.ref a1), .val (.ref a2), .val (.int (Int32.ofNat (k64 + 1)))]) rfl ?_
          refine own_goto X21 own_d10_106 (pc' := 64) (by decide) (by decide) ?_
          exact ih64 (k64 + 1) _ _ (by omega) X21 Z21 K21 Fl64_0x_21 Fl64_1x_21 Fl64_2x_21 Fl64_3x_21 Fl64_4x_21 Fl64_5x_21 Fl64_6x_21 Fl64_7x_21 Fl64_8x_21 Fl64_9x_21 Fl64_10x_21 Fl64_11x_21 Fl64_12x_21 Fl64_13x_21 Fl64_14x_21 Fl64_15x_21 Fl64_16x_21 Fl64_17x_21 Fl64_18x_21 Fl64_19x_21 Fl64_20x_21 Fl64_21x_21 V_b4_21 V_b5_21 Fl64_24x_21 Fl64_25x_21 Fl64_26x_21 Fl64_27x_21 Fl64_28x_21
      exact loop64 2 0 _ _ rfl X1 Zl2 Kl2 Fl2_0x Fl2_1x Fl2_2x Fl2_3x Fl2_4x Fl2_5x Fl2_6x Fl2_7x Fl2_8x Fl2_9x Fl2_10x Fl2_11x Fl2_12x Fl2_13x Fl2_14x Fl2_15x Fl2_16x Fl2_17x Fl2_18x Fl2_19x Fl2_20x Fl2_21x Fl2_22x Fl2_23x Fl2_24x Fl2_25x Fl2_26x Fl2_27x Fl2_28x
    | succ d ih2 =>
      intro k2 Tl2 hl2 hdk2 Xl2 Zl2 Kl2 Fl2_0x Fl2_1x Fl2_2x Fl2_3x Fl2_4x Fl2_5x Fl2_6x Fl2_7x Fl2_8x Fl2_9x Fl2_10x Fl2_11x Fl2_12x Fl2_13x Fl2_14x Fl2_15x Fl2_16x Fl2_17x Fl2_18x Fl2_19x Fl2_20x Fl2_21x Fl2_22x Fl2_23x Fl2_24x Fl2_25x Fl2_26x Fl2_27x Fl2_28x
      have hk2 : k2 < 128 := by omega
      refine own_iloadN Xl2 own_d10_2 (pc' := 3) rfl rfl ?_
      refine own_aloadN Xl2 own_d10_3 (pc' := 4) rfl rfl rfl ?_
      refine own_getF Xl2 own_d10_4 (hw _ (List.mem_of_getElem? (i := 10) rfl)) Via.refl Fl2_1x (pc' := 7) rfl ?_
      intro T22 X22
      refine own_arraylength X22 own_d10_7 Fl2_19x (n := (128 : Int32)) (by simp only [List.length_map, own_upl, hx1]; rfl) (pc' := 8) rfl ?_
      refine own_icN X22 own_d10_8 (tlt (((own_ix hk2 (by decide)).2.2 : (Int32.ofNat k2) < (128 : Int32)))).2.1 (pc' := 11) rfl ?_
      refine own_aloadN X22 own_d10_11 (pc' := 12) rfl rfl rfl ?_
      refine own_getF X22 own_d10_12 (hw _ (List.mem_of_getElem? (i := 10) rfl)) Via.refl Fl2_1x (pc' := 15) rfl ?_
      intro T23 X23
      refine own_iloadN X23 own_d10_15 (pc' := 16) rfl rfl ?_
      refine own_dup2 X23 own_d10_16 (pc' := 17) rfl rfl rfl ?_
      refine own_laload X23 own_d10_17 Fl2_19x (own_ix hk2 (by decide)).1 (v := (.long ((ownUp xs1 ys1 k2).getD k2 0))) (by rw [(own_ix hk2 (by decide)).2.1]; exact own_getJ (by simp only [own_upl, hx1]; exact hk2)) (pc' := 18) rfl ?_
      refine own_aloadN X23 own_d10_18 (pc' := 19) rfl rfl rfl ?_
      refine own_getF X23 own_d10_19 (hw _ (List.mem_of_getElem? (i := 10) rfl)) Via.refl Fl2_10x (pc' := 22) rfl ?_
      intro T24 X24
      refine own_iloadN X24 own_d10_22 (pc' := 23) rfl rfl ?_
      refine own_laload X24 own_d10_23 Fl2_24x (own_ix hk2 (by decide)).1 (v := (.long (ys1.getD k2 0))) (by rw [(own_ix hk2 (by decide)).2.1]; exact own_getJ (by rw [hy1]; exact hk2)) (pc' := 24) rfl ?_
      refine own_ladd X24 own_d10_24 (pc' := 25) rfl ?_
      refine own_lastore X24 own_d10_25 Fl2_19x (own_ix hk2 (by decide)).1 (by rw [List.length_map]; exact (by rw [(own_ix hk2 (by decide)).2.1]; simp only [own_upl, hx1]; exact hk2)) g_b1 (pc' := 26) rfl ?_
      intro T25 h25 X25 W25 B25
      have Fl2_0x_25 := (Fl2_0x).wr W25
      have Fl2_1x_25 := (Fl2_1x).other W25 (Or.inl ne_a1_b1)
      have Fl2_2x_25 := (Fl2_2x).other W25 (Or.inl ne_a1_b1)
      have Fl2_3x_25 := (Fl2_3x).other W25 (Or.inl ne_a1_b1)
      have Fl2_4x_25 := (Fl2_4x).other W25 (Or.inl ne_a1_b1)
      have Fl2_5x_25 := (Fl2_5x).other W25 (Or.inl ne_a1_b1)
      have Fl2_6x_25 := (Fl2_6x).other W25 (Or.inl ne_a1_b1)
      have Fl2_7x_25 := (Fl2_7x).other W25 (Or.inl ne_a1_b1)
      have Fl2_8x_25 := (Fl2_8x).other W25 (Or.inl ne_a1_b1)
      have Fl2_9x_25 := (Fl2_9x).other W25 (Or.inl ne_a1_b1)
      have Fl2_10x_25 := (Fl2_10x).other W25 (Or.inl ne_b1_a2.symm)
      have Fl2_11x_25 := (Fl2_11x).other W25 (Or.inl ne_b1_a2.symm)
      have Fl2_12x_25 := (Fl2_12x).other W25 (Or.inl ne_b1_a2.symm)
      have Fl2_13x_25 := (Fl2_13x).other W25 (Or.inl ne_b1_a2.symm)
      have Fl2_14x_25 := (Fl2_14x).other W25 (Or.inl ne_b1_a2.symm)
      have Fl2_15x_25 := (Fl2_15x).other W25 (Or.inl ne_b1_a2.symm)
      have Fl2_16x_25 := (Fl2_16x).other W25 (Or.inl ne_b1_a2.symm)
      have Fl2_17x_25 := (Fl2_17x).other W25 (Or.inl ne_b1_a2.symm)
      have Fl2_18x_25 := (Fl2_18x).other W25 (Or.inl ne_b1_a2.symm)
      have Fl2_20x_25 := (Fl2_20x).other W25 ne_b1_b2.symm
      have Fl2_21x_25 := (Fl2_21x).other W25 ne_b1_b3.symm
      have Fl2_22x_25 := (Fl2_22x).other W25 ne_b1_b4.symm
      have Fl2_23x_25 := (Fl2_23x).other W25 ne_b1_b5.symm
      have Fl2_24x_25 := (Fl2_24x).other W25 ne_b1_c1.symm
      have Fl2_25x_25 := (Fl2_25x).other W25 ne_b1_c2.symm
      have Fl2_26x_25 := (Fl2_26x).other W25 ne_b1_c3.symm
      have Fl2_27x_25 := (Fl2_27x).other W25 ne_b1_c4.symm
      have Fl2_28x_25 := (Fl2_28x).other W25 ne_b1_c5.symm
      have Z25 : n0 ≤ h25.size := Nat.le_trans Zl2 (Nat.le_of_eq W25.size.symm)
      have V_b1_25 : OwnAr Z h25 b1 .long ((ownUp xs1 ys1 (k2 + 1)).map Value.long) := (by rw [ownUp, List.map_set]; rw [(own_ix hk2 (by decide)).2.1] at B25; exact B25)/- B25 -/
      have K25 := (Kl2).wr W25 (Or.inl (List.mem_of_getElem? (i := 1) rfl))
      refine own_aloadN X25 own_d10_26 (pc' := 27) rfl rfl rfl ?_
      refine own_getF X25 own_d10_27 (hw _ (List.mem_of_getElem? (i := 12) rfl)) Via.refl Fl2_2x_25 (pc' := 30) rfl ?_
      intro T26 X26
      refine own_iloadN X26 own_d10_30 (pc' := 31) rfl rfl ?_
      refine own_dup2 X26 own_d10_31 (pc' := 32) rfl rfl rfl ?_
      refine own_laload X26 own_d10_32 Fl2_20x_25 (own_ix hk2 (by decide)).1 (v := (.long ((ownUp xs2 ys2 k2).getD k2 0))) (by rw [(own_ix hk2 (by decide)).2.1]; exact own_getJ (by simp only [own_upl, hx2]; exact hk2)) (pc' := 33) rfl ?_
      refine own_aloadN X26 own_d10_33 (pc' := 34) rfl rfl rfl ?_
      refine own_getF X26 own_d10_34 (hw _ (List.mem_of_getElem? (i := 12) rfl)) Via.refl Fl2_11x_25 (pc' := 37) rfl ?_
      intro T27 X27
      refine own_iloadN X27 own_d10_37 (pc' := 38) rfl rfl ?_
      refine own_laload X27 own_d10_38 Fl2_25x_25 (own_ix hk2 (by decide)).1 (v := (.long (ys2.getD k2 0))) (by rw [(own_ix hk2 (by decide)).2.1]; exact own_getJ (by rw [hy2]; exact hk2)) (pc' := 39) rfl ?_
      refine own_ladd X27 own_d10_39 (pc' := 40) rfl ?_
      refine own_lastore X27 own_d10_40 Fl2_20x_25 (own_ix hk2 (by decide)).1 (by rw [List.length_map]; exact (by rw [(own_ix hk2 (by decide)).2.1]; simp only [own_upl, hx2]; exact hk2)) g_b2 (pc' := 41) rfl ?_
      intro T28 h28 X28 W28 B28
      have Fl2_0x_28 := (Fl2_0x_25).wr W28
      have Fl2_1x_28 := (Fl2_1x_25).other W28 (Or.inl ne_a1_b2)
      have Fl2_2x_28 := (Fl2_2x_25).other W28 (Or.inl ne_a1_b2)
      have Fl2_3x_28 := (Fl2_3x_25).other W28 (Or.inl ne_a1_b2)
      have Fl2_4x_28 := (Fl2_4x_25).other W28 (Or.inl ne_a1_b2)
      have Fl2_5x_28 := (Fl2_5x_25).other W28 (Or.inl ne_a1_b2)
      have Fl2_6x_28 := (Fl2_6x_25).other W28 (Or.inl ne_a1_b2)
      have Fl2_7x_28 := (Fl2_7x_25).other W28 (Or.inl ne_a1_b2)
      have Fl2_8x_28 := (Fl2_8x_25).other W28 (Or.inl ne_a1_b2)
      have Fl2_9x_28 := (Fl2_9x_25).other W28 (Or.inl ne_a1_b2)
      have Fl2_10x_28 := (Fl2_10x_25).other W28 (Or.inl ne_b2_a2.symm)
      have Fl2_11x_28 := (Fl2_11x_25).other W28 (Or.inl ne_b2_a2.symm)
      have Fl2_12x_28 := (Fl2_12x_25).other W28 (Or.inl ne_b2_a2.symm)
      have Fl2_13x_28 := (Fl2_13x_25).other W28 (Or.inl ne_b2_a2.symm)
      have Fl2_14x_28 := (Fl2_14x_25).other W28 (Or.inl ne_b2_a2.symm)
      have Fl2_15x_28 := (Fl2_15x_25).other W28 (Or.inl ne_b2_a2.symm)
      have Fl2_16x_28 := (Fl2_16x_25).other W28 (Or.inl ne_b2_a2.symm)
      have Fl2_17x_28 := (Fl2_17x_25).other W28 (Or.inl ne_b2_a2.symm)
      have Fl2_18x_28 := (Fl2_18x_25).other W28 (Or.inl ne_b2_a2.symm)
      have Fl2_21x_28 := (Fl2_21x_25).other W28 ne_b2_b3.symm
      have Fl2_22x_28 := (Fl2_22x_25).other W28 ne_b2_b4.symm
      have Fl2_23x_28 := (Fl2_23x_25).other W28 ne_b2_b5.symm
      have Fl2_24x_28 := (Fl2_24x_25).other W28 ne_b2_c1.symm
      have Fl2_25x_28 := (Fl2_25x_25).other W28 ne_b2_c2.symm
      have Fl2_26x_28 := (Fl2_26x_25).other W28 ne_b2_c3.symm
      have Fl2_27x_28 := (Fl2_27x_25).other W28 ne_b2_c4.symm
      have Fl2_28x_28 := (Fl2_28x_25).other W28 ne_b2_c5.symm
      have V_b1_28 := (V_b1_25).other W28 ne_b1_b2
      have Z28 : n0 ≤ h28.size := Nat.le_trans Z25 (Nat.le_of_eq W28.size.symm)
      have V_b2_28 : OwnAr Z h28 b2 .long ((ownUp xs2 ys2 (k2 + 1)).map Value.long) := (by rw [ownUp, List.map_set]; rw [(own_ix hk2 (by decide)).2.1] at B28; exact B28)/- B28 -/
      have K28 := (K25).wr W28 (Or.inl (List.mem_of_getElem? (i := 2) rfl))
      refine own_aloadN X28 own_d10_41 (pc' := 42) rfl rfl rfl ?_
      refine own_getF X28 own_d10_42 (hw _ (List.mem_of_getElem? (i := 14) rfl)) Via.refl Fl2_3x_28 (pc' := 45) rfl ?_
      intro T29 X29
      refine own_iloadN X29 own_d10_45 (pc' := 46) rfl rfl ?_
      refine own_dup2 X29 own_d10_46 (pc' := 47) rfl rfl rfl ?_
      refine own_laload X29 own_d10_47 Fl2_21x_28 (own_ix hk2 (by decide)).1 (v := (.long ((ownUp xs3 ys3 k2).getD k2 0))) (by rw [(own_ix hk2 (by decide)).2.1]; exact own_getJ (by simp only [own_upl, hx3]; exact hk2)) (pc' := 48) rfl ?_
      refine own_aloadN X29 own_d10_48 (pc' := 49) rfl rfl rfl ?_
      refine own_getF X29 own_d10_49 (hw _ (List.mem_of_getElem? (i := 14) rfl)) Via.refl Fl2_12x_28 (pc' := 52) rfl ?_
      intro T30 X30
      refine own_iloadN X30 own_d10_52 (pc' := 53) rfl rfl ?_
      refine own_laload X30 own_d10_53 Fl2_26x_28 (own_ix hk2 (by decide)).1 (v := (.long (ys3.getD k2 0))) (by rw [(own_ix hk2 (by decide)).2.1]; exact own_getJ (by rw [hy3]; exact hk2)) (pc' := 54) rfl ?_
      refine own_ladd X30 own_d10_54 (pc' := 55) rfl ?_
      refine own_lastore X30 own_d10_55 Fl2_21x_28 (own_ix hk2 (by decide)).1 (by rw [List.length_map]; exact (by rw [(own_ix hk2 (by decide)).2.1]; simp only [own_upl, hx3]; exact hk2)) g_b3 (pc' := 56) rfl ?_
      intro T31 h31 X31 W31 B31
      have Fl2_0x_31 := (Fl2_0x_28).wr W31
      have Fl2_1x_31 := (Fl2_1x_28).other W31 (Or.inl ne_a1_b3)
      have Fl2_2x_31 := (Fl2_2x_28).other W31 (Or.inl ne_a1_b3)
      have Fl2_3x_31 := (Fl2_3x_28).other W31 (Or.inl ne_a1_b3)
      have Fl2_4x_31 := (Fl2_4x_28).other W31 (Or.inl ne_a1_b3)
      have Fl2_5x_31 := (Fl2_5x_28).other W31 (Or.inl ne_a1_b3)
      have Fl2_6x_31 := (Fl2_6x_28).other W31 (Or.inl ne_a1_b3)
      have Fl2_7x_31 := (Fl2_7x_28).other W31 (Or.inl ne_a1_b3)
      have Fl2_8x_31 := (Fl2_8x_28).other W31 (Or.inl ne_a1_b3)
      have Fl2_9x_31 := (Fl2_9x_28).other W31 (Or.inl ne_a1_b3)
      have Fl2_10x_31 := (Fl2_10x_28).other W31 (Or.inl ne_b3_a2.symm)
      have Fl2_11x_31 := (Fl2_11x_28).other W31 (Or.inl ne_b3_a2.symm)
      have Fl2_12x_31 := (Fl2_12x_28).other W31 (Or.inl ne_b3_a2.symm)
      have Fl2_13x_31 := (Fl2_13x_28).other W31 (Or.inl ne_b3_a2.symm)
      have Fl2_14x_31 := (Fl2_14x_28).other W31 (Or.inl ne_b3_a2.symm)
      have Fl2_15x_31 := (Fl2_15x_28).other W31 (Or.inl ne_b3_a2.symm)
      have Fl2_16x_31 := (Fl2_16x_28).other W31 (Or.inl ne_b3_a2.symm)
      have Fl2_17x_31 := (Fl2_17x_28).other W31 (Or.inl ne_b3_a2.symm)
      have Fl2_18x_31 := (Fl2_18x_28).other W31 (Or.inl ne_b3_a2.symm)
      have Fl2_22x_31 := (Fl2_22x_28).other W31 ne_b3_b4.symm
      have Fl2_23x_31 := (Fl2_23x_28).other W31 ne_b3_b5.symm
      have Fl2_24x_31 := (Fl2_24x_28).other W31 ne_b3_c1.symm
      have Fl2_25x_31 := (Fl2_25x_28).other W31 ne_b3_c2.symm
      have Fl2_26x_31 := (Fl2_26x_28).other W31 ne_b3_c3.symm
      have Fl2_27x_31 := (Fl2_27x_28).other W31 ne_b3_c4.symm
      have Fl2_28x_31 := (Fl2_28x_28).other W31 ne_b3_c5.symm
      have V_b1_31 := (V_b1_28).other W31 ne_b1_b3
      have V_b2_31 := (V_b2_28).other W31 ne_b2_b3
      have Z31 : n0 ≤ h31.size := Nat.le_trans Z28 (Nat.le_of_eq W31.size.symm)
      have V_b3_31 : OwnAr Z h31 b3 .long ((ownUp xs3 ys3 (k2 + 1)).map Value.long) := (by rw [ownUp, List.map_set]; rw [(own_ix hk2 (by decide)).2.1] at B31; exact B31)/- B31 -/
      have K31 := (K28).wr W31 (Or.inl (List.mem_of_getElem? (i := 3) rfl))
      refine own_iinc X31 own_d10_56 (pc' := 59) rfl rfl (y := (Int32.ofNat (k2 + 1))) (own_ofs _) (l' := #[.val (.ref a1), .val (.ref a2), .val (.int (Int32.ofNat (k2 + 1)))]) rfl ?_
      refine own_goto X31 own_d10_59 (pc' := 2) (by decide) (by decide) ?_
      exact ih2 (k2 + 1) _ _ (by omega) X31 Z31 K31 Fl2_0x_31 Fl2_1x_31 Fl2_2x_31 Fl2_3x_31 Fl2_4x_31 Fl2_5x_31 Fl2_6x_31 Fl2_7x_31 Fl2_8x_31 Fl2_9x_31 Fl2_10x_31 Fl2_11x_31 Fl2_12x_31 Fl2_13x_31 Fl2_14x_31 Fl2_15x_31 Fl2_16x_31 Fl2_17x_31 Fl2_18x_31 V_b1_31 V_b2_31 V_b3_31 Fl2_22x_31 Fl2_23x_31 Fl2_24x_31 Fl2_25x_31 Fl2_26x_31 Fl2_27x_31 Fl2_28x_31
  exact loop2 128 0 _ _ rfl X0 Z0 (Keep.refl h0 [a1, b1, b2, b3, b4, b5]) E_a1 F_inputRecords_a1 F_unroutedRecords_a1 F_extraCopies_a1 F_partitionRecords_a1 F_partitionBytes_a1 F_sortBufferRecords_a1 F_hotKeyRecords_a1 F_hotKeyFlushes_a1 F_shuffleRecords_a1 F_inputRecords_a2 F_unroutedRecords_a2 F_extraCopies_a2 F_partitionRecords_a2 F_partitionBytes_a2 F_sortBufferRecords_a2 F_hotKeyRecords_a2 F_hotKeyFlushes_a2 F_shuffleRecords_a2 V_b1 V_b2 V_b3 V_b4 V_b5 V_c1 V_c2 V_c3 V_c4 V_c5
theorem own_d11_0 : decode prog_80_method_14_code 0 = .ok (.aload_n 0, 1) := by decide +kernel
theorem own_d11_1 : decode prog_80_method_14_code 1 = .ok (.getfield 21, 3) := by decide +kernel
theorem own_d11_4 : decode prog_80_method_14_code 4 = .ok (.invokevirtual 40, 3) := by decide +kernel
theorem own_d11_7 : decode prog_80_method_14_code 7 = .ok (.checkcast 41, 3) := by decide +kernel
theorem own_d11_10 : decode prog_80_method_14_code 10 = .ok (.areturn, 1) := by decide +kernel
theorem own_ef11 (m : MethodId) (x0 : Addr) : entryFrame m #[(.ref x0)] 1 = mkF m 0 #[.val (.ref x0)] [] := by first | (simp [entryFrame, mkF, argsToLocals, Value.category]; done) | rfl
theorem own_pn11 : plainFor (⟨"com/example/evenkeel/evenkeel/shuffle/ShuffleStats", "partitionRecords", "()[J"⟩ : MethodName) = true := by first | exact plainFor_of_name (by first | (simp [plainName, overriddenIn]; done) | decide +kernel) | exact Jvm.Free.JP.mathPlain rfl (by decide +kernel)
set_option maxRecDepth 65536 in
set_option maxHeartbeats 40000000 in
theorem own_rm11 (l : Launch) (Z : State) (a0 : Array Value) (hw : ∀ d ∈ tables_1, d.before a0 Z = true) (a1 : Addr) (b1 : Addr) (xs : List Int64) (h0 : Heap) (n0 : Nat) (Z0 : n0 ≤ h0.size) (F_partitionRecords_a1 : Fld Z h0 a1 "com/example/evenkeel/evenkeel/shuffle/ShuffleStats" "partitionRecords" "[J" (.ref b1)) (V_b1 : OwnAr Z h0 b1 .long (xs.map Value.long)) (E_b1 : Exa Z h0 b1 "[J") (hl : xs.length = 2) :
    OwnMet l Z (⟨"com/example/evenkeel/evenkeel/shuffle/ShuffleStats", "partitionRecords", "()[J"⟩ : MethodName) prog_80_method_14_code 1 (some (.array .long)) ({ frames := 1, cells := 1, slots := 2, locals := 14 } : Room) #[(.ref a1)] h0 n0 (fun v h => ∃ (r : Addr), v = some (.ref r) ∧ Keep h0 h [] ∧ h0.size ≤ r ∧ OwnAr Z h r .long (xs.map Value.long)) := by
  refine own_body own_pn11 ?_
  intro p e s m below meth c s₁ RR X0
  refine own_enter (own_ef11 m a1) ?_
  refine own_aloadN X0 own_d11_0 (pc' := 1) rfl rfl rfl ?_
  refine own_getF X0 own_d11_1 (hw _ (List.mem_of_getElem? (i := 16) rfl)) Via.refl F_partitionRecords_a1 (pc' := 4) rfl ?_
  intro T1 X1
  refine own_clone X1 own_d11_4 (hw _ (List.mem_of_getElem? (i := 73) rfl)) (hw _ (List.mem_of_getElem? (i := 74) rfl)) (hw _ (List.mem_of_getElem? (i := 78) rfl)) (hw _ (List.mem_of_getElem? (i := 76) rfl)) (hw _ (List.mem_of_getElem? (i := 77) rfl)) (hw _ (List.mem_of_getElem? (i := 79) rfl)) V_b1 E_b1 own_fitJ (pc' := 7) rfl rfl (by decide) (W := 0) (Nat.le_of_eq rfl) (by decide) (cap := 2) (by rw [List.length_map, hl]; exact Nat.le_refl _) (by decide) (by decide) ?_
  intro T2 h2 b2 hb2 X2 E2 B2 EA2
  have g_b2 : n0 ≤ b2 := Nat.le_trans Z0 (Nat.le_of_eq hb2.symm)
  have ne_a1_b2 : a1 ≠ b2 := Nat.ne_of_lt (Nat.lt_of_lt_of_le (F_partitionRecords_a1).lt (Nat.le_of_eq hb2.symm))
  have ne_b1_b2 : b1 ≠ b2 := Nat.ne_of_lt (Nat.lt_of_lt_of_le (V_b1).lt (Nat.le_of_eq hb2.symm))
  have F_partitionRecords_a1_2 := (F_partitionRecords_a1).ext E2
  have V_b1_2 := (V_b1).ext E2
  have E_b1_2 := (E_b1).ext E2
  have Z2 : n0 ≤ h2.size := Nat.le_trans Z0 E2.1
  have sz_b2 : h0.size ≤ b2 := Nat.le_trans ((Keep.refl h0 [])).1 (Nat.le_of_eq hb2.symm)
  have K2 := ((Keep.refl h0 [])).ext E2
  refine own_cast X2 own_d11_7 (hw _ (List.mem_of_getElem? (i := 80) rfl)) (Ins.self EA2) (pc' := 10) rfl ?_
  intro T3 X3
  exact own_retA X3 rfl rfl rfl own_d11_10 ⟨b2, rfl, K2, sz_b2, B2⟩ (by decide) (by decide)
theorem own_d12_0 : decode prog_80_method_15_code 0 = .ok (.aload_n 0, 1) := by decide +kernel
theorem own_d12_1 : decode prog_80_method_15_code 1 = .ok (.getfield 24, 3) := by decide +kernel
theorem own_d12_4 : decode prog_80_method_15_code 4 = .ok (.invokevirtual 40, 3) := by decide +kernel
theorem own_d12_7 : decode prog_80_method_15_code 7 = .ok (.checkcast 41, 3) := by decide +kernel
theorem own_d12_10 : decode prog_80_method_15_code 10 = .ok (.areturn, 1) := by decide +kernel
theorem own_ef12 (m : MethodId) (x0 : Addr) : entryFrame m #[(.ref x0)] 1 = mkF m 0 #[.val (.ref x0)] [] := by first | (simp [entryFrame, mkF, argsToLocals, Value.category]; done) | rfl
theorem own_pn12 : plainFor (⟨"com/example/evenkeel/evenkeel/shuffle/ShuffleStats", "partitionBytes", "()[J"⟩ : MethodName) = true := by first | exact plainFor_of_name (by first | (simp [plainName, overriddenIn]; done) | decide +kernel) | exact Jvm.Free.JP.mathPlain rfl (by decide +kernel)
set_option maxRecDepth 65536 in
set_option maxHeartbeats 40000000 in
theorem own_rm12 (l : Launch) (Z : State) (a0 : Array Value) (hw : ∀ d ∈ tables_1, d.before a0 Z = true) (a1 : Addr) (b1 : Addr) (xs : List Int64) (h0 : Heap) (n0 : Nat) (Z0 : n0 ≤ h0.size) (F_partitionBytes_a1 : Fld Z h0 a1 "com/example/evenkeel/evenkeel/shuffle/ShuffleStats" "partitionBytes" "[J" (.ref b1)) (V_b1 : OwnAr Z h0 b1 .long (xs.map Value.long)) (E_b1 : Exa Z h0 b1 "[J") (hl : xs.length = 2) :
    OwnMet l Z (⟨"com/example/evenkeel/evenkeel/shuffle/ShuffleStats", "partitionBytes", "()[J"⟩ : MethodName) prog_80_method_15_code 1 (some (.array .long)) ({ frames := 1, cells := 1, slots := 2, locals := 14 } : Room) #[(.ref a1)] h0 n0 (fun v h => ∃ (r : Addr), v = some (.ref r) ∧ Keep h0 h [] ∧ h0.size ≤ r ∧ OwnAr Z h r .long (xs.map Value.long)) := by
  refine own_body own_pn12 ?_
  intro p e s m below meth c s₁ RR X0
  refine own_enter (own_ef12 m a1) ?_
  refine own_aloadN X0 own_d12_0 (pc' := 1) rfl rfl rfl ?_
  refine own_getF X0 own_d12_1 (hw _ (List.mem_of_getElem? (i := 18) rfl)) Via.refl F_partitionBytes_a1 (pc' := 4) rfl ?_
  intro T1 X1
  refine own_clone X1 own_d12_4 (hw _ (List.mem_of_getElem? (i := 73) rfl)) (hw _ (List.mem_of_getElem? (i := 74) rfl)) (hw _ (List.mem_of_getElem? (i := 78) rfl)) (hw _ (List.mem_of_getElem? (i := 76) rfl)) (hw _ (List.mem_of_getElem? (i := 77) rfl)) (hw _ (List.mem_of_getElem? (i := 79) rfl)) V_b1 E_b1 own_fitJ (pc' := 7) rfl rfl (by decide) (W := 0) (Nat.le_of_eq rfl) (by decide) (cap := 2) (by rw [List.length_map, hl]; exact Nat.le_refl _) (by decide) (by decide) ?_
  intro T2 h2 b2 hb2 X2 E2 B2 EA2
  have g_b2 : n0 ≤ b2 := Nat.le_trans Z0 (Nat.le_of_eq hb2.symm)
  have ne_a1_b2 : a1 ≠ b2 := Nat.ne_of_lt (Nat.lt_of_lt_of_le (F_partitionBytes_a1).lt (Nat.le_of_eq hb2.symm))
  have ne_b1_b2 : b1 ≠ b2 := Nat.ne_of_lt (Nat.lt_of_lt_of_le (V_b1).lt (Nat.le_of_eq hb2.symm))
  have F_partitionBytes_a1_2 := (F_partitionBytes_a1).ext E2
  have V_b1_2 := (V_b1).ext E2
  have E_b1_2 := (E_b1).ext E2
  have Z2 : n0 ≤ h2.size := Nat.le_trans Z0 E2.1
  have sz_b2 : h0.size ≤ b2 := Nat.le_trans ((Keep.refl h0 [])).1 (Nat.le_of_eq hb2.symm)
  have K2 := ((Keep.refl h0 [])).ext E2
  refine own_cast X2 own_d12_7 (hw _ (List.mem_of_getElem? (i := 80) rfl)) (Ins.self EA2) (pc' := 10) rfl ?_
  intro T3 X3
  exact own_retA X3 rfl rfl rfl own_d12_10 ⟨b2, rfl, K2, sz_b2, B2⟩ (by decide) (by decide)
theorem own_d13_0 : decode prog_80_method_10_code 0 = .ok (.aload_n 0, 1) := by decide +kernel
theorem own_d13_1 : decode prog_80_method_10_code 1 = .ok (.getfield 9, 3) := by decide +kernel
theorem own_d13_4 : decode prog_80_method_10_code 4 = .ok (.iload_n 1, 1) := by decide +kernel
theorem own_d13_5 : decode prog_80_method_10_code 5 = .ok (.laload, 1) := by decide +kernel
theorem own_d13_6 : decode prog_80_method_10_code 6 = .ok (.lreturn, 1) := by decide +kernel
theorem own_ef13 (m : MethodId) (x0 : Addr) (x1 : Int32) : entryFrame m #[(.ref x0), (.int x1)] 2 = mkF m 0 #[.val (.ref x0), .val (.int x1)] [] := by first | (simp [entryFrame, mkF, argsToLocals, Value.category]; done) | rfl
theorem own_pn13 : plainFor (⟨"com/example/evenkeel/evenkeel/shuffle/ShuffleStats", "inputRecords", "(I)J"⟩ : MethodName) = true := by first | exact plainFor_of_name (by first | (simp [plainName, overriddenIn]; done) | decide +kernel) | exact Jvm.Free.JP.mathPlain rfl (by decide +kernel)
set_option maxRecDepth 65536 in
set_option maxHeartbeats 40000000 in
theorem own_rm13 (l : Launch) (Z : State) (a0 : Array Value) (hw : ∀ d ∈ tables_1, d.before a0 Z = true) (a1 : Addr) (b1 : Addr) (xs : List Int64) (p2 : Int32) (h0 : Heap) (n0 : Nat) (Z0 : n0 ≤ h0.size) (F_inputRecords_a1 : Fld Z h0 a1 "com/example/evenkeel/evenkeel/shuffle/ShuffleStats" "inputRecords" "[J" (.ref b1)) (V_b1 : OwnAr Z h0 b1 .long (xs.map Value.long)) (hp : ¬ p2 < 0) (hq : p2.toNatClampNeg < xs.length) :
    OwnMet l Z (⟨"com/example/evenkeel/evenkeel/shuffle/ShuffleStats", "inputRecords", "(I)J"⟩ : MethodName) prog_80_method_10_code 2 (some .long) ({ frames := 0, cells := 0, slots := 0, locals := 0 } : Room) #[(.ref a1), (.int p2)] h0 n0 (fun v h => v = some (.long (xs.getD (p2).toNatClampNeg 0)) ∧ h0 = h) := by
  refine own_body own_pn13 ?_
  intro p e s m below meth c s₁ RR X0
  refine own_enter (own_ef13 m a1 p2) ?_
  refine own_aloadN X0 own_d13_0 (pc' := 1) rfl rfl rfl ?_
  refine own_getF X0 own_d13_1 (hw _ (List.mem_of_getElem? (i := 10) rfl)) Via.refl F_inputRecords_a1 (pc' := 4) rfl ?_
  intro T1 X1
  refine own_iloadN X1 own_d13_4 (pc' := 5) rfl rfl ?_
  refine own_laload X1 own_d13_5 V_b1 hp (v := (.long (xs.getD (p2).toNatClampNeg 0))) (own_getJ hq) (pc' := 6) rfl ?_
  exact own_retJ X1 own_d13_6 ⟨rfl, rfl⟩ (by decide) (by decide)
theorem own_d14_0 : decode prog_80_method_11_code 0 = .ok (.aload_n 0, 1) := by decide +kernel
theorem own_d14_1 : decode prog_80_method_11_code 1 = .ok (.getfield 15, 3) := by decide +kernel
theorem own_d14_4 : decode prog_80_method_11_code 4 = .ok (.iload_n 1, 1) := by decide +kernel
theorem own_d14_5 : decode prog_80_method_11_code 5 = .ok (.laload, 1) := by decide +kernel
theorem own_d14_6 : decode prog_80_method_11_code 6 = .ok (.lreturn, 1) := by decide +kernel
theorem own_ef14 (m : MethodId) (x0 : Addr) (x1 : Int32) : entryFrame m #[(.ref x0), (.int x1)] 2 = mkF m 0 #[.val (.ref x0), .val (.int x1)] [] := by first | (simp [entryFrame, mkF, argsToLocals, Value.category]; done) | rfl
theorem own_pn14 : plainFor (⟨"com/example/evenkeel/evenkeel/shuffle/ShuffleStats", "unroutedRecords", "(I)J"⟩ : MethodName) = true := by first | exact plainFor_of_name (by first | (simp [plainName, overriddenIn]; done) | decide +kernel) | exact Jvm.Free.JP.mathPlain rfl (by decide +kernel)
set_option maxRecDepth 65536 in
set_option maxHeartbeats 40000000 in
theorem own_rm14 (l : Launch) (Z : State) (a0 : Array Value) (hw : ∀ d ∈ tables_1, d.before a0 Z = true) (a1 : Addr) (b1 : Addr) (xs : List Int64) (p2 : Int32) (h0 : Heap) (n0 : Nat) (Z0 : n0 ≤ h0.size) (F_unroutedRecords_a1 : Fld Z h0 a1 "com/example/evenkeel/evenkeel/shuffle/ShuffleStats" "unroutedRecords" "[J" (.ref b1)) (V_b1 : OwnAr Z h0 b1 .long (xs.map Value.long)) (hp : ¬ p2 < 0) (hq : p2.toNatClampNeg < xs.length) :
    OwnMet l Z (⟨"com/example/evenkeel/evenkeel/shuffle/ShuffleStats", "unroutedRecords", "(I)J"⟩ : MethodName) prog_80_method_11_code 2 (some .long) ({ frames := 0, cells := 0, slots := 0, locals := 0 } : Room) #[(.ref a1), (.int p2)] h0 n0 (fun v h => v = some (.long (xs.getD (p2).toNatClampNeg 0)) ∧ h0 = h) := by
  refine own_body own_pn14 ?_
  intro p e s m below meth c s₁ RR X0
  refine own_enter (own_ef14 m a1 p2) ?_
  refine own_aloadN X0 own_d14_0 (pc' := 1) rfl rfl rfl ?_
  refine own_getF X0 own_d14_1 (hw _ (List.mem_of_getElem? (i := 12) rfl)) Via.refl F_unroutedRecords_a1 (pc' := 4) rfl ?_
  intro T1 X1
  refine own_iloadN X1 own_d14_4 (pc' := 5) rfl rfl ?_
  refine own_laload X1 own_d14_5 V_b1 hp (v := (.long (xs.getD (p2).toNatClampNeg 0))) (own_getJ hq) (pc' := 6) rfl ?_
  exact own_retJ X1 own_d14_6 ⟨rfl, rfl⟩ (by decide) (by decide)
theorem own_d15_0 : decode prog_80_method_13_code 0 = .ok (.aload_n 0, 1) := by decide +kernel
theorem own_d15_1 : decode prog_80_method_13_code 1 = .ok (.getfield 18, 3) := by decide +kernel
theorem own_d15_4 : decode prog_80_method_13_code 4 = .ok (.iload_n 1, 1) := by decide +kernel
theorem own_d15_5 : decode prog_80_method_13_code 5 = .ok (.laload, 1) := by decide +kernel
theorem own_d15_6 : decode prog_80_method_13_code 6 = .ok (.lreturn, 1) := by decide +kernel
theorem own_ef15 (m : MethodId) (x0 : Addr) (x1 : Int32) : entryFrame m #[(.ref x0), (.int x1)] 2 = mkF m 0 #[.val (.ref x0), .val (.int x1)] [] := by first | (simp [entryFrame, mkF, argsToLocals, Value.category]; done) | rfl
theorem own_pn15 : plainFor (⟨"com/example/evenkeel/evenkeel/shuffle/ShuffleStats", "extraCopies", "(I)J"⟩ : MethodName) = true := by first | exact plainFor_of_name (by first | (simp [plainName, overriddenIn]; done) | decide +kernel) | exact Jvm.Free.JP.mathPlain rfl (by decide +kernel)
set_option maxRecDepth 65536 in
set_option maxHeartbeats 40000000 in
theorem own_rm15 (l : Launch) (Z : State) (a0 : Array Value) (hw : ∀ d ∈ tables_1, d.before a0 Z = true) (a1 : Addr) (b1 : Addr) (xs : List Int64) (p2 : Int32) (h0 : Heap) (n0 : Nat) (Z0 : n0 ≤ h0.size) (F_extraCopies_a1 : Fld Z h0 a1 "com/example/evenkeel/evenkeel/shuffle/ShuffleStats" "extraCopies" "[J" (.ref b1)) (V_b1 : OwnAr Z h0 b1 .long (xs.map Value.long)) (hp : ¬ p2 < 0) (hq : p2.toNatClampNeg < xs.length) :
    OwnMet l Z (⟨"com/example/evenkeel/evenkeel/shuffle/ShuffleStats", "extraCopies", "(I)J"⟩ : MethodName) prog_80_method_13_code 2 (some .long) ({ frames := 0, cells := 0, slots := 0, locals := 0 } : Room) #[(.ref a1), (.int p2)] h0 n0 (fun v h => v = some (.long (xs.getD (p2).toNatClampNeg 0)) ∧ h0 = h) := by
  refine own_body own_pn15 ?_
  intro p e s m below meth c s₁ RR X0
  refine own_enter (own_ef15 m a1 p2) ?_
  refine own_aloadN X0 own_d15_0 (pc' := 1) rfl rfl rfl ?_
  refine own_getF X0 own_d15_1 (hw _ (List.mem_of_getElem? (i := 14) rfl)) Via.refl F_extraCopies_a1 (pc' := 4) rfl ?_
  intro T1 X1
  refine own_iloadN X1 own_d15_4 (pc' := 5) rfl rfl ?_
  refine own_laload X1 own_d15_5 V_b1 hp (v := (.long (xs.getD (p2).toNatClampNeg 0))) (own_getJ hq) (pc' := 6) rfl ?_
  exact own_retJ X1 own_d15_6 ⟨rfl, rfl⟩ (by decide) (by decide)
theorem own_d16_0 : decode prog_80_method_17_code 0 = .ok (.aload_n 0, 1) := by decide +kernel
theorem own_d16_1 : decode prog_80_method_17_code 1 = .ok (.getfield 27, 3) := by decide +kernel
theorem own_d16_4 : decode prog_80_method_17_code 4 = .ok (.lreturn, 1) := by decide +kernel
theorem own_ef16 (m : MethodId) (x0 : Addr) : entryFrame m #[(.ref x0)] 1 = mkF m 0 #[.val (.ref x0)] [] := by first | (simp [entryFrame, mkF, argsToLocals, Value.category]; done) | rfl
theorem own_pn16 : plainFor (⟨"com/example/evenkeel/evenkeel/shuffle/ShuffleStats", "sortBufferRecords", "()J"⟩ : MethodName) = true := by first | exact plainFor_of_name (by first | (simp [plainName, overriddenIn]; done) | decide +kernel) | exact Jvm.Free.JP.mathPlain rfl (by decide +kernel)
set_option maxRecDepth 65536 in
set_option maxHeartbeats 40000000 in
theorem own_rm16 (l : Launch) (Z : State) (a0 : Array Value) (hw : ∀ d ∈ tables_1, d.before a0 Z = true) (a1 : Addr) (w1 : Int64) (h0 : Heap) (n0 : Nat) (Z0 : n0 ≤ h0.size) (F_sortBufferRecords_a1 : Fld Z h0 a1 "com/example/evenkeel/evenkeel/shuffle/ShuffleStats" "sortBufferRecords" "J" (.long w1)) :
    OwnMet l Z (⟨"com/example/evenkeel/evenkeel/shuffle/ShuffleStats", "sortBufferRecords", "()J"⟩ : MethodName) prog_80_method_17_code 1 (some .long) ({ frames := 0, cells := 0, slots := 0, locals := 0 } : Room) #[(.ref a1)] h0 n0 (fun v h => v = some (.long w1) ∧ h0 = h) := by
  refine own_body own_pn16 ?_
  intro p e s m below meth c s₁ RR X0
  refine own_enter (own_ef16 m a1) ?_
  refine own_aloadN X0 own_d16_0 (pc' := 1) rfl rfl rfl ?_
  refine own_getF X0 own_d16_1 (hw _ (List.mem_of_getElem? (i := 45) rfl)) Via.refl F_sortBufferRecords_a1 (pc' := 4) rfl ?_
  intro T1 X1
  exact own_retJ X1 own_d16_4 ⟨rfl, rfl⟩ (by decide) (by decide)
theorem own_d17_0 : decode prog_80_method_18_code 0 = .ok (.aload_n 0, 1) := by decide +kernel
theorem own_d17_1 : decode prog_80_method_18_code 1 = .ok (.getfield 31, 3) := by decide +kernel
theorem own_d17_4 : decode prog_80_method_18_code 4 = .ok (.lreturn, 1) := by decide +kernel
theorem own_ef17 (m : MethodId) (x0 : Addr) : entryFrame m #[(.ref x0)] 1 = mkF m 0 #[.val (.ref x0)] [] := by first | (simp [entryFrame, mkF, argsToLocals, Value.category]; done) | rfl
theorem own_pn17 : plainFor (⟨"com/example/evenkeel/evenkeel/shuffle/ShuffleStats", "hotKeyRecords", "()J"⟩ : MethodName) = true := by first | exact plainFor_of_name (by first | (simp [plainName, overriddenIn]; done) | decide +kernel) | exact Jvm.Free.JP.mathPlain rfl (by decide +kernel)
set_option maxRecDepth 65536 in
set_option maxHeartbeats 40000000 in
theorem own_rm17 (l : Launch) (Z : State) (a0 : Array Value) (hw : ∀ d ∈ tables_1, d.before a0 Z = true) (a1 : Addr) (w1 : Int64) (h0 : Heap) (n0 : Nat) (Z0 : n0 ≤ h0.size) (F_hotKeyRecords_a1 : Fld Z h0 a1 "com/example/evenkeel/evenkeel/shuffle/ShuffleStats" "hotKeyRecords" "J" (.long w1)) :
    OwnMet l Z (⟨"com/example/evenkeel/evenkeel/shuffle/ShuffleStats", "hotKeyRecords", "()J"⟩ : MethodName) prog_80_method_18_code 1 (some .long) ({ frames := 0, cells := 0, slots := 0, locals := 0 } : Room) #[(.ref a1)] h0 n0 (fun v h => v = some (.long w1) ∧ h0 = h) := by
  refine own_body own_pn17 ?_
  intro p e s m below meth c s₁ RR X0
  refine own_enter (own_ef17 m a1) ?_
  refine own_aloadN X0 own_d17_0 (pc' := 1) rfl rfl rfl ?_
  refine own_getF X0 own_d17_1 (hw _ (List.mem_of_getElem? (i := 52) rfl)) Via.refl F_hotKeyRecords_a1 (pc' := 4) rfl ?_
  intro T1 X1
  exact own_retJ X1 own_d17_4 ⟨rfl, rfl⟩ (by decide) (by decide)
theorem own_d18_0 : decode prog_80_method_19_code 0 = .ok (.aload_n 0, 1) := by decide +kernel
theorem own_d18_1 : decode prog_80_method_19_code 1 = .ok (.getfield 34, 3) := by decide +kernel
theorem own_d18_4 : decode prog_80_method_19_code 4 = .ok (.lreturn, 1) := by decide +kernel
theorem own_ef18 (m : MethodId) (x0 : Addr) : entryFrame m #[(.ref x0)] 1 = mkF m 0 #[.val (.ref x0)] [] := by first | (simp [entryFrame, mkF, argsToLocals, Value.category]; done) | rfl
theorem own_pn18 : plainFor (⟨"com/example/evenkeel/evenkeel/shuffle/ShuffleStats", "hotKeyFlushes", "()J"⟩ : MethodName) = true := by first | exact plainFor_of_name (by first | (simp [plainName, overriddenIn]; done) | decide +kernel) | exact Jvm.Free.JP.mathPlain rfl (by decide +kernel)
set_option maxRecDepth 65536 in
set_option maxHeartbeats 40000000 in
theorem own_rm18 (l : Launch) (Z : State) (a0 : Array Value) (hw : ∀ d ∈ tables_1, d.before a0 Z = true) (a1 : Addr) (w1 : Int64) (h0 : Heap) (n0 : Nat) (Z0 : n0 ≤ h0.size) (F_hotKeyFlushes_a1 : Fld Z h0 a1 "com/example/evenkeel/evenkeel/shuffle/ShuffleStats" "hotKeyFlushes" "J" (.long w1)) :
    OwnMet l Z (⟨"com/example/evenkeel/evenkeel/shuffle/ShuffleStats", "hotKeyFlushes", "()J"⟩ : MethodName) prog_80_method_19_code 1 (some .long) ({ frames := 0, cells := 0, slots := 0, locals := 0 } : Room) #[(.ref a1)] h0 n0 (fun v h => v = some (.long w1) ∧ h0 = h) := by
  refine own_body own_pn18 ?_
  intro p e s m below meth c s₁ RR X0
  refine own_enter (own_ef18 m a1) ?_
  refine own_aloadN X0 own_d18_0 (pc' := 1) rfl rfl rfl ?_
  refine own_getF X0 own_d18_1 (hw _ (List.mem_of_getElem? (i := 54) rfl)) Via.refl F_hotKeyFlushes_a1 (pc' := 4) rfl ?_
  intro T1 X1
  exact own_retJ X1 own_d18_4 ⟨rfl, rfl⟩ (by decide) (by decide)
theorem own_d19_0 : decode prog_80_method_20_code 0 = .ok (.aload_n 0, 1) := by decide +kernel
theorem own_d19_1 : decode prog_80_method_20_code 1 = .ok (.getfield 37, 3) := by decide +kernel
theorem own_d19_4 : decode prog_80_method_20_code 4 = .ok (.lreturn, 1) := by decide +kernel
theorem own_ef19 (m : MethodId) (x0 : Addr) : entryFrame m #[(.ref x0)] 1 = mkF m 0 #[.val (.ref x0)] [] := by first | (simp [entryFrame, mkF, argsToLocals, Value.category]; done) | rfl
theorem own_pn19 : plainFor (⟨"com/example/evenkeel/evenkeel/shuffle/ShuffleStats", "shuffleRecords", "()J"⟩ : MethodName) = true := by first | exact plainFor_of_name (by first | (simp [plainName, overriddenIn]; done) | decide +kernel) | exact Jvm.Free.JP.mathPlain rfl (by decide +kernel)
set_option maxRecDepth 65536 in
set_option maxHeartbeats 40000000 in
theorem own_rm19 (l : Launch) (Z : State) (a0 : Array Value) (hw : ∀ d ∈ tables_1, d.before a0 Z = true) (a1 : Addr) (w1 : Int64) (h0 : Heap) (n0 : Nat) (Z0 : n0 ≤ h0.size) (F_shuffleRecords_a1 : Fld Z h0 a1 "com/example/evenkeel/evenkeel/shuffle/ShuffleStats" "shuffleRecords" "J" (.long w1)) :
    OwnMet l Z (⟨"com/example/evenkeel/evenkeel/shuffle/ShuffleStats", "shuffleRecords", "()J"⟩ : MethodName) prog_80_method_20_code 1 (some .long) ({ frames := 0, cells := 0, slots := 0, locals := 0 } : Room) #[(.ref a1)] h0 n0 (fun v h => v = some (.long w1) ∧ h0 = h) := by
  refine own_body own_pn19 ?_
  intro p e s m below meth c s₁ RR X0
  refine own_enter (own_ef19 m a1) ?_
  refine own_aloadN X0 own_d19_0 (pc' := 1) rfl rfl rfl ?_
  refine own_getF X0 own_d19_1 (hw _ (List.mem_of_getElem? (i := 61) rfl)) Via.refl F_shuffleRecords_a1 (pc' := 4) rfl ?_
  intro T1 X1
  exact own_retJ X1 own_d19_4 ⟨rfl, rfl⟩ (by decide) (by decide)
theorem own_tag (x : Int32) : ¬ (x &&& (127 : Int32)) < 0 ∧ (x &&& (127 : Int32)).toNatClampNeg < 128 := by
  have h := own_and x 127 (by decide)
  have e : (127 : Int32).toInt = 127 := rfl
  have e0 : (0 : Int32).toInt = 0 := rfl
  rw [Int32.lt_iff_toInt_lt]
  simp only [Int32.toNatClampNeg]
  omega
theorem own_par (x : Int32) : ((x &&& (1 : Int32)) = 0 ∧ (1 : Int32) - (x &&& (1 : Int32)) = 1) ∨ ((x &&& (1 : Int32)) = 1 ∧ (1 : Int32) - (x &&& (1 : Int32)) = 0) := by
  rcases own_p1 x with h | h | h
  · left; rw [h]; decide
  · right; rw [h]; decide
  · have := (own_and x 1 (by decide)).2
    rw [h] at this; exact absurd this (by decide)
theorem own_par2 {p q : Int32} (h : (p = 0 ∧ q = 1) ∨ (p = 1 ∧ q = 0)) : ¬ p < 0 ∧ p.toNatClampNeg < 2 ∧ ¬ q < 0 ∧ q.toNatClampNeg < 2 ∧ p.toNatClampNeg ≠ q.toNatClampNeg := by
  rcases h with ⟨rfl, rfl⟩ | ⟨rfl, rfl⟩ <;> decide
theorem own_pd0 : parseMethodDescriptor "(I)V" = some ⟨[.int], none⟩ := by decide +kernel
theorem own_pd1 : parseMethodDescriptor "(II)V" = some ⟨[.int, .int], none⟩ := by decide +kernel
theorem own_pd2 : parseMethodDescriptor "(IJ)V" = some ⟨[.int, .long], none⟩ := by decide +kernel
theorem own_pd3 : parseMethodDescriptor "(J)V" = some ⟨[.long], none⟩ := by decide +kernel
theorem own_pd4 : parseMethodDescriptor "(JJ)V" = some ⟨[.long, .long], none⟩ := by decide +kernel
theorem own_pd5 : parseMethodDescriptor "(Lcom/example/evenkeel/evenkeel/shuffle/ShuffleStats;)V" = some ⟨[(.object "com/example/evenkeel/evenkeel/shuffle/ShuffleStats")], none⟩ := by decide +kernel
theorem own_pd6 : parseMethodDescriptor "()[J" = some ⟨[], some (.array .long)⟩ := by decide +kernel
theorem own_pd7 : parseMethodDescriptor "(I)J" = some ⟨[.int], some .long⟩ := by decide +kernel
theorem own_pd8 : parseMethodDescriptor "()J" = some ⟨[], some .long⟩ := by decide +kernel
theorem own_ef0 (m : MethodId) (x0 : Int32) (x1 : Int32) (x2 : Int64) (x3 : Int64) (x4 : Int64) (x5 : Int64) : entryFrame m #[(.int x0), (.int x1), (.long x2), (.long x3), (.long x4), (.long x5)] maxLocals = mkF m 0 #[.val (.int x0), .val (.int x1), .val (.long x2), .second, .val (.long x3), .second, .val (.long x4), .second, .val (.long x5), .second, .unset, .unset, .unset, .unset, .unset, .unset, .unset] [] := by first | (simp [entryFrame, mkF, argsToLocals, Value.category, maxLocals]; done) | rfl
theorem own_pn0 : plainFor x = true := by first | exact plainFor_of_name (by first | (simp [plainName, overriddenIn]; done) | decide +kernel) | exact Jvm.Free.JP.mathPlain rfl (by decide +kernel)
set_option maxRecDepth 65536 in
set_option maxHeartbeats 40000000 in
theorem own_rm0 (l : Launch) (Z : State) (a0 : Array Value) (hw : ∀ d ∈ tables_1, d.before a0 Z = true) (p1 : Int32) (p2 : Int32) (q3 : Int64) (q4 : Int64) (q5 : Int64) (q6 : Int64) (h0 : Heap) (n0 : Nat) (Z0 : n0 ≤ h0.size)  :
    OwnMet l Z x code maxLocals ret room_1 #[(.int p1), (.int p2), (.long q3), (.long q4), (.long q5), (.long q6)] h0 n0 (fun v h => v = some (.int 1)) := by
  refine own_body own_pn0 ?_
  intro p e s m below meth c s₁ RR X0
  refine own_enter (own_ef0 m p1 p2 q3 q4 q5 q6) ?_
  refine own_iloadN X0 at_0 (pc' := 1) rfl rfl ?_
  refine own_bipush X0 at_1 (pc' := 3) rfl (v := (127 : Int32)) (by decide) ?_
  refine own_iand X0 at_3 (pc' := 4) rfl ?_
  refine own_istoreV X0 at_4 (pc' := 6) rfl (l' := fun v4 => #[.val (.int p1), .val (.int p2), .val (.long q3), .second, .val (.long q4), .second, .val (.long q5), .second, .val (.long q6), .second, .val (.int v4), .unset, .unset, .unset, .unset, .unset, .unset]) (fun _ => rfl) ?_
  intro v4 hv4
  refine own_iloadN X0 at_6 (pc' := 7) rfl rfl ?_
  refine own_bipush X0 at_7 (pc' := 9) rfl (v := (7 : Int32)) (by decide) ?_
  refine own_iushr X0 at_9 (pc' := 10) rfl ?_
  refine own_iconst X0 at_10 (pc' := 11) rfl (v := (1 : Int32)) (by decide) ?_
  refine own_iand X0 at_11 (pc' := 12) rfl ?_
  refine own_istoreV X0 at_12 (pc' := 14) rfl (l' := fun v12 => #[.val (.int p1), .val (.int p2), .val (.long q3), .second, .val (.long q4), .second, .val (.long q5), .second, .val (.long q6), .second, .val (.int v4), .val (.int v12), .unset, .unset, .unset, .unset, .unset]) (fun _ => rfl) ?_
  intro v12 hv12
  refine own_iconst X0 at_14 (pc' := 15) rfl (v := (1 : Int32)) (by decide) ?_
  refine own_iload X0 at_15 (pc' := 17) rfl rfl ?_
  refine own_isub X0 at_17 (pc' := 18) rfl ?_
  refine own_istoreV X0 at_18 (pc' := 20) rfl (l' := fun v18 => #[.val (.int p1), .val (.int p2), .val (.long q3), .second, .val (.long q4), .second, .val (.long q5), .second, .val (.long q6), .second, .val (.int v4), .val (.int v12), .val (.int v18), .unset, .unset, .unset, .unset]) (fun _ => rfl) ?_
  intro v18 hv18
  have hpp : (v12 = 0 ∧ v18 = 1) ∨ (v12 = 1 ∧ v18 = 0) := by rw [hv18, hv12]; exact own_par _
  refine own_new X0 at_20 (hw _ (List.mem_of_getElem? (i := 0) rfl)) (hw _ (List.mem_of_getElem? (i := 1) rfl)) (hw _ (List.mem_of_getElem? (i := 2) rfl)) (pc' := 23) rfl (by decide) (by decide) ?_
  intro T1 h1 b1 hb1 X1 E1 A1 D1
  have g_b1 : n0 ≤ b1 := Nat.le_trans Z0 (Nat.le_of_eq hb1.symm)
  have Z1 : n0 ≤ h1.size := Nat.le_trans Z0 E1.1
  have F_inputRecords_b1 : Fld Z h1 b1 "com/example/evenkeel/evenkeel/shuffle/ShuffleStats" "inputRecords" "[J" .null := D1 (Or.inr (hw _ (List.mem_of_getElem? (i := 11) rfl))) (ty := (.array .long)) (by decide)
  have F_unroutedRecords_b1 : Fld Z h1 b1 "com/example/evenkeel/evenkeel/shuffle/ShuffleStats" "unroutedRecords" "[J" .null := D1 (Or.inr (hw _ (List.mem_of_getElem? (i := 13) rfl))) (ty := (.array .long)) (by decide)
  have F_extraCopies_b1 : Fld Z h1 b1 "com/example/evenkeel/evenkeel/shuffle/ShuffleStats" "extraCopies" "[J" .null := D1 (Or.inr (hw _ (List.mem_of_getElem? (i := 15) rfl))) (ty := (.array .long)) (by decide)
  have F_partitionRecords_b1 : Fld Z h1 b1 "com/example/evenkeel/evenkeel/shuffle/ShuffleStats" "partitionRecords" "[J" .null := D1 (Or.inr (hw _ (List.mem_of_getElem? (i := 17) rfl))) (ty := (.array .long)) (by decide)
  have F_partitionBytes_b1 : Fld Z h1 b1 "com/example/evenkeel/evenkeel/shuffle/ShuffleStats" "partitionBytes" "[J" .null := D1 (Or.inr (hw _ (List.mem_of_getElem? (i := 19) rfl))) (ty := (.array .long)) (by decide)
  have F_sortBufferRecords_b1 : Fld Z h1 b1 "com/example/evenkeel/evenkeel/shuffle/ShuffleStats" "sortBufferRecords" "J" (.long (0 : Int64)) := D1 (Or.inl (hw _ (List.mem_of_getElem? (i := 46) rfl))) (ty := .long) (by decide)
  have F_hotKeyRecords_b1 : Fld Z h1 b1 "com/example/evenkeel/evenkeel/shuffle/ShuffleStats" "hotKeyRecords" "J" (.long (0 : Int64)) := D1 (Or.inl (hw _ (List.mem_of_getElem? (i := 53) rfl))) (ty := .long) (by decide)
  have F_hotKeyFlushes_b1 : Fld Z h1 b1 "com/example/evenkeel/evenkeel/shuffle/ShuffleStats" "hotKeyFlushes" "J" (.long (0 : Int64)) := D1 (Or.inl (hw _ (List.mem_of_getElem? (i := 55) rfl))) (ty := .long) (by decide)
  have F_shuffleRecords_b1 : Fld Z h1 b1 "com/example/evenkeel/evenkeel/shuffle/ShuffleStats" "shuffleRecords" "J" (.long (0 : Int64)) := D1 (Or.inl (hw _ (List.mem_of_getElem? (i := 62) rfl))) (ty := .long) (by decide)
  refine own_dup X1 at_23 (pc' := 24) rfl rfl ?_
  refine own_iconst X1 at_24 (pc' := 25) rfl (v := (2 : Int32)) (by decide) ?_
  refine own_callC (a := b1) (argsL := [(.int (2 : Int32))]) X1 at_25 (y := (⟨"com/example/evenkeel/evenkeel/shuffle/ShuffleStats", "<init>", "(I)V"⟩ : MethodName)) (by decide) (hw _ (List.mem_of_getElem? (i := 3) rfl)) (hw _ (List.mem_of_getElem? (i := 4) rfl)) (hw _ (List.mem_of_getElem? (i := 5) rfl)) (hw _ (List.mem_of_getElem? (i := 2) rfl)) (own_rm1 l Z a0 hw b1 (0 : Int64) (0 : Int64) (0 : Int64) (0 : Int64) h1 n0 Z1 A1 F_inputRecords_b1 F_unroutedRecords_b1 F_extraCopies_b1 F_partitionRecords_b1 F_partitionBytes_b1 F_sortBufferRecords_b1 F_hotKeyRecords_b1 F_hotKeyFlushes_b1 F_shuffleRecords_b1 g_b1) own_pd0 rfl (S := [(.ref b1)]) rfl (pc' := 28) rfl rfl (W := 1) (Nat.le_of_eq rfl) (by decide) (by decide) (by decide) (by decide) ?_
  intro T2 h2 v2_ X2 q2_
  obtain ⟨b1_2, b2_2, b3_2, b4_2, b5_2, rfl, KK2, FF2q0, FF2q1, FF2q2, FF2q3, FF2q4, FF2q5, FF2q6, FF2q7, FF2q8, FF2q9, FF2q10, FF2q11, FF2q12, FF2q13, FF2q14, FF2q15, FF2q16, FF2q17, FF2q18, FF2q19, FF2q20, FF2q21, FF2q22, FF2q23, FF2q24, FF2q25, FF2q26, FF2q27, FF2q28, FF2q29, FF2q30⟩ := q2_
  show OwnGo p e below (T2.setTop (mkF m 28 #[.val (.int p1), .val (.int p2), .val (.long q3), .second, .val (.long q4), .second, .val (.long q5), .second, .val (.long q6), .second, .val (.int v4), .val (.int v12), .val (.int v18), .unset, .unset, .unset, .unset] [(.ref b1)])) RR
  have Z2 : n0 ≤ h2.size := Nat.le_trans Z1 KK2.1
  have A1_2 := (A1).keep KK2
  have ne_b1_b1_2 : b1 ≠ b1_2 := Nat.ne_of_lt (Nat.lt_of_lt_of_le (A1).lt FF2q9)
  have g_b1_2 : n0 ≤ b1_2 := Nat.le_trans Z1 FF2q9
  have ne_b1_b2_2 : b1 ≠ b2_2 := Nat.ne_of_lt (Nat.lt_of_lt_of_le (A1).lt FF2q10)
  have g_b2_2 : n0 ≤ b2_2 := Nat.le_trans Z1 FF2q10
  have ne_b1_b3_2 : b1 ≠ b3_2 := Nat.ne_of_lt (Nat.lt_of_lt_of_le (A1).lt FF2q11)
  have g_b3_2 : n0 ≤ b3_2 := Nat.le_trans Z1 FF2q11
  have ne_b1_b4_2 : b1 ≠ b4_2 := Nat.ne_of_lt (Nat.lt_of_lt_of_le (A1).lt FF2q12)
  have g_b4_2 : n0 ≤ b4_2 := Nat.le_trans Z1 FF2q12
  have ne_b1_b5_2 : b1 ≠ b5_2 := Nat.ne_of_lt (Nat.lt_of_lt_of_le (A1).lt FF2q13)
  have g_b5_2 : n0 ≤ b5_2 := Nat.le_trans Z1 FF2q13
  refine own_astore X2 at_28 (pc' := 30) rfl rfl (l' := #[.val (.int p1), .val (.int p2), .val (.long q3), .second, .val (.long q4), .second, .val (.long q5), .second, .val (.long q6), .second, .val (.int v4), .val (.int v12), .val (.int v18), .val (.ref b1), .unset, .unset, .unset]) rfl ?_
  refine own_new X2 at_30 (hw _ (List.mem_of_getElem? (i := 0) rfl)) (hw _ (List.mem_of_getElem? (i := 1) rfl)) (hw _ (List.mem_of_getElem? (i := 2) rfl)) (pc' := 33) rfl (by decide) (by decide) ?_
  intro T3 h3 b3 hb3 X3 E3 A3 D3
  have g_b3 : n0 ≤ b3 := Nat.le_trans Z2 (Nat.le_of_eq hb3.symm)
  have ne_b1_b3 : b1 ≠ b3 := Nat.ne_of_lt (Nat.lt_of_lt_of_le (A1_2).lt (Nat.le_of_eq hb3.symm))
  have ne_b1_2_b3 : b1_2 ≠ b3 := Nat.ne_of_lt (Nat.lt_of_lt_of_le (FF2q24).lt (Nat.le_of_eq hb3.symm))
  have ne_b2_2_b3 : b2_2 ≠ b3 := Nat.ne_of_lt (Nat.lt_of_lt_of_le (FF2q25).lt (Nat.le_of_eq hb3.symm))
  have ne_b3_2_b3 : b3_2 ≠ b3 := Nat.ne_of_lt (Nat.lt_of_lt_of_le (FF2q26).lt (Nat.le_of_eq hb3.symm))
  have ne_b4_2_b3 : b4_2 ≠ b3 := Nat.ne_of_lt (Nat.lt_of_lt_of_le (FF2q27).lt (Nat.le_of_eq hb3.symm))
  have ne_b5_2_b3 : b5_2 ≠ b3 := Nat.ne_of_lt (Nat.lt_of_lt_of_le (FF2q28).lt (Nat.le_of_eq hb3.symm))
  have A1_3 := (A1_2).ext E3
  have FF2q0_3 := (FF2q0).ext E3
  have FF2q1_3 := (FF2q1).ext E3
  have FF2q2_3 := (FF2q2).ext E3
  have FF2q3_3 := (FF2q3).ext E3
  have FF2q4_3 := (FF2q4).ext E3
  have FF2q5_3 := (FF2q5).ext E3
  have FF2q6_3 := (FF2q6).ext E3
  have FF2q7_3 := (FF2q7).ext E3
  have FF2q8_3 := (FF2q8).ext E3
  have FF2q24_3 := (FF2q24).ext E3
  have FF2q25_3 := (FF2q25).ext E3
  have FF2q26_3 := (FF2q26).ext E3
  have FF2q27_3 := (FF2q27).ext E3
  have FF2q28_3 := (FF2q28).ext E3
  have FF2q29_3 := (FF2q29).ext E3
  have FF2q30_3 := (FF2q30).ext E3
  have Z3 : n0 ≤ h3.size := Nat.le_trans Z2 E3.1
  have F_inputRecords_b3 : Fld Z h3 b3 "com/example/evenkeel/evenkeel/shuffle/ShuffleStats" "inputRecords" "[J" .null := D3 (Or.inr (hw _ (List.mem_of_getElem? (i := 11) rfl))) (ty := (.array .long)) (by decide)
  have F_unroutedRecords_b3 : Fld Z h3 b3 "com/example/evenkeel/evenkeel/shuffle/ShuffleStats" "unroutedRecords" "[J" .null := D3 (Or.inr (hw _ (List.mem_of_getElem? (i := 13) rfl))) (ty := (.array .long)) (by decide)
  have F_extraCopies_b3 : Fld Z h3 b3 "com/example/evenkeel/evenkeel/shuffle/ShuffleStats" "extraCopies" "[J" .null := D3 (Or.inr (hw _ (List.mem_of_getElem? (i := 15) rfl))) (ty := (.array .long)) (by decide)
  have F_partitionRecords_b3 : Fld Z h3 b3 "com/example/evenkeel/evenkeel/shuffle/ShuffleStats" "partitionRecords" "[J" .null := D3 (Or.inr (hw _ (List.mem_of_getElem? (i := 17) rfl))) (ty := (.array .long)) (by decide)
  have F_partitionBytes_b3 : Fld Z h3 b3 "com/example/evenkeel/evenkeel/shuffle/ShuffleStats" "partitionBytes" "[J" .null := D3 (Or.inr (hw _ (List.mem_of_getElem? (i := 19) rfl))) (ty := (.array .long)) (by decide)
  have F_sortBufferRecords_b3 : Fld Z h3 b3 "com/example/evenkeel/evenkeel/shuffle/ShuffleStats" "sortBufferRecords" "J" (.long (0 : Int64)) := D3 (Or.inl (hw _ (List.mem_of_getElem? (i := 46) rfl))) (ty := .long) (by decide)
  have F_hotKeyRecords_b3 : Fld Z h3 b3 "com/example/evenkeel/evenkeel/shuffle/ShuffleStats" "hotKeyRecords" "J" (.long (0 : Int64)) := D3 (Or.inl (hw _ (List.mem_of_getElem? (i := 53) rfl))) (ty := .long) (by decide)
  have F_hotKeyFlushes_b3 : Fld Z h3 b3 "com/example/evenkeel/evenkeel/shuffle/ShuffleStats" "hotKeyFlushes" "J" (.long (0 : Int64)) := D3 (Or.inl (hw _ (List.mem_of_getElem? (i := 55) rfl))) (ty := .long) (by decide)
  have F_shuffleRecords_b3 : Fld Z h3 b3 "com/example/evenkeel/evenkeel/shuffle/ShuffleStats" "shuffleRecords" "J" (.long (0 : Int64)) := D3 (Or.inl (hw _ (List.mem_of_getElem? (i := 62) rfl))) (ty := .long) (by decide)
  refine own_dup X3 at_33 (pc' := 34) rfl rfl ?_
  refine own_iconst X3 at_34 (pc' := 35) rfl (v := (2 : Int32)) (by decide) ?_
  refine own_callC (a := b3) (argsL := [(.int (2 : Int32))]) X3 at_35 (y := (⟨"com/example/evenkeel/evenkeel/shuffle/ShuffleStats", "<init>", "(I)V"⟩ : MethodName)) (by decide) (hw _ (List.mem_of_getElem? (i := 3) rfl)) (hw _ (List.mem_of_getElem? (i := 4) rfl)) (hw _ (List.mem_of_getElem? (i := 5) rfl)) (hw _ (List.mem_of_getElem? (i := 2) rfl)) (own_rm1 l Z a0 hw b3 (0 : Int64) (0 : Int64) (0 : Int64) (0 : Int64) h3 n0 Z3 A3 F_inputRecords_b3 F_unroutedRecords_b3 F_extraCopies_b3 F_partitionRecords_b3 F_partitionBytes_b3 F_sortBufferRecords_b3 F_hotKeyRecords_b3 F_hotKeyFlushes_b3 F_shuffleRecords_b3 g_b3) own_pd0 rfl (S := [(.ref b3)]) rfl (pc' := 38) rfl rfl (W := 1) (Nat.le_of_eq rfl) (by decide) (by decide) (by decide) (by decide) ?_
  intro T4 h4 v4_ X4 q4_
  obtain ⟨b1_4, b2_4, b3_4, b4_4, b5_4, rfl, KK4, FF4q0, FF4q1, FF4q2, FF4q3, FF4q4, FF4q5, FF4q6, FF4q7, FF4q8, FF4q9, FF4q10, FF4q11, FF4q12, FF4q13, FF4q14, FF4q15, FF4q16, FF4q17, FF4q18, FF4q19, FF4q20, FF4q21, FF4q22, FF4q23, FF4q24, FF4q25, FF4q26, FF4q27, FF4q28, FF4q29, FF4q30⟩ := q4_
  show OwnGo p e below (T4.setTop (mkF m 38 #[.val (.int p1), .val (.int p2), .val (.long q3), .second, .val (.long q4), .second, .val (.long q5), .second, .val (.long q6), .second, .val (.int v4), .val (.int v12), .val (.int v18), .val (.ref b1), .unset, .unset, .unset] [(.ref b3)])) RR
  have Z4 : n0 ≤ h4.size := Nat.le_trans Z3 KK4.1
  have A1_4 := (A1_3).keep KK4
  have FF2q0_4 := (FF2q0_3).keep KK4 (ninS ne_b1_b3 nin0)
  have FF2q1_4 := (FF2q1_3).keep KK4 (ninS ne_b1_b3 nin0)
  have FF2q2_4 := (FF2q2_3).keep KK4 (ninS ne_b1_b3 nin0)
  have FF2q3_4 := (FF2q3_3).keep KK4 (ninS ne_b1_b3 nin0)
  have FF2q4_4 := (FF2q4_3).keep KK4 (ninS ne_b1_b3 nin0)
  have FF2q5_4 := (FF2q5_3).keep KK4 (ninS ne_b1_b3 nin0)
  have FF2q6_4 := (FF2q6_3).keep KK4 (ninS ne_b1_b3 nin0)
  have FF2q7_4 := (FF2q7_3).keep KK4 (ninS ne_b1_b3 nin0)
  have FF2q8_4 := (FF2q8_3).keep KK4 (ninS ne_b1_b3 nin0)
  have FF2q24_4 := (FF2q24_3).keep KK4 (ninS ne_b1_2_b3 nin0)
  have FF2q25_4 := (FF2q25_3).keep KK4 (ninS ne_b2_2_b3 nin0)
  have FF2q26_4 := (FF2q26_3).keep KK4 (ninS ne_b3_2_b3 nin0)
  have FF2q27_4 := (FF2q27_3).keep KK4 (ninS ne_b4_2_b3 nin0)
  have FF2q28_4 := (FF2q28_3).keep KK4 (ninS ne_b5_2_b3 nin0)
  have FF2q29_4 := (FF2q29_3).keep KK4
  have FF2q30_4 := (FF2q30_3).keep KK4
  have A3_4 := (A3).keep KK4
  have ne_b1_b1_4 : b1 ≠ b1_4 := Nat.ne_of_lt (Nat.lt_of_lt_of_le (A1_3).lt FF4q9)
  have ne_b1_2_b1_4 : b1_2 ≠ b1_4 := Nat.ne_of_lt (Nat.lt_of_lt_of_le (FF2q24_3).lt FF4q9)
  have ne_b2_2_b1_4 : b2_2 ≠ b1_4 := Nat.ne_of_lt (Nat.lt_of_lt_of_le (FF2q25_3).lt FF4q9)
  have ne_b3_2_b1_4 : b3_2 ≠ b1_4 := Nat.ne_of_lt (Nat.lt_of_lt_of_le (FF2q26_3).lt FF4q9)
  have ne_b4_2_b1_4 : b4_2 ≠ b1_4 := Nat.ne_of_lt (Nat.lt_of_lt_of_le (FF2q27_3).lt FF4q9)
  have ne_b5_2_b1_4 : b5_2 ≠ b1_4 := Nat.ne_of_lt (Nat.lt_of_lt_of_le (FF2q28_3).lt FF4q9)
  have ne_b3_b1_4 : b3 ≠ b1_4 := Nat.ne_of_lt (Nat.lt_of_lt_of_le (A3).lt FF4q9)
  have g_b1_4 : n0 ≤ b1_4 := Nat.le_trans Z3 FF4q9
  have ne_b1_b2_4 : b1 ≠ b2_4 := Nat.ne_of_lt (Nat.lt_of_lt_of_le (A1_3).lt FF4q10)
  have ne_b1_2_b2_4 : b1_2 ≠ b2_4 := Nat.ne_of_lt (Nat.lt_of_lt_of_le (FF2q24_3).lt FF4q10)
  have ne_b2_2_b2_4 : b2_2 ≠ b2_4 := Nat.ne_of_lt (Nat.lt_of_lt_of_le (FF2q25_3).lt FF4q10)
  have ne_b3_2_b2_4 : b3_2 ≠ b2_4 := Nat.ne_of_lt (Nat.lt_of_lt_of_le (FF2q26_3).lt FF4q10)
  have ne_b4_2_b2_4 : b4_2 ≠ b2_4 := Nat.ne_of_lt (Nat.lt_of_lt_of_le (FF2q27_3).lt FF4q10)
  have ne_b5_2_b2_4 : b5_2 ≠ b2_4 := Nat.ne_of_lt (Nat.lt_of_lt_of_le (FF2q28_3).lt FF4q10)
  have ne_b3_b2_4 : b3 ≠ b2_4 := Nat.ne_of_lt (Nat.lt_of_lt_of_le (A3).lt FF4q10)
  have g_b2_4 : n0 ≤ b2_4 := Nat.le_trans Z3 FF4q10
  have ne_b1_b3_4 : b1 ≠ b3_4 := Nat.ne_of_lt (Nat.lt_of_lt_of_le (A1_3).lt FF4q11)
  have ne_b1_2_b3_4 : b1_2 ≠ b3_4 := Nat.ne_of_lt (Nat.lt_of_lt_of_le (FF2q24_3).lt FF4q11)
  have ne_b2_2_b3_4 : b2_2 ≠ b3_4 := Nat.ne_of_lt (Nat.lt_of_lt_of_le (FF2q25_3).lt FF4q11)
  have ne_b3_2_b3_4 : b3_2 ≠ b3_4 := Nat.ne_of_lt (Nat.lt_of_lt_of_le (FF2q26_3).lt FF4q11)
  have ne_b4_2_b3_4 : b4_2 ≠ b3_4 := Nat.ne_of_lt (Nat.lt_of_lt_of_le (FF2q27_3).lt FF4q11)
  have ne_b5_2_b3_4 : b5_2 ≠ b3_4 := Nat.ne_of_lt (Nat.lt_of_lt_of_le (FF2q28_3).lt FF4q11)
  have ne_b3_b3_4 : b3 ≠ b3_4 := Nat.ne_of_lt (Nat.lt_of_lt_of_le (A3).lt FF4q11)
  have g_b3_4 : n0 ≤ b3_4 := Nat.le_trans Z3 FF4q11
  have ne_b1_b4_4 : b1 ≠ b4_4 := Nat.ne_of_lt (Nat.lt_of_lt_of_le (A1_3).lt FF4q12)
  have ne_b1_2_b4_4 : b1_2 ≠ b4_4 := Nat.ne_of_lt (Nat.lt_of_lt_of_le (FF2q24_3).lt FF4q12)
  have ne_b2_2_b4_4 : b2_2 ≠ b4_4 := Nat.ne_of_lt (Nat.lt_of_lt_of_le (FF2q25_3).lt FF4q12)
  have ne_b3_2_b4_4 : b3_2 ≠ b4_4 := Nat.ne_of_lt (Nat.lt_of_lt_of_le (FF2q26_3).lt FF4q12)
  have ne_b4_2_b4_4 : b4_2 ≠ b4_4 := Nat.ne_of_lt (Nat.lt_of_lt_of_le (FF2q27_3).lt FF4q12)
  have ne_b5_2_b4_4 : b5_2 ≠ b4_4 := Nat.ne_of_lt (Nat.lt_of_lt_of_le (FF2q28_3).lt FF4q12)
  have ne_b3_b4_4 : b3 ≠ b4_4 := Nat.ne_of_lt (Nat.lt_of_lt_of_le (A3).lt FF4q12)
  have g_b4_4 : n0 ≤ b4_4 := Nat.le_trans Z3 FF4q12
  have ne_b1_b5_4 : b1 ≠ b5_4 := Nat.ne_of_lt (Nat.lt_of_lt_of_le (A1_3).lt FF4q13)
  have ne_b1_2_b5_4 : b1_2 ≠ b5_4 := Nat.ne_of_lt (Nat.lt_of_lt_of_le (FF2q24_3).lt FF4q13)
  have ne_b2_2_b5_4 : b2_2 ≠ b5_4 := Nat.ne_of_lt (Nat.lt_of_lt_of_le (FF2q25_3).lt FF4q13)
  have ne_b3_2_b5_4 : b3_2 ≠ b5_4 := Nat.ne_of_lt (Nat.lt_of_lt_of_le (FF2q26_3).lt FF4q13)
  have ne_b4_2_b5_4 : b4_2 ≠ b5_4 := Nat.ne_of_lt (Nat.lt_of_lt_of_le (FF2q27_3).lt FF4q13)
  have ne_b5_2_b5_4 : b5_2 ≠ b5_4 := Nat.ne_of_lt (Nat.lt_of_lt_of_le (FF2q28_3).lt FF4q13)
  have ne_b3_b5_4 : b3 ≠ b5_4 := Nat.ne_of_lt (Nat.lt_of_lt_of_le (A3).lt FF4q13)
  have g_b5_4 : n0 ≤ b5_4 := Nat.le_trans Z3 FF4q13
  refine own_astore X4 at_38 (pc' := 40) rfl rfl (l' := #[.val (.int p1), .val (.int p2), .val (.long q3), .second, .val (.long q4), .second, .val (.long q5), .second, .val (.long q6), .second, .val (.int v4), .val (.int v12), .val (.int v18), .val (.ref b1), .val (.ref b3), .unset, .unset]) rfl ?_
  refine own_aload X4 at_40 (pc' := 42) rfl rfl rfl ?_
  refine own_iload X4 at_42 (pc' := 44) rfl rfl ?_
  refine own_callV (a := b1) (argsL := [(.int v4)]) X4 at_44 (y := (⟨"com/example/evenkeel/evenkeel/shuffle/ShuffleStats", "read", "(I)V"⟩ : MethodName)) (by decide) (hw _ (List.mem_of_getElem? (i := 20) rfl)) (hw _ (List.mem_of_getElem? (i := 21) rfl)) (hw _ (List.mem_of_getElem? (i := 23) rfl)) (hw _ (List.mem_of_getElem? (i := 22) rfl)) (hw _ (List.mem_of_getElem? (i := 24) rfl)) (hw _ (List.mem_of_getElem? (i := 2) rfl)) A1_4 (own_rm3 l Z a0 hw b1 b1_2 ((List.replicate 128 (0 : Int64))) v4 h4 n0 Z4 FF2q0_4 FF2q24_4 g_b1_2 (by rw [hv4]; exact (own_tag _).1) (by rw [hv4]; simpa using (own_tag _).2)) own_pd0 rfl (S := []) rfl (pc' := 47) rfl rfl (W := 0) (Nat.le_of_eq rfl) (by decide) (by decide) (by decide) (by decide) ?_
  intro T5 h5 v5_ X5 q5_
  obtain ⟨rfl, KK5, FF5q0⟩ := q5_
  show OwnGo p e below (T5.setTop (mkF m 47 #[.val (.int p1), .val (.int p2), .val (.long q3), .second, .val (.long q4), .second, .val (.long q5), .second, .val (.long q6), .second, .val (.int v4), .val (.int v12), .val (.int v18), .val (.ref b1), .val (.ref b3), .unset, .unset] [])) RR
  have Z5 : n0 ≤ h5.size := Nat.le_trans Z4 KK5.1
  have A1_5 := (A1_4).keep KK5
  have FF2q0_5 := (FF2q0_4).keep KK5 (ninS ne_b1_b1_2 nin0)
  have FF2q1_5 := (FF2q1_4).keep KK5 (ninS ne_b1_b1_2 nin0)
  have FF2q2_5 := (FF2q2_4).keep KK5 (ninS ne_b1_b1_2 nin0)
  have FF2q3_5 := (FF2q3_4).keep KK5 (ninS ne_b1_b1_2 nin0)
  have FF2q4_5 := (FF2q4_4).keep KK5 (ninS ne_b1_b1_2 nin0)
  have FF2q5_5 := (FF2q5_4).keep KK5 (ninS ne_b1_b1_2 nin0)
  have FF2q6_5 := (FF2q6_4).keep KK5 (ninS ne_b1_b1_2 nin0)
  have FF2q7_5 := (FF2q7_4).keep KK5 (ninS ne_b1_b1_2 nin0)
  have FF2q8_5 := (FF2q8_4).keep KK5 (ninS ne_b1_b1_2 nin0)
  have FF2q25_5 := (FF2q25_4).keep KK5 (ninS FF2q14.symm nin0)
  have FF2q26_5 := (FF2q26_4).keep KK5 (ninS FF2q15.symm nin0)
  have FF2q27_5 := (FF2q27_4).keep KK5 (ninS FF2q16.symm nin0)
  have FF2q28_5 := (FF2q28_4).keep KK5 (ninS FF2q17.symm nin0)
  have FF2q29_5 := (FF2q29_4).keep KK5
  have FF2q30_5 := (FF2q30_4).keep KK5
  have A3_5 := (A3_4).keep KK5
  have FF4q0_5 := (FF4q0).keep KK5 (ninS ne_b1_2_b3.symm nin0)
  have FF4q1_5 := (FF4q1).keep KK5 (ninS ne_b1_2_b3.symm nin0)
  have FF4q2_5 := (FF4q2).keep KK5 (ninS ne_b1_2_b3.symm nin0)
  have FF4q3_5 := (FF4q3).keep KK5 (ninS ne_b1_2_b3.symm nin0)
  have FF4q4_5 := (FF4q4).keep KK5 (ninS ne_b1_2_b3.symm nin0)
  have FF4q5_5 := (FF4q5).keep KK5 (ninS ne_b1_2_b3.symm nin0)
  have FF4q6_5 := (FF4q6).keep KK5 (ninS ne_b1_2_b3.symm nin0)
  have FF4q7_5 := (FF4q7).keep KK5 (ninS ne_b1_2_b3.symm nin0)
  have FF4q8_5 := (FF4q8).keep KK5 (ninS ne_b1_2_b3.symm nin0)
  have FF4q24_5 := (FF4q24).keep KK5 (ninS ne_b1_2_b1_4.symm nin0)
  have FF4q25_5 := (FF4q25).keep KK5 (ninS ne_b1_2_b2_4.symm nin0)
  have FF4q26_5 := (FF4q26).keep KK5 (ninS ne_b1_2_b3_4.symm nin0)
  have FF4q27_5 := (FF4q27).keep KK5 (ninS ne_b1_2_b4_4.symm nin0)
  have FF4q28_5 := (FF4q28).keep KK5 (ninS ne_b1_2_b5_4.symm nin0)
  have FF4q29_5 := (FF4q29).keep KK5
  have FF4q30_5 := (FF4q30).keep KK5
  refine own_aload X5 at_47 (pc' := 49) rfl rfl rfl ?_
  refine own_iload X5 at_49 (pc' := 51) rfl rfl ?_
  refine own_callV (a := b1) (argsL := [(.int v4)]) X5 at_51 (y := (⟨"com/example/evenkeel/evenkeel/shuffle/ShuffleStats", "unrouted", "(I)V"⟩ : MethodName)) (by decide) (hw _ (List.mem_of_getElem? (i := 25) rfl)) (hw _ (List.mem_of_getElem? (i := 26) rfl)) (hw _ (List.mem_of_getElem? (i := 28) rfl)) (hw _ (List.mem_of_getElem? (i := 27) rfl)) (hw _ (List.mem_of_getElem? (i := 29) rfl)) (hw _ (List.mem_of_getElem? (i := 2) rfl)) A1_5 (own_rm4 l Z a0 hw b1 b2_2 ((List.replicate 128 (0 : Int64))) v4 h5 n0 Z5 FF2q1_5 FF2q25_5 g_b2_2 (by rw [hv4]; exact (own_tag _).1) (by rw [hv4]; simpa using (own_tag _).2)) own_pd0 rfl (S := []) rfl (pc' := 54) rfl rfl (W := 0) (Nat.le_of_eq rfl) (by decide) (by decide) (by decide) (by decide) ?_
  intro T6 h6 v6_ X6 q6_
  obtain ⟨rfl, KK6, FF6q0⟩ := q6_
  show OwnGo p e below (T6.setTop (mkF m 54 #[.val (.int p1), .val (.int p2), .val (.long q3), .second, .val (.long q4), .second, .val (.long q5), .second, .val (.long q6), .second, .val (.int v4), .val (.int v12), .val (.int v18), .val (.ref b1), .val (.ref b3), .unset, .unset] [])) RR
  have Z6 : n0 ≤ h6.size := Nat.le_trans Z5 KK6.1
  have A1_6 := (A1_5).keep KK6
  have FF2q0_6 := (FF2q0_5).keep KK6 (ninS ne_b1_b2_2 nin0)
  have FF2q1_6 := (FF2q1_5).keep KK6 (ninS ne_b1_b2_2 nin0)
  have FF2q2_6 := (FF2q2_5).keep KK6 (ninS ne_b1_b2_2 nin0)
  have FF2q3_6 := (FF2q3_5).keep KK6 (ninS ne_b1_b2_2 nin0)
  have FF2q4_6 := (FF2q4_5).keep KK6 (ninS ne_b1_b2_2 nin0)
  have FF2q5_6 := (FF2q5_5).keep KK6 (ninS ne_b1_b2_2 nin0)
  have FF2q6_6 := (FF2q6_5).keep KK6 (ninS ne_b1_b2_2 nin0)
  have FF2q7_6 := (FF2q7_5).keep KK6 (ninS ne_b1_b2_2 nin0)
  have FF2q8_6 := (FF2q8_5).keep KK6 (ninS ne_b1_b2_2 nin0)
  have FF2q26_6 := (FF2q26_5).keep KK6 (ninS FF2q18.symm nin0)
  have FF2q27_6 := (FF2q27_5).keep KK6 (ninS FF2q19.symm nin0)
  have FF2q28_6 := (FF2q28_5).keep KK6 (ninS FF2q20.symm nin0)
  have FF2q29_6 := (FF2q29_5).keep KK6
  have FF2q30_6 := (FF2q30_5).keep KK6
  have A3_6 := (A3_5).keep KK6
  have FF4q0_6 := (FF4q0_5).keep KK6 (ninS ne_b2_2_b3.symm nin0)
  have FF4q1_6 := (FF4q1_5).keep KK6 (ninS ne_b2_2_b3.symm nin0)
  have FF4q2_6 := (FF4q2_5).keep KK6 (ninS ne_b2_2_b3.symm nin0)
  have FF4q3_6 := (FF4q3_5).keep KK6 (ninS ne_b2_2_b3.symm nin0)
  have FF4q4_6 := (FF4q4_5).keep KK6 (ninS ne_b2_2_b3.symm nin0)
  have FF4q5_6 := (FF4q5_5).keep KK6 (ninS ne_b2_2_b3.symm nin0)
  have FF4q6_6 := (FF4q6_5).keep KK6 (ninS ne_b2_2_b3.symm nin0)
  have FF4q7_6 := (FF4q7_5).keep KK6 (ninS ne_b2_2_b3.symm nin0)
  have FF4q8_6 := (FF4q8_5).keep KK6 (ninS ne_b2_2_b3.symm nin0)
  have FF4q24_6 := (FF4q24_5).keep KK6 (ninS ne_b2_2_b1_4.symm nin0)
  have FF4q25_6 := (FF4q25_5).keep KK6 (ninS ne_b2_2_b2_4.symm nin0)
  have FF4q26_6 := (FF4q26_5).keep KK6 (ninS ne_b2_2_b3_4.symm nin0)
  have FF4q27_6 := (FF4q27_5).keep KK6 (ninS ne_b2_2_b4_4.symm nin0)
  have FF4q28_6 := (FF4q28_5).keep KK6 (ninS ne_b2_2_b5_4.symm nin0)
  have FF4q29_6 := (FF4q29_5).keep KK6
  have FF4q30_6 := (FF4q30_5).keep KK6
  have FF5q0_6 := (FF5q0).keep KK6 (ninS FF2q14 nin0)
  refine own_aload X6 at_54 (pc' := 56) rfl rfl rfl ?_
  refine own_iload X6 at_56 (pc' := 58) rfl rfl ?_
  refine own_iloadN X6 at_58 (pc' := 59) rfl rfl ?_
  refine own_callV (a := b1) (argsL := [(.int v4), (.int p2)]) X6 at_59 (y := (⟨"com/example/evenkeel/evenkeel/shuffle/ShuffleStats", "copied", "(II)V"⟩ : MethodName)) (by decide) (hw _ (List.mem_of_getElem? (i := 30) rfl)) (hw _ (List.mem_of_getElem? (i := 31) rfl)) (hw _ (List.mem_of_getElem? (i := 33) rfl)) (hw _ (List.mem_of_getElem? (i := 32) rfl)) (hw _ (List.mem_of_getElem? (i := 34) rfl)) (hw _ (List.mem_of_getElem? (i := 2) rfl)) A1_6 (own_rm5 l Z a0 hw b1 b3_2 ((List.replicate 128 (0 : Int64))) v4 p2 h6 n0 Z6 FF2q2_6 FF2q26_6 g_b3_2 (by rw [hv4]; exact (own_tag _).1) (by rw [hv4]; simpa using (own_tag _).2)) own_pd1 rfl (S := []) rfl (pc' := 62) rfl rfl (W := 0) (Nat.le_of_eq rfl) (by decide) (by decide) (by decide) (by decide) ?_
  intro T7 h7 v7_ X7 q7_
  obtain ⟨rfl, KK7, FF7q0⟩ := q7_
  show OwnGo p e below (T7.setTop (mkF m 62 #[.val (.int p1), .val (.int p2), .val (.long q3), .second, .val (.long q4), .second, .val (.long q5), .second, .val (.long q6), .second, .val (.int v4), .val (.int v12), .val (.int v18), .val (.ref b1), .val (.ref b3), .unset, .unset] [])) RR
  have Z7 : n0 ≤ h7.size := Nat.le_trans Z6 KK7.1
  have A1_7 := (A1_6).keep KK7
  have FF2q0_7 := (FF2q0_6).keep KK7 (ninS ne_b1_b3_2 nin0)
  have FF2q1_7 := (FF2q1_6).keep KK7 (ninS ne_b1_b3_2 nin0)
  have FF2q2_7 := (FF2q2_6).keep KK7 (ninS ne_b1_b3_2 nin0)
  have FF2q3_7 := (FF2q3_6).keep KK7 (ninS ne_b1_b3_2 nin0)
  have FF2q4_7 := (FF2q4_6).keep KK7 (ninS ne_b1_b3_2 nin0)
  have FF2q5_7 := (FF2q5_6).keep KK7 (ninS ne_b1_b3_2 nin0)
  have FF2q6_7 := (FF2q6_6).keep KK7 (ninS ne_b1_b3_2 nin0)
  have FF2q7_7 := (FF2q7_6).keep KK7 (ninS ne_b1_b3_2 nin0)
  have FF2q8_7 := (FF2q8_6).keep KK7 (ninS ne_b1_b3_2 nin0)
  have FF2q27_7 := (FF2q27_6).keep KK7 (ninS FF2q21.symm nin0)
  have FF2q28_7 := (FF2q28_6).keep KK7 (ninS FF2q22.symm nin0)
  have FF2q29_7 := (FF2q29_6).keep KK7
  have FF2q30_7 := (FF2q30_6).keep KK7
  have A3_7 := (A3_6).keep KK7
  have FF4q0_7 := (FF4q0_6).keep KK7 (ninS ne_b3_2_b3.symm nin0)
  have FF4q1_7 := (FF4q1_6).keep KK7 (ninS ne_b3_2_b3.symm nin0)
  have FF4q2_7 := (FF4q2_6).keep KK7 (ninS ne_b3_2_b3.symm nin0)
  have FF4q3_7 := (FF4q3_6).keep KK7 (ninS ne_b3_2_b3.symm nin0)
  have FF4q4_7 := (FF4q4_6).keep KK7 (ninS ne_b3_2_b3.symm nin0)
  have FF4q5_7 := (FF4q5_6).keep KK7 (ninS ne_b3_2_b3.symm nin0)
  have FF4q6_7 := (FF4q6_6).keep KK7 (ninS ne_b3_2_b3.symm nin0)
  have FF4q7_7 := (FF4q7_6).keep KK7 (ninS ne_b3_2_b3.symm nin0)
  have FF4q8_7 := (FF4q8_6).keep KK7 (ninS ne_b3_2_b3.symm nin0)
  have FF4q24_7 := (FF4q24_6).keep KK7 (ninS ne_b3_2_b1_4.symm nin0)
  have FF4q25_7 := (FF4q25_6).keep KK7 (ninS ne_b3_2_b2_4.symm nin0)
  have FF4q26_7 := (FF4q26_6).keep KK7 (ninS ne_b3_2_b3_4.symm nin0)
  have FF4q27_7 := (FF4q27_6).keep KK7 (ninS ne_b3_2_b4_4.symm nin0)
  have FF4q28_7 := (FF4q28_6).keep KK7 (ninS ne_b3_2_b5_4.symm nin0)
  have FF4q29_7 := (FF4q29_6).keep KK7
  have FF4q30_7 := (FF4q30_6).keep KK7
  have FF5q0_7 := (FF5q0_6).keep KK7 (ninS FF2q15 nin0)
  have FF6q0_7 := (FF6q0).keep KK7 (ninS FF2q18 nin0)
  refine own_aload X7 at_62 (pc' := 64) rfl rfl rfl ?_
  refine own_iload X7 at_64 (pc' := 66) rfl rfl ?_
  refine own_lloadN X7 at_66 (pc' := 67) rfl rfl ?_
  refine own_callV (a := b1) (argsL := [(.int v12), (.long q3)]) X7 at_67 (y := (⟨"com/example/evenkeel/evenkeel/shuffle/ShuffleStats", "routed", "(IJ)V"⟩ : MethodName)) (by decide) (hw _ (List.mem_of_getElem? (i := 35) rfl)) (hw _ (List.mem_of_getElem? (i := 36) rfl)) (hw _ (List.mem_of_getElem? (i := 38) rfl)) (hw _ (List.mem_of_getElem? (i := 37) rfl)) (hw _ (List.mem_of_getElem? (i := 39) rfl)) (hw _ (List.mem_of_getElem? (i := 2) rfl)) A1_7 (own_rm6 l Z a0 hw b1 b4_2 b5_2 ((List.replicate 2 (0 : Int64))) ((List.replicate 2 (0 : Int64))) v12 q3 h7 n0 Z7 FF2q3_7 FF2q4_7 FF2q27_7 FF2q28_7 g_b4_2 g_b5_2 FF2q23 ne_b1_b4_2 ne_b1_b5_2 (own_par2 hpp).1 (by simpa using (own_par2 hpp).2.1) (by simpa using (own_par2 hpp).2.1)) own_pd2 rfl (S := []) rfl (pc' := 70) rfl rfl (W := 0) (Nat.le_of_eq rfl) (by decide) (by decide) (by decide) (by decide) ?_
  intro T8 h8 v8_ X8 q8_
  obtain ⟨rfl, KK8, FF8q0, FF8q1⟩ := q8_
  show OwnGo p e below (T8.setTop (mkF m 70 #[.val (.int p1), .val (.int p2), .val (.long q3), .second, .val (.long q4), .second, .val (.long q5), .second, .val (.long q6), .second, .val (.int v4), .val (.int v12), .val (.int v18), .val (.ref b1), .val (.ref b3), .unset, .unset] [])) RR
  have Z8 : n0 ≤ h8.size := Nat.le_trans Z7 KK8.1
  have A1_8 := (A1_7).keep KK8
  have FF2q0_8 := (FF2q0_7).keep KK8 (ninS ne_b1_b4_2 (ninS ne_b1_b5_2 nin0))
  have FF2q1_8 := (FF2q1_7).keep KK8 (ninS ne_b1_b4_2 (ninS ne_b1_b5_2 nin0))
  have FF2q2_8 := (FF2q2_7).keep KK8 (ninS ne_b1_b4_2 (ninS ne_b1_b5_2 nin0))
  have FF2q3_8 := (FF2q3_7).keep KK8 (ninS ne_b1_b4_2 (ninS ne_b1_b5_2 nin0))
  have FF2q4_8 := (FF2q4_7).keep KK8 (ninS ne_b1_b4_2 (ninS ne_b1_b5_2 nin0))
  have FF2q5_8 := (FF2q5_7).keep KK8 (ninS ne_b1_b4_2 (ninS ne_b1_b5_2 nin0))
  have FF2q6_8 := (FF2q6_7).keep KK8 (ninS ne_b1_b4_2 (ninS ne_b1_b5_2 nin0))
  have FF2q7_8 := (FF2q7_7).keep KK8 (ninS ne_b1_b4_2 (ninS ne_b1_b5_2 nin0))
  have FF2q8_8 := (FF2q8_7).keep KK8 (ninS ne_b1_b4_2 (ninS ne_b1_b5_2 nin0))
  have FF2q29_8 := (FF2q29_7).keep KK8
  have FF2q30_8 := (FF2q30_7).keep KK8
  have A3_8 := (A3_7).keep KK8
  have FF4q0_8 := (FF4q0_7).keep KK8 (ninS ne_b4_2_b3.symm (ninS ne_b5_2_b3.symm nin0))
  have FF4q1_8 := (FF4q1_7).keep KK8 (ninS ne_b4_2_b3.symm (ninS ne_b5_2_b3.symm nin0))
  have FF4q2_8 := (FF4q2_7).keep KK8 (ninS ne_b4_2_b3.symm (ninS ne_b5_2_b3.symm nin0))
  have FF4q3_8 := (FF4q3_7).keep KK8 (ninS ne_b4_2_b3.symm (ninS ne_b5_2_b3.symm nin0))
  have FF4q4_8 := (FF4q4_7).keep KK8 (ninS ne_b4_2_b3.symm (ninS ne_b5_2_b3.symm nin0))
  have FF4q5_8 := (FF4q5_7).keep KK8 (ninS ne_b4_2_b3.symm (ninS ne_b5_2_b3.symm nin0))
  have FF4q6_8 := (FF4q6_7).keep KK8 (ninS ne_b4_2_b3.symm (ninS ne_b5_2_b3.symm nin0))
  have FF4q7_8 := (FF4q7_7).keep KK8 (ninS ne_b4_2_b3.symm (ninS ne_b5_2_b3.symm nin0))
  have FF4q8_8 := (FF4q8_7).keep KK8 (ninS ne_b4_2_b3.symm (ninS ne_b5_2_b3.symm nin0))
  have FF4q24_8 := (FF4q24_7).keep KK8 (ninS ne_b4_2_b1_4.symm (ninS ne_b5_2_b1_4.symm nin0))
  have FF4q25_8 := (FF4q25_7).keep KK8 (ninS ne_b4_2_b2_4.symm (ninS ne_b5_2_b2_4.symm nin0))
  have FF4q26_8 := (FF4q26_7).keep KK8 (ninS ne_b4_2_b3_4.symm (ninS ne_b5_2_b3_4.symm nin0))
  have FF4q27_8 := (FF4q27_7).keep KK8 (ninS ne_b4_2_b4_4.symm (ninS ne_b5_2_b4_4.symm nin0))
  have FF4q28_8 := (FF4q28_7).keep KK8 (ninS ne_b4_2_b5_4.symm (ninS ne_b5_2_b5_4.symm nin0))
  have FF4q29_8 := (FF4q29_7).keep KK8
  have FF4q30_8 := (FF4q30_7).keep KK8
  have FF5q0_8 := (FF5q0_7).keep KK8 (ninS FF2q16 (ninS FF2q17 nin0))
  have FF6q0_8 := (FF6q0_7).keep KK8 (ninS FF2q19 (ninS FF2q20 nin0))
  have FF7q0_8 := (FF7q0).keep KK8 (ninS FF2q21 (ninS FF2q22 nin0))
  refine own_aload X8 at_70 (pc' := 72) rfl rfl rfl ?_
  refine own_lload X8 at_72 (pc' := 74) rfl rfl ?_
  refine own_callV (a := b1) (argsL := [(.long q5)]) X8 at_74 (y := (⟨"com/example/evenkeel/evenkeel/shuffle/ShuffleStats", "buffered", "(J)V"⟩ : MethodName)) (by decide) (hw _ (List.mem_of_getElem? (i := 40) rfl)) (hw _ (List.mem_of_getElem? (i := 41) rfl)) (hw _ (List.mem_of_getElem? (i := 43) rfl)) (hw _ (List.mem_of_getElem? (i := 42) rfl)) (hw _ (List.mem_of_getElem? (i := 44) rfl)) (hw _ (List.mem_of_getElem? (i := 2) rfl)) A1_8 (own_rm7 l Z a0 hw b1 b1_2 b2_2 b3_2 b4_2 b5_2 (0 : Int64) (0 : Int64) (0 : Int64) (0 : Int64) q5 h8 n0 Z8 A1_8 g_b1 FF2q0_8 FF2q1_8 FF2q2_8 FF2q3_8 FF2q4_8 FF2q5_8 FF2q6_8 FF2q7_8 FF2q8_8) own_pd3 rfl (S := []) rfl (pc' := 77) rfl rfl (W := 0) (Nat.le_of_eq rfl) (by decide) (by decide) (by decide) (by decide) ?_
  intro T9 h9 v9_ X9 q9_
  obtain ⟨rfl, KK9, FF9q0, FF9q1, FF9q2, FF9q3, FF9q4, FF9q5, FF9q6, FF9q7, FF9q8⟩ := q9_
  show OwnGo p e below (T9.setTop (mkF m 77 #[.val (.int p1), .val (.int p2), .val (.long q3), .second, .val (.long q4), .second, .val (.long q5), .second, .val (.long q6), .second, .val (.int v4), .val (.int v12), .val (.int v18), .val (.ref b1), .val (.ref b3), .unset, .unset] [])) RR
  have Z9 : n0 ≤ h9.size := Nat.le_trans Z8 KK9.1
  have A1_9 := (A1_8).keep KK9
  have FF2q29_9 := (FF2q29_8).keep KK9
  have FF2q30_9 := (FF2q30_8).keep KK9
  have A3_9 := (A3_8).keep KK9
  have FF4q0_9 := (FF4q0_8).keep KK9 (ninS ne_b1_b3.symm nin0)
  have FF4q1_9 := (FF4q1_8).keep KK9 (ninS ne_b1_b3.symm nin0)
  have FF4q2_9 := (FF4q2_8).keep KK9 (ninS ne_b1_b3.symm nin0)
  have FF4q3_9 := (FF4q3_8).keep KK9 (ninS ne_b1_b3.symm nin0)
  have FF4q4_9 := (FF4q4_8).keep KK9 (ninS ne_b1_b3.symm nin0)
  have FF4q5_9 := (FF4q5_8).keep KK9 (ninS ne_b1_b3.symm nin0)
  have FF4q6_9 := (FF4q6_8).keep KK9 (ninS ne_b1_b3.symm nin0)
  have FF4q7_9 := (FF4q7_8).keep KK9 (ninS ne_b1_b3.symm nin0)
  have FF4q8_9 := (FF4q8_8).keep KK9 (ninS ne_b1_b3.symm nin0)
  have FF4q24_9 := (FF4q24_8).keep KK9 (ninS ne_b1_b1_4.symm nin0)
  have FF4q25_9 := (FF4q25_8).keep KK9 (ninS ne_b1_b2_4.symm nin0)
  have FF4q26_9 := (FF4q26_8).keep KK9 (ninS ne_b1_b3_4.symm nin0)
  have FF4q27_9 := (FF4q27_8).keep KK9 (ninS ne_b1_b4_4.symm nin0)
  have FF4q28_9 := (FF4q28_8).keep KK9 (ninS ne_b1_b5_4.symm nin0)
  have FF4q29_9 := (FF4q29_8).keep KK9
  have FF4q30_9 := (FF4q30_8).keep KK9
  have FF5q0_9 := (FF5q0_8).keep KK9 (ninS ne_b1_b1_2.symm nin0)
  have FF6q0_9 := (FF6q0_8).keep KK9 (ninS ne_b1_b2_2.symm nin0)
  have FF7q0_9 := (FF7q0_8).keep KK9 (ninS ne_b1_b3_2.symm nin0)
  have FF8q0_9 := (FF8q0).keep KK9 (ninS ne_b1_b4_2.symm nin0)
  have FF8q1_9 := (FF8q1).keep KK9 (ninS ne_b1_b5_2.symm nin0)
  refine own_aload X9 at_77 (pc' := 79) rfl rfl rfl ?_
  refine own_lload X9 at_79 (pc' := 81) rfl rfl ?_
  refine own_lloadN X9 at_81 (pc' := 82) rfl rfl ?_
  refine own_callV (a := b1) (argsL := [(.long q6), (.long q3)]) X9 at_82 (y := (⟨"com/example/evenkeel/evenkeel/shuffle/ShuffleStats", "hotKeys", "(JJ)V"⟩ : MethodName)) (by decide) (hw _ (List.mem_of_getElem? (i := 47) rfl)) (hw _ (List.mem_of_getElem? (i := 48) rfl)) (hw _ (List.mem_of_getElem? (i := 50) rfl)) (hw _ (List.mem_of_getElem? (i := 49) rfl)) (hw _ (List.mem_of_getElem? (i := 51) rfl)) (hw _ (List.mem_of_getElem? (i := 2) rfl)) A1_9 (own_rm8 l Z a0 hw b1 b1_2 b2_2 b3_2 b4_2 b5_2 (((0 : Int64) + q5)) (0 : Int64) (0 : Int64) (0 : Int64) q6 q3 h9 n0 Z9 A1_9 g_b1 FF9q0 FF9q1 FF9q2 FF9q3 FF9q4 FF9q5 FF9q6 FF9q7 FF9q8) own_pd4 rfl (S := []) rfl (pc' := 85) rfl rfl (W := 0) (Nat.le_of_eq rfl) (by decide) (by decide) (by decide) (by decide) ?_
  intro T10 h10 v10_ X10 q10_
  obtain ⟨rfl, KK10, FF10q0, FF10q1, FF10q2, FF10q3, FF10q4, FF10q5, FF10q6, FF10q7, FF10q8⟩ := q10_
  show OwnGo p e below (T10.setTop (mkF m 85 #[.val (.int p1), .val (.int p2), .val (.long q3), .second, .val (.long q4), .second, .val (.long q5), .second, .val (.long q6), .second, .val (.int v4), .val (.int v12), .val (.int v18), .val (.ref b1), .val (.ref b3), .unset, .unset] [])) RR
  have Z10 : n0 ≤ h10.size := Nat.le_trans Z9 KK10.1
  have A1_10 := (A1_9).keep KK10
  have FF2q29_10 := (FF2q29_9).keep KK10
  have FF2q30_10 := (FF2q30_9).keep KK10
  have A3_10 := (A3_9).keep KK10
  have FF4q0_10 := (FF4q0_9).keep KK10 (ninS ne_b1_b3.symm nin0)
  have FF4q1_10 := (FF4q1_9).keep KK10 (ninS ne_b1_b3.symm nin0)
  have FF4q2_10 := (FF4q2_9).keep KK10 (ninS ne_b1_b3.symm nin0)
  have FF4q3_10 := (FF4q3_9).keep KK10 (ninS ne_b1_b3.symm nin0)
  have FF4q4_10 := (FF4q4_9).keep KK10 (ninS ne_b1_b3.symm nin0)
  have FF4q5_10 := (FF4q5_9).keep KK10 (ninS ne_b1_b3.symm nin0)
  have FF4q6_10 := (FF4q6_9).keep KK10 (ninS ne_b1_b3.symm nin0)
  have FF4q7_10 := (FF4q7_9).keep KK10 (ninS ne_b1_b3.symm nin0)
  have FF4q8_10 := (FF4q8_9).keep KK10 (ninS ne_b1_b3.symm nin0)
  have FF4q24_10 := (FF4q24_9).keep KK10 (ninS ne_b1_b1_4.symm nin0)
  have FF4q25_10 := (FF4q25_9).keep KK10 (ninS ne_b1_b2_4.symm nin0)
  have FF4q26_10 := (FF4q26_9).keep KK10 (ninS ne_b1_b3_4.symm nin0)
  have FF4q27_10 := (FF4q27_9).keep KK10 (ninS ne_b1_b4_4.symm nin0)
  have FF4q28_10 := (FF4q28_9).keep KK10 (ninS ne_b1_b5_4.symm nin0)
  have FF4q29_10 := (FF4q29_9).keep KK10
  have FF4q30_10 := (FF4q30_9).keep KK10
  have FF5q0_10 := (FF5q0_9).keep KK10 (ninS ne_b1_b1_2.symm nin0)
  have FF6q0_10 := (FF6q0_9).keep KK10 (ninS ne_b1_b2_2.symm nin0)
  have FF7q0_10 := (FF7q0_9).keep KK10 (ninS ne_b1_b3_2.symm nin0)
  have FF8q0_10 := (FF8q0_9).keep KK10 (ninS ne_b1_b4_2.symm nin0)
  have FF8q1_10 := (FF8q1_9).keep KK10 (ninS ne_b1_b5_2.symm nin0)
  refine own_aload X10 at_85 (pc' := 87) rfl rfl rfl ?_
  refine own_lload X10 at_87 (pc' := 89) rfl rfl ?_
  refine own_callV (a := b1) (argsL := [(.long q4)]) X10 at_89 (y := (⟨"com/example/evenkeel/evenkeel/shuffle/ShuffleStats", "shuffled", "(J)V"⟩ : MethodName)) (by decide) (hw _ (List.mem_of_getElem? (i := 56) rfl)) (hw _ (List.mem_of_getElem? (i := 57) rfl)) (hw _ (List.mem_of_getElem? (i := 59) rfl)) (hw _ (List.mem_of_getElem? (i := 58) rfl)) (hw _ (List.mem_of_getElem? (i := 60) rfl)) (hw _ (List.mem_of_getElem? (i := 2) rfl)) A1_10 (own_rm9 l Z a0 hw b1 b1_2 b2_2 b3_2 b4_2 b5_2 (((0 : Int64) + q5)) (((0 : Int64) + q6)) (((0 : Int64) + q3)) (0 : Int64) q4 h10 n0 Z10 A1_10 g_b1 FF10q0 FF10q1 FF10q2 FF10q3 FF10q4 FF10q5 FF10q6 FF10q7 FF10q8) own_pd3 rfl (S := []) rfl (pc' := 92) rfl rfl (W := 0) (Nat.le_of_eq rfl) (by decide) (by decide) (by decide) (by decide) ?_
  intro T11 h11 v11_ X11 q11_
  obtain ⟨rfl, KK11, FF11q0, FF11q1, FF11q2, FF11q3, FF11q4, FF11q5, FF11q6, FF11q7, FF11q8⟩ := q11_
  show OwnGo p e below (T11.setTop (mkF m 92 #[.val (.int p1), .val (.int p2), .val (.long q3), .second, .val (.long q4), .second, .val (.long q5), .second, .val (.long q6), .second, .val (.int v4), .val (.int v12), .val (.int v18), .val (.ref b1), .val (.ref b3), .unset, .unset] [])) RR
  have Z11 : n0 ≤ h11.size := Nat.le_trans Z10 KK11.1
  have A1_11 := (A1_10).keep KK11
  have FF2q29_11 := (FF2q29_10).keep KK11
  have FF2q30_11 := (FF2q30_10).keep KK11
  have A3_11 := (A3_10).keep KK11
  have FF4q0_11 := (FF4q0_10).keep KK11 (ninS ne_b1_b3.symm nin0)
  have FF4q1_11 := (FF4q1_10).keep KK11 (ninS ne_b1_b3.symm nin0)
  have FF4q2_11 := (FF4q2_10).keep KK11 (ninS ne_b1_b3.symm nin0)
  have FF4q3_11 := (FF4q3_10).keep KK11 (ninS ne_b1_b3.symm nin0)
  have FF4q4_11 := (FF4q4_10).keep KK11 (ninS ne_b1_b3.symm nin0)
  have FF4q5_11 := (FF4q5_10).keep KK11 (ninS ne_b1_b3.symm nin0)
  have FF4q6_11 := (FF4q6_10).keep KK11 (ninS ne_b1_b3.symm nin0)
  have FF4q7_11 := (FF4q7_10).keep KK11 (ninS ne_b1_b3.symm nin0)
  have FF4q8_11 := (FF4q8_10).keep KK11 (ninS ne_b1_b3.symm nin0)
  have FF4q24_11 := (FF4q24_10).keep KK11 (ninS ne_b1_b1_4.symm nin0)
  have FF4q25_11 := (FF4q25_10).keep KK11 (ninS ne_b1_b2_4.symm nin0)
  have FF4q26_11 := (FF4q26_10).keep KK11 (ninS ne_b1_b3_4.symm nin0)
  have FF4q27_11 := (FF4q27_10).keep KK11 (ninS ne_b1_b4_4.symm nin0)
  have FF4q28_11 := (FF4q28_10).keep KK11 (ninS ne_b1_b5_4.symm nin0)
  have FF4q29_11 := (FF4q29_10).keep KK11
  have FF4q30_11 := (FF4q30_10).keep KK11
  have FF5q0_11 := (FF5q0_10).keep KK11 (ninS ne_b1_b1_2.symm nin0)
  have FF6q0_11 := (FF6q0_10).keep KK11 (ninS ne_b1_b2_2.symm nin0)
  have FF7q0_11 := (FF7q0_10).keep KK11 (ninS ne_b1_b3_2.symm nin0)
  have FF8q0_11 := (FF8q0_10).keep KK11 (ninS ne_b1_b4_2.symm nin0)
  have FF8q1_11 := (FF8q1_10).keep KK11 (ninS ne_b1_b5_2.symm nin0)
  refine own_aload X11 at_92 (pc' := 94) rfl rfl rfl ?_
  refine own_iload X11 at_94 (pc' := 96) rfl rfl ?_
  refine own_callV (a := b3) (argsL := [(.int v4)]) X11 at_96 (y := (⟨"com/example/evenkeel/evenkeel/shuffle/ShuffleStats", "read", "(I)V"⟩ : MethodName)) (by decide) (hw _ (List.mem_of_getElem? (i := 20) rfl)) (hw _ (List.mem_of_getElem? (i := 21) rfl)) (hw _ (List.mem_of_getElem? (i := 23) rfl)) (hw _ (List.mem_of_getElem? (i := 22) rfl)) (hw _ (List.mem_of_getElem? (i := 24) rfl)) (hw _ (List.mem_of_getElem? (i := 2) rfl)) A3_11 (own_rm3 l Z a0 hw b3 b1_4 ((List.replicate 128 (0 : Int64))) v4 h11 n0 Z11 FF4q0_11 FF4q24_11 g_b1_4 (by rw [hv4]; exact (own_tag _).1) (by rw [hv4]; simpa using (own_tag _).2)) own_pd0 rfl (S := []) rfl (pc' := 99) rfl rfl (W := 0) (Nat.le_of_eq rfl) (by decide) (by decide) (by decide) (by decide) ?_
  intro T12 h12 v12_ X12 q12_
  obtain ⟨rfl, KK12, FF12q0⟩ := q12_
  show OwnGo p e below (T12.setTop (mkF m 99 #[.val (.int p1), .val (.int p2), .val (.long q3), .second, .val (.long q4), .second, .val (.long q5), .second, .val (.long q6), .second, .val (.int v4), .val (.int v12), .val (.int v18), .val (.ref b1), .val (.ref b3), .unset, .unset] [])) RR
  have Z12 : n0 ≤ h12.size := Nat.le_trans Z11 KK12.1
  have A1_12 := (A1_11).keep KK12
  have FF2q29_12 := (FF2q29_11).keep KK12
  have FF2q30_12 := (FF2q30_11).keep KK12
  have A3_12 := (A3_11).keep KK12
  have FF4q0_12 := (FF4q0_11).keep KK12 (ninS ne_b3_b1_4 nin0)
  have FF4q1_12 := (FF4q1_11).keep KK12 (ninS ne_b3_b1_4 nin0)
  have FF4q2_12 := (FF4q2_11).keep KK12 (ninS ne_b3_b1_4 nin0)
  have FF4q3_12 := (FF4q3_11).keep KK12 (ninS ne_b3_b1_4 nin0)
  have FF4q4_12 := (FF4q4_11).keep KK12 (ninS ne_b3_b1_4 nin0)
  have FF4q5_12 := (FF4q5_11).keep KK12 (ninS ne_b3_b1_4 nin0)
  have FF4q6_12 := (FF4q6_11).keep KK12 (ninS ne_b3_b1_4 nin0)
  have FF4q7_12 := (FF4q7_11).keep KK12 (ninS ne_b3_b1_4 nin0)
  have FF4q8_12 := (FF4q8_11).keep KK12 (ninS ne_b3_b1_4 nin0)
  have FF4q25_12 := (FF4q25_11).keep KK12 (ninS FF4q14.symm nin0)
  have FF4q26_12 := (FF4q26_11).keep KK12 (ninS FF4q15.symm nin0)
  have FF4q27_12 := (FF4q27_11).keep KK12 (ninS FF4q16.symm nin0)
  have FF4q28_12 := (FF4q28_11).keep KK12 (ninS FF4q17.symm nin0)
  have FF4q29_12 := (FF4q29_11).keep KK12
  have FF4q30_12 := (FF4q30_11).keep KK12
  have FF5q0_12 := (FF5q0_11).keep KK12 (ninS ne_b1_2_b1_4 nin0)
  have FF6q0_12 := (FF6q0_11).keep KK12 (ninS ne_b2_2_b1_4 nin0)
  have FF7q0_12 := (FF7q0_11).keep KK12 (ninS ne_b3_2_b1_4 nin0)
  have FF8q0_12 := (FF8q0_11).keep KK12 (ninS ne_b4_2_b1_4 nin0)
  have FF8q1_12 := (FF8q1_11).keep KK12 (ninS ne_b5_2_b1_4 nin0)
  have FF11q0_12 := (FF11q0).keep KK12 (ninS ne_b1_b1_4 nin0)
  have FF11q1_12 := (FF11q1).keep KK12 (ninS ne_b1_b1_4 nin0)
  have FF11q2_12 := (FF11q2).keep KK12 (ninS ne_b1_b1_4 nin0)
  have FF11q3_12 := (FF11q3).keep KK12 (ninS ne_b1_b1_4 nin0)
  have FF11q4_12 := (FF11q4).keep KK12 (ninS ne_b1_b1_4 nin0)
  have FF11q5_12 := (FF11q5).keep KK12 (ninS ne_b1_b1_4 nin0)
  have FF11q6_12 := (FF11q6).keep KK12 (ninS ne_b1_b1_4 nin0)
  have FF11q7_12 := (FF11q7).keep KK12 (ninS ne_b1_b1_4 nin0)
  have FF11q8_12 := (FF11q8).keep KK12 (ninS ne_b1_b1_4 nin0)
  refine own_aload X12 at_99 (pc' := 101) rfl rfl rfl ?_
  refine own_iload X12 at_101 (pc' := 103) rfl rfl ?_
  refine own_callV (a := b3) (argsL := [(.int v4)]) X12 at_103 (y := (⟨"com/example/evenkeel/evenkeel/shuffle/ShuffleStats", "read", "(I)V"⟩ : MethodName)) (by decide) (hw _ (List.mem_of_getElem? (i := 20) rfl)) (hw _ (List.mem_of_getElem? (i := 21) rfl)) (hw _ (List.mem_of_getElem? (i := 23) rfl)) (hw _ (List.mem_of_getElem? (i := 22) rfl)) (hw _ (List.mem_of_getElem? (i := 24) rfl)) (hw _ (List.mem_of_getElem? (i := 2) rfl)) A3_12 (own_rm3 l Z a0 hw b3 b1_4 (((List.replicate 128 (0 : Int64)).set (v4).toNatClampNeg (((List.replicate 128 (0 : Int64)).getD (v4).toNatClampNeg 0) + (1 : Int64)))) v4 h12 n0 Z12 FF4q0_12 FF12q0 g_b1_4 (by rw [hv4]; exact (own_tag _).1) (by rw [hv4]; simpa using (own_tag _).2)) own_pd0 rfl (S := []) rfl (pc' := 106) rfl rfl (W := 0) (Nat.le_of_eq rfl) (by decide) (by decide) (by decide) (by decide) ?_
  intro T13 h13 v13_ X13 q13_
  obtain ⟨rfl, KK13, FF13q0⟩ := q13_
  show OwnGo p e below (T13.setTop (mkF m 106 #[.val (.int p1), .val (.int p2), .val (.long q3), .second, .val (.long q4), .second, .val (.long q5), .second, .val (.long q6), .second, .val (.int v4), .val (.int v12), .val (.int v18), .val (.ref b1), .val (.ref b3), .unset, .unset] [])) RR
  have Z13 : n0 ≤ h13.size := Nat.le_trans Z12 KK13.1
  have A1_13 := (A1_12).keep KK13
  have FF2q29_13 := (FF2q29_12).keep KK13
  have FF2q30_13 := (FF2q30_12).keep KK13
  have A3_13 := (A3_12).keep KK13
  have FF4q0_13 := (FF4q0_12).keep KK13 (ninS ne_b3_b1_4 nin0)
  have FF4q1_13 := (FF4q1_12).keep KK13 (ninS ne_b3_b1_4 nin0)
  have FF4q2_13 := (FF4q2_12).keep KK13 (ninS ne_b3_b1_4 nin0)
  have FF4q3_13 := (FF4q3_12).keep KK13 (ninS ne_b3_b1_4 nin0)
  have FF4q4_13 := (FF4q4_12).keep KK13 (ninS ne_b3_b1_4 nin0)
  have FF4q5_13 := (FF4q5_12).keep KK13 (ninS ne_b3_b1_4 nin0)
  have FF4q6_13 := (FF4q6_12).keep KK13 (ninS ne_b3_b1_4 nin0)
  have FF4q7_13 := (FF4q7_12).keep KK13 (ninS ne_b3_b1_4 nin0)
  have FF4q8_13 := (FF4q8_12).keep KK13 (ninS ne_b3_b1_4 nin0)
  have FF4q25_13 := (FF4q25_12).keep KK13 (ninS FF4q14.symm nin0)
  have FF4q26_13 := (FF4q26_12).keep KK13 (ninS FF4q15.symm nin0)
  have FF4q27_13 := (FF4q27_12).keep KK13 (ninS FF4q16.symm nin0)
  have FF4q28_13 := (FF4q28_12).keep KK13 (ninS FF4q17.symm nin0)
  have FF4q29_13 := (FF4q29_12).keep KK13
  have FF4q30_13 := (FF4q30_12).keep KK13
  have FF5q0_13 := (FF5q0_12).keep KK13 (ninS ne_b1_2_b1_4 nin0)
  have FF6q0_13 := (FF6q0_12).keep KK13 (ninS ne_b2_2_b1_4 nin0)
  have FF7q0_13 := (FF7q0_12).keep KK13 (ninS ne_b3_2_b1_4 nin0)
  have FF8q0_13 := (FF8q0_12).keep KK13 (ninS ne_b4_2_b1_4 nin0)
  have FF8q1_13 := (FF8q1_12).keep KK13 (ninS ne_b5_2_b1_4 nin0)
  have FF11q0_13 := (FF11q0_12).keep KK13 (ninS ne_b1_b1_4 nin0)
  have FF11q1_13 := (FF11q1_12).keep KK13 (ninS ne_b1_b1_4 nin0)
  have FF11q2_13 := (FF11q2_12).keep KK13 (ninS ne_b1_b1_4 nin0)
  have FF11q3_13 := (FF11q3_12).keep KK13 (ninS ne_b1_b1_4 nin0)
  have FF11q4_13 := (FF11q4_12).keep KK13 (ninS ne_b1_b1_4 nin0)
  have FF11q5_13 := (FF11q5_12).keep KK13 (ninS ne_b1_b1_4 nin0)
  have FF11q6_13 := (FF11q6_12).keep KK13 (ninS ne_b1_b1_4 nin0)
  have FF11q7_13 := (FF11q7_12).keep KK13 (ninS ne_b1_b1_4 nin0)
  have FF11q8_13 := (FF11q8_12).keep KK13 (ninS ne_b1_b1_4 nin0)
  refine own_aload X13 at_106 (pc' := 108) rfl rfl rfl ?_
  refine own_iload X13 at_108 (pc' := 110) rfl rfl ?_
  refine own_callV (a := b3) (argsL := [(.int v4)]) X13 at_110 (y := (⟨"com/example/evenkeel/evenkeel/shuffle/ShuffleStats", "unrouted", "(I)V"⟩ : MethodName)) (by decide) (hw _ (List.mem_of_getElem? (i := 25) rfl)) (hw _ (List.mem_of_getElem? (i := 26) rfl)) (hw _ (List.mem_of_getElem? (i := 28) rfl)) (hw _ (List.mem_of_getElem? (i := 27) rfl)) (hw _ (List.mem_of_getElem? (i := 29) rfl)) (hw _ (List.mem_of_getElem? (i := 2) rfl)) A3_13 (own_rm4 l Z a0 hw b3 b2_4 ((List.replicate 128 (0 : Int64))) v4 h13 n0 Z13 FF4q1_13 FF4q25_13 g_b2_4 (by rw [hv4]; exact (own_tag _).1) (by rw [hv4]; simpa using (own_tag _).2)) own_pd0 rfl (S := []) rfl (pc' := 113) rfl rfl (W := 0) (Nat.le_of_eq rfl) (by decide) (by decide) (by decide) (by decide) ?_
  intro T14 h14 v14_ X14 q14_
  obtain ⟨rfl, KK14, FF14q0⟩ := q14_
  show OwnGo p e below (T14.setTop (mkF m 113 #[.val (.int p1), .val (.int p2), .val (.long q3), .second, .val (.long q4), .second, .val (.long q5), .second, .val (.long q6), .second, .val (.int v4), .val (.int v12), .val (.int v18), .val (.ref b1), .val (.ref b3), .unset, .unset] [])) RR
  have Z14 : n0 ≤ h14.size := Nat.le_trans Z13 KK14.1
  have A1_14 := (A1_13).keep KK14
  have FF2q29_14 := (FF2q29_13).keep KK14
  have FF2q30_14 := (FF2q30_13).keep KK14
  have A3_14 := (A3_13).keep KK14
  have FF4q0_14 := (FF4q0_13).keep KK14 (ninS ne_b3_b2_4 nin0)
  have FF4q1_14 := (FF4q1_13).keep KK14 (ninS ne_b3_b2_4 nin0)
  have FF4q2_14 := (FF4q2_13).keep KK14 (ninS ne_b3_b2_4 nin0)
  have FF4q3_14 := (FF4q3_13).keep KK14 (ninS ne_b3_b2_4 nin0)
  have FF4q4_14 := (FF4q4_13).keep KK14 (ninS ne_b3_b2_4 nin0)
  have FF4q5_14 := (FF4q5_13).keep KK14 (ninS ne_b3_b2_4 nin0)
  have FF4q6_14 := (FF4q6_13).keep KK14 (ninS ne_b3_b2_4 nin0)
  have FF4q7_14 := (FF4q7_13).keep KK14 (ninS ne_b3_b2_4 nin0)
  have FF4q8_14 := (FF4q8_13).keep KK14 (ninS ne_b3_b2_4 nin0)
  have FF4q26_14 := (FF4q26_13).keep KK14 (ninS FF4q18.symm nin0)
  have FF4q27_14 := (FF4q27_13).keep KK14 (ninS FF4q19.symm nin0)
  have FF4q28_14 := (FF4q28_13).keep KK14 (ninS FF4q20.symm nin0)
  have FF4q29_14 := (FF4q29_13).keep KK14
  have FF4q30_14 := (FF4q30_13).keep KK14
  have FF5q0_14 := (FF5q0_13).keep KK14 (ninS ne_b1_2_b2_4 nin0)
  have FF6q0_14 := (FF6q0_13).keep KK14 (ninS ne_b2_2_b2_4 nin0)
  have FF7q0_14 := (FF7q0_13).keep KK14 (ninS ne_b3_2_b2_4 nin0)
  have FF8q0_14 := (FF8q0_13).keep KK14 (ninS ne_b4_2_b2_4 nin0)
  have FF8q1_14 := (FF8q1_13).keep KK14 (ninS ne_b5_2_b2_4 nin0)
  have FF11q0_14 := (FF11q0_13).keep KK14 (ninS ne_b1_b2_4 nin0)
  have FF11q1_14 := (FF11q1_13).keep KK14 (ninS ne_b1_b2_4 nin0)
  have FF11q2_14 := (FF11q2_13).keep KK14 (ninS ne_b1_b2_4 nin0)
  have FF11q3_14 := (FF11q3_13).keep KK14 (ninS ne_b1_b2_4 nin0)
  have FF11q4_14 := (FF11q4_13).keep KK14 (ninS ne_b1_b2_4 nin0)
  have FF11q5_14 := (FF11q5_13).keep KK14 (ninS ne_b1_b2_4 nin0)
  have FF11q6_14 := (FF11q6_13).keep KK14 (ninS ne_b1_b2_4 nin0)
  have FF11q7_14 := (FF11q7_13).keep KK14 (ninS ne_b1_b2_4 nin0)
  have FF11q8_14 := (FF11q8_13).keep KK14 (ninS ne_b1_b2_4 nin0)
  have FF13q0_14 := (FF13q0).keep KK14 (ninS FF4q14 nin0)
  refine own_aload X14 at_113 (pc' := 115) rfl rfl rfl ?_
  refine own_iload X14 at_115 (pc' := 117) rfl rfl ?_
  refine own_iloadN X14 at_117 (pc' := 118) rfl rfl ?_
  refine own_callV (a := b3) (argsL := [(.int v4), (.int p1)]) X14 at_118 (y := (⟨"com/example/evenkeel/evenkeel/shuffle/ShuffleStats", "copied", "(II)V"⟩ : MethodName)) (by decide) (hw _ (List.mem_of_getElem? (i := 30) rfl)) (hw _ (List.mem_of_getElem? (i := 31) rfl)) (hw _ (List.mem_of_getElem? (i := 33) rfl)) (hw _ (List.mem_of_getElem? (i := 32) rfl)) (hw _ (List.mem_of_getElem? (i := 34) rfl)) (hw _ (List.mem_of_getElem? (i := 2) rfl)) A3_14 (own_rm5 l Z a0 hw b3 b3_4 ((List.replicate 128 (0 : Int64))) v4 p1 h14 n0 Z14 FF4q2_14 FF4q26_14 g_b3_4 (by rw [hv4]; exact (own_tag _).1) (by rw [hv4]; simpa using (own_tag _).2)) own_pd1 rfl (S := []) rfl (pc' := 121) rfl rfl (W := 0) (Nat.le_of_eq rfl) (by decide) (by decide) (by decide) (by decide) ?_
  intro T15 h15 v15_ X15 q15_
  obtain ⟨rfl, KK15, FF15q0⟩ := q15_
  show OwnGo p e below (T15.setTop (mkF m 121 #[.val (.int p1), .val (.int p2), .val (.long q3), .second, .val (.long q4), .second, .val (.long q5), .second, .val (.long q6), .second, .val (.int v4), .val (.int v12), .val (.int v18), .val (.ref b1), .val (.ref b3), .unset, .unset] [])) RR
  have Z15 : n0 ≤ h15.size := Nat.le_trans Z14 KK15.1
  have A1_15 := (A1_14).keep KK15
  have FF2q29_15 := (FF2q29_14).keep KK15
  have FF2q30_15 := (FF2q30_14).keep KK15
  have A3_15 := (A3_14).keep KK15
  have FF4q0_15 := (FF4q0_14).keep KK15 (ninS ne_b3_b3_4 nin0)
  have FF4q1_15 := (FF4q1_14).keep KK15 (ninS ne_b3_b3_4 nin0)
  have FF4q2_15 := (FF4q2_14).keep KK15 (ninS ne_b3_b3_4 nin0)
  have FF4q3_15 := (FF4q3_14).keep KK15 (ninS ne_b3_b3_4 nin0)
  have FF4q4_15 := (FF4q4_14).keep KK15 (ninS ne_b3_b3_4 nin0)
  have FF4q5_15 := (FF4q5_14).keep KK15 (ninS ne_b3_b3_4 nin0)
  have FF4q6_15 := (FF4q6_14).keep KK15 (ninS ne_b3_b3_4 nin0)
  have FF4q7_15 := (FF4q7_14).keep KK15 (ninS ne_b3_b3_4 nin0)
  have FF4q8_15 := (FF4q8_14).keep KK15 (ninS ne_b3_b3_4 nin0)
  have FF4q27_15 := (FF4q27_14).keep KK15 (ninS FF4q21.symm nin0)
  have FF4q28_15 := (FF4q28_14).keep KK15 (ninS FF4q22.symm nin0)
  have FF4q29_15 := (FF4q29_14).keep KK15
  have FF4q30_15 := (FF4q30_14).keep KK15
  have FF5q0_15 := (FF5q0_14).keep KK15 (ninS ne_b1_2_b3_4 nin0)
  have FF6q0_15 := (FF6q0_14).keep KK15 (ninS ne_b2_2_b3_4 nin0)
  have FF7q0_15 := (FF7q0_14).keep KK15 (ninS ne_b3_2_b3_4 nin0)
  have FF8q0_15 := (FF8q0_14).keep KK15 (ninS ne_b4_2_b3_4 nin0)
  have FF8q1_15 := (FF8q1_14).keep KK15 (ninS ne_b5_2_b3_4 nin0)
  have FF11q0_15 := (FF11q0_14).keep KK15 (ninS ne_b1_b3_4 nin0)
  have FF11q1_15 := (FF11q1_14).keep KK15 (ninS ne_b1_b3_4 nin0)
  have FF11q2_15 := (FF11q2_14).keep KK15 (ninS ne_b1_b3_4 nin0)
  have FF11q3_15 := (FF11q3_14).keep KK15 (ninS ne_b1_b3_4 nin0)
  have FF11q4_15 := (FF11q4_14).keep KK15 (ninS ne_b1_b3_4 nin0)
  have FF11q5_15 := (FF11q5_14).keep KK15 (ninS ne_b1_b3_4 nin0)
  have FF11q6_15 := (FF11q6_14).keep KK15 (ninS ne_b1_b3_4 nin0)
  have FF11q7_15 := (FF11q7_14).keep KK15 (ninS ne_b1_b3_4 nin0)
  have FF11q8_15 := (FF11q8_14).keep KK15 (ninS ne_b1_b3_4 nin0)
  have FF13q0_15 := (FF13q0_14).keep KK15 (ninS FF4q15 nin0)
  have FF14q0_15 := (FF14q0).keep KK15 (ninS FF4q18 nin0)
  refine own_aload X15 at_121 (pc' := 123) rfl rfl rfl ?_
  refine own_iload X15 at_123 (pc' := 125) rfl rfl ?_
  refine own_lload X15 at_125 (pc' := 127) rfl rfl ?_
  refine own_callV (a := b3) (argsL := [(.int v12), (.long q4)]) X15 at_127 (y := (⟨"com/example/evenkeel/evenkeel/shuffle/ShuffleStats", "routed", "(IJ)V"⟩ : MethodName)) (by decide) (hw _ (List.mem_of_getElem? (i := 35) rfl)) (hw _ (List.mem_of_getElem? (i := 36) rfl)) (hw _ (List.mem_of_getElem? (i := 38) rfl)) (hw _ (List.mem_of_getElem? (i := 37) rfl)) (hw _ (List.mem_of_getElem? (i := 39) rfl)) (hw _ (List.mem_of_getElem? (i := 2) rfl)) A3_15 (own_rm6 l Z a0 hw b3 b4_4 b5_4 ((List.replicate 2 (0 : Int64))) ((List.replicate 2 (0 : Int64))) v12 q4 h15 n0 Z15 FF4q3_15 FF4q4_15 FF4q27_15 FF4q28_15 g_b4_4 g_b5_4 FF4q23 ne_b3_b4_4 ne_b3_b5_4 (own_par2 hpp).1 (by simpa using (own_par2 hpp).2.1) (by simpa using (own_par2 hpp).2.1)) own_pd2 rfl (S := []) rfl (pc' := 130) rfl rfl (W := 0) (Nat.le_of_eq rfl) (by decide) (by decide) (by decide) (by decide) ?_
  intro T16 h16 v16_ X16 q16_
  obtain ⟨rfl, KK16, FF16q0, FF16q1⟩ := q16_
  show OwnGo p e below (T16.setTop (mkF m 130 #[.val (.int p1), .val (.int p2), .val (.long q3), .second, .val (.long q4), .second, .val (.long q5), .second, .val (.long q6), .second, .val (.int v4), .val (.int v12), .val (.int v18), .val (.ref b1), .val (.ref b3), .unset, .unset] [])) RR
  have Z16 : n0 ≤ h16.size := Nat.le_trans Z15 KK16.1
  have A1_16 := (A1_15).keep KK16
  have FF2q29_16 := (FF2q29_15).keep KK16
  have FF2q30_16 := (FF2q30_15).keep KK16
  have A3_16 := (A3_15).keep KK16
  have FF4q0_16 := (FF4q0_15).keep KK16 (ninS ne_b3_b4_4 (ninS ne_b3_b5_4 nin0))
  have FF4q1_16 := (FF4q1_15).keep KK16 (ninS ne_b3_b4_4 (ninS ne_b3_b5_4 nin0))
  have FF4q2_16 := (FF4q2_15).keep KK16 (ninS ne_b3_b4_4 (ninS ne_b3_b5_4 nin0))
  have FF4q3_16 := (FF4q3_15).keep KK16 (ninS ne_b3_b4_4 (ninS ne_b3_b5_4 nin0))
  have FF4q4_16 := (FF4q4_15).keep KK16 (ninS ne_b3_b4_4 (ninS ne_b3_b5_4 nin0))
  have FF4q5_16 := (FF4q5_15).keep KK16 (ninS ne_b3_b4_4 (ninS ne_b3_b5_4 nin0))
  have FF4q6_16 := (FF4q6_15).keep KK16 (ninS ne_b3_b4_4 (ninS ne_b3_b5_4 nin0))
  have FF4q7_16 := (FF4q7_15).keep KK16 (ninS ne_b3_b4_4 (ninS ne_b3_b5_4 nin0))
  have FF4q8_16 := (FF4q8_15).keep KK16 (ninS ne_b3_b4_4 (ninS ne_b3_b5_4 nin0))
  have FF4q29_16 := (FF4q29_15).keep KK16
  have FF4q30_16 := (FF4q30_15).keep KK16
  have FF5q0_16 := (FF5q0_15).keep KK16 (ninS ne_b1_2_b4_4 (ninS ne_b1_2_b5_4 nin0))
  have FF6q0_16 := (FF6q0_15).keep KK16 (ninS ne_b2_2_b4_4 (ninS ne_b2_2_b5_4 nin0))
  have FF7q0_16 := (FF7q0_15).keep KK16 (ninS ne_b3_2_b4_4 (ninS ne_b3_2_b5_4 nin0))
  have FF8q0_16 := (FF8q0_15).keep KK16 (ninS ne_b4_2_b4_4 (ninS ne_b4_2_b5_4 nin0))
  have FF8q1_16 := (FF8q1_15).keep KK16 (ninS ne_b5_2_b4_4 (ninS ne_b5_2_b5_4 nin0))
  have FF11q0_16 := (FF11q0_15).keep KK16 (ninS ne_b1_b4_4 (ninS ne_b1_b5_4 nin0))
  have FF11q1_16 := (FF11q1_15).keep KK16 (ninS ne_b1_b4_4 (ninS ne_b1_b5_4 nin0))
  have FF11q2_16 := (FF11q2_15).keep KK16 (ninS ne_b1_b4_4 (ninS ne_b1_b5_4 nin0))
  have FF11q3_16 := (FF11q3_15).keep KK16 (ninS ne_b1_b4_4 (ninS ne_b1_b5_4 nin0))
  have FF11q4_16 := (FF11q4_15).keep KK16 (ninS ne_b1_b4_4 (ninS ne_b1_b5_4 nin0))
  have FF11q5_16 := (FF11q5_15).keep KK16 (ninS ne_b1_b4_4 (ninS ne_b1_b5_4 nin0))
  have FF11q6_16 := (FF11q6_15).keep KK16 (ninS ne_b1_b4_4 (ninS ne_b1_b5_4 nin0))
  have FF11q7_16 := (FF11q7_15).keep KK16 (ninS ne_b1_b4_4 (ninS ne_b1_b5_4 nin0))
  have FF11q8_16 := (FF11q8_15).keep KK16 (ninS ne_b1_b4_4 (ninS ne_b1_b5_4 nin0))
  have FF13q0_16 := (FF13q0_15).keep KK16 (ninS FF4q16 (ninS FF4q17 nin0))
  have FF14q0_16 := (FF14q0_15).keep KK16 (ninS FF4q19 (ninS FF4q20 nin0))
  have FF15q0_16 := (FF15q0).keep KK16 (ninS FF4q21 (ninS FF4q22 nin0))
  refine own_aload X16 at_130 (pc' := 132) rfl rfl rfl ?_
  refine own_lload X16 at_132 (pc' := 134) rfl rfl ?_
  refine own_callV (a := b3) (argsL := [(.long q6)]) X16 at_134 (y := (⟨"com/example/evenkeel/evenkeel/shuffle/ShuffleStats", "buffered", "(J)V"⟩ : MethodName)) (by decide) (hw _ (List.mem_of_getElem? (i := 40) rfl)) (hw _ (List.mem_of_getElem? (i := 41) rfl)) (hw _ (List.mem_of_getElem? (i := 43) rfl)) (hw _ (List.mem_of_getElem? (i := 42) rfl)) (hw _ (List.mem_of_getElem? (i := 44) rfl)) (hw _ (List.mem_of_getElem? (i := 2) rfl)) A3_16 (own_rm7 l Z a0 hw b3 b1_4 b2_4 b3_4 b4_4 b5_4 (0 : Int64) (0 : Int64) (0 : Int64) (0 : Int64) q6 h16 n0 Z16 A3_16 g_b3 FF4q0_16 FF4q1_16 FF4q2_16 FF4q3_16 FF4q4_16 FF4q5_16 FF4q6_16 FF4q7_16 FF4q8_16) own_pd3 rfl (S := []) rfl (pc' := 137) rfl rfl (W := 0) (Nat.le_of_eq rfl) (by decide) (by decide) (by decide) (by decide) ?_
  intro T17 h17 v17_ X17 q17_
  obtain ⟨rfl, KK17, FF17q0, FF17q1, FF17q2, FF17q3, FF17q4, FF17q5, FF17q6, FF17q7, FF17q8⟩ := q17_
  show OwnGo p e below (T17.setTop (mkF m 137 #[.val (.int p1), .val (.int p2), .val (.long q3), .second, .val (.long q4), .second, .val (.long q5), .second, .val (.long q6), .second, .val (.int v4), .val (.int v12), .val (.int v18), .val (.ref b1), .val (.ref b3), .unset, .unset] [])) RR
  have Z17 : n0 ≤ h17.size := Nat.le_trans Z16 KK17.1
  have A1_17 := (A1_16).keep KK17
  have FF2q29_17 := (FF2q29_16).keep KK17
  have FF2q30_17 := (FF2q30_16).keep KK17
  have A3_17 := (A3_16).keep KK17
  have FF4q29_17 := (FF4q29_16).keep KK17
  have FF4q30_17 := (FF4q30_16).keep KK17
  have FF5q0_17 := (FF5q0_16).keep KK17 (ninS ne_b1_2_b3 nin0)
  have FF6q0_17 := (FF6q0_16).keep KK17 (ninS ne_b2_2_b3 nin0)
  have FF7q0_17 := (FF7q0_16).keep KK17 (ninS ne_b3_2_b3 nin0)
  have FF8q0_17 := (FF8q0_16).keep KK17 (ninS ne_b4_2_b3 nin0)
  have FF8q1_17 := (FF8q1_16).keep KK17 (ninS ne_b5_2_b3 nin0)
  have FF11q0_17 := (FF11q0_16).keep KK17 (ninS ne_b1_b3 nin0)
  have FF11q1_17 := (FF11q1_16).keep KK17 (ninS ne_b1_b3 nin0)
  have FF11q2_17 := (FF11q2_16).keep KK17 (ninS ne_b1_b3 nin0)
  have FF11q3_17 := (FF11q3_16).keep KK17 (ninS ne_b1_b3 nin0)
  have FF11q4_17 := (FF11q4_16).keep KK17 (ninS ne_b1_b3 nin0)
  have FF11q5_17 := (FF11q5_16).keep KK17 (ninS ne_b1_b3 nin0)
  have FF11q6_17 := (FF11q6_16).keep KK17 (ninS ne_b1_b3 nin0)
  have FF11q7_17 := (FF11q7_16).keep KK17 (ninS ne_b1_b3 nin0)
  have FF11q8_17 := (FF11q8_16).keep KK17 (ninS ne_b1_b3 nin0)
  have FF13q0_17 := (FF13q0_16).keep KK17 (ninS ne_b3_b1_4.symm nin0)
  have FF14q0_17 := (FF14q0_16).keep KK17 (ninS ne_b3_b2_4.symm nin0)
  have FF15q0_17 := (FF15q0_16).keep KK17 (ninS ne_b3_b3_4.symm nin0)
  have FF16q0_17 := (FF16q0).keep KK17 (ninS ne_b3_b4_4.symm nin0)
  have FF16q1_17 := (FF16q1).keep KK17 (ninS ne_b3_b5_4.symm nin0)
  refine own_aload X17 at_137 (pc' := 139) rfl rfl rfl ?_
  refine own_lload X17 at_139 (pc' := 141) rfl rfl ?_
  refine own_lload X17 at_141 (pc' := 143) rfl rfl ?_
  refine own_callV (a := b3) (argsL := [(.long q4), (.long q5)]) X17 at_143 (y := (⟨"com/example/evenkeel/evenkeel/shuffle/ShuffleStats", "hotKeys", "(JJ)V"⟩ : MethodName)) (by decide) (hw _ (List.mem_of_getElem? (i := 47) rfl)) (hw _ (List.mem_of_getElem? (i := 48) rfl)) (hw _ (List.mem_of_getElem? (i := 50) rfl)) (hw _ (List.mem_of_getElem? (i := 49) rfl)) (hw _ (List.mem_of_getElem? (i := 51) rfl)) (hw _ (List.mem_of_getElem? (i := 2) rfl)) A3_17 (own_rm8 l Z a0 hw b3 b1_4 b2_4 b3_4 b4_4 b5_4 (((0 : Int64) + q6)) (0 : Int64) (0 : Int64) (0 : Int64) q4 q5 h17 n0 Z17 A3_17 g_b3 FF17q0 FF17q1 FF17q2 FF17q3 FF17q4 FF17q5 FF17q6 FF17q7 FF17q8) own_pd4 rfl (S := []) rfl (pc' := 146) rfl rfl (W := 0) (Nat.le_of_eq rfl) (by decide) (by decide) (by decide) (by decide) ?_
  intro T18 h18 v18_ X18 q18_
  obtain ⟨rfl, KK18, FF18q0, FF18q1, FF18q2, FF18q3, FF18q4, FF18q5, FF18q6, FF18q7, FF18q8⟩ := q18_
  show OwnGo p e below (T18.setTop (mkF m 146 #[.val (.int p1), .val (.int p2), .val (.long q3), .second, .val (.long q4), .second, .val (.long q5), .second, .val (.long q6), .second, .val (.int v4), .val (.int v12), .val (.int v18), .val (.ref b1), .val (.ref b3), .unset, .unset] [])) RR
  have Z18 : n0 ≤ h18.size := Nat.le_trans Z17 KK18.1
  have A1_18 := (A1_17).keep KK18
  have FF2q29_18 := (FF2q29_17).keep KK18
  have FF2q30_18 := (FF2q30_17).keep KK18
  have A3_18 := (A3_17).keep KK18
  have FF4q29_18 := (FF4q29_17).keep KK18
  have FF4q30_18 := (FF4q30_17).keep KK18
  have FF5q0_18 := (FF5q0_17).keep KK18 (ninS ne_b1_2_b3 nin0)
  have FF6q0_18 := (FF6q0_17).keep KK18 (ninS ne_b2_2_b3 nin0)
  have FF7q0_18 := (FF7q0_17).keep KK18 (ninS ne_b3_2_b3 nin0)
  have FF8q0_18 := (FF8q0_17).keep KK18 (ninS ne_b4_2_b3 nin0)
  have FF8q1_18 := (FF8q1_17).keep KK18 (ninS ne_b5_2_b3 nin0)
  have FF11q0_18 := (FF11q0_17).keep KK18 (ninS ne_b1_b3 nin0)
  have FF11q1_18 := (FF11q1_17).keep KK18 (ninS ne_b1_b3 nin0)
  have FF11q2_18 := (FF11q2_17).keep KK18 (ninS ne_b1_b3 nin0)
  have FF11q3_18 := (FF11q3_17).keep KK18 (ninS ne_b1_b3 nin0)
  have FF11q4_18 := (FF11q4_17).keep KK18 (ninS ne_b1_b3 nin0)
  have FF11q5_18 := (FF11q5_17).keep KK18 (ninS ne_b1_b3 nin0)
  have FF11q6_18 := (FF11q6_17).keep KK18 (ninS ne_b1_b3 nin0)
  have FF11q7_18 := (FF11q7_17).keep KK18 (ninS ne_b1_b3 nin0)
  have FF11q8_18 := (FF11q8_17).keep KK18 (ninS ne_b1_b3 nin0)
  have FF13q0_18 := (FF13q0_17).keep KK18 (ninS ne_b3_b1_4.symm nin0)
  have FF14q0_18 := (FF14q0_17).keep KK18 (ninS ne_b3_b2_4.symm nin0)
  have FF15q0_18 := (FF15q0_17).keep KK18 (ninS ne_b3_b3_4.symm nin0)
  have FF16q0_18 := (FF16q0_17).keep KK18 (ninS ne_b3_b4_4.symm nin0)
  have FF16q1_18 := (FF16q1_17).keep KK18 (ninS ne_b3_b5_4.symm nin0)
  refine own_aload X18 at_146 (pc' := 148) rfl rfl rfl ?_
  refine own_lloadN X18 at_148 (pc' := 149) rfl rfl ?_
  refine own_callV (a := b3) (argsL := [(.long q3)]) X18 at_149 (y := (⟨"com/example/evenkeel/evenkeel/shuffle/ShuffleStats", "shuffled", "(J)V"⟩ : MethodName)) (by decide) (hw _ (List.mem_of_getElem? (i := 56) rfl)) (hw _ (List.mem_of_getElem? (i := 57) rfl)) (hw _ (List.mem_of_getElem? (i := 59) rfl)) (hw _ (List.mem_of_getElem? (i := 58) rfl)) (hw _ (List.mem_of_getElem? (i := 60) rfl)) (hw _ (List.mem_of_getElem? (i := 2) rfl)) A3_18 (own_rm9 l Z a0 hw b3 b1_4 b2_4 b3_4 b4_4 b5_4 (((0 : Int64) + q6)) (((0 : Int64) + q4)) (((0 : Int64) + q5)) (0 : Int64) q3 h18 n0 Z18 A3_18 g_b3 FF18q0 FF18q1 FF18q2 FF18q3 FF18q4 FF18q5 FF18q6 FF18q7 FF18q8) own_pd3 rfl (S := []) rfl (pc' := 152) rfl rfl (W := 0) (Nat.le_of_eq rfl) (by decide) (by decide) (by decide) (by decide) ?_
  intro T19 h19 v19_ X19 q19_
  obtain ⟨rfl, KK19, FF19q0, FF19q1, FF19q2, FF19q3, FF19q4, FF19q5, FF19q6, FF19q7, FF19q8⟩ := q19_
  show OwnGo p e below (T19.setTop (mkF m 152 #[.val (.int p1), .val (.int p2), .val (.long q3), .second, .val (.long q4), .second, .val (.long q5), .second, .val (.long q6), .second, .val (.int v4), .val (.int v12), .val (.int v18), .val (.ref b1), .val (.ref b3), .unset, .unset] [])) RR
  have Z19 : n0 ≤ h19.size := Nat.le_trans Z18 KK19.1
  have A1_19 := (A1_18).keep KK19
  have FF2q29_19 := (FF2q29_18).keep KK19
  have FF2q30_19 := (FF2q30_18).keep KK19
  have A3_19 := (A3_18).keep KK19
  have FF4q29_19 := (FF4q29_18).keep KK19
  have FF4q30_19 := (FF4q30_18).keep KK19
  have FF5q0_19 := (FF5q0_18).keep KK19 (ninS ne_b1_2_b3 nin0)
  have FF6q0_19 := (FF6q0_18).keep KK19 (ninS ne_b2_2_b3 nin0)
  have FF7q0_19 := (FF7q0_18).keep KK19 (ninS ne_b3_2_b3 nin0)
  have FF8q0_19 := (FF8q0_18).keep KK19 (ninS ne_b4_2_b3 nin0)
  have FF8q1_19 := (FF8q1_18).keep KK19 (ninS ne_b5_2_b3 nin0)
  have FF11q0_19 := (FF11q0_18).keep KK19 (ninS ne_b1_b3 nin0)
  have FF11q1_19 := (FF11q1_18).keep KK19 (ninS ne_b1_b3 nin0)
  have FF11q2_19 := (FF11q2_18).keep KK19 (ninS ne_b1_b3 nin0)
  have FF11q3_19 := (FF11q3_18).keep KK19 (ninS ne_b1_b3 nin0)
  have FF11q4_19 := (FF11q4_18).keep KK19 (ninS ne_b1_b3 nin0)
  have FF11q5_19 := (FF11q5_18).keep KK19 (ninS ne_b1_b3 nin0)
  have FF11q6_19 := (FF11q6_18).keep KK19 (ninS ne_b1_b3 nin0)
  have FF11q7_19 := (FF11q7_18).keep KK19 (ninS ne_b1_b3 nin0)
  have FF11q8_19 := (FF11q8_18).keep KK19 (ninS ne_b1_b3 nin0)
  have FF13q0_19 := (FF13q0_18).keep KK19 (ninS ne_b3_b1_4.symm nin0)
  have FF14q0_19 := (FF14q0_18).keep KK19 (ninS ne_b3_b2_4.symm nin0)
  have FF15q0_19 := (FF15q0_18).keep KK19 (ninS ne_b3_b3_4.symm nin0)
  have FF16q0_19 := (FF16q0_18).keep KK19 (ninS ne_b3_b4_4.symm nin0)
  have FF16q1_19 := (FF16q1_18).keep KK19 (ninS ne_b3_b5_4.symm nin0)
  refine own_aload X19 at_152 (pc' := 154) rfl rfl rfl ?_
  refine own_aload X19 at_154 (pc' := 156) rfl rfl rfl ?_
  refine own_callV (a := b1) (argsL := [(.ref b3)]) X19 at_156 (y := (⟨"com/example/evenkeel/evenkeel/shuffle/ShuffleStats", "add", "(Lcom/example/evenkeel/evenkeel/shuffle/ShuffleStats;)V"⟩ : MethodName)) (by decide) (hw _ (List.mem_of_getElem? (i := 63) rfl)) (hw _ (List.mem_of_getElem? (i := 64) rfl)) (hw _ (List.mem_of_getElem? (i := 66) rfl)) (hw _ (List.mem_of_getElem? (i := 65) rfl)) (hw _ (List.mem_of_getElem? (i := 67) rfl)) (hw _ (List.mem_of_getElem? (i := 2) rfl)) A1_19 (own_rm10 l Z a0 hw b1 b3 b1_2 b2_2 b3_2 b4_2 b5_2 b1_4 b2_4 b3_4 b4_4 b5_4 (((List.replicate 128 (0 : Int64)).set (v4).toNatClampNeg (((List.replicate 128 (0 : Int64)).getD (v4).toNatClampNeg 0) + (1 : Int64)))) (((List.replicate 128 (0 : Int64)).set (v4).toNatClampNeg (((List.replicate 128 (0 : Int64)).getD (v4).toNatClampNeg 0) + (1 : Int64)))) (((List.replicate 128 (0 : Int64)).set (v4).toNatClampNeg (((List.replicate 128 (0 : Int64)).getD (v4).toNatClampNeg 0) + (p2.toInt64)))) (((List.replicate 2 (0 : Int64)).set (v12).toNatClampNeg (((List.replicate 2 (0 : Int64)).getD (v12).toNatClampNeg 0) + (1 : Int64)))) (((List.replicate 2 (0 : Int64)).set (v12).toNatClampNeg (((List.replicate 2 (0 : Int64)).getD (v12).toNatClampNeg 0) + q3))) ((((List.replicate 128 (0 : Int64)).set (v4).toNatClampNeg (((List.replicate 128 (0 : Int64)).getD (v4).toNatClampNeg 0) + (1 : Int64))).set (v4).toNatClampNeg ((((List.replicate 128 (0 : Int64)).set (v4).toNatClampNeg (((List.replicate 128 (0 : Int64)).getD (v4).toNatClampNeg 0) + (1 : Int64))).getD (v4).toNatClampNeg 0) + (1 : Int64)))) (((List.replicate 128 (0 : Int64)).set (v4).toNatClampNeg (((List.replicate 128 (0 : Int64)).getD (v4).toNatClampNeg 0) + (1 : Int64)))) (((List.replicate 128 (0 : Int64)).set (v4).toNatClampNeg (((List.replicate 128 (0 : Int64)).getD (v4).toNatClampNeg 0) + (p1.toInt64)))) (((List.replicate 2 (0 : Int64)).set (v12).toNatClampNeg (((List.replicate 2 (0 : Int64)).getD (v12).toNatClampNeg 0) + (1 : Int64)))) (((List.replicate 2 (0 : Int64)).set (v12).toNatClampNeg (((List.replicate 2 (0 : Int64)).getD (v12).toNatClampNeg 0) + q4))) (((0 : Int64) + q5)) (((0 : Int64) + q6)) (((0 : Int64) + q3)) (((0 : Int64) + q4)) (((0 : Int64) + q6)) (((0 : Int64) + q4)) (((0 : Int64) + q5)) (((0 : Int64) + q3)) h19 n0 Z19 A1_19 FF11q0_19 FF11q1_19 FF11q2_19 FF11q3_19 FF11q4_19 FF11q5_19 FF11q6_19 FF11q7_19 FF11q8_19 FF19q0 FF19q1 FF19q2 FF19q3 FF19q4 FF19q5 FF19q6 FF19q7 FF19q8 FF5q0_19 FF6q0_19 FF7q0_19 FF8q0_19 FF8q1_19 FF13q0_19 FF14q0_19 FF15q0_19 FF16q0_19 FF16q1_19 g_b1 g_b1_2 g_b2_2 g_b3_2 g_b4_2 g_b5_2 ne_b1_b3 ne_b1_b1_2 ne_b1_b2_2 ne_b1_b3_2 ne_b1_b4_2 ne_b1_b5_2 ne_b1_b1_4 ne_b1_b2_4 ne_b1_b3_4 ne_b1_b4_4 ne_b1_b5_4 ne_b1_2_b3 FF2q14 FF2q15 FF2q16 FF2q17 ne_b1_2_b1_4 ne_b1_2_b2_4 ne_b1_2_b3_4 ne_b1_2_b4_4 ne_b1_2_b5_4 ne_b2_2_b3 FF2q18 FF2q19 FF2q20 ne_b2_2_b1_4 ne_b2_2_b2_4 ne_b2_2_b3_4 ne_b2_2_b4_4 ne_b2_2_b5_4 ne_b3_2_b3 FF2q21 FF2q22 ne_b3_2_b1_4 ne_b3_2_b2_4 ne_b3_2_b3_4 ne_b3_2_b4_4 ne_b3_2_b5_4 ne_b4_2_b3 FF2q23 ne_b4_2_b1_4 ne_b4_2_b2_4 ne_b4_2_b3_4 ne_b4_2_b4_4 ne_b4_2_b5_4 ne_b5_2_b3 ne_b5_2_b1_4 ne_b5_2_b2_4 ne_b5_2_b3_4 ne_b5_2_b4_4 ne_b5_2_b5_4 (by simp) (by simp) (by simp) (by simp) (by simp) (by simp) (by simp) (by simp) (by simp) (by simp)) own_pd5 rfl (S := []) rfl (pc' := 159) rfl rfl (W := 0) (Nat.le_of_eq rfl) (by decide) (by decide) (by decide) (by decide) ?_
  intro T20 h20 v20_ X20 q20_
  obtain ⟨rfl, KK20, FF20q0, FF20q1, FF20q2, FF20q3, FF20q4, FF20q5, FF20q6, FF20q7, FF20q8, FF20q9, FF20q10, FF20q11, FF20q12, FF20q13⟩ := q20_
  show OwnGo p e below (T20.setTop (mkF m 159 #[.val (.int p1), .val (.int p2), .val (.long q3), .second, .val (.long q4), .second, .val (.long q5), .second, .val (.long q6), .second, .val (.int v4), .val (.int v12), .val (.int v18), .val (.ref b1), .val (.ref b3), .unset, .unset] [])) RR
  have Z20 : n0 ≤ h20.size := Nat.le_trans Z19 KK20.1
  have A1_20 := (A1_19).keep KK20
  have FF2q29_20 := (FF2q29_19).keep KK20
  have FF2q30_20 := (FF2q30_19).keep KK20
  have A3_20 := (A3_19).keep KK20
  have FF4q29_20 := (FF4q29_19).keep KK20
  have FF4q30_20 := (FF4q30_19).keep KK20
  have FF13q0_20 := (FF13q0_19).keep KK20 (ninS ne_b1_b1_4.symm (ninS ne_b1_2_b1_4.symm (ninS ne_b2_2_b1_4.symm (ninS ne_b3_2_b1_4.symm (ninS ne_b4_2_b1_4.symm (ninS ne_b5_2_b1_4.symm nin0))))))
  have FF14q0_20 := (FF14q0_19).keep KK20 (ninS ne_b1_b2_4.symm (ninS ne_b1_2_b2_4.symm (ninS ne_b2_2_b2_4.symm (ninS ne_b3_2_b2_4.symm (ninS ne_b4_2_b2_4.symm (ninS ne_b5_2_b2_4.symm nin0))))))
  have FF15q0_20 := (FF15q0_19).keep KK20 (ninS ne_b1_b3_4.symm (ninS ne_b1_2_b3_4.symm (ninS ne_b2_2_b3_4.symm (ninS ne_b3_2_b3_4.symm (ninS ne_b4_2_b3_4.symm (ninS ne_b5_2_b3_4.symm nin0))))))
  have FF16q0_20 := (FF16q0_19).keep KK20 (ninS ne_b1_b4_4.symm (ninS ne_b1_2_b4_4.symm (ninS ne_b2_2_b4_4.symm (ninS ne_b3_2_b4_4.symm (ninS ne_b4_2_b4_4.symm (ninS ne_b5_2_b4_4.symm nin0))))))
  have FF16q1_20 := (FF16q1_19).keep KK20 (ninS ne_b1_b5_4.symm (ninS ne_b1_2_b5_4.symm (ninS ne_b2_2_b5_4.symm (ninS ne_b3_2_b5_4.symm (ninS ne_b4_2_b5_4.symm (ninS ne_b5_2_b5_4.symm nin0))))))
  have FF19q0_20 := (FF19q0).keep KK20 (ninS ne_b1_b3.symm (ninS ne_b1_2_b3.symm (ninS ne_b2_2_b3.symm (ninS ne_b3_2_b3.symm (ninS ne_b4_2_b3.symm (ninS ne_b5_2_b3.symm nin0))))))
  have FF19q1_20 := (FF19q1).keep KK20 (ninS ne_b1_b3.symm (ninS ne_b1_2_b3.symm (ninS ne_b2_2_b3.symm (ninS ne_b3_2_b3.symm (ninS ne_b4_2_b3.symm (ninS ne_b5_2_b3.symm nin0))))))
  have FF19q2_20 := (FF19q2).keep KK20 (ninS ne_b1_b3.symm (ninS ne_b1_2_b3.symm (ninS ne_b2_2_b3.symm (ninS ne_b3_2_b3.symm (ninS ne_b4_2_b3.symm (ninS ne_b5_2_b3.symm nin0))))))
  have FF19q3_20 := (FF19q3).keep KK20 (ninS ne_b1_b3.symm (ninS ne_b1_2_b3.symm (ninS ne_b2_2_b3.symm (ninS ne_b3_2_b3.symm (ninS ne_b4_2_b3.symm (ninS ne_b5_2_b3.symm nin0))))))
  have FF19q4_20 := (FF19q4).keep KK20 (ninS ne_b1_b3.symm (ninS ne_b1_2_b3.symm (ninS ne_b2_2_b3.symm (ninS ne_b3_2_b3.symm (ninS ne_b4_2_b3.symm (ninS ne_b5_2_b3.symm nin0))))))
  have FF19q5_20 := (FF19q5).keep KK20 (ninS ne_b1_b3.symm (ninS ne_b1_2_b3.symm (ninS ne_b2_2_b3.symm (ninS ne_b3_2_b3.symm (ninS ne_b4_2_b3.symm (ninS ne_b5_2_b3.symm nin0))))))
  have FF19q6_20 := (FF19q6).keep KK20 (ninS ne_b1_b3.symm (ninS ne_b1_2_b3.symm (ninS ne_b2_2_b3.symm (ninS ne_b3_2_b3.symm (ninS ne_b4_2_b3.symm (ninS ne_b5_2_b3.symm nin0))))))
  have FF19q7_20 := (FF19q7).keep KK20 (ninS ne_b1_b3.symm (ninS ne_b1_2_b3.symm (ninS ne_b2_2_b3.symm (ninS ne_b3_2_b3.symm (ninS ne_b4_2_b3.symm (ninS ne_b5_2_b3.symm nin0))))))
  have FF19q8_20 := (FF19q8).keep KK20 (ninS ne_b1_b3.symm (ninS ne_b1_2_b3.symm (ninS ne_b2_2_b3.symm (ninS ne_b3_2_b3.symm (ninS ne_b4_2_b3.symm (ninS ne_b5_2_b3.symm nin0))))))
  refine own_aload X20 at_159 (pc' := 161) rfl rfl rfl ?_
  refine own_callV (a := b1) (argsL := []) X20 at_161 (y := (⟨"com/example/evenkeel/evenkeel/shuffle/ShuffleStats", "partitionRecords", "()[J"⟩ : MethodName)) (by decide) (hw _ (List.mem_of_getElem? (i := 68) rfl)) (hw _ (List.mem_of_getElem? (i := 69) rfl)) (hw _ (List.mem_of_getElem? (i := 71) rfl)) (hw _ (List.mem_of_getElem? (i := 70) rfl)) (hw _ (List.mem_of_getElem? (i := 72) rfl)) (hw _ (List.mem_of_getElem? (i := 2) rfl)) A1_20 (own_rm11 l Z a0 hw b1 b4_2 ((ownUp ((List.replicate 2 (0 : Int64)).set (v12).toNatClampNeg (((List.replicate 2 (0 : Int64)).getD (v12).toNatClampNeg 0) + (1 : Int64))) ((List.replicate 2 (0 : Int64)).set (v12).toNatClampNeg (((List.replicate 2 (0 : Int64)).getD (v12).toNatClampNeg 0) + (1 : Int64))) 2)) h20 n0 Z20 FF20q3 FF20q12 FF2q29_20 (by simp only [own_upl, List.length_set, List.length_replicate])) own_pd6 rfl (S := []) rfl (pc' := 164) rfl rfl (W := 0) (Nat.le_of_eq rfl) (by decide) (by decide) (by decide) (by decide) ?_
  intro T21 h21 v21_ X21 q21_
  obtain ⟨r_21, rfl, KK21, FF21q0, FF21q1⟩ := q21_
  show OwnGo p e below (T21.setTop (mkF m 164 #[.val (.int p1), .val (.int p2), .val (.long q3), .second, .val (.long q4), .second, .val (.long q5), .second, .val (.long q6), .second, .val (.int v4), .val (.int v12), .val (.int v18), .val (.ref b1), .val (.ref b3), .unset, .unset] [(.ref r_21)])) RR
  have Z21 : n0 ≤ h21.size := Nat.le_trans Z20 KK21.1
  have A1_21 := (A1_20).keep KK21
  have FF2q29_21 := (FF2q29_20).keep KK21
  have FF2q30_21 := (FF2q30_20).keep KK21
  have A3_21 := (A3_20).keep KK21
  have FF4q29_21 := (FF4q29_20).keep KK21
  have FF4q30_21 := (FF4q30_20).keep KK21
  have FF13q0_21 := (FF13q0_20).keep KK21 nin0
  have FF14q0_21 := (FF14q0_20).keep KK21 nin0
  have FF15q0_21 := (FF15q0_20).keep KK21 nin0
  have FF16q0_21 := (FF16q0_20).keep KK21 nin0
  have FF16q1_21 := (FF16q1_20).keep KK21 nin0
  have FF19q0_21 := (FF19q0_20).keep KK21 nin0
  have FF19q1_21 := (FF19q1_20).keep KK21 nin0
  have FF19q2_21 := (FF19q2_20).keep KK21 nin0
  have FF19q3_21 := (FF19q3_20).keep KK21 nin0
  have FF19q4_21 := (FF19q4_20).keep KK21 nin0
  have FF19q5_21 := (FF19q5_20).keep KK21 nin0
  have FF19q6_21 := (FF19q6_20).keep KK21 nin0
  have FF19q7_21 := (FF19q7_20).keep KK21 nin0
  have FF19q8_21 := (FF19q8_20).keep KK21 nin0
  have FF20q0_21 := (FF20q0).keep KK21 nin0
  have FF20q1_21 := (FF20q1).keep KK21 nin0
  have FF20q2_21 := (FF20q2).keep KK21 nin0
  have FF20q3_21 := (FF20q3).keep KK21 nin0
  have FF20q4_21 := (FF20q4).keep KK21 nin0
  have FF20q5_21 := (FF20q5).keep KK21 nin0
  have FF20q6_21 := (FF20q6).keep KK21 nin0
  have FF20q7_21 := (FF20q7).keep KK21 nin0
  have FF20q8_21 := (FF20q8).keep KK21 nin0
  have FF20q9_21 := (FF20q9).keep KK21 nin0
  have FF20q10_21 := (FF20q10).keep KK21 nin0
  have FF20q11_21 := (FF20q11).keep KK21 nin0
  have FF20q12_21 := (FF20q12).keep KK21 nin0
  have FF20q13_21 := (FF20q13).keep KK21 nin0
  have ne_b1_r_21 : b1 ≠ r_21 := Nat.ne_of_lt (Nat.lt_of_lt_of_le (A1_20).lt FF21q0)
  have ne_b4_2_r_21 : b4_2 ≠ r_21 := Nat.ne_of_lt (Nat.lt_of_lt_of_le (FF2q29_20).lt FF21q0)
  have ne_b5_2_r_21 : b5_2 ≠ r_21 := Nat.ne_of_lt (Nat.lt_of_lt_of_le (FF2q30_20).lt FF21q0)
  have ne_b3_r_21 : b3 ≠ r_21 := Nat.ne_of_lt (Nat.lt_of_lt_of_le (A3_20).lt FF21q0)
  have ne_b4_4_r_21 : b4_4 ≠ r_21 := Nat.ne_of_lt (Nat.lt_of_lt_of_le (FF4q29_20).lt FF21q0)
  have ne_b5_4_r_21 : b5_4 ≠ r_21 := Nat.ne_of_lt (Nat.lt_of_lt_of_le (FF4q30_20).lt FF21q0)
  have ne_b1_4_r_21 : b1_4 ≠ r_21 := Nat.ne_of_lt (Nat.lt_of_lt_of_le (FF13q0_20).lt FF21q0)
  have ne_b2_4_r_21 : b2_4 ≠ r_21 := Nat.ne_of_lt (Nat.lt_of_lt_of_le (FF14q0_20).lt FF21q0)
  have ne_b3_4_r_21 : b3_4 ≠ r_21 := Nat.ne_of_lt (Nat.lt_of_lt_of_le (FF15q0_20).lt FF21q0)
  have ne_b1_2_r_21 : b1_2 ≠ r_21 := Nat.ne_of_lt (Nat.lt_of_lt_of_le (FF20q9).lt FF21q0)
  have ne_b2_2_r_21 : b2_2 ≠ r_21 := Nat.ne_of_lt (Nat.lt_of_lt_of_le (FF20q10).lt FF21q0)
  have ne_b3_2_r_21 : b3_2 ≠ r_21 := Nat.ne_of_lt (Nat.lt_of_lt_of_le (FF20q11).lt FF21q0)
  have g_r_21 : n0 ≤ r_21 := Nat.le_trans Z20 FF21q0
  refine own_astore X21 at_164 (pc' := 166) rfl rfl (l' := #[.val (.int p1), .val (.int p2), .val (.long q3), .second, .val (.long q4), .second, .val (.long q5), .second, .val (.long q6), .second, .val (.int v4), .val (.int v12), .val (.int v18), .val (.ref b1), .val (.ref b3), .val (.ref r_21), .unset]) rfl ?_
  refine own_aload X21 at_166 (pc' := 168) rfl rfl rfl ?_
  refine own_callV (a := b1) (argsL := []) X21 at_168 (y := (⟨"com/example/evenkeel/evenkeel/shuffle/ShuffleStats", "partitionBytes", "()[J"⟩ : MethodName)) (by decide) (hw _ (List.mem_of_getElem? (i := 82) rfl)) (hw _ (List.mem_of_getElem? (i := 83) rfl)) (hw _ (List.mem_of_getElem? (i := 85) rfl)) (hw _ (List.mem_of_getElem? (i := 84) rfl)) (hw _ (List.mem_of_getElem? (i := 86) rfl)) (hw _ (List.mem_of_getElem? (i := 2) rfl)) A1_21 (own_rm12 l Z a0 hw b1 b5_2 ((ownUp ((List.replicate 2 (0 : Int64)).set (v12).toNatClampNeg (((List.replicate 2 (0 : Int64)).getD (v12).toNatClampNeg 0) + q3)) ((List.replicate 2 (0 : Int64)).set (v12).toNatClampNeg (((List.replicate 2 (0 : Int64)).getD (v12).toNatClampNeg 0) + q4)) 2)) h21 n0 Z21 FF20q4_21 FF20q13_21 FF2q30_21 (by simp only [own_upl, List.length_set, List.length_replicate])) own_pd6 rfl (S := []) rfl (pc' := 171) rfl rfl (W := 0) (Nat.le_of_eq rfl) (by decide) (by decide) (by decide) (by decide) ?_
  intro T22 h22 v22_ X22 q22_
  obtain ⟨r_22, rfl, KK22, FF22q0, FF22q1⟩ := q22_
  show OwnGo p e below (T22.setTop (mkF m 171 #[.val (.int p1), .val (.int p2), .val (.long q3), .second, .val (.long q4), .second, .val (.long q5), .second, .val (.long q6), .second, .val (.int v4), .val (.int v12), .val (.int v18), .val (.ref b1), .val (.ref b3), .val (.ref r_21), .unset] [(.ref r_22)])) RR
  have Z22 : n0 ≤ h22.size := Nat.le_trans Z21 KK22.1
  have A1_22 := (A1_21).keep KK22
  have FF2q29_22 := (FF2q29_21).keep KK22
  have FF2q30_22 := (FF2q30_21).keep KK22
  have A3_22 := (A3_21).keep KK22
  have FF4q29_22 := (FF4q29_21).keep KK22
  have FF4q30_22 := (FF4q30_21).keep KK22
  have FF13q0_22 := (FF13q0_21).keep KK22 nin0
  have FF14q0_22 := (FF14q0_21).keep KK22 nin0
  have FF15q0_22 := (FF15q0_21).keep KK22 nin0
  have FF16q0_22 := (FF16q0_21).keep KK22 nin0
  have FF16q1_22 := (FF16q1_21).keep KK22 nin0
  have FF19q0_22 := (FF19q0_21).keep KK22 nin0
  have FF19q1_22 := (FF19q1_21).keep KK22 nin0
  have FF19q2_22 := (FF19q2_21).keep KK22 nin0
  have FF19q3_22 := (FF19q3_21).keep KK22 nin0
  have FF19q4_22 := (FF19q4_21).keep KK22 nin0
  have FF19q5_22 := (FF19q5_21).keep KK22 nin0
  have FF19q6_22 := (FF19q6_21).keep KK22 nin0
  have FF19q7_22 := (FF19q7_21).keep KK22 nin0
  have FF19q8_22 := (FF19q8_21).keep KK22 nin0
  have FF20q0_22 := (FF20q0_21).keep KK22 nin0
  have FF20q1_22 := (FF20q1_21).keep KK22 nin0
  have FF20q2_22 := (FF20q2_21).keep KK22 nin0
  have FF20q3_22 := (FF20q3_21).keep KK22 nin0
  have FF20q4_22 := (FF20q4_21).keep KK22 nin0
  have FF20q5_22 := (FF20q5_21).keep KK22 nin0
  have FF20q6_22 := (FF20q6_21).keep KK22 nin0
  have FF20q7_22 := (FF20q7_21).keep KK22 nin0
  have FF20q8_22 := (FF20q8_21).keep KK22 nin0
  have FF20q9_22 := (FF20q9_21).keep KK22 nin0
  have FF20q10_22 := (FF20q10_21).keep KK22 nin0
  have FF20q11_22 := (FF20q11_21).keep KK22 nin0
  have FF20q12_22 := (FF20q12_21).keep KK22 nin0
  have FF20q13_22 := (FF20q13_21).keep KK22 nin0
  have FF21q1_22 := (FF21q1).keep KK22 nin0
  have ne_b1_r_22 : b1 ≠ r_22 := Nat.ne_of_lt (Nat.lt_of_lt_of_le (A1_21).lt FF22q0)
  have ne_b4_2_r_22 : b4_2 ≠ r_22 := Nat.ne_of_lt (Nat.lt_of_lt_of_le (FF2q29_21).lt FF22q0)
  have ne_b5_2_r_22 : b5_2 ≠ r_22 := Nat.ne_of_lt (Nat.lt_of_lt_of_le (FF2q30_21).lt FF22q0)
  have ne_b3_r_22 : b3 ≠ r_22 := Nat.ne_of_lt (Nat.lt_of_lt_of_le (A3_21).lt FF22q0)
  have ne_b4_4_r_22 : b4_4 ≠ r_22 := Nat.ne_of_lt (Nat.lt_of_lt_of_le (FF4q29_21).lt FF22q0)
  have ne_b5_4_r_22 : b5_4 ≠ r_22 := Nat.ne_of_lt (Nat.lt_of_lt_of_le (FF4q30_21).lt FF22q0)
  have ne_b1_4_r_22 : b1_4 ≠ r_22 := Nat.ne_of_lt (Nat.lt_of_lt_of_le (FF13q0_21).lt FF22q0)
  have ne_b2_4_r_22 : b2_4 ≠ r_22 := Nat.ne_of_lt (Nat.lt_of_lt_of_le (FF14q0_21).lt FF22q0)
  have ne_b3_4_r_22 : b3_4 ≠ r_22 := Nat.ne_of_lt (Nat.lt_of_lt_of_le (FF15q0_21).lt FF22q0)
  have ne_b1_2_r_22 : b1_2 ≠ r_22 := Nat.ne_of_lt (Nat.lt_of_lt_of_le (FF20q9_21).lt FF22q0)
  have ne_b2_2_r_22 : b2_2 ≠ r_22 := Nat.ne_of_lt (Nat.lt_of_lt_of_le (FF20q10_21).lt FF22q0)
  have ne_b3_2_r_22 : b3_2 ≠ r_22 := Nat.ne_of_lt (Nat.lt_of_lt_of_le (FF20q11_21).lt FF22q0)
  have ne_r_21_r_22 : r_21 ≠ r_22 := Nat.ne_of_lt (Nat.lt_of_lt_of_le (FF21q1).lt FF22q0)
  have g_r_22 : n0 ≤ r_22 := Nat.le_trans Z21 FF22q0
  refine own_astore X22 at_171 (pc' := 173) rfl rfl (l' := #[.val (.int p1), .val (.int p2), .val (.long q3), .second, .val (.long q4), .second, .val (.long q5), .second, .val (.long q6), .second, .val (.int v4), .val (.int v12), .val (.int v18), .val (.ref b1), .val (.ref b3), .val (.ref r_21), .val (.ref r_22)]) rfl ?_
  refine own_aload X22 at_173 (pc' := 175) rfl rfl rfl ?_
  refine own_iload X22 at_175 (pc' := 177) rfl rfl ?_
  refine own_callV (a := b1) (argsL := [(.int v4)]) X22 at_177 (y := (⟨"com/example/evenkeel/evenkeel/shuffle/ShuffleStats", "inputRecords", "(I)J"⟩ : MethodName)) (by decide) (hw _ (List.mem_of_getElem? (i := 87) rfl)) (hw _ (List.mem_of_getElem? (i := 88) rfl)) (hw _ (List.mem_of_getElem? (i := 90) rfl)) (hw _ (List.mem_of_getElem? (i := 89) rfl)) (hw _ (List.mem_of_getElem? (i := 91) rfl)) (hw _ (List.mem_of_getElem? (i := 2) rfl)) A1_22 (own_rm13 l Z a0 hw b1 b1_2 ((ownUp ((List.replicate 128 (0 : Int64)).set (v4).toNatClampNeg (((List.replicate 128 (0 : Int64)).getD (v4).toNatClampNeg 0) + (1 : Int64))) (((List.replicate 128 (0 : Int64)).set (v4).toNatClampNeg (((List.replicate 128 (0 : Int64)).getD (v4).toNatClampNeg 0) + (1 : Int64))).set (v4).toNatClampNeg ((((List.replicate 128 (0 : Int64)).set (v4).toNatClampNeg (((List.replicate 128 (0 : Int64)).getD (v4).toNatClampNeg 0) + (1 : Int64))).getD (v4).toNatClampNeg 0) + (1 : Int64))) 128)) v4 h22 n0 Z22 FF20q0_22 FF20q9_22 (by rw [hv4]; exact (own_tag _).1) (by simp only [own_upl, List.length_set, List.length_replicate]; rw [hv4]; exact (own_tag _).2)) own_pd7 rfl (S := []) rfl (pc' := 180) rfl rfl (W := 0) (Nat.le_of_eq rfl) (by decide) (by decide) (by decide) (by decide) ?_
  intro T23 h23 v23_ X23 q23_
  obtain ⟨rfl, rfl⟩ := q23_
  obtain ⟨r23, hr23⟩ : ∃ z, z = ((ownUp ((List.replicate 128 (0 : Int64)).set (v4).toNatClampNeg (((List.replicate 128 (0 : Int64)).getD (v4).toNatClampNeg 0) + (1 : Int64))) (((List.replicate 128 (0 : Int64)).set (v4).toNatClampNeg (((List.replicate 128 (0 : Int64)).getD (v4).toNatClampNeg 0) + (1 : Int64))).set (v4).toNatClampNeg ((((List.replicate 128 (0 : Int64)).set (v4).toNatClampNeg (((List.replicate 128 (0 : Int64)).getD (v4).toNatClampNeg 0) + (1 : Int64))).getD (v4).toNatClampNeg 0) + (1 : Int64))) 128).getD (v4).toNatClampNeg 0) := ⟨_, rfl⟩
  show OwnGo p e below (T23.setTop (mkF m 180 #[.val (.int p1), .val (.int p2), .val (.long q3), .second, .val (.long q4), .second, .val (.long q5), .second, .val (.long q6), .second, .val (.int v4), .val (.int v12), .val (.int v18), .val (.ref b1), .val (.ref b3), .val (.ref r_21), .val (.ref r_22)] [(.long ((ownUp ((List.replicate 128 (0 : Int64)).set (v4).toNatClampNeg (((List.replicate 128 (0 : Int64)).getD (v4).toNatClampNeg 0) + (1 : Int64))) (((List.replicate 128 (0 : Int64)).set (v4).toNatClampNeg (((List.replicate 128 (0 : Int64)).getD (v4).toNatClampNeg 0) + (1 : Int64))).set (v4).toNatClampNeg ((((List.replicate 128 (0 : Int64)).set (v4).toNatClampNeg (((List.replicate 128 (0 : Int64)).getD (v4).toNatClampNeg 0) + (1 : Int64))).getD (v4).toNatClampNeg 0) + (1 : Int64))) 128).getD (v4).toNatClampNeg 0))])) RR
  rw [← hr23]
  refine own_ldc2Long X23 at_180 (pc' := 183) rfl (hw _ (List.mem_of_getElem? (i := 92) rfl)) ?_
  refine own_ljN X23 at_183 at_184 (own_teqL ((by rw [hr23]; exact own_c1 _ (by rw [hv4]; exact (own_tag _).2) : r23 = (3 : Int64)))).2 (pc' := 187) rfl ?_
  refine own_aload X23 at_187 (pc' := 189) rfl rfl rfl ?_
  refine own_iload X23 at_189 (pc' := 191) rfl rfl ?_
  refine own_callV (a := b1) (argsL := [(.int v4)]) X23 at_191 (y := (⟨"com/example/evenkeel/evenkeel/shuffle/ShuffleStats", "unroutedRecords", "(I)J"⟩ : MethodName)) (by decide) (hw _ (List.mem_of_getElem? (i := 93) rfl)) (hw _ (List.mem_of_getElem? (i := 94) rfl)) (hw _ (List.mem_of_getElem? (i := 96) rfl)) (hw _ (List.mem_of_getElem? (i := 95) rfl)) (hw _ (List.mem_of_getElem? (i := 97) rfl)) (hw _ (List.mem_of_getElem? (i := 2) rfl)) A1_22 (own_rm14 l Z a0 hw b1 b2_2 ((ownUp ((List.replicate 128 (0 : Int64)).set (v4).toNatClampNeg (((List.replicate 128 (0 : Int64)).getD (v4).toNatClampNeg 0) + (1 : Int64))) ((List.replicate 128 (0 : Int64)).set (v4).toNatClampNeg (((List.replicate 128 (0 : Int64)).getD (v4).toNatClampNeg 0) + (1 : Int64))) 128)) v4 h22 n0 Z22 FF20q1_22 FF20q10_22 (by rw [hv4]; exact (own_tag _).1) (by simp only [own_upl, List.length_set, List.length_replicate]; rw [hv4]; exact (own_tag _).2)) own_pd7 rfl (S := []) rfl (pc' := 194) rfl rfl (W := 0) (Nat.le_of_eq rfl) (by decide) (by decide) (by decide) (by decide) ?_
  intro T24 h24 v24_ X24 q24_
  obtain ⟨rfl, rfl⟩ := q24_
  obtain ⟨r24, hr24⟩ : ∃ z, z = ((ownUp ((List.replicate 128 (0 : Int64)).set (v4).toNatClampNeg (((List.replicate 128 (0 : Int64)).getD (v4).toNatClampNeg 0) + (1 : Int64))) ((List.replicate 128 (0 : Int64)).set (v4).toNatClampNeg (((List.replicate 128 (0 : Int64)).getD (v4).toNatClampNeg 0) + (1 : Int64))) 128).getD (v4).toNatClampNeg 0) := ⟨_, rfl⟩
  show OwnGo p e below (T24.setTop (mkF m 194 #[.val (.int p1), .val (.int p2), .val (.long q3), .second, .val (.long q4), .second, .val (.long q5), .second, .val (.long q6), .second, .val (.int v4), .val (.int v12), .val (.int v18), .val (.ref b1), .val (.ref b3), .val (.ref r_21), .val (.ref r_22)] [(.long ((ownUp ((List.replicate 128 (0 : Int64)).set (v4).toNatClampNeg (((List.replicate 128 (0 : Int64)).getD (v4).toNatClampNeg 0) + (1 : Int64))) ((List.replicate 128 (0 : Int64)).set (v4).toNatClampNeg (((List.replicate 128 (0 : Int64)).getD (v4).toNatClampNeg 0) + (1 : Int64))) 128).getD (v4).toNatClampNeg 0))])) RR
  rw [← hr24]
  refine own_ldc2Long X24 at_194 (pc' := 197) rfl (hw _ (List.mem_of_getElem? (i := 98) rfl)) ?_
  refine own_ljN X24 at_197 at_198 (own_teqL ((by rw [hr24]; exact own_c2 _ (by rw [hv4]; exact (own_tag _).2) _ _ : r24 = (2 : Int64)))).2 (pc' := 201) rfl ?_
  refine own_aload X24 at_201 (pc' := 203) rfl rfl rfl ?_
  refine own_iload X24 at_203 (pc' := 205) rfl rfl ?_
  refine own_callV (a := b1) (argsL := [(.int v4)]) X24 at_205 (y := (⟨"com/example/evenkeel/evenkeel/shuffle/ShuffleStats", "extraCopies", "(I)J"⟩ : MethodName)) (by decide) (hw _ (List.mem_of_getElem? (i := 99) rfl)) (hw _ (List.mem_of_getElem? (i := 100) rfl)) (hw _ (List.mem_of_getElem? (i := 102) rfl)) (hw _ (List.mem_of_getElem? (i := 101) rfl)) (hw _ (List.mem_of_getElem? (i := 103) rfl)) (hw _ (List.mem_of_getElem? (i := 2) rfl)) A1_22 (own_rm15 l Z a0 hw b1 b3_2 ((ownUp ((List.replicate 128 (0 : Int64)).set (v4).toNatClampNeg (((List.replicate 128 (0 : Int64)).getD (v4).toNatClampNeg 0) + (p2.toInt64))) ((List.replicate 128 (0 : Int64)).set (v4).toNatClampNeg (((List.replicate 128 (0 : Int64)).getD (v4).toNatClampNeg 0) + (p1.toInt64))) 128)) v4 h22 n0 Z22 FF20q2_22 FF20q11_22 (by rw [hv4]; exact (own_tag _).1) (by simp only [own_upl, List.length_set, List.length_replicate]; rw [hv4]; exact (own_tag _).2)) own_pd7 rfl (S := []) rfl (pc' := 208) rfl rfl (W := 0) (Nat.le_of_eq rfl) (by decide) (by decide) (by decide) (by decide) ?_
  intro T25 h25 v25_ X25 q25_
  obtain ⟨rfl, rfl⟩ := q25_
  obtain ⟨r25, hr25⟩ : ∃ z, z = ((ownUp ((List.replicate 128 (0 : Int64)).set (v4).toNatClampNeg (((List.replicate 128 (0 : Int64)).getD (v4).toNatClampNeg 0) + (p2.toInt64))) ((List.replicate 128 (0 : Int64)).set (v4).toNatClampNeg (((List.replicate 128 (0 : Int64)).getD (v4).toNatClampNeg 0) + (p1.toInt64))) 128).getD (v4).toNatClampNeg 0) := ⟨_, rfl⟩
  show OwnGo p e below (T25.setTop (mkF m 208 #[.val (.int p1), .val (.int p2), .val (.long q3), .second, .val (.long q4), .second, .val (.long q5), .second, .val (.long q6), .second, .val (.int v4), .val (.int v12), .val (.int v18), .val (.ref b1), .val (.ref b3), .val (.ref r_21), .val (.ref r_22)] [(.long ((ownUp ((List.replicate 128 (0 : Int64)).set (v4).toNatClampNeg (((List.replicate 128 (0 : Int64)).getD (v4).toNatClampNeg 0) + (p2.toInt64))) ((List.replicate 128 (0 : Int64)).set (v4).toNatClampNeg (((List.replicate 128 (0 : Int64)).getD (v4).toNatClampNeg 0) + (p1.toInt64))) 128).getD (v4).toNatClampNeg 0))])) RR
  rw [← hr25]
  refine own_iloadN X25 at_208 (pc' := 209) rfl rfl ?_
  refine own_i2l X25 at_209 (pc' := 210) rfl ?_
  refine own_iloadN X25 at_210 (pc' := 211) rfl rfl ?_
  refine own_i2l X25 at_211 (pc' := 212) rfl ?_
  refine own_ladd X25 at_212 (pc' := 213) rfl ?_
  refine own_ljN X25 at_213 at_214 (own_teqL ((by rw [hr25]; exact own_c2 _ (by rw [hv4]; exact (own_tag _).2) _ _ : r25 = ((p2.toInt64) + (p1.toInt64))))).2 (pc' := 217) rfl ?_
  refine own_aload X25 at_217 (pc' := 219) rfl rfl rfl ?_
  refine own_arraylength X25 at_219 FF21q1_22 (n := (2 : Int32)) (by simp only [List.length_map, own_upl, List.length_set, List.length_replicate]; rfl) (pc' := 220) rfl ?_
  refine own_iconst X25 at_220 (pc' := 221) rfl (v := (2 : Int32)) (by decide) ?_
  refine own_icN X25 at_221 (teq ((rfl : (2 : Int32) = (2 : Int32)))).2 (pc' := 224) rfl ?_
  refine own_aload X25 at_224 (pc' := 226) rfl rfl rfl ?_
  refine own_arraylength X25 at_226 FF22q1 (n := (2 : Int32)) (by simp only [List.length_map, own_upl, List.length_set, List.length_replicate]; rfl) (pc' := 227) rfl ?_
  refine own_iconst X25 at_227 (pc' := 228) rfl (v := (2 : Int32)) (by decide) ?_
  refine own_icN X25 at_228 (teq ((rfl : (2 : Int32) = (2 : Int32)))).2 (pc' := 231) rfl ?_
  refine own_aload X25 at_231 (pc' := 233) rfl rfl rfl ?_
  refine own_iload X25 at_233 (pc' := 235) rfl rfl ?_
  refine own_laload X25 at_235 FF21q1_22 (own_par2 hpp).1 (v := (.long ((ownUp ((List.replicate 2 (0 : Int64)).set (v12).toNatClampNeg (((List.replicate 2 (0 : Int64)).getD (v12).toNatClampNeg 0) + (1 : Int64))) ((List.replicate 2 (0 : Int64)).set (v12).toNatClampNeg (((List.replicate 2 (0 : Int64)).getD (v12).toNatClampNeg 0) + (1 : Int64))) 2).getD (v12).toNatClampNeg 0))) (own_getJ (by simp only [own_upl, List.length_set, List.length_replicate]; exact (own_par2 hpp).2.1)) (pc' := 236) rfl ?_
  refine own_ldc2Long X25 at_236 (pc' := 239) rfl (hw _ (List.mem_of_getElem? (i := 98) rfl)) ?_
  refine own_ljN X25 at_239 at_240 (own_teqL (((own_c3 _ _ (own_par2 hpp).2.1 (own_par2 hpp).2.1 _ _).trans (if_pos rfl) : ((ownUp ((List.replicate 2 (0 : Int64)).set (v12).toNatClampNeg (((List.replicate 2 (0 : Int64)).getD (v12).toNatClampNeg 0) + (1 : Int64))) ((List.replicate 2 (0 : Int64)).set (v12).toNatClampNeg (((List.replicate 2 (0 : Int64)).getD (v12).toNatClampNeg 0) + (1 : Int64))) 2).getD (v12).toNatClampNeg 0) = (2 : Int64)))).2 (pc' := 243) rfl ?_
  refine own_aload X25 at_243 (pc' := 245) rfl rfl rfl ?_
  refine own_iload X25 at_245 (pc' := 247) rfl rfl ?_
  refine own_laload X25 at_247 FF21q1_22 (own_par2 hpp).2.2.1 (v := (.long ((ownUp ((List.replicate 2 (0 : Int64)).set (v12).toNatClampNeg (((List.replicate 2 (0 : Int64)).getD (v12).toNatClampNeg 0) + (1 : Int64))) ((List.replicate 2 (0 : Int64)).set (v12).toNatClampNeg (((List.replicate 2 (0 : Int64)).getD (v12).toNatClampNeg 0) + (1 : Int64))) 2).getD (v18).toNatClampNeg 0))) (own_getJ (by simp only [own_upl, List.length_set, List.length_replicate]; exact (own_par2 hpp).2.2.2.1)) (pc' := 248) rfl ?_
  refine own_lconst X25 at_248 (pc' := 249) rfl (v := (0 : Int64)) (by decide) ?_
  refine own_ljN X25 at_249 at_250 (own_teqL (((own_c3 _ _ (own_par2 hpp).2.1 (own_par2 hpp).2.2.2.1 _ _).trans (if_neg (own_par2 hpp).2.2.2.2) : ((ownUp ((List.replicate 2 (0 : Int64)).set (v12).toNatClampNeg (((List.replicate 2 (0 : Int64)).getD (v12).toNatClampNeg 0) + (1 : Int64))) ((List.replicate 2 (0 : Int64)).set (v12).toNatClampNeg (((List.replicate 2 (0 : Int64)).getD (v12).toNatClampNeg 0) + (1 : Int64))) 2).getD (v18).toNatClampNeg 0) = (0 : Int64)))).2 (pc' := 253) rfl ?_
  refine own_aload X25 at_253 (pc' := 255) rfl rfl rfl ?_
  refine own_iload X25 at_255 (pc' := 257) rfl rfl ?_
  refine own_laload X25 at_257 FF22q1 (own_par2 hpp).1 (v := (.long ((ownUp ((List.replicate 2 (0 : Int64)).set (v12).toNatClampNeg (((List.replicate 2 (0 : Int64)).getD (v12).toNatClampNeg 0) + q3)) ((List.replicate 2 (0 : Int64)).set (v12).toNatClampNeg (((List.replicate 2 (0 : Int64)).getD (v12).toNatClampNeg 0) + q4)) 2).getD (v12).toNatClampNeg 0))) (own_getJ (by simp only [own_upl, List.length_set, List.length_replicate]; exact (own_par2 hpp).2.1)) (pc' := 258) rfl ?_
  refine own_lloadN X25 at_258 (pc' := 259) rfl rfl ?_
  refine own_lload X25 at_259 (pc' := 261) rfl rfl ?_
  refine own_ladd X25 at_261 (pc' := 262) rfl ?_
  refine own_ljN X25 at_262 at_263 (own_teqL (((own_c3 _ _ (own_par2 hpp).2.1 (own_par2 hpp).2.1 _ _).trans (if_pos rfl) : ((ownUp ((List.replicate 2 (0 : Int64)).set (v12).toNatClampNeg (((List.replicate 2 (0 : Int64)).getD (v12).toNatClampNeg 0) + q3)) ((List.replicate 2 (0 : Int64)).set (v12).toNatClampNeg (((List.replicate 2 (0 : Int64)).getD (v12).toNatClampNeg 0) + q4)) 2).getD (v12).toNatClampNeg 0) = (q3 + q4)))).2 (pc' := 266) rfl ?_
  refine own_aload X25 at_266 (pc' := 268) rfl rfl rfl ?_
  refine own_iload X25 at_268 (pc' := 270) rfl rfl ?_
  refine own_laload X25 at_270 FF22q1 (own_par2 hpp).2.2.1 (v := (.long ((ownUp ((List.replicate 2 (0 : Int64)).set (v12).toNatClampNeg (((List.replicate 2 (0 : Int64)).getD (v12).toNatClampNeg 0) + q3)) ((List.replicate 2 (0 : Int64)).set (v12).toNatClampNeg (((List.replicate 2 (0 : Int64)).getD (v12).toNatClampNeg 0) + q4)) 2).getD (v18).toNatClampNeg 0))) (own_getJ (by simp only [own_upl, List.length_set, List.length_replicate]; exact (own_par2 hpp).2.2.2.1)) (pc' := 271) rfl ?_
  refine own_lconst X25 at_271 (pc' := 272) rfl (v := (0 : Int64)) (by decide) ?_
  refine own_ljN X25 at_272 at_273 (own_teqL (((own_c3 _ _ (own_par2 hpp).2.1 (own_par2 hpp).2.2.2.1 _ _).trans (if_neg (own_par2 hpp).2.2.2.2) : ((ownUp ((List.replicate 2 (0 : Int64)).set (v12).toNatClampNeg (((List.replicate 2 (0 : Int64)).getD (v12).toNatClampNeg 0) + q3)) ((List.replicate 2 (0 : Int64)).set (v12).toNatClampNeg (((List.replicate 2 (0 : Int64)).getD (v12).toNatClampNeg 0) + q4)) 2).getD (v18).toNatClampNeg 0) = (0 : Int64)))).2 (pc' := 276) rfl ?_
  refine own_aload X25 at_276 (pc' := 278) rfl rfl rfl ?_
  refine own_callV (a := b1) (argsL := []) X25 at_278 (y := (⟨"com/example/evenkeel/evenkeel/shuffle/ShuffleStats", "sortBufferRecords", "()J"⟩ : MethodName)) (by decide) (hw _ (List.mem_of_getElem? (i := 104) rfl)) (hw _ (List.mem_of_getElem? (i := 105) rfl)) (hw _ (List.mem_of_getElem? (i := 107) rfl)) (hw _ (List.mem_of_getElem? (i := 106) rfl)) (hw _ (List.mem_of_getElem? (i := 108) rfl)) (hw _ (List.mem_of_getElem? (i := 2) rfl)) A1_22 (own_rm16 l Z a0 hw b1 ((((0 : Int64) + q5) + ((0 : Int64) + q6))) h22 n0 Z22 FF20q5_22) own_pd8 rfl (S := []) rfl (pc' := 281) rfl rfl (W := 0) (Nat.le_of_eq rfl) (by decide) (by decide) (by decide) (by decide) ?_
  intro T26 h26 v26_ X26 q26_
  obtain ⟨rfl, rfl⟩ := q26_
  obtain ⟨r26, hr26⟩ : ∃ z, z = (((0 : Int64) + q5) + ((0 : Int64) + q6)) := ⟨_, rfl⟩
  show OwnGo p e below (T26.setTop (mkF m 281 #[.val (.int p1), .val (.int p2), .val (.long q3), .second, .val (.long q4), .second, .val (.long q5), .second, .val (.long q6), .second, .val (.int v4), .val (.int v12), .val (.int v18), .val (.ref b1), .val (.ref b3), .val (.ref r_21), .val (.ref r_22)] [(.long (((0 : Int64) + q5) + ((0 : Int64) + q6)))])) RR
  rw [← hr26]
  refine own_lload X26 at_281 (pc' := 283) rfl rfl ?_
  refine own_lload X26 at_283 (pc' := 285) rfl rfl ?_
  refine own_ladd X26 at_285 (pc' := 286) rfl ?_
  refine own_ljN X26 at_286 at_287 (own_teqL ((by rw [hr26]; simp only [Int64.zero_add] : r26 = (q5 + q6)))).2 (pc' := 290) rfl ?_
  refine own_aload X26 at_290 (pc' := 292) rfl rfl rfl ?_
  refine own_callV (a := b1) (argsL := []) X26 at_292 (y := (⟨"com/example/evenkeel/evenkeel/shuffle/ShuffleStats", "hotKeyRecords", "()J"⟩ : MethodName)) (by decide) (hw _ (List.mem_of_getElem? (i := 109) rfl)) (hw _ (List.mem_of_getElem? (i := 110) rfl)) (hw _ (List.mem_of_getElem? (i := 112) rfl)) (hw _ (List.mem_of_getElem? (i := 111) rfl)) (hw _ (List.mem_of_getElem? (i := 113) rfl)) (hw _ (List.mem_of_getElem? (i := 2) rfl)) A1_22 (own_rm17 l Z a0 hw b1 ((((0 : Int64) + q6) + ((0 : Int64) + q4))) h22 n0 Z22 FF20q6_22) own_pd8 rfl (S := []) rfl (pc' := 295) rfl rfl (W := 0) (Nat.le_of_eq rfl) (by decide) (by decide) (by decide) (by decide) ?_
  intro T27 h27 v27_ X27 q27_
  obtain ⟨rfl, rfl⟩ := q27_
  obtain ⟨r27, hr27⟩ : ∃ z, z = (((0 : Int64) + q6) + ((0 : Int64) + q4)) := ⟨_, rfl⟩
  show OwnGo p e below (T27.setTop (mkF m 295 #[.val (.int p1), .val (.int p2), .val (.long q3), .second, .val (.long q4), .second, .val (.long q5), .second, .val (.long q6), .second, .val (.int v4), .val (.int v12), .val (.int v18), .val (.ref b1), .val (.ref b3), .val (.ref r_21), .val (.ref r_22)] [(.long (((0 : Int64) + q6) + ((0 : Int64) + q4)))])) RR
  rw [← hr27]
  refine own_lload X27 at_295 (pc' := 297) rfl rfl ?_
  refine own_lload X27 at_297 (pc' := 299) rfl rfl ?_
  refine own_ladd X27 at_299 (pc' := 300) rfl ?_
  refine own_ljN X27 at_300 at_301 (own_teqL ((by rw [hr27]; simp only [Int64.zero_add] : r27 = (q6 + q4)))).2 (pc' := 304) rfl ?_
  refine own_aload X27 at_304 (pc' := 306) rfl rfl rfl ?_
  refine own_callV (a := b1) (argsL := []) X27 at_306 (y := (⟨"com/example/evenkeel/evenkeel/shuffle/ShuffleStats", "hotKeyFlushes", "()J"⟩ : MethodName)) (by decide) (hw _ (List.mem_of_getElem? (i := 114) rfl)) (hw _ (List.mem_of_getElem? (i := 115) rfl)) (hw _ (List.mem_of_getElem? (i := 117) rfl)) (hw _ (List.mem_of_getElem? (i := 116) rfl)) (hw _ (List.mem_of_getElem? (i := 118) rfl)) (hw _ (List.mem_of_getElem? (i := 2) rfl)) A1_22 (own_rm18 l Z a0 hw b1 ((((0 : Int64) + q3) + ((0 : Int64) + q5))) h22 n0 Z22 FF20q7_22) own_pd8 rfl (S := []) rfl (pc' := 309) rfl rfl (W := 0) (Nat.le_of_eq rfl) (by decide) (by decide) (by decide) (by decide) ?_
  intro T28 h28 v28_ X28 q28_
  obtain ⟨rfl, rfl⟩ := q28_
  obtain ⟨r28, hr28⟩ : ∃ z, z = (((0 : Int64) + q3) + ((0 : Int64) + q5)) := ⟨_, rfl⟩
  show OwnGo p e below (T28.setTop (mkF m 309 #[.val (.int p1), .val (.int p2), .val (.long q3), .second, .val (.long q4), .second, .val (.long q5), .second, .val (.long q6), .second, .val (.int v4), .val (.int v12), .val (.int v18), .val (.ref b1), .val (.ref b3), .val (.ref r_21), .val (.ref r_22)] [(.long (((0 : Int64) + q3) + ((0 : Int64) + q5)))])) RR
  rw [← hr28]
  refine own_lloadN X28 at_309 (pc' := 310) rfl rfl ?_
  refine own_lload X28 at_310 (pc' := 312) rfl rfl ?_
  refine own_ladd X28 at_312 (pc' := 313) rfl ?_
  refine own_ljN X28 at_313 at_314 (own_teqL ((by rw [hr28]; simp only [Int64.zero_add] : r28 = (q3 + q5)))).2 (pc' := 317) rfl ?_
  refine own_aload X28 at_317 (pc' := 319) rfl rfl rfl ?_
  refine own_callV (a := b1) (argsL := []) X28 at_319 (y := (⟨"com/example/evenkeel/evenkeel/shuffle/ShuffleStats", "shuffleRecords", "()J"⟩ : MethodName)) (by decide) (hw _ (List.mem_of_getElem? (i := 119) rfl)) (hw _ (List.mem_of_getElem? (i := 120) rfl)) (hw _ (List.mem_of_getElem? (i := 122) rfl)) (hw _ (List.mem_of_getElem? (i := 121) rfl)) (hw _ (List.mem_of_getElem? (i := 123) rfl)) (hw _ (List.mem_of_getElem? (i := 2) rfl)) A1_22 (own_rm19 l Z a0 hw b1 ((((0 : Int64) + q4) + ((0 : Int64) + q3))) h22 n0 Z22 FF20q8_22) own_pd8 rfl (S := []) rfl (pc' := 322) rfl rfl (W := 0) (Nat.le_of_eq rfl) (by decide) (by decide) (by decide) (by decide) ?_
  intro T29 h29 v29_ X29 q29_
  obtain ⟨rfl, rfl⟩ := q29_
  obtain ⟨r29, hr29⟩ : ∃ z, z = (((0 : Int64) + q4) + ((0 : Int64) + q3)) := ⟨_, rfl⟩
  show OwnGo p e below (T29.setTop (mkF m 322 #[.val (.int p1), .val (.int p2), .val (.long q3), .second, .val (.long q4), .second, .val (.long q5), .second, .val (.long q6), .second, .val (.int v4), .val (.int v12), .val (.int v18), .val (.ref b1), .val (.ref b3), .val (.ref r_21), .val (.ref r_22)] [(.long (((0 : Int64) + q4) + ((0 : Int64) + q3)))])) RR
  rw [← hr29]
  refine own_lload X29 at_322 (pc' := 324) rfl rfl ?_
  refine own_lloadN X29 at_324 (pc' := 325) rfl rfl ?_
  refine own_ladd X29 at_325 (pc' := 326) rfl ?_
  refine own_ljN X29 at_326 at_327 (own_teqL ((by rw [hr29]; simp only [Int64.zero_add] : r29 = (q4 + q3)))).2 (pc' := 330) rfl ?_
  refine own_iconst X29 at_330 (pc' := 331) rfl (v := (1 : Int32)) (by decide) ?_
  refine own_goto X29 at_331 (pc' := 335) (by decide) (by decide) ?_
  exact own_retZ X29 at_335 (by decide) rfl (by decide) (by decide)
set_option maxRecDepth 65536 in
set_option maxHeartbeats 40000000 in
theorem own_comes {Post : Tables → Env → Array Value → State → Outcome → State → Prop} (hpost : ∀ tb e args s v u, (limb_1_1.after args s (.returned v) u = true ∧ limb_1_2.after args s (.returned v) u = true ∧ True) → FrameEnd s (.returned v) u (Jvm.fieldLocs frame_1_writes args s ++ Jvm.arrayLocs frame_1_arrays args s ++ Jvm.staticLocs frame_1_statics s) 40 1664 → Post tb e args s (.returned v) u) :
    ArmFor flags0 classFile x code maxLocals ret World_1 tables_1 room_1 Calls_1 rest_1 Pre_1 Post := by
  intro l hfl _ _ p e ha hc hk s m args below hf hA hF happ hP
  obtain ⟨hcalls, hrest, hpre⟩ := hP
  obtain ⟨-, -, -, hnamed, -, -, -, hat⟩ := (Spec.applies_iff hf).mp happ
  obtain ⟨hg, hn⟩ := and_e (Cond.before_iff.mp (show (Jvm.Cond.and given_1 narrow_1).before args s = true from hpre))
  obtain ⟨gc, g0⟩ := and_e hg
  obtain ⟨w0_, g1⟩ := and_e g0
  obtain ⟨w1_, g2⟩ := and_e g1
  obtain ⟨w2_, g3⟩ := and_e g2
  obtain ⟨w3_, g4⟩ := and_e g3
  obtain ⟨w4_, g5⟩ := and_e g4
  obtain ⟨z0, z1, z2, z3, z4, z5, rfl⟩ : ∃ z0 z1 z2 z3 z4 z5 : Value, args = #[z0, z1, z2, z3, z4, z5] := by
    have hs : args.size = 6 := by simpa [Cond.value, given_1] using gc
    obtain ⟨L⟩ := args
    match L, hs with
    | [z0, z1, z2, z3, z4, z5], _ => exact ⟨z0, z1, z2, z3, z4, z5, rfl⟩
  have hw := fun d (hd : d ∈ tables_1) => atoms_spec (ws := Jvm.Cond.code x code maxLocals ret :: tables_1) hat d (List.mem_cons_of_mem _ hd)
  obtain ⟨i0, ei0⟩ := is_v w0_
  obtain rfl : z0 = (.int i0) := Option.some.inj ei0
  obtain ⟨i1, ei1⟩ := is_v w1_
  obtain rfl : z1 = (.int i1) := Option.some.inj ei1
  obtain ⟨i2, ei2⟩ := isL_v w2_
  obtain rfl : z2 = (.long i2) := Option.some.inj ei2
  obtain ⟨i3, ei3⟩ := isL_v w3_
  obtain rfl : z3 = (.long i3) := Option.some.inj ei3
  obtain ⟨i4, ei4⟩ := isL_v w4_
  obtain rfl : z4 = (.long i4) := Option.some.inj ei4
  obtain ⟨i5, ei5⟩ := isL_v g5
  obtain rfl : z5 = (.long i5) := Option.some.inj ei5
  obtain ⟨n, o, h1, h2, h3, _, L, rfl, ⟨⟨rfl, -⟩, N⟩, hq⟩ := own_rm0 l s _ hw i0 i1 i2 i3 i4 i5  s.heap s.heap.size (Nat.le_refl _)  tables_1 p e ha hc hk s m _ below hf ((Spec.applies_iff_loose hf).mp happ).1 ⟨rfl, State.Warmed39.refl s, rfl⟩ trivial
  exact ⟨n, _, h1, h2, h3, hpost _ _ _ _ _ _ ⟨Cond.after_iff.mpr rfl, Cond.after_iff.mpr (eq_i res_at (Term.int_eval (1)) rfl), trivial⟩ ⟨hq.1, hq.2.1, (hq.2.2.sift fun y hy => Or.inr (N y hy)).mono (by decide) (by decide)⟩⟩
theorem main_1_1 : Claimed_1_1 := own_comes fun _ _ _ _ _ _ h hF => ⟨h.1, hF⟩
theorem main_1_2 : Claimed_1_2 := own_comes fun _ _ _ _ _ _ h hF => ⟨h.2.1, hF⟩
end Jvm.Pilot.@@N@@
namespace Jvm.Pilot.@@N@@
open Jvm Jvm.ClassFile Sem Op Lib Jvm.Free Jvm.Stand Jvm.Pilot.@@N@@.Jvm.D
/-! MADE BY PROGRAM (witnessworld.py) out of the Statement's table words and the real class files: 11 classes; the members and pool entries that the words name. The judged class is class 1, her method 1. -/
namespace start1
open Jvm.ClassFile
def u (s : String) : CpInfo := .utf8 (stringToUtf16 s)
/-- a pool by its gaps: so many unusable entries, then the entry; so many at the end -/
def gap : Nat → List CpInfo → List CpInfo
  | 0, r => r
  | n + 1, r => .unusable :: gap n r
def poolList (es : List (Nat × CpInfo)) (last : Nat) : List CpInfo := es.foldr (fun e r => gap e.1 (e.2 :: r)) (gap last [])
def pool (es : List (Nat × CpInfo)) (last : Nat) : Array CpInfo := ⟨poolList es last⟩
def fileOf (pool : Array CpInfo) (this : Nat) (attrs : Array Attribute := #[]) (ms : Array MethodInfo := #[]) (fl : Nat := 33) (sup : Nat := 0) (ifs : Array Nat := #[]) (fds : Array FieldInfo := #[]) : ClassFile where
  minorVersion := 0
  majorVersion := 65
  constantPool := pool
  accessFlags := fl
  thisClass := this
  superClass := sup
  interfaces := ifs
  fields := fds
  methods := ms
  attributes := attrs
def plain (name : String) (sup : Option ClassId) : Class where
  name := name
  kind := .ordinary
  loader := none
  accessFlags := 33
  super := sup
  interfaces := #[]
  cf := none
  fields := #[]
  methods := #[]
  instanceTypes := #[]
  staticTypes := #[]
  resolved := #[]
  callSites := []
  init := .initialized
  statics := none
  mirror := none

def pool0 : Array CpInfo := pool [(5, u "<init>"), (0, u "()V"), (1, .class_ 10), (1, u "java/lang/Object"), (85, u "clone"), (0, u "()Ljava/lang/Object;")] 26

def k0c0 : Code := { maxStack := 0, maxLocals := 1, code := object_method_1_code, exceptionTable := #[], attributes := #[] }
def k0m0 : Method := { name := "<init>", desc := "()V", sig := { parameters := [], returnType := none }, accessFlags := 1, code := some k0c0 }
def k0m1 : Method := { name := "clone", desc := "()Ljava/lang/Object;", sig := { parameters := [], returnType := some (.object "java/lang/Object") }, accessFlags := 260, code := none }
/-- java/lang/Object -/
def k0 : Class := { plain "java/lang/Object" none with
  accessFlags := 33
  interfaces := #[]
  cf := some (fileOf pool0 8 #[] #[{ accessFlags := 1, nameIndex := 5, descriptorIndex := 6, attributes := #[] }, { accessFlags := 260, nameIndex := 96, descriptorIndex := 97, attributes := #[] }] 33 0 #[] #[])
  fields := #[]
  methods := #[k0m0, k0m1]
  instanceTypes := #[]
  staticTypes := #[]
  resolved := Array.replicate 124 none
  statics := none }

def pool1 : Array CpInfo := pool [(2, .class_ 4), (1, u "java/lang/Object"), (0, u "<init>"), (0, u "()V"), (0, .class_ 8), (0, u "com/example/evenkeel/evenkeel/shuffle/ShuffleStats"), (0, .methodref 7 10), (0, .nameAndType 5 11), (0, u "(I)V"), (0, .methodref 7 13), (0, .nameAndType 14 11), (0, u "read"), (0, .methodref 7 16), (0, .nameAndType 17 11), (0, u "unrouted"), (0, .methodref 7 19), (0, .nameAndType 20 21), (0, u "copied"), (0, u "(II)V"), (0, .methodref 7 23), (0, .nameAndType 24 25), (0, u "routed"), (0, u "(IJ)V"), (0, .methodref 7 27), (0, .nameAndType 28 29), (0, u "buffered"), (0, u "(J)V"), (0, .methodref 7 31), (0, .nameAndType 32 33), (0, u "hotKeys"), (0, u "(JJ)V"), (0, .methodref 7 35), (0, .nameAndType 36 29), (0, u "shuffled"), (0, .methodref 7 38), (0, .nameAndType 39 40), (0, u "add"), (0, u "(Lcom/example/evenkeel/evenkeel/shuffle/ShuffleStats;)V"), (0, .methodref 7 42), (0, .nameAndType 43 44), (0, u "partitionRecords"), (0, u "()[J"), (0, .methodref 7 46), (0, .nameAndType 47 44), (0, u "partitionBytes"), (0, .methodref 7 49), (0, .nameAndType 50 51), (0, u "inputRecords"), (0, u "(I)J"), (0, .long 3), (1, .methodref 7 55), (0, .nameAndType 56 51), (0, u "unroutedRecords"), (0, .long 2), (1, .methodref 7 60), (0, .nameAndType 61 51), (0, u "extraCopies"), (0, .methodref 7 63), (0, .nameAndType 64 65), (0, u "sortBufferRecords"), (0, u "()J"), (0, .methodref 7 67), (0, .nameAndType 68 65), (0, u "hotKeyRecords"), (0, .methodref 7 70), (0, .nameAndType 71 65), (0, u "hotKeyFlushes"), (0, .methodref 7 73), (0, .nameAndType 74 65), (0, u "shuffleRecords"), (0, .class_ 76), (0, u "com/example/evenkeel/evenkeel/shuffle/ShuffleStatsAddPinLaw"), (2, u "law"), (0, u "(IIJJJJ)Z")] 5

def k1m0 : Method := { name := "<init>", desc := "()V", sig := { parameters := [], returnType := none }, accessFlags := 1, code := none }
def k1c1 : Code := { maxStack := 6, maxLocals := 17, code := code, exceptionTable := #[], attributes := #[] }
def k1m1 : Method := { name := "law", desc := "(IIJJJJ)Z", sig := { parameters := [.int, .int, .long, .long, .long, .long], returnType := some .boolean }, accessFlags := 9, code := some k1c1 }
/-- com/example/evenkeel/evenkeel/shuffle/ShuffleStatsAddPinLaw -/
def k1 : Class := { plain "com/example/evenkeel/evenkeel/shuffle/ShuffleStatsAddPinLaw" (some 0) with
  accessFlags := 49
  interfaces := #[]
  cf := some (fileOf pool1 75 #[] #[{ accessFlags := 1, nameIndex := 5, descriptorIndex := 6, attributes := #[] }, { accessFlags := 9, nameIndex := 79, descriptorIndex := 80, attributes := #[] }] 49 2 #[] #[])
  fields := #[]
  methods := #[k1m0, k1m1]
  instanceTypes := #[]
  staticTypes := #[]
  resolved := Array.replicate 86 none
  statics := none }

def pool2 : Array CpInfo := pool [(1, .methodref 2 3), (0, .class_ 4), (0, .nameAndType 5 6), (0, u "java/lang/Object"), (0, u "<init>"), (0, u "()V"), (2, .fieldref 10 11), (0, .class_ 12), (0, .nameAndType 13 14), (0, u "com/example/evenkeel/evenkeel/shuffle/ShuffleStats"), (0, u "inputRecords"), (0, u "[J"), (0, .fieldref 10 16), (0, .nameAndType 17 14), (0, u "unroutedRecords"), (0, .fieldref 10 19), (0, .nameAndType 20 14), (0, u "extraCopies"), (0, .fieldref 10 22), (0, .nameAndType 23 14), (0, u "partitionRecords"), (0, .fieldref 10 25), (0, .nameAndType 26 14), (0, u "partitionBytes"), (0, .fieldref 10 28), (0, .nameAndType 29 30), (0, u "sortBufferRecords"), (0, u "J"), (0, .fieldref 10 32), (0, .nameAndType 33 30), (0, u "hotKeyRecords"), (0, .fieldref 10 35), (0, .nameAndType 36 30), (0, u "hotKeyFlushes"), (0, .fieldref 10 38), (0, .nameAndType 39 30), (0, u "shuffleRecords"), (0, .methodref 41 42), (0, .class_ 14), (0, .nameAndType 43 44), (0, u "clone"), (0, u "()Ljava/lang/Object;"), (11, u "()J"), (13, u "(I)V"), (2, u "read"), (0, u "unrouted"), (0, u "copied"), (0, u "(II)V"), (0, u "routed"), (0, u "(IJ)V"), (0, u "buffered"), (0, u "(J)V"), (0, u "hotKeys"), (0, u "(JJ)V"), (0, u "shuffled"), (0, u "add"), (0, u "(Lcom/example/evenkeel/evenkeel/shuffle/ShuffleStats;)V"), (1, u "(I)J"), (1, u "()[J")] 5

def k2c0 : Code := { maxStack := 2, maxLocals := 2, code := prog_80_method_1_code, exceptionTable := #[], attributes := #[] }
def k2m0 : Method := { name := "<init>", desc := "(I)V", sig := { parameters := [.int], returnType := none }, accessFlags := 0, code := some k2c0 }
def k2c1 : Code := { maxStack := 6, maxLocals := 2, code := prog_80_method_2_code, exceptionTable := #[], attributes := #[] }
def k2m1 : Method := { name := "read", desc := "(I)V", sig := { parameters := [.int], returnType := none }, accessFlags := 0, code := some k2c1 }
def k2c2 : Code := { maxStack := 6, maxLocals := 2, code := prog_80_method_3_code, exceptionTable := #[], attributes := #[] }
def k2m2 : Method := { name := "unrouted", desc := "(I)V", sig := { parameters := [.int], returnType := none }, accessFlags := 0, code := some k2c2 }
def k2c3 : Code := { maxStack := 6, maxLocals := 3, code := prog_80_method_4_code, exceptionTable := #[], attributes := #[] }
def k2m3 : Method := { name := "copied", desc := "(II)V", sig := { parameters := [.int, .int], returnType := none }, accessFlags := 0, code := some k2c3 }
def k2c4 : Code := { maxStack := 6, maxLocals := 4, code := prog_80_method_5_code, exceptionTable := #[], attributes := #[] }
def k2m4 : Method := { name := "routed", desc := "(IJ)V", sig := { parameters := [.int, .long], returnType := none }, accessFlags := 0, code := some k2c4 }
def k2c5 : Code := { maxStack := 5, maxLocals := 3, code := prog_80_method_6_code, exceptionTable := #[], attributes := #[] }
def k2m5 : Method := { name := "buffered", desc := "(J)V", sig := { parameters := [.long], returnType := none }, accessFlags := 0, code := some k2c5 }
def k2c6 : Code := { maxStack := 5, maxLocals := 5, code := prog_80_method_7_code, exceptionTable := #[], attributes := #[] }
def k2m6 : Method := { name := "hotKeys", desc := "(JJ)V", sig := { parameters := [.long, .long], returnType := none }, accessFlags := 0, code := some k2c6 }
def k2c7 : Code := { maxStack := 5, maxLocals := 3, code := prog_80_method_8_code, exceptionTable := #[], attributes := #[] }
def k2m7 : Method := { name := "shuffled", desc := "(J)V", sig := { parameters := [.long], returnType := none }, accessFlags := 0, code := some k2c7 }
def k2c8 : Code := { maxStack := 6, maxLocals := 3, code := prog_80_method_9_code, exceptionTable := #[], attributes := #[] }
def k2m8 : Method := { name := "add", desc := "(Lcom/example/evenkeel/evenkeel/shuffle/ShuffleStats;)V", sig := { parameters := [(.object "com/example/evenkeel/evenkeel/shuffle/ShuffleStats")], returnType := none }, accessFlags := 1, code := some k2c8 }
def k2c9 : Code := { maxStack := 2, maxLocals := 2, code := prog_80_method_10_code, exceptionTable := #[], attributes := #[] }
def k2m9 : Method := { name := "inputRecords", desc := "(I)J", sig := { parameters := [.int], returnType := some .long }, accessFlags := 1, code := some k2c9 }
def k2c10 : Code := { maxStack := 2, maxLocals := 2, code := prog_80_method_11_code, exceptionTable := #[], attributes := #[] }
def k2m10 : Method := { name := "unroutedRecords", desc := "(I)J", sig := { parameters := [.int], returnType := some .long }, accessFlags := 1, code := some k2c10 }
def k2c11 : Code := { maxStack := 2, maxLocals := 2, code := prog_80_method_13_code, exceptionTable := #[], attributes := #[] }
def k2m11 : Method := { name := "extraCopies", desc := "(I)J", sig := { parameters := [.int], returnType := some .long }, accessFlags := 1, code := some k2c11 }
def k2c12 : Code := { maxStack := 1, maxLocals := 1, code := prog_80_method_14_code, exceptionTable := #[], attributes := #[] }
def k2m12 : Method := { name := "partitionRecords", desc := "()[J", sig := { parameters := [], returnType := some (.array .long) }, accessFlags := 1, code := some k2c12 }
def k2c13 : Code := { maxStack := 1, maxLocals := 1, code := prog_80_method_15_code, exceptionTable := #[], attributes := #[] }
def k2m13 : Method := { name := "partitionBytes", desc := "()[J", sig := { parameters := [], returnType := some (.array .long) }, accessFlags := 1, code := some k2c13 }
def k2c14 : Code := { maxStack := 2, maxLocals := 1, code := prog_80_method_17_code, exceptionTable := #[], attributes := #[] }
def k2m14 : Method := { name := "sortBufferRecords", desc := "()J", sig := { parameters := [], returnType := some .long }, accessFlags := 1, code := some k2c14 }
def k2c15 : Code := { maxStack := 2, maxLocals := 1, code := prog_80_method_18_code, exceptionTable := #[], attributes := #[] }
def k2m15 : Method := { name := "hotKeyRecords", desc := "()J", sig := { parameters := [], returnType := some .long }, accessFlags := 1, code := some k2c15 }
def k2c16 : Code := { maxStack := 2, maxLocals := 1, code := prog_80_method_19_code, exceptionTable := #[], attributes := #[] }
def k2m16 : Method := { name := "hotKeyFlushes", desc := "()J", sig := { parameters := [], returnType := some .long }, accessFlags := 1, code := some k2c16 }
def k2c17 : Code := { maxStack := 2, maxLocals := 1, code := prog_80_method_20_code, exceptionTable := #[], attributes := #[] }
def k2m17 : Method := { name := "shuffleRecords", desc := "()J", sig := { parameters := [], returnType := some .long }, accessFlags := 1, code := some k2c17 }
/-- com/example/evenkeel/evenkeel/shuffle/ShuffleStats -/
def k2 : Class := { plain "com/example/evenkeel/evenkeel/shuffle/ShuffleStats" (some 0) with
  accessFlags := 49
  interfaces := #[]
  cf := some (fileOf pool2 10 #[] #[{ accessFlags := 0, nameIndex := 5, descriptorIndex := 70, attributes := #[] }, { accessFlags := 0, nameIndex := 73, descriptorIndex := 70, attributes := #[] }, { accessFlags := 0, nameIndex := 74, descriptorIndex := 70, attributes := #[] }, { accessFlags := 0, nameIndex := 75, descriptorIndex := 76, attributes := #[] }, { accessFlags := 0, nameIndex := 77, descriptorIndex := 78, attributes := #[] }, { accessFlags := 0, nameIndex := 79, descriptorIndex := 80, attributes := #[] }, { accessFlags := 0, nameIndex := 81, descriptorIndex := 82, attributes := #[] }, { accessFlags := 0, nameIndex := 83, descriptorIndex := 80, attributes := #[] }, { accessFlags := 1, nameIndex := 84, descriptorIndex := 85, attributes := #[] }, { accessFlags := 1, nameIndex := 13, descriptorIndex := 87, attributes := #[] }, { accessFlags := 1, nameIndex := 17, descriptorIndex := 87, attributes := #[] }, { accessFlags := 1, nameIndex := 20, descriptorIndex := 87, attributes := #[] }, { accessFlags := 1, nameIndex := 23, descriptorIndex := 89, attributes := #[] }, { accessFlags := 1, nameIndex := 26, descriptorIndex := 89, attributes := #[] }, { accessFlags := 1, nameIndex := 29, descriptorIndex := 56, attributes := #[] }, { accessFlags := 1, nameIndex := 33, descriptorIndex := 56, attributes := #[] }, { accessFlags := 1, nameIndex := 36, descriptorIndex := 56, attributes := #[] }, { accessFlags := 1, nameIndex := 39, descriptorIndex := 56, attributes := #[] }] 49 2 #[] #[{ accessFlags := 18, nameIndex := 13, descriptorIndex := 14, attributes := #[] }, { accessFlags := 18, nameIndex := 17, descriptorIndex := 14, attributes := #[] }, { accessFlags := 18, nameIndex := 20, descriptorIndex := 14, attributes := #[] }, { accessFlags := 18, nameIndex := 23, descriptorIndex := 14, attributes := #[] }, { accessFlags := 18, nameIndex := 26, descriptorIndex := 14, attributes := #[] }, { accessFlags := 2, nameIndex := 29, descriptorIndex := 30, attributes := #[] }, { accessFlags := 2, nameIndex := 33, descriptorIndex := 30, attributes := #[] }, { accessFlags := 2, nameIndex := 36, descriptorIndex := 30, attributes := #[] }, { accessFlags := 2, nameIndex := 39, descriptorIndex := 30, attributes := #[] }])
  fields := #[{ name := "inputRecords", type := (.array .long), accessFlags := 18, slot := 0, constantValue := 0 }, { name := "unroutedRecords", type := (.array .long), accessFlags := 18, slot := 1, constantValue := 0 }, { name := "extraCopies", type := (.array .long), accessFlags := 18, slot := 2, constantValue := 0 }, { name := "partitionRecords", type := (.array .long), accessFlags := 18, slot := 3, constantValue := 0 }, { name := "partitionBytes", type := (.array .long), accessFlags := 18, slot := 4, constantValue := 0 }, { name := "sortBufferRecords", type := .long, accessFlags := 2, slot := 5, constantValue := 0 }, { name := "hotKeyRecords", type := .long, accessFlags := 2, slot := 6, constantValue := 0 }, { name := "hotKeyFlushes", type := .long, accessFlags := 2, slot := 7, constantValue := 0 }, { name := "shuffleRecords", type := .long, accessFlags := 2, slot := 8, constantValue := 0 }]
  methods := #[k2m0, k2m1, k2m2, k2m3, k2m4, k2m5, k2m6, k2m7, k2m8, k2m9, k2m10, k2m11, k2m12, k2m13, k2m14, k2m15, k2m16, k2m17]
  instanceTypes := #[(.array .long), (.array .long), (.array .long), (.array .long), (.array .long), .long, .long, .long, .long]
  staticTypes := #[]
  resolved := Array.replicate 95 none
  statics := none }

def pool3 : Array CpInfo := pool [(1, .class_ 2), (0, u "java/lang/Cloneable"), (0, .class_ 4), (0, u "java/lang/Object")] 2

/-- java/lang/Cloneable -/
def k3 : Class := { plain "java/lang/Cloneable" (some 0) with
  accessFlags := 1537
  interfaces := #[]
  cf := some (fileOf pool3 1 #[] #[] 1537 3 #[] #[])
  fields := #[]
  methods := #[]
  instanceTypes := #[]
  staticTypes := #[]
  resolved := Array.replicate 7 none
  statics := none }

def pool4 : Array CpInfo := pool [(1, u "java/io/Serializable"), (0, .class_ 1), (0, u "java/lang/Object"), (0, .class_ 3)] 3

/-- java/io/Serializable -/
def k4 : Class := { plain "java/io/Serializable" (some 0) with
  accessFlags := 1537
  interfaces := #[]
  cf := some (fileOf pool4 2 #[] #[] 1537 4 #[] #[])
  fields := #[]
  methods := #[]
  instanceTypes := #[]
  staticTypes := #[]
  resolved := Array.replicate 8 none
  statics := none }

/-- the primitive byte -/
def k5 : Class := { plain "byte" none with kind := .primitive 'B', accessFlags := 0x411 }
/-- [B -/
def k6 : Class := { plain "[B" (some 0) with kind := .array 5 .byte, interfaces := #[3, 4], accessFlags := 1041 }

/-- the primitive int -/
def k7 : Class := { plain "int" none with kind := .primitive 'I', accessFlags := 0x411 }
/-- [I -/
def k8 : Class := { plain "[I" (some 0) with kind := .array 7 .int, interfaces := #[3, 4], accessFlags := 1041 }

/-- the primitive long -/
def k9 : Class := { plain "long" none with kind := .primitive 'J', accessFlags := 0x411 }
/-- [J -/
def k10 : Class := { plain "[J" (some 0) with kind := .array 9 .long, interfaces := #[3, 4], accessFlags := 1041 }

def heap : Heap := #[]
def classes : Array Class := #[k0, k1, k2, k3, k4, k5, k6, k7, k8, k9, k10]
def interned : List (Array UInt16 × Addr) := []
def slotsUsed : Nat := 0
def theMethod : MethodId := ⟨1, 1⟩
def args0 : Array Value := #[.int 5, .int 5, .long 1, .long 1, .long 1, .long 1]
def aboutOver (below : List Frame) : State where
  vm := { classes := classes, interned := interned.toArray }
  heap := heap
  slotsUsed := slotsUsed
  threads := #[{ frames := .invoking theMethod args0 :: below }]
def below0 : List Frame := [.native { method := ⟨0, 0⟩, args := #[] }]
def about1 : State := aboutOver below0
def p0 : Program := .bare "" "" ""
def e0 : Env := launch0.env 0 0 0
theorem w_frames : about1.frames = Frame.invoking theMethod args0 :: below0 := rfl
set_option maxRecDepth 65536 in
theorem w_args : argsFit about1.vm theMethod args0 = true := by decide +kernel
set_option maxRecDepth 65536 in
theorem w_heap : heapFits about1 = true := by decide +kernel
set_option maxRecDepth 65536 in
theorem w_runnable : about1.curStatus? = some .runnable := by decide +kernel
set_option maxRecDepth 65536 in
theorem w_alone : about1.alone = true := by decide +kernel
set_option maxRecDepth 65536 in
theorem w_named : about1.methodNamed? x = some theMethod := by decide +kernel
set_option maxRecDepth 65536 in
theorem w_hears : about1.hears theMethod below0 = true := by decide +kernel
set_option maxRecDepth 65536 in
theorem w_ripe : about1.ripe theMethod args0 below0 = true := by decide +kernel
theorem w_running : about1.status = .running := rfl
set_option maxRecDepth 65536 in
theorem w_room : about1.hasRoom e0.platform room_1 = true :=
  launch0.hasRoom_least _ room_1 (by decide +kernel) (by decide +kernel) (by decide +kernel) (by decide +kernel) (by decide +kernel) (by decide +kernel)
theorem allAtoms_all (ts : List Jvm.Cond) (a : Array Jvm.Value) (st : Jvm.State) : (allAtoms ts).before a st = ts.all (fun c => c.before a st) := by
  induction ts with
  | nil => rfl
  | cons c t ih =>
    show (Jvm.Cond.and c (allAtoms t)).before a st = _
    rw [Jvm.Cond.before_and, ih, List.all_cons]
def words1 : List Jvm.Cond := Jvm.Cond.code x code maxLocals ret :: tables_1
/-- a 'code' word, met by the world's own term for the bytes: nothing is compared byte by byte -/
theorem code_word {y : MethodName} {bytes : ByteArray} {mx : Nat} {rt : Option FieldType} {a : Array Value} {s : State} {m : MethodId} {meth : Method} {c : Code} (h1 : s.methodNamed? y = some m) (h2 : s.vm.method? m = some meth) (h3 : meth.code = some c) (h4 : c.code = bytes)
    (h5 : (c.maxLocals == mx && c.exceptionTable.isEmpty && decide (c.maxStack ≤ mostOperands) && decide (meth.sig.returnType = rt) && !meth.locks && decide (parseMethodDescriptor y.desc = some meth.sig)) = true) : (Jvm.Cond.code y bytes mx rt).before a s = true := by
  simp only [Bool.and_eq_true, beq_iff_eq, Bool.not_eq_true', decide_eq_true_eq] at h5
  obtain ⟨⟨⟨⟨⟨g1, g2⟩, g3⟩, g4⟩, g5⟩, g6⟩ := h5
  simp [Cond.before, Cond.holds, Cond.value, h1, h2, h3, h4, g1, g2, g3, g4, g5, g6]
def isCode : Jvm.Cond → Bool
  | .code _ _ _ _ => true
  | _ => false
theorem all_split {L : List Jvm.Cond} {P : Jvm.Cond → Bool} (h1 : L.all (fun c => isCode c || P c) = true) (h2 : ∀ c ∈ L.filter isCode, P c = true) : L.all P = true := by
  refine List.all_eq_true.mpr fun c hc => ?_
  have h := List.all_eq_true.mp h1 c hc
  rcases Bool.eq_false_or_eq_true (isCode c) with hi | hi
  · exact h2 c (List.mem_filter.mpr ⟨hc, hi⟩)
  · simpa [hi] using h
set_option maxRecDepth 65536 in
theorem w_c0 : (Jvm.Cond.code x code maxLocals ret).before args0 about1 = true := code_word (m := ⟨1, 1⟩) (meth := k1m1) (c := k1c1) (by decide +kernel) rfl rfl rfl (by decide +kernel)
set_option maxRecDepth 65536 in
theorem w_c1 : (Jvm.Cond.code ({ cls := "com/example/evenkeel/evenkeel/shuffle/ShuffleStats", name := "<init>", desc := "(I)V" } : Jvm.MethodName) prog_80_method_1_code (2 : Nat) (Option.none : Option Jvm.ClassFile.FieldType)).before args0 about1 = true := code_word (m := ⟨2, 0⟩) (meth := k2m0) (c := k2c0) (by decide +kernel) rfl rfl rfl (by decide +kernel)
set_option maxRecDepth 65536 in
theorem w_c2 : (Jvm.Cond.code ({ cls := "java/lang/Object", name := "<init>", desc := "()V" } : Jvm.MethodName) object_method_1_code (1 : Nat) (Option.none : Option Jvm.ClassFile.FieldType)).before args0 about1 = true := code_word (m := ⟨0, 0⟩) (meth := k0m0) (c := k0c0) (by decide +kernel) rfl rfl rfl (by decide +kernel)
set_option maxRecDepth 65536 in
theorem w_c3 : (Jvm.Cond.code ({ cls := "com/example/evenkeel/evenkeel/shuffle/ShuffleStats", name := "read", desc := "(I)V" } : Jvm.MethodName) prog_80_method_2_code (2 : Nat) (Option.none : Option Jvm.ClassFile.FieldType)).before args0 about1 = true := code_word (m := ⟨2, 1⟩) (meth := k2m1) (c := k2c1) (by decide +kernel) rfl rfl rfl (by decide +kernel)
set_option maxRecDepth 65536 in
theorem w_c4 : (Jvm.Cond.code ({ cls := "com/example/evenkeel/evenkeel/shuffle/ShuffleStats", name := "unrouted", desc := "(I)V" } : Jvm.MethodName) prog_80_method_3_code (2 : Nat) (Option.none : Option Jvm.ClassFile.FieldType)).before args0 about1 = true := code_word (m := ⟨2, 2⟩) (meth := k2m2) (c := k2c2) (by decide +kernel) rfl rfl rfl (by decide +kernel)
set_option maxRecDepth 65536 in
theorem w_c5 : (Jvm.Cond.code ({ cls := "com/example/evenkeel/evenkeel/shuffle/ShuffleStats", name := "copied", desc := "(II)V" } : Jvm.MethodName) prog_80_method_4_code (3 : Nat) (Option.none : Option Jvm.ClassFile.FieldType)).before args0 about1 = true := code_word (m := ⟨2, 3⟩) (meth := k2m3) (c := k2c3) (by decide +kernel) rfl rfl rfl (by decide +kernel)
set_option maxRecDepth 65536 in
theorem w_c6 : (Jvm.Cond.code ({ cls := "com/example/evenkeel/evenkeel/shuffle/ShuffleStats", name := "routed", desc := "(IJ)V" } : Jvm.MethodName) prog_80_method_5_code (4 : Nat) (Option.none : Option Jvm.ClassFile.FieldType)).before args0 about1 = true := code_word (m := ⟨2, 4⟩) (meth := k2m4) (c := k2c4) (by decide +kernel) rfl rfl rfl (by decide +kernel)
set_option maxRecDepth 65536 in
theorem w_c7 : (Jvm.Cond.code ({ cls := "com/example/evenkeel/evenkeel/shuffle/ShuffleStats", name := "buffered", desc := "(J)V" } : Jvm.MethodName) prog_80_method_6_code (3 : Nat) (Option.none : Option Jvm.ClassFile.FieldType)).before args0 about1 = true := code_word (m := ⟨2, 5⟩) (meth := k2m5) (c := k2c5) (by decide +kernel) rfl rfl rfl (by decide +kernel)
set_option maxRecDepth 65536 in
theorem w_c8 : (Jvm.Cond.code ({ cls := "com/example/evenkeel/evenkeel/shuffle/ShuffleStats", name := "hotKeys", desc := "(JJ)V" } : Jvm.MethodName) prog_80_method_7_code (5 : Nat) (Option.none : Option Jvm.ClassFile.FieldType)).before args0 about1 = true := code_word (m := ⟨2, 6⟩) (meth := k2m6) (c := k2c6) (by decide +kernel) rfl rfl rfl (by decide +kernel)
set_option maxRecDepth 65536 in
theorem w_c9 : (Jvm.Cond.code ({ cls := "com/example/evenkeel/evenkeel/shuffle/ShuffleStats", name := "shuffled", desc := "(J)V" } : Jvm.MethodName) prog_80_method_8_code (3 : Nat) (Option.none : Option Jvm.ClassFile.FieldType)).before args0 about1 = true := code_word (m := ⟨2, 7⟩) (meth := k2m7) (c := k2c7) (by decide +kernel) rfl rfl rfl (by decide +kernel)
set_option maxRecDepth 65536 in
theorem w_c10 : (Jvm.Cond.code ({ cls := "com/example/evenkeel/evenkeel/shuffle/ShuffleStats", name := "add", desc := "(Lcom/example/evenkeel/evenkeel/shuffle/ShuffleStats;)V" } : Jvm.MethodName) prog_80_method_9_code (3 : Nat) (Option.none : Option Jvm.ClassFile.FieldType)).before args0 about1 = true := code_word (m := ⟨2, 8⟩) (meth := k2m8) (c := k2c8) (by decide +kernel) rfl rfl rfl (by decide +kernel)
set_option maxRecDepth 65536 in
theorem w_c11 : (Jvm.Cond.code ({ cls := "com/example/evenkeel/evenkeel/shuffle/ShuffleStats", name := "partitionRecords", desc := "()[J" } : Jvm.MethodName) prog_80_method_14_code (1 : Nat) (Option.some (Jvm.ClassFile.FieldType.array Jvm.ClassFile.FieldType.long))).before args0 about1 = true := code_word (m := ⟨2, 12⟩) (meth := k2m12) (c := k2c12) (by decide +kernel) rfl rfl rfl (by decide +kernel)
set_option maxRecDepth 65536 in
theorem w_c12 : (Jvm.Cond.code ({ cls := "com/example/evenkeel/evenkeel/shuffle/ShuffleStats", name := "partitionBytes", desc := "()[J" } : Jvm.MethodName) prog_80_method_15_code (1 : Nat) (Option.some (Jvm.ClassFile.FieldType.array Jvm.ClassFile.FieldType.long))).before args0 about1 = true := code_word (m := ⟨2, 13⟩) (meth := k2m13) (c := k2c13) (by decide +kernel) rfl rfl rfl (by decide +kernel)
set_option maxRecDepth 65536 in
theorem w_c13 : (Jvm.Cond.code ({ cls := "com/example/evenkeel/evenkeel/shuffle/ShuffleStats", name := "inputRecords", desc := "(I)J" } : Jvm.MethodName) prog_80_method_10_code (2 : Nat) (Option.some Jvm.ClassFile.FieldType.long)).before args0 about1 = true := code_word (m := ⟨2, 9⟩) (meth := k2m9) (c := k2c9) (by decide +kernel) rfl rfl rfl (by decide +kernel)
set_option maxRecDepth 65536 in
theorem w_c14 : (Jvm.Cond.code ({ cls := "com/example/evenkeel/evenkeel/shuffle/ShuffleStats", name := "unroutedRecords", desc := "(I)J" } : Jvm.MethodName) prog_80_method_11_code (2 : Nat) (Option.some Jvm.ClassFile.FieldType.long)).before args0 about1 = true := code_word (m := ⟨2, 10⟩) (meth := k2m10) (c := k2c10) (by decide +kernel) rfl rfl rfl (by decide +kernel)
set_option maxRecDepth 65536 in
theorem w_c15 : (Jvm.Cond.code ({ cls := "com/example/evenkeel/evenkeel/shuffle/ShuffleStats", name := "extraCopies", desc := "(I)J" } : Jvm.MethodName) prog_80_method_13_code (2 : Nat) (Option.some Jvm.ClassFile.FieldType.long)).before args0 about1 = true := code_word (m := ⟨2, 11⟩) (meth := k2m11) (c := k2c11) (by decide +kernel) rfl rfl rfl (by decide +kernel)
set_option maxRecDepth 65536 in
theorem w_c16 : (Jvm.Cond.code ({ cls := "com/example/evenkeel/evenkeel/shuffle/ShuffleStats", name := "sortBufferRecords", desc := "()J" } : Jvm.MethodName) prog_80_method_17_code (1 : Nat) (Option.some Jvm.ClassFile.FieldType.long)).before args0 about1 = true := code_word (m := ⟨2, 14⟩) (meth := k2m14) (c := k2c14) (by decide +kernel) rfl rfl rfl (by decide +kernel)
set_option maxRecDepth 65536 in
theorem w_c17 : (Jvm.Cond.code ({ cls := "com/example/evenkeel/evenkeel/shuffle/ShuffleStats", name := "hotKeyRecords", desc := "()J" } : Jvm.MethodName) prog_80_method_18_code (1 : Nat) (Option.some Jvm.ClassFile.FieldType.long)).before args0 about1 = true := code_word (m := ⟨2, 15⟩) (meth := k2m15) (c := k2c15) (by decide +kernel) rfl rfl rfl (by decide +kernel)
set_option maxRecDepth 65536 in
theorem w_c18 : (Jvm.Cond.code ({ cls := "com/example/evenkeel/evenkeel/shuffle/ShuffleStats", name := "hotKeyFlushes", desc := "()J" } : Jvm.MethodName) prog_80_method_19_code (1 : Nat) (Option.some Jvm.ClassFile.FieldType.long)).before args0 about1 = true := code_word (m := ⟨2, 16⟩) (meth := k2m16) (c := k2c16) (by decide +kernel) rfl rfl rfl (by decide +kernel)
set_option maxRecDepth 65536 in
theorem w_c19 : (Jvm.Cond.code ({ cls := "com/example/evenkeel/evenkeel/shuffle/ShuffleStats", name := "shuffleRecords", desc := "()J" } : Jvm.MethodName) prog_80_method_20_code (1 : Nat) (Option.some Jvm.ClassFile.FieldType.long)).before args0 about1 = true := code_word (m := ⟨2, 17⟩) (meth := k2m17) (c := k2c17) (by decide +kernel) rfl rfl rfl (by decide +kernel)
def codes1 : List Jvm.Cond := [Jvm.Cond.code x code maxLocals ret, Jvm.Cond.code ({ cls := "com/example/evenkeel/evenkeel/shuffle/ShuffleStats", name := "<init>", desc := "(I)V" } : Jvm.MethodName) prog_80_method_1_code (2 : Nat) (Option.none : Option Jvm.ClassFile.FieldType), Jvm.Cond.code ({ cls := "java/lang/Object", name := "<init>", desc := "()V" } : Jvm.MethodName) object_method_1_code (1 : Nat) (Option.none : Option Jvm.ClassFile.FieldType), Jvm.Cond.code ({ cls := "com/example/evenkeel/evenkeel/shuffle/ShuffleStats", name := "read", desc := "(I)V" } : Jvm.MethodName) prog_80_method_2_code (2 : Nat) (Option.none : Option Jvm.ClassFile.FieldType), Jvm.Cond.code ({ cls := "com/example/evenkeel/evenkeel/shuffle/ShuffleStats", name := "unrouted", desc := "(I)V" } : Jvm.MethodName) prog_80_method_3_code (2 : Nat) (Option.none : Option Jvm.ClassFile.FieldType), Jvm.Cond.code ({ cls := "com/example/evenkeel/evenkeel/shuffle/ShuffleStats", name := "copied", desc := "(II)V" } : Jvm.MethodName) prog_80_method_4_code (3 : Nat) (Option.none : Option Jvm.ClassFile.FieldType), Jvm.Cond.code ({ cls := "com/example/evenkeel/evenkeel/shuffle/ShuffleStats", name := "routed", desc := "(IJ)V" } : Jvm.MethodName) prog_80_method_5_code (4 : Nat) (Option.none : Option Jvm.ClassFile.FieldType), Jvm.Cond.code ({ cls := "com/example/evenkeel/evenkeel/shuffle/ShuffleStats", name := "buffered", desc := "(J)V" } : Jvm.MethodName) prog_80_method_6_code (3 : Nat) (Option.none : Option Jvm.ClassFile.FieldType), Jvm.Cond.code ({ cls := "com/example/evenkeel/evenkeel/shuffle/ShuffleStats", name := "hotKeys", desc := "(JJ)V" } : Jvm.MethodName) prog_80_method_7_code (5 : Nat) (Option.none : Option Jvm.ClassFile.FieldType), Jvm.Cond.code ({ cls := "com/example/evenkeel/evenkeel/shuffle/ShuffleStats", name := "shuffled", desc := "(J)V" } : Jvm.MethodName) prog_80_method_8_code (3 : Nat) (Option.none : Option Jvm.ClassFile.FieldType), Jvm.Cond.code ({ cls := "com/example/evenkeel/evenkeel/shuffle/ShuffleStats", name := "add", desc := "(Lcom/example/evenkeel/evenkeel/shuffle/ShuffleStats;)V" } : Jvm.MethodName) prog_80_method_9_code (3 : Nat) (Option.none : Option Jvm.ClassFile.FieldType), Jvm.Cond.code ({ cls := "com/example/evenkeel/evenkeel/shuffle/ShuffleStats", name := "partitionRecords", desc := "()[J" } : Jvm.MethodName) prog_80_method_14_code (1 : Nat) (Option.some (Jvm.ClassFile.FieldType.array Jvm.ClassFile.FieldType.long)), Jvm.Cond.code ({ cls := "com/example/evenkeel/evenkeel/shuffle/ShuffleStats", name := "partitionBytes", desc := "()[J" } : Jvm.MethodName) prog_80_method_15_code (1 : Nat) (Option.some (Jvm.ClassFile.FieldType.array Jvm.ClassFile.FieldType.long)), Jvm.Cond.code ({ cls := "com/example/evenkeel/evenkeel/shuffle/ShuffleStats", name := "inputRecords", desc := "(I)J" } : Jvm.MethodName) prog_80_method_10_code (2 : Nat) (Option.some Jvm.ClassFile.FieldType.long), Jvm.Cond.code ({ cls := "com/example/evenkeel/evenkeel/shuffle/ShuffleStats", name := "unroutedRecords", desc := "(I)J" } : Jvm.MethodName) prog_80_method_11_code (2 : Nat) (Option.some Jvm.ClassFile.FieldType.long), Jvm.Cond.code ({ cls := "com/example/evenkeel/evenkeel/shuffle/ShuffleStats", name := "extraCopies", desc := "(I)J" } : Jvm.MethodName) prog_80_method_13_code (2 : Nat) (Option.some Jvm.ClassFile.FieldType.long), Jvm.Cond.code ({ cls := "com/example/evenkeel/evenkeel/shuffle/ShuffleStats", name := "sortBufferRecords", desc := "()J" } : Jvm.MethodName) prog_80_method_17_code (1 : Nat) (Option.some Jvm.ClassFile.FieldType.long), Jvm.Cond.code ({ cls := "com/example/evenkeel/evenkeel/shuffle/ShuffleStats", name := "hotKeyRecords", desc := "()J" } : Jvm.MethodName) prog_80_method_18_code (1 : Nat) (Option.some Jvm.ClassFile.FieldType.long), Jvm.Cond.code ({ cls := "com/example/evenkeel/evenkeel/shuffle/ShuffleStats", name := "hotKeyFlushes", desc := "()J" } : Jvm.MethodName) prog_80_method_19_code (1 : Nat) (Option.some Jvm.ClassFile.FieldType.long), Jvm.Cond.code ({ cls := "com/example/evenkeel/evenkeel/shuffle/ShuffleStats", name := "shuffleRecords", desc := "()J" } : Jvm.MethodName) prog_80_method_20_code (1 : Nat) (Option.some Jvm.ClassFile.FieldType.long)]
set_option maxRecDepth 65536 in
theorem codes_eq : words1.filter isCode = codes1 := rfl
theorem w_codes : ∀ c ∈ words1.filter isCode, c.before args0 about1 = true := by
  rw [codes_eq]
  intro c hc
  simp only [codes1, List.mem_cons, List.not_mem_nil, or_false] at hc
  rcases hc with rfl | rfl | rfl | rfl | rfl | rfl | rfl | rfl | rfl | rfl | rfl | rfl | rfl | rfl | rfl | rfl | rfl | rfl | rfl | rfl
  · exact w_c0
  · exact w_c1
  · exact w_c2
  · exact w_c3
  · exact w_c4
  · exact w_c5
  · exact w_c6
  · exact w_c7
  · exact w_c8
  · exact w_c9
  · exact w_c10
  · exact w_c11
  · exact w_c12
  · exact w_c13
  · exact w_c14
  · exact w_c15
  · exact w_c16
  · exact w_c17
  · exact w_c18
  · exact w_c19
set_option maxRecDepth 65536 in
theorem w_t1 : (words1.take 24).all (fun c => isCode c || c.before args0 about1) = true := by decide +kernel
set_option maxRecDepth 65536 in
theorem w_t2 : ((words1.drop 24).take 24).all (fun c => isCode c || c.before args0 about1) = true := by decide +kernel
set_option maxRecDepth 65536 in
theorem w_t3 : (((words1.drop 24).drop 24).take 24).all (fun c => isCode c || c.before args0 about1) = true := by decide +kernel
set_option maxRecDepth 65536 in
theorem w_t4 : ((((words1.drop 24).drop 24).drop 24).take 24).all (fun c => isCode c || c.before args0 about1) = true := by decide +kernel
set_option maxRecDepth 65536 in
theorem w_t5 : (((((words1.drop 24).drop 24).drop 24).drop 24).take 24).all (fun c => isCode c || c.before args0 about1) = true := by decide +kernel
set_option maxRecDepth 65536 in
theorem w_t6 : (((((words1.drop 24).drop 24).drop 24).drop 24).drop 24).all (fun c => isCode c || c.before args0 about1) = true := by decide +kernel
theorem w_tables : (allAtoms (Jvm.Cond.code x code maxLocals ret :: tables_1)).before args0 about1 = true := by
  rw [allAtoms_all]
  show words1.all (fun c => c.before args0 about1) = true
  refine all_split ?_ w_codes
  rw [← List.take_append_drop 24 words1, List.all_append, w_t1, ← List.take_append_drop 24 (words1.drop 24), List.all_append, w_t2, ← List.take_append_drop 24 ((words1.drop 24).drop 24), List.all_append, w_t3, ← List.take_append_drop 24 (((words1.drop 24).drop 24).drop 24), List.all_append, w_t4, ← List.take_append_drop 24 ((((words1.drop 24).drop 24).drop 24).drop 24), List.all_append, w_t5, w_t6]
  rfl
set_option maxRecDepth 65536 in
theorem w_case : (Jvm.Cond.and given_1 narrow_1).before args0 about1 = true := by decide +kernel
theorem w_applies : (headSpec (Jvm.Cond.code x code maxLocals ret :: tables_1) room_1).applies x e0.platform about1 = true :=
  (Spec.applies_iff w_frames).mpr ⟨w_running, w_runnable, w_alone, w_named, w_hears, w_ripe, w_room, w_tables⟩
theorem atStart : AtStart classFile x code maxLocals ret World_1 tables_1 room_1 Calls_1 rest_1 Pre_1 launch0 p0 e0 about1 theMethod args0 below0 :=
  ⟨lists_1, trivial, launch0.admits_env _ _ _, launch0.least_env, fairChoices_fair.cas, fairChoices_fair.clock, w_frames, w_args, w_heap, w_applies, trivial, trivial, w_case⟩
end start1
theorem witness_1 : WitnessClaimed_1 := ⟨start1.p0, start1.e0, start1.about1, start1.theMethod, start1.args0, start1.below0, start1.atStart⟩
end Jvm.Pilot.@@N@@
