import JvmDerived
import JvmDerived.Pilot.@@N@@Statement
import JvmDerived.Pilot.@@N@@Code
set_option linter.unusedVariables false
set_option linter.unusedSimpArgs false
namespace Jvm.Pilot.@@N@@
open Jvm Jvm.ClassFile Sem Op Lib Jvm.Free Jvm.Stand Jvm.LawKit Jvm.RoadKit Bundle Jvm.Pilot.@@N@@.Jvm.D
/-! ## own kit: one walk of a body in continuation style; the library's step laws of one family behind it -/
section OwnKit
variable {p : Program} {l : Launch} {e : Env} {R : Room} {s : State} {m : MethodId} {args : Array Value} {below : List Frame} {meth : Method} {c : Code} {Z : State} {own : String} {bytes : ByteArray} {maxL : Nat} {ret : Option FieldType} {nm : String} {n0 km : Nat} {Q : Option Value → Heap → Prop} {RR : State → Outcome → Prop} {T : State} {h : Heap} {cells slots : Nat} {a0 : Array Value} {pc pc' : Nat} {Ls : Array Slot} {S : List Value}
def OwnGo (p : Program) (e : Env) (below : List Frame) (S : State) (RR : State → Outcome → Prop) : Prop :=
  ∃ s₂ o, Steps p.tables e below S s₂ ∧ s₂.status = .running ∧ Ended s₂ below o ∧ RR s₂ o
theorem own_step {S S' : State} (k : OwnGo p e below S' RR) (h : ∀ t, Steps p.tables e below S' t → Steps p.tables e below S t) : OwnGo p e below S RR := by
  obtain ⟨s₂, o, h1, h2⟩ := k
  exact ⟨s₂, o, h _ h1, h2⟩
/-- the context of one body: what holds all along its walk -/
def OwnCx (p : Program) (l : Launch) (e : Env) (R : Room) (s : State) (m : MethodId) (meth : Method) (c : Code) (Z : State) (own : String) (bytes : ByteArray) (maxL : Nat) (ret : Option FieldType) (nm : String) (n0 km : Nat) (Q : Option Value → Heap → Prop) (RR : State → Outcome → Prop) : Prop :=
  p.tables.exec = Jvm.exec ∧ c.code = bytes ∧ c.maxLocals = maxL ∧ Z.Warmed39 s.vm ∧ s.vm.findClass own = some m.cls ∧ meth.name = nm ∧ meth.sig.returnType = ret ∧ meth.locks = false ∧
  ∀ (U : State) (v : Option Value) (L : List Loc), Q v U.heap → km ≤ U.heap.size → Fr n0 L → s.WarmedH U.vm → s.sameButNew ({ U with vm := s.vm } : State) L R.cells R.slots → RR U (.returned v)
/-- where the walk stands: the state T, its heap h, so many cells and slots made -/
def OwnSt (p : Program) (l : Launch) (e : Env) (R : Room) (s : State) (m : MethodId) (args : Array Value) (below : List Frame) (meth : Method) (c : Code) (Z : State) (own : String) (bytes : ByteArray) (maxL : Nat) (ret : Option FieldType) (nm : String) (n0 km : Nat) (Q : Option Value → Heap → Prop) (RR : State → Outcome → Prop) (T : State) (h : Heap) (cells slots : Nat) : Prop :=
  OwnCx p l e R s m meth c Z own bytes maxL ret nm n0 km Q RR ∧ T.heap = h ∧ km ≤ h.size ∧ ∃ locs, Stand p l e R s m args below meth c T locs cells slots ∧ Fr n0 locs
/-- a body's contract: called with these arguments at the heap h it returns v and leaves a heap, with Q -/
def OwnMet (l : Launch) (Z : State) (y : MethodName) (bytes : ByteArray) (maxL : Nat) (ret : Option FieldType) (rm : Room) (as' : Array Value) (h : Heap) (n0 : Nat) (Q : Option Value → Heap → Prop) : Prop :=
  ∀ ws : List Jvm.Cond, MetFree l y (head1 (Jvm.Cond.code y bytes maxL ret :: ws) rm) (fun a U => a = as' ∧ Z.Warmed39 U.vm ∧ U.heap = h) (fun _ _ _ _ _ => True) (fun _ U o U' => ∃ v L, o = .returned v ∧ ((Q v U'.heap ∧ h.size ≤ U'.heap.size) ∧ Fr n0 L) ∧ FrameEnd U o U' L rm.cells rm.slots)
theorem own_body {y : MethodName} {rm : Room} {as' : Array Value} (hpl : plainFor y = true)
    (body : ∀ (p : Program) (e : Env) (s : State) (m : MethodId) (below : List Frame) (meth : Method) (c : Code) (s₁ : State) (RR : State → Outcome → Prop), OwnSt p l e rm s m as' below meth c Z y.cls bytes maxL ret y.name n0 0 Q RR s₁ h 0 0 → OwnGo p e below (s₁.setTop (entryFrame m as' maxL)) RR) :
    OwnMet l Z y bytes maxL ret rm as' h n0 Q := by
  intro ws
  refine MetFree.of_bodySF hpl hisR ?_
  intro p e s m args below meth c s₁ Bd hml0 hP hK
  obtain ⟨rfl, hZ, hh⟩ := hP
  refine body p e s m below meth c s₁ _ ⟨⟨Bd.exec, Bd.bytes, hml0, hZ, findClass_of_methodNamed Bd.named, (name_of_methodNamed Bd.named Bd.method).1, Bd.returns, Bd.notSynchronized, ?_⟩, by rw [← hh, Bd.state]; rfl, Nat.zero_le _, [], Stand.of_body Bd, Fr.nil n0⟩
  intro U v L hQ _ hN hW hs
  exact ⟨v, L, rfl, ⟨⟨hQ, by rw [← hh]; exact hs.2.1⟩, hN⟩, ⟨_, rfl⟩, hW, hs⟩
theorem own_enter {g g' : JFrame} (q : g = g') (k : OwnGo p e below (T.setTop g') RR) : OwnGo p e below (T.setTop g) RR := q ▸ k
theorem own_ret {v : Option Value} {g : State} (X : OwnSt p l e R s m args below meth c Z own bytes maxL ret nm n0 km Q RR T h cells slots) (hv : ret = none → v = none) (hQ : Q v h) (hc : cells ≤ R.cells) (hl : slots ≤ R.slots)
    (k : ∀ locs, Stand p l e R s m args below meth c T locs cells slots → ∀ fs, (∀ (f : JFrame) (acts : List Action), f.method = m → f.locked = none → f.entered = [] → (doReturn e (T.setTop f) acts v).1 = T.setFrames fs) → Steps p.tables e below g (T.setFrames fs)) : OwnGo p e below g RR := by
  obtain ⟨⟨hx, hby, hml, hZ, hown, hnm, hret, hlk, hR⟩, hh, hkm, locs, X0, N⟩ := X
  obtain ⟨fs, hr, hrun, hended, hW, hsame⟩ := X0.leave (v := v) (fun q => hv (hret ▸ q)) hlk
  exact ⟨_, _, k _ X0 fs hr, hrun, hended, hR _ _ _ (by show Q v T.heap; rw [hh]; exact hQ) (by show km ≤ T.heap.size; rw [hh]; exact hkm) N hW (hsame.mono hc hl)⟩
theorem own_retV (X : OwnSt p l e R s m args below meth c Z own bytes maxL none nm n0 km Q RR T h cells slots) (hd : decode bytes pc = .ok (.return_, 1)) (hQ : Q none h) (hc : cells ≤ R.cells) (hl : slots ≤ R.slots) : OwnGo p e below (T.setTop (mkF m pc Ls [])) RR := by
  refine own_ret X (fun _ => rfl) hQ hc hl fun locs X0 fs hr => ?_
  obtain ⟨⟨hx, hby, hml, hZ, hown, hnm, hret, hlk, hR⟩, hh, -⟩ := X
  exact X0.returnOut hx hret (hb hby hd) hr
theorem own_retI {z : Int32} {rest : List Value} (X : OwnSt p l e R s m args below meth c Z own bytes maxL (some .int) nm n0 km Q RR T h cells slots) (hd : decode bytes pc = .ok (.ireturn, 1)) (hQ : Q (some (.int z)) h) (hc : cells ≤ R.cells) (hl : slots ≤ R.slots) : OwnGo p e below (T.setTop (mkF m pc Ls (.int z :: rest))) RR := by
  refine own_ret X (fun q => nomatch q) hQ hc hl fun locs X0 fs hr => ?_
  obtain ⟨⟨hx, hby, hml, hZ, hown, hnm, hret, hlk, hR⟩, hh, -⟩ := X
  exact retOut X0 hx hret rfl (Or.inl ⟨rfl, Or.inl rfl, z, rfl⟩) (hb hby hd) hr
theorem own_retJ {z : Int64} {rest : List Value} (X : OwnSt p l e R s m args below meth c Z own bytes maxL (some .long) nm n0 km Q RR T h cells slots) (hd : decode bytes pc = .ok (.lreturn, 1)) (hQ : Q (some (.long z)) h) (hc : cells ≤ R.cells) (hl : slots ≤ R.slots) : OwnGo p e below (T.setTop (mkF m pc Ls (.long z :: rest))) RR := by
  refine own_ret X (fun q => nomatch q) hQ hc hl fun locs X0 fs hr => ?_
  obtain ⟨⟨hx, hby, hml, hZ, hown, hnm, hret, hlk, hR⟩, hh, -⟩ := X
  exact retOut X0 hx hret rfl (Or.inr (Or.inl ⟨rfl, rfl, z, rfl⟩)) (hb hby hd) hr
theorem own_retA {v : Value} {t : FieldType} {rest : List Value} (X : OwnSt p l e R s m args below meth c Z own bytes maxL (some t) nm n0 km Q RR T h cells slots) (ht : t.isReference = true) (hv : v.isRef = true) (hn : narrow t v = v) (hd : decode bytes pc = .ok (.areturn, 1)) (hQ : Q (some v) h) (hc : cells ≤ R.cells) (hl : slots ≤ R.slots) : OwnGo p e below (T.setTop (mkF m pc Ls (v :: rest))) RR := by
  refine own_ret X (fun q => nomatch q) hQ hc hl fun locs X0 fs hr => ?_
  obtain ⟨⟨hx, hby, hml, hZ, hown, hnm, hret, hlk, hR⟩, hh, -⟩ := X
  exact retOut X0 hx hret hn (Or.inr (Or.inr (Or.inr (Or.inr ⟨rfl, ht, hv⟩)))) (hb hby hd) hr
theorem own_retZ {z : Int32} {rest : List Value} (X : OwnSt p l e R s m args below meth c Z own bytes maxL (some .boolean) nm n0 km Q RR T h cells slots) (hd : decode bytes pc = .ok (.ireturn, 1)) (hz : z &&& 1 = z) (hQ : Q (some (.int z)) h) (hc : cells ≤ R.cells) (hl : slots ≤ R.slots) : OwnGo p e below (T.setTop (mkF m pc Ls (.int z :: rest))) RR := by
  refine own_ret X (fun q => nomatch q) hQ hc hl fun locs X0 fs hr => ?_
  obtain ⟨⟨hx, hby, hml, hZ, hown, hnm, hret, hlk, hR⟩, hh, -⟩ := X
  exact retOut X0 hx hret (by show Value.int (z &&& 1) = _; rw [hz]) (Or.inl ⟨rfl, Or.inr (Or.inl rfl), z, rfl⟩) (hb hby hd) hr
theorem OwnSt.here (X : OwnSt p l e R s m args below meth c Z own bytes maxL ret nm n0 km Q RR T h cells slots) : At T m c below := X.2.2.2.elim fun _ q => q.1.here
theorem OwnSt.hx (X : OwnSt p l e R s m args below meth c Z own bytes maxL ret nm n0 km Q RR T h cells slots) : p.tables.exec = Jvm.exec := X.1.1
theorem OwnSt.by' (X : OwnSt p l e R s m args below meth c Z own bytes maxL ret nm n0 km Q RR T h cells slots) : c.code = bytes := X.1.2.1
theorem OwnSt.hZ (X : OwnSt p l e R s m args below meth c Z own bytes maxL ret nm n0 km Q RR T h cells slots) : Z.Warmed39 s.vm := X.1.2.2.2.1
theorem own_aloadN {k : Fin 4} {v : Value} (X : OwnSt p l e R s m args below meth c Z own bytes maxL ret nm n0 km Q RR T h cells slots) (hd : decode bytes pc = .ok (.aload_n k, 1)) (hp : pc + 1 = pc') (hl : Ls[k.val]? = some (.val v)) (hv : v.isRef = true) (k : OwnGo p e below (T.setTop (mkF m pc' Ls (v :: S))) RR) : OwnGo p e below (T.setTop (mkF m pc Ls (S))) RR := by
  subst hp
  exact own_step k fun t k => XS.aloadN X.here X.hx rfl (hb X.by' hd) hl hv k
theorem own_aload {k : Nat} {v : Value} (X : OwnSt p l e R s m args below meth c Z own bytes maxL ret nm n0 km Q RR T h cells slots) (hd : decode bytes pc = .ok (.aload k, 2)) (hp : pc + 2 = pc') (hl : Ls[k]? = some (.val v)) (hv : v.isRef = true) (k : OwnGo p e below (T.setTop (mkF m pc' Ls (v :: S))) RR) : OwnGo p e below (T.setTop (mkF m pc Ls (S))) RR := by
  subst hp
  exact own_step k fun t k => XS.aload X.here X.hx rfl (hb X.by' hd) hl hv k
theorem own_iloadN {k : Fin 4} {v : Int32} (X : OwnSt p l e R s m args below meth c Z own bytes maxL ret nm n0 km Q RR T h cells slots) (hd : decode bytes pc = .ok (.iload_n k, 1)) (hp : pc + 1 = pc') (hl : Ls[k.val]? = some (.val (.int v))) (k : OwnGo p e below (T.setTop (mkF m pc' Ls (.int v :: S))) RR) : OwnGo p e below (T.setTop (mkF m pc Ls (S))) RR := by
  subst hp
  exact own_step k fun t k => XS.iloadN X.here X.hx rfl (hb X.by' hd) hl k
theorem own_iload {k : Nat} {v : Int32} (X : OwnSt p l e R s m args below meth c Z own bytes maxL ret nm n0 km Q RR T h cells slots) (hd : decode bytes pc = .ok (.iload k, 2)) (hp : pc + 2 = pc') (hl : Ls[k]? = some (.val (.int v))) (k : OwnGo p e below (T.setTop (mkF m pc' Ls (.int v :: S))) RR) : OwnGo p e below (T.setTop (mkF m pc Ls (S))) RR := by
  subst hp
  exact own_step k fun t k => XS.iload X.here X.hx rfl (hb X.by' hd) hl k
theorem own_lloadN {k : Fin 4} {v : Int64} (X : OwnSt p l e R s m args below meth c Z own bytes maxL ret nm n0 km Q RR T h cells slots) (hd : decode bytes pc = .ok (.lload_n k, 1)) (hp : pc + 1 = pc') (hl : Ls[k.val]? = some (.val (.long v))) (k : OwnGo p e below (T.setTop (mkF m pc' Ls (.long v :: S))) RR) : OwnGo p e below (T.setTop (mkF m pc Ls (S))) RR := by
  subst hp
  exact own_step k fun t k => XS.lloadN X.here X.hx rfl (hb X.by' hd) hl k
theorem own_lload {k : Nat} {v : Int64} (X : OwnSt p l e R s m args below meth c Z own bytes maxL ret nm n0 km Q RR T h cells slots) (hd : decode bytes pc = .ok (.lload k, 2)) (hp : pc + 2 = pc') (hl : Ls[k]? = some (.val (.long v))) (k : OwnGo p e below (T.setTop (mkF m pc' Ls (.long v :: S))) RR) : OwnGo p e below (T.setTop (mkF m pc Ls (S))) RR := by
  subst hp
  exact own_step k fun t k => XS.lload X.here X.hx rfl (hb X.by' hd) hl k
theorem own_iconst {i : Int} {v : Int32} (X : OwnSt p l e R s m args below meth c Z own bytes maxL ret nm n0 km Q RR T h cells slots) (hd : decode bytes pc = .ok (.iconst i, 1)) (hp : pc + 1 = pc') (hv : Int32.ofInt i = v) (k : OwnGo p e below (T.setTop (mkF m pc' Ls (.int v :: S))) RR) : OwnGo p e below (T.setTop (mkF m pc Ls (S))) RR := by
  subst hp
  subst hv
  exact own_step k fun t k => XS.iconst X.here X.hx rfl (hb X.by' hd) k
theorem own_bipush {i : Int} {v : Int32} (X : OwnSt p l e R s m args below meth c Z own bytes maxL ret nm n0 km Q RR T h cells slots) (hd : decode bytes pc = .ok (.bipush i, 2)) (hp : pc + 2 = pc') (hv : (Int8.ofInt i).toInt32 = v) (k : OwnGo p e below (T.setTop (mkF m pc' Ls (.int v :: S))) RR) : OwnGo p e below (T.setTop (mkF m pc Ls (S))) RR := by
  subst hp
  subst hv
  exact own_step k fun t k => XS.bipush X.here X.hx rfl (hb X.by' hd) k
theorem own_sipush {i : Int} {v : Int32} (X : OwnSt p l e R s m args below meth c Z own bytes maxL ret nm n0 km Q RR T h cells slots) (hd : decode bytes pc = .ok (.sipush i, 3)) (hp : pc + 3 = pc') (hv : (Int16.ofInt i).toInt32 = v) (k : OwnGo p e below (T.setTop (mkF m pc' Ls (.int v :: S))) RR) : OwnGo p e below (T.setTop (mkF m pc Ls (S))) RR := by
  subst hp
  subst hv
  exact own_step k fun t k => XS.sipush X.here X.hx rfl (hb X.by' hd) k
theorem own_lconst {i : Fin 2} {v : Int64} (X : OwnSt p l e R s m args below meth c Z own bytes maxL ret nm n0 km Q RR T h cells slots) (hd : decode bytes pc = .ok (.lconst i, 1)) (hp : pc + 1 = pc') (hv : Int64.ofNat i = v) (k : OwnGo p e below (T.setTop (mkF m pc' Ls (.long v :: S))) RR) : OwnGo p e below (T.setTop (mkF m pc Ls (S))) RR := by
  subst hp
  subst hv
  exact own_step k fun t k => XS.lconst X.here X.hx rfl (hb X.by' hd) k
theorem own_aconst_null  (X : OwnSt p l e R s m args below meth c Z own bytes maxL ret nm n0 km Q RR T h cells slots) (hd : decode bytes pc = .ok (.aconst_null, 1)) (hp : pc + 1 = pc')  (k : OwnGo p e below (T.setTop (mkF m pc' Ls (.null :: S))) RR) : OwnGo p e below (T.setTop (mkF m pc Ls (S))) RR := by
  subst hp
  exact own_step k fun t k => XS.aconstNull X.here X.hx rfl (hb X.by' hd) k
theorem own_iadd {x y : Int32} (X : OwnSt p l e R s m args below meth c Z own bytes maxL ret nm n0 km Q RR T h cells slots) (hd : decode bytes pc = .ok (.iadd, 1)) (hp : pc + 1 = pc')  (k : OwnGo p e below (T.setTop (mkF m pc' Ls (.int (x + y) :: S))) RR) : OwnGo p e below (T.setTop (mkF m pc Ls (.int y :: .int x :: S))) RR := by
  subst hp
  exact own_step k fun t k => XS.iadd X.here X.hx rfl (hb X.by' hd) rfl k
theorem own_isub {x y : Int32} (X : OwnSt p l e R s m args below meth c Z own bytes maxL ret nm n0 km Q RR T h cells slots) (hd : decode bytes pc = .ok (.isub, 1)) (hp : pc + 1 = pc')  (k : OwnGo p e below (T.setTop (mkF m pc' Ls (.int (x - y) :: S))) RR) : OwnGo p e below (T.setTop (mkF m pc Ls (.int y :: .int x :: S))) RR := by
  subst hp
  exact own_step k fun t k => XS.isub X.here X.hx rfl (hb X.by' hd) rfl k
theorem own_imul {x y : Int32} (X : OwnSt p l e R s m args below meth c Z own bytes maxL ret nm n0 km Q RR T h cells slots) (hd : decode bytes pc = .ok (.imul, 1)) (hp : pc + 1 = pc')  (k : OwnGo p e below (T.setTop (mkF m pc' Ls (.int (x * y) :: S))) RR) : OwnGo p e below (T.setTop (mkF m pc Ls (.int y :: .int x :: S))) RR := by
  subst hp
  exact own_step k fun t k => XS.imul X.here X.hx rfl (hb X.by' hd) rfl k
theorem own_iand {x y : Int32} (X : OwnSt p l e R s m args below meth c Z own bytes maxL ret nm n0 km Q RR T h cells slots) (hd : decode bytes pc = .ok (.iand, 1)) (hp : pc + 1 = pc')  (k : OwnGo p e below (T.setTop (mkF m pc' Ls (.int (x &&& y) :: S))) RR) : OwnGo p e below (T.setTop (mkF m pc Ls (.int y :: .int x :: S))) RR := by
  subst hp
  exact own_step k fun t k => XS.iand X.here X.hx rfl (hb X.by' hd) rfl k
theorem own_ior {x y : Int32} (X : OwnSt p l e R s m args below meth c Z own bytes maxL ret nm n0 km Q RR T h cells slots) (hd : decode bytes pc = .ok (.ior, 1)) (hp : pc + 1 = pc')  (k : OwnGo p e below (T.setTop (mkF m pc' Ls (.int (x ||| y) :: S))) RR) : OwnGo p e below (T.setTop (mkF m pc Ls (.int y :: .int x :: S))) RR := by
  subst hp
  exact own_step k fun t k => XS.ior X.here X.hx rfl (hb X.by' hd) rfl k
theorem own_ixor {x y : Int32} (X : OwnSt p l e R s m args below meth c Z own bytes maxL ret nm n0 km Q RR T h cells slots) (hd : decode bytes pc = .ok (.ixor, 1)) (hp : pc + 1 = pc')  (k : OwnGo p e below (T.setTop (mkF m pc' Ls (.int (x ^^^ y) :: S))) RR) : OwnGo p e below (T.setTop (mkF m pc Ls (.int y :: .int x :: S))) RR := by
  subst hp
  exact own_step k fun t k => XS.ixor X.here X.hx rfl (hb X.by' hd) rfl k
theorem own_ishl {x y : Int32} (X : OwnSt p l e R s m args below meth c Z own bytes maxL ret nm n0 km Q RR T h cells slots) (hd : decode bytes pc = .ok (.ishl, 1)) (hp : pc + 1 = pc')  (k : OwnGo p e below (T.setTop (mkF m pc' Ls (.int (x <<< (y &&& 31)) :: S))) RR) : OwnGo p e below (T.setTop (mkF m pc Ls (.int y :: .int x :: S))) RR := by
  subst hp
  exact own_step k fun t k => XS.ishl X.here X.hx rfl (hb X.by' hd) rfl k
theorem own_ishr {x y : Int32} (X : OwnSt p l e R s m args below meth c Z own bytes maxL ret nm n0 km Q RR T h cells slots) (hd : decode bytes pc = .ok (.ishr, 1)) (hp : pc + 1 = pc')  (k : OwnGo p e below (T.setTop (mkF m pc' Ls (.int (x >>> (y &&& 31)) :: S))) RR) : OwnGo p e below (T.setTop (mkF m pc Ls (.int y :: .int x :: S))) RR := by
  subst hp
  exact own_step k fun t k => XS.ishr X.here X.hx rfl (hb X.by' hd) rfl k
theorem own_iushr {x y : Int32} (X : OwnSt p l e R s m args below meth c Z own bytes maxL ret nm n0 km Q RR T h cells slots) (hd : decode bytes pc = .ok (.iushr, 1)) (hp : pc + 1 = pc')  (k : OwnGo p e below (T.setTop (mkF m pc' Ls (.int ((x.toUInt32 >>> (y &&& 31).toUInt32).toInt32) :: S))) RR) : OwnGo p e below (T.setTop (mkF m pc Ls (.int y :: .int x :: S))) RR := by
  subst hp
  exact own_step k fun t k => XS.iushr X.here X.hx rfl (hb X.by' hd) rfl k
theorem own_idiv {x y : Int32} (X : OwnSt p l e R s m args below meth c Z own bytes maxL ret nm n0 km Q RR T h cells slots) (hd : decode bytes pc = .ok (.idiv, 1)) (hp : pc + 1 = pc') (hy : y ≠ 0) (k : OwnGo p e below (T.setTop (mkF m pc' Ls (.int (x / y) :: S))) RR) : OwnGo p e below (T.setTop (mkF m pc Ls (.int y :: .int x :: S))) RR := by
  subst hp
  exact own_step k fun t k => XS.idiv X.here X.hx rfl (hb X.by' hd) rfl hy k
theorem own_irem {x y : Int32} (X : OwnSt p l e R s m args below meth c Z own bytes maxL ret nm n0 km Q RR T h cells slots) (hd : decode bytes pc = .ok (.irem, 1)) (hp : pc + 1 = pc') (hy : y ≠ 0) (k : OwnGo p e below (T.setTop (mkF m pc' Ls (.int (x % y) :: S))) RR) : OwnGo p e below (T.setTop (mkF m pc Ls (.int y :: .int x :: S))) RR := by
  subst hp
  exact own_step k fun t k => XS.irem X.here X.hx rfl (hb X.by' hd) rfl hy (by rw [irem_eq_mod]; exact k)
theorem own_ladd {x y : Int64} (X : OwnSt p l e R s m args below meth c Z own bytes maxL ret nm n0 km Q RR T h cells slots) (hd : decode bytes pc = .ok (.ladd, 1)) (hp : pc + 1 = pc')  (k : OwnGo p e below (T.setTop (mkF m pc' Ls (.long (x + y) :: S))) RR) : OwnGo p e below (T.setTop (mkF m pc Ls (.long y :: .long x :: S))) RR := by
  subst hp
  exact own_step k fun t k => XS.ladd X.here X.hx rfl (hb X.by' hd) rfl k
theorem own_lsub {x y : Int64} (X : OwnSt p l e R s m args below meth c Z own bytes maxL ret nm n0 km Q RR T h cells slots) (hd : decode bytes pc = .ok (.lsub, 1)) (hp : pc + 1 = pc')  (k : OwnGo p e below (T.setTop (mkF m pc' Ls (.long (x - y) :: S))) RR) : OwnGo p e below (T.setTop (mkF m pc Ls (.long y :: .long x :: S))) RR := by
  subst hp
  exact own_step k fun t k => XS.lsub X.here X.hx rfl (hb X.by' hd) rfl k
theorem own_lmul {x y : Int64} (X : OwnSt p l e R s m args below meth c Z own bytes maxL ret nm n0 km Q RR T h cells slots) (hd : decode bytes pc = .ok (.lmul, 1)) (hp : pc + 1 = pc')  (k : OwnGo p e below (T.setTop (mkF m pc' Ls (.long (x * y) :: S))) RR) : OwnGo p e below (T.setTop (mkF m pc Ls (.long y :: .long x :: S))) RR := by
  subst hp
  exact own_step k fun t k => XS.lmul X.here X.hx rfl (hb X.by' hd) rfl k
theorem own_land {x y : Int64} (X : OwnSt p l e R s m args below meth c Z own bytes maxL ret nm n0 km Q RR T h cells slots) (hd : decode bytes pc = .ok (.land, 1)) (hp : pc + 1 = pc')  (k : OwnGo p e below (T.setTop (mkF m pc' Ls (.long (x &&& y) :: S))) RR) : OwnGo p e below (T.setTop (mkF m pc Ls (.long y :: .long x :: S))) RR := by
  subst hp
  exact own_step k fun t k => XS.land X.here X.hx rfl (hb X.by' hd) rfl k
theorem own_lor {x y : Int64} (X : OwnSt p l e R s m args below meth c Z own bytes maxL ret nm n0 km Q RR T h cells slots) (hd : decode bytes pc = .ok (.lor, 1)) (hp : pc + 1 = pc')  (k : OwnGo p e below (T.setTop (mkF m pc' Ls (.long (x ||| y) :: S))) RR) : OwnGo p e below (T.setTop (mkF m pc Ls (.long y :: .long x :: S))) RR := by
  subst hp
  exact own_step k fun t k => XS.lor X.here X.hx rfl (hb X.by' hd) rfl k
theorem own_lxor {x y : Int64} (X : OwnSt p l e R s m args below meth c Z own bytes maxL ret nm n0 km Q RR T h cells slots) (hd : decode bytes pc = .ok (.lxor, 1)) (hp : pc + 1 = pc')  (k : OwnGo p e below (T.setTop (mkF m pc' Ls (.long (x ^^^ y) :: S))) RR) : OwnGo p e below (T.setTop (mkF m pc Ls (.long y :: .long x :: S))) RR := by
  subst hp
  exact own_step k fun t k => XS.lxor X.here X.hx rfl (hb X.by' hd) rfl k
theorem own_ldiv {x y : Int64} (X : OwnSt p l e R s m args below meth c Z own bytes maxL ret nm n0 km Q RR T h cells slots) (hd : decode bytes pc = .ok (.ldiv, 1)) (hp : pc + 1 = pc') (hy : y ≠ 0) (k : OwnGo p e below (T.setTop (mkF m pc' Ls (.long (x / y) :: S))) RR) : OwnGo p e below (T.setTop (mkF m pc Ls (.long y :: .long x :: S))) RR := by
  subst hp
  exact own_step k fun t k => XS.ldiv X.here X.hx rfl (hb X.by' hd) rfl hy k
theorem own_lrem {x y : Int64} (X : OwnSt p l e R s m args below meth c Z own bytes maxL ret nm n0 km Q RR T h cells slots) (hd : decode bytes pc = .ok (.lrem, 1)) (hp : pc + 1 = pc') (hy : y ≠ 0) (k : OwnGo p e below (T.setTop (mkF m pc' Ls (.long (x - (x / y) * y) :: S))) RR) : OwnGo p e below (T.setTop (mkF m pc Ls (.long y :: .long x :: S))) RR := by
  subst hp
  exact own_step k fun t k => XS.lrem X.here X.hx rfl (hb X.by' hd) rfl hy k
theorem own_lshl {x : Int64} {y : Int32} (X : OwnSt p l e R s m args below meth c Z own bytes maxL ret nm n0 km Q RR T h cells slots) (hd : decode bytes pc = .ok (.lshl, 1)) (hp : pc + 1 = pc')  (k : OwnGo p e below (T.setTop (mkF m pc' Ls (.long (x <<< (y &&& 0x3f).toInt64) :: S))) RR) : OwnGo p e below (T.setTop (mkF m pc Ls (.int y :: .long x :: S))) RR := by
  subst hp
  exact own_step k fun t k => XS.lshl X.here X.hx rfl (hb X.by' hd) rfl k
theorem own_lshr {x : Int64} {y : Int32} (X : OwnSt p l e R s m args below meth c Z own bytes maxL ret nm n0 km Q RR T h cells slots) (hd : decode bytes pc = .ok (.lshr, 1)) (hp : pc + 1 = pc')  (k : OwnGo p e below (T.setTop (mkF m pc' Ls (.long (x >>> (y &&& 0x3f).toInt64) :: S))) RR) : OwnGo p e below (T.setTop (mkF m pc Ls (.int y :: .long x :: S))) RR := by
  subst hp
  exact own_step k fun t k => XS.lshr X.here X.hx rfl (hb X.by' hd) rfl k
theorem own_lushr {x : Int64} {y : Int32} (X : OwnSt p l e R s m args below meth c Z own bytes maxL ret nm n0 km Q RR T h cells slots) (hd : decode bytes pc = .ok (.lushr, 1)) (hp : pc + 1 = pc')  (k : OwnGo p e below (T.setTop (mkF m pc' Ls (.long ((x.toUInt64 >>> (y &&& 0x3f).toInt64.toUInt64).toInt64) :: S))) RR) : OwnGo p e below (T.setTop (mkF m pc Ls (.int y :: .long x :: S))) RR := by
  subst hp
  exact own_step k fun t k => XS.lushr X.here X.hx rfl (hb X.by' hd) rfl k
theorem own_ineg {x : Int32} (X : OwnSt p l e R s m args below meth c Z own bytes maxL ret nm n0 km Q RR T h cells slots) (hd : decode bytes pc = .ok (.ineg, 1)) (hp : pc + 1 = pc')  (k : OwnGo p e below (T.setTop (mkF m pc' Ls (.int (-x) :: S))) RR) : OwnGo p e below (T.setTop (mkF m pc Ls (.int x :: S))) RR := by
  subst hp
  exact own_step k fun t k => XS.ineg X.here X.hx rfl (hb X.by' hd) rfl k
theorem own_lneg {x : Int64} (X : OwnSt p l e R s m args below meth c Z own bytes maxL ret nm n0 km Q RR T h cells slots) (hd : decode bytes pc = .ok (.lneg, 1)) (hp : pc + 1 = pc')  (k : OwnGo p e below (T.setTop (mkF m pc' Ls (.long (-x) :: S))) RR) : OwnGo p e below (T.setTop (mkF m pc Ls (.long x :: S))) RR := by
  subst hp
  exact own_step k fun t k => XS.lneg X.here X.hx rfl (hb X.by' hd) rfl k
theorem own_i2l {x : Int32} (X : OwnSt p l e R s m args below meth c Z own bytes maxL ret nm n0 km Q RR T h cells slots) (hd : decode bytes pc = .ok (.i2l, 1)) (hp : pc + 1 = pc')  (k : OwnGo p e below (T.setTop (mkF m pc' Ls (.long (x.toInt64) :: S))) RR) : OwnGo p e below (T.setTop (mkF m pc Ls (.int x :: S))) RR := by
  subst hp
  exact own_step k fun t k => XS.i2l X.here X.hx rfl (hb X.by' hd) rfl k
theorem own_l2i {x : Int64} (X : OwnSt p l e R s m args below meth c Z own bytes maxL ret nm n0 km Q RR T h cells slots) (hd : decode bytes pc = .ok (.l2i, 1)) (hp : pc + 1 = pc')  (k : OwnGo p e below (T.setTop (mkF m pc' Ls (.int (x.toInt32) :: S))) RR) : OwnGo p e below (T.setTop (mkF m pc Ls (.long x :: S))) RR := by
  subst hp
  exact own_step k fun t k => XS.l2i X.here X.hx rfl (hb X.by' hd) rfl k
theorem own_i2b {x : Int32} (X : OwnSt p l e R s m args below meth c Z own bytes maxL ret nm n0 km Q RR T h cells slots) (hd : decode bytes pc = .ok (.i2b, 1)) (hp : pc + 1 = pc')  (k : OwnGo p e below (T.setTop (mkF m pc' Ls (.int (x.toInt8.toInt32) :: S))) RR) : OwnGo p e below (T.setTop (mkF m pc Ls (.int x :: S))) RR := by
  subst hp
  exact own_step k fun t k => XS.i2b X.here X.hx rfl (hb X.by' hd) rfl k
theorem own_i2s {x : Int32} (X : OwnSt p l e R s m args below meth c Z own bytes maxL ret nm n0 km Q RR T h cells slots) (hd : decode bytes pc = .ok (.i2s, 1)) (hp : pc + 1 = pc')  (k : OwnGo p e below (T.setTop (mkF m pc' Ls (.int (x.toInt16.toInt32) :: S))) RR) : OwnGo p e below (T.setTop (mkF m pc Ls (.int x :: S))) RR := by
  subst hp
  exact own_step k fun t k => XS.i2s X.here X.hx rfl (hb X.by' hd) rfl k
theorem own_i2c {x : Int32} (X : OwnSt p l e R s m args below meth c Z own bytes maxL ret nm n0 km Q RR T h cells slots) (hd : decode bytes pc = .ok (.i2c, 1)) (hp : pc + 1 = pc')  (k : OwnGo p e below (T.setTop (mkF m pc' Ls (.int (x.toUInt32.toUInt16.toUInt32.toInt32) :: S))) RR) : OwnGo p e below (T.setTop (mkF m pc Ls (.int x :: S))) RR := by
  subst hp
  exact own_step k fun t k => XS.i2c X.here X.hx rfl (hb X.by' hd) rfl k
theorem own_dup {x : Value} (X : OwnSt p l e R s m args below meth c Z own bytes maxL ret nm n0 km Q RR T h cells slots) (hd : decode bytes pc = .ok (.dup, 1)) (hp : pc + 1 = pc') (hc : x.category = 1) (k : OwnGo p e below (T.setTop (mkF m pc' Ls (x :: x :: S))) RR) : OwnGo p e below (T.setTop (mkF m pc Ls (x :: S))) RR := by
  subst hp
  exact own_step k fun t k => XS.dup X.here X.hx rfl (hb X.by' hd) rfl hc k
theorem own_pop {x : Value} (X : OwnSt p l e R s m args below meth c Z own bytes maxL ret nm n0 km Q RR T h cells slots) (hd : decode bytes pc = .ok (.pop, 1)) (hp : pc + 1 = pc') (hc : x.category = 1) (k : OwnGo p e below (T.setTop (mkF m pc' Ls (S))) RR) : OwnGo p e below (T.setTop (mkF m pc Ls (x :: S))) RR := by
  subst hp
  exact own_step k fun t k => XS.pop X.here X.hx rfl (hb X.by' hd) rfl hc k
theorem own_dup_x1 {x y : Value} (X : OwnSt p l e R s m args below meth c Z own bytes maxL ret nm n0 km Q RR T h cells slots) (hd : decode bytes pc = .ok (.dup_x1, 1)) (hp : pc + 1 = pc') (hc : x.category = 1) (hc' : y.category = 1) (k : OwnGo p e below (T.setTop (mkF m pc' Ls (x :: y :: x :: S))) RR) : OwnGo p e below (T.setTop (mkF m pc Ls (x :: y :: S))) RR := by
  subst hp
  exact own_step k fun t k => XS.dupX1 X.here X.hx rfl (hb X.by' hd) rfl hc hc' k
theorem own_istoreN {k : Fin 4} {x : Int32} {l' : Array Slot} (X : OwnSt p l e R s m args below meth c Z own bytes maxL ret nm n0 km Q RR T h cells slots) (hd : decode bytes pc = .ok (.istore_n k, 1)) (hp : pc + 1 = pc') (hl : storeLocals Ls k.val (.int x) = some l') (k : OwnGo p e below (T.setTop (mkF m pc' l' (S))) RR) : OwnGo p e below (T.setTop (mkF m pc Ls (.int x :: S))) RR := by
  subst hp
  exact own_step k fun t k => XS.istoreN X.here X.hx rfl (hb X.by' hd) rfl hl k
theorem own_istoreNV {k : Fin 4} {x : Int32} {l' : Int32 → Array Slot} (X : OwnSt p l e R s m args below meth c Z own bytes maxL ret nm n0 km Q RR T h cells slots) (hd : decode bytes pc = .ok (.istore_n k, 1)) (hp : pc + 1 = pc') (hl : ∀ v, storeLocals Ls k.val (.int v) = some (l' v)) (k : ∀ v, v = x → OwnGo p e below (T.setTop (mkF m pc' (l' v) (S))) RR) : OwnGo p e below (T.setTop (mkF m pc Ls (.int x :: S))) RR := by
  subst hp
  exact own_step (k _ rfl) fun t k => XS.istoreN X.here X.hx rfl (hb X.by' hd) rfl (hl _) k
theorem own_istore {k : Nat} {x : Int32} {l' : Array Slot} (X : OwnSt p l e R s m args below meth c Z own bytes maxL ret nm n0 km Q RR T h cells slots) (hd : decode bytes pc = .ok (.istore k, 2)) (hp : pc + 2 = pc') (hl : storeLocals Ls k (.int x) = some l') (k : OwnGo p e below (T.setTop (mkF m pc' l' (S))) RR) : OwnGo p e below (T.setTop (mkF m pc Ls (.int x :: S))) RR := by
  subst hp
  exact own_step k fun t k => XS.istore X.here X.hx rfl (hb X.by' hd) rfl hl k
theorem own_istoreV {k : Nat} {x : Int32} {l' : Int32 → Array Slot} (X : OwnSt p l e R s m args below meth c Z own bytes maxL ret nm n0 km Q RR T h cells slots) (hd : decode bytes pc = .ok (.istore k, 2)) (hp : pc + 2 = pc') (hl : ∀ v, storeLocals Ls k (.int v) = some (l' v)) (k : ∀ v, v = x → OwnGo p e below (T.setTop (mkF m pc' (l' v) (S))) RR) : OwnGo p e below (T.setTop (mkF m pc Ls (.int x :: S))) RR := by
  subst hp
  exact own_step (k _ rfl) fun t k => XS.istore X.here X.hx rfl (hb X.by' hd) rfl (hl _) k
theorem own_lstoreN {k : Fin 4} {x : Int64} {l' : Array Slot} (X : OwnSt p l e R s m args below meth c Z own bytes maxL ret nm n0 km Q RR T h cells slots) (hd : decode bytes pc = .ok (.lstore_n k, 1)) (hp : pc + 1 = pc') (hl : storeLocals Ls k.val (.long x) = some l') (k : OwnGo p e below (T.setTop (mkF m pc' l' (S))) RR) : OwnGo p e below (T.setTop (mkF m pc Ls (.long x :: S))) RR := by
  subst hp
  exact own_step k fun t k => XS.lstoreN X.here X.hx rfl (hb X.by' hd) rfl hl k
theorem own_lstoreNV {k : Fin 4} {x : Int64} {l' : Int64 → Array Slot} (X : OwnSt p l e R s m args below meth c Z own bytes maxL ret nm n0 km Q RR T h cells slots) (hd : decode bytes pc = .ok (.lstore_n k, 1)) (hp : pc + 1 = pc') (hl : ∀ v, storeLocals Ls k.val (.long v) = some (l' v)) (k : ∀ v, v = x → OwnGo p e below (T.setTop (mkF m pc' (l' v) (S))) RR) : OwnGo p e below (T.setTop (mkF m pc Ls (.long x :: S))) RR := by
  subst hp
  exact own_step (k _ rfl) fun t k => XS.lstoreN X.here X.hx rfl (hb X.by' hd) rfl (hl _) k
theorem own_lstore {k : Nat} {x : Int64} {l' : Array Slot} (X : OwnSt p l e R s m args below meth c Z own bytes maxL ret nm n0 km Q RR T h cells slots) (hd : decode bytes pc = .ok (.lstore k, 2)) (hp : pc + 2 = pc') (hl : storeLocals Ls k (.long x) = some l') (k : OwnGo p e below (T.setTop (mkF m pc' l' (S))) RR) : OwnGo p e below (T.setTop (mkF m pc Ls (.long x :: S))) RR := by
  subst hp
  exact own_step k fun t k => XS.lstore X.here X.hx rfl (hb X.by' hd) rfl hl k
theorem own_lstoreV {k : Nat} {x : Int64} {l' : Int64 → Array Slot} (X : OwnSt p l e R s m args below meth c Z own bytes maxL ret nm n0 km Q RR T h cells slots) (hd : decode bytes pc = .ok (.lstore k, 2)) (hp : pc + 2 = pc') (hl : ∀ v, storeLocals Ls k (.long v) = some (l' v)) (k : ∀ v, v = x → OwnGo p e below (T.setTop (mkF m pc' (l' v) (S))) RR) : OwnGo p e below (T.setTop (mkF m pc Ls (.long x :: S))) RR := by
  subst hp
  exact own_step (k _ rfl) fun t k => XS.lstore X.here X.hx rfl (hb X.by' hd) rfl (hl _) k
theorem own_astoreN {k : Fin 4} {x : Value} {l' : Array Slot} (X : OwnSt p l e R s m args below meth c Z own bytes maxL ret nm n0 km Q RR T h cells slots) (hd : decode bytes pc = .ok (.astore_n k, 1)) (hp : pc + 1 = pc') (hv : x.isRef = true) (hl : storeLocals Ls k.val x = some l') (k : OwnGo p e below (T.setTop (mkF m pc' l' (S))) RR) : OwnGo p e below (T.setTop (mkF m pc Ls (x :: S))) RR := by
  subst hp
  exact own_step k fun t k => XS.astoreN X.here X.hx rfl (hb X.by' hd) rfl hv hl k
theorem own_astore {k : Nat} {x : Value} {l' : Array Slot} (X : OwnSt p l e R s m args below meth c Z own bytes maxL ret nm n0 km Q RR T h cells slots) (hd : decode bytes pc = .ok (.astore k, 2)) (hp : pc + 2 = pc') (hv : x.isRef = true) (hl : storeLocals Ls k x = some l') (k : OwnGo p e below (T.setTop (mkF m pc' l' (S))) RR) : OwnGo p e below (T.setTop (mkF m pc Ls (x :: S))) RR := by
  subst hp
  exact own_step k fun t k => XS.astore X.here X.hx rfl (hb X.by' hd) rfl hv hl k
theorem own_iinc {k : Nat} {d : Int} {x y : Int32} {l' : Array Slot} (X : OwnSt p l e R s m args below meth c Z own bytes maxL ret nm n0 km Q RR T h cells slots) (hd : decode bytes pc = .ok (.iinc k d, 3)) (hp : pc + 3 = pc') (hx' : Ls[k]? = some (.val (.int x))) (hy : x + Int32.ofInt d = y) (hl : storeLocals Ls k (.int y) = some l') (k : OwnGo p e below (T.setTop (mkF m pc' l' (S))) RR) : OwnGo p e below (T.setTop (mkF m pc Ls (S))) RR := by
  subst hp
  subst hy
  exact own_step k fun t k => XS.iinc X.here X.hx rfl (hb X.by' hd) hx' hl k
theorem own_ifnonnullN {o : Int} (X : OwnSt p l e R s m args below meth c Z own bytes maxL ret nm n0 km Q RR T h cells slots) (hd : decode bytes pc = .ok (.ifnonnull o, 3)) (hp : pc + 3 = pc')  (k : OwnGo p e below (T.setTop (mkF m pc' Ls (S))) RR) : OwnGo p e below (T.setTop (mkF m pc Ls (.null :: S))) RR := by
  subst hp
  exact own_step k fun t k => XS.ifnonnullNo X.here X.hx rfl (hb X.by' hd) rfl k
theorem own_ifnullN {o : Int} {b : Addr} (X : OwnSt p l e R s m args below meth c Z own bytes maxL ret nm n0 km Q RR T h cells slots) (hd : decode bytes pc = .ok (.ifnull o, 3)) (hp : pc + 3 = pc')  (k : OwnGo p e below (T.setTop (mkF m pc' Ls (S))) RR) : OwnGo p e below (T.setTop (mkF m pc Ls (.ref b :: S))) RR := by
  subst hp
  exact own_step k fun t k => XS.ifnullNo X.here X.hx rfl (hb X.by' hd) rfl k
theorem own_ifnonnullY {o : Int} {b : Addr} (X : OwnSt p l e R s m args below meth c Z own bytes maxL ret nm n0 km Q RR T h cells slots) (hd : decode bytes pc = .ok (.ifnonnull o, 3)) (hp : ((pc : Int) + o).toNat = pc') (ho : 0 ≤ (pc : Int) + o) (k : OwnGo p e below (T.setTop (mkF m pc' Ls S)) RR) : OwnGo p e below (T.setTop (mkF m pc Ls (.ref b :: S))) RR :=
  own_step k fun t k => XS.ifnonnullYes X.here X.hx rfl (pc0 := pc) rfl (hb X.by' hd) rfl ho hp k
theorem own_ifnullY {o : Int} (X : OwnSt p l e R s m args below meth c Z own bytes maxL ret nm n0 km Q RR T h cells slots) (hd : decode bytes pc = .ok (.ifnull o, 3)) (hp : ((pc : Int) + o).toNat = pc') (ho : 0 ≤ (pc : Int) + o) (k : OwnGo p e below (T.setTop (mkF m pc' Ls S)) RR) : OwnGo p e below (T.setTop (mkF m pc Ls (.null :: S))) RR :=
  own_step k fun t k => XS.ifnullYes X.here X.hx rfl (pc0 := pc) rfl (hb X.by' hd) rfl ho hp k
theorem own_ldcInt {i : Nat} {v : Int32} (X : OwnSt p l e R s m args below meth c Z own bytes maxL ret nm n0 km Q RR T h cells slots) (hd : decode bytes pc = .ok (.ldc i, 2)) (hp : pc + 2 = pc') (w : (Cond.constant own i v).before a0 Z = true) (k : OwnGo p e below (T.setTop (mkF m pc' Ls (.int v :: S))) RR) : OwnGo p e below (T.setTop (mkF m pc Ls S)) RR := by
  subst hp
  obtain ⟨C, hh, hkm, locs, X0, N⟩ := id X
  exact own_step k (X0.ldcInt X.hx C.2.2.2.2.1 (mvT X.hZ w) (g := mkF m pc Ls S) rfl (hb X.by' hd))
theorem own_ldc2Long {i : Nat} {v : Int64} (X : OwnSt p l e R s m args below meth c Z own bytes maxL ret nm n0 km Q RR T h cells slots) (hd : decode bytes pc = .ok (.ldc2_w i, 3)) (hp : pc + 3 = pc') (w : (Cond.constantLong own i v).before a0 Z = true) (k : OwnGo p e below (T.setTop (mkF m pc' Ls (.long v :: S))) RR) : OwnGo p e below (T.setTop (mkF m pc Ls S)) RR := by
  subst hp
  obtain ⟨C, hh, hkm, locs, X0, N⟩ := id X
  exact own_step k (X0.ldc2Long X.hx C.2.2.2.2.1 (mvT X.hZ w) (g := mkF m pc Ls S) rfl (hb X.by' hd))
/-! forks -/
theorem own_ifY {cd : ClassFile.Cond} {x : Int32} {o : Int} (X : OwnSt p l e R s m args below meth c Z own bytes maxL ret nm n0 km Q RR T h cells slots) (hd : decode bytes pc = .ok (.ifCond cd o, 3)) (hc : if_icmp.holds cd x 0 = true) (hp : ((pc : Int) + o).toNat = pc') (ho : 0 ≤ (pc : Int) + o) (k : OwnGo p e below (T.setTop (mkF m pc' Ls S)) RR) : OwnGo p e below (T.setTop (mkF m pc Ls (.int x :: S))) RR :=
  own_step k fun t k => XS.ifYes X.here X.hx rfl (pc0 := pc) rfl (hb X.by' hd) rfl ((if0 _ _).trans hc) ho hp k
theorem own_ifN {cd : ClassFile.Cond} {x : Int32} {o : Int} (X : OwnSt p l e R s m args below meth c Z own bytes maxL ret nm n0 km Q RR T h cells slots) (hd : decode bytes pc = .ok (.ifCond cd o, 3)) (hc : if_icmp.holds cd x 0 = false) (hp : pc + 3 = pc') (k : OwnGo p e below (T.setTop (mkF m pc' Ls S)) RR) : OwnGo p e below (T.setTop (mkF m pc Ls (.int x :: S))) RR := by
  subst hp
  exact own_step k fun t k => XS.ifNo X.here X.hx rfl (hb X.by' hd) rfl ((if0 _ _).trans hc) k
theorem own_icY {cd : ClassFile.Cond} {x y : Int32} {o : Int} (X : OwnSt p l e R s m args below meth c Z own bytes maxL ret nm n0 km Q RR T h cells slots) (hd : decode bytes pc = .ok (.if_icmp cd o, 3)) (hc : if_icmp.holds cd x y = true) (hp : ((pc : Int) + o).toNat = pc') (ho : 0 ≤ (pc : Int) + o) (k : OwnGo p e below (T.setTop (mkF m pc' Ls S)) RR) : OwnGo p e below (T.setTop (mkF m pc Ls (.int y :: .int x :: S))) RR :=
  own_step k fun t k => XS.icmpYes X.here X.hx rfl (pc0 := pc) rfl (hb X.by' hd) rfl hc ho hp k
theorem own_icN {cd : ClassFile.Cond} {x y : Int32} {o : Int} (X : OwnSt p l e R s m args below meth c Z own bytes maxL ret nm n0 km Q RR T h cells slots) (hd : decode bytes pc = .ok (.if_icmp cd o, 3)) (hc : if_icmp.holds cd x y = false) (hp : pc + 3 = pc') (k : OwnGo p e below (T.setTop (mkF m pc' Ls S)) RR) : OwnGo p e below (T.setTop (mkF m pc Ls (.int y :: .int x :: S))) RR := by
  subst hp
  exact own_step k fun t k => XS.icmpNo X.here X.hx rfl (hb X.by' hd) rfl hc k
def ownLc (cd : ClassFile.Cond) (x y : Int64) : Bool := match cd with
  | .eq => decide (x = y) | .ne => !decide (x = y) | .lt => decide (x < y) | .ge => !decide (x < y) | .gt => decide (y < x) | .le => !decide (y < x)
theorem own_lc (cd : ClassFile.Cond) (x y : Int64) : if_icmp.holds cd (lcmpW x y) 0 = ownLc cd x y := by
  rw [lcW]
  have h1 := lc_eq x y
  have h2 := lc_lt x y
  have h3 := lc_gt x y
  cases cd <;> simp only [ownLc]
  · by_cases q : x = y
    · rw [(teq (h1.mpr q)).1]; simp [q]
    · rw [(feq fun w => q (h1.mp w)).1]; simp [q]
  · by_cases q : x = y
    · rw [(teq (h1.mpr q)).2]; simp [q]
    · rw [(feq fun w => q (h1.mp w)).2]; simp [q]
  · by_cases q : x < y
    · rw [(tlt (h2.mpr q)).1]; simp [q]
    · rw [(flt fun w => q (h2.mp w)).1]; simp [q]
  · by_cases q : x < y
    · rw [(tlt (h2.mpr q)).2.1]; simp [q]
    · rw [(flt fun w => q (h2.mp w)).2.1]; simp [q]
  · by_cases q : y < x
    · rw [(tlt (h3.mpr q)).2.2.1]; simp [q]
    · rw [(flt fun w => q (h3.mp w)).2.2.1]; simp [q]
  · by_cases q : y < x
    · rw [(tlt (h3.mpr q)).2.2.2]; simp [q]
    · rw [(flt fun w => q (h3.mp w)).2.2.2]; simp [q]
theorem own_ljY {cd : ClassFile.Cond} {x y : Int64} {o : Int} (X : OwnSt p l e R s m args below meth c Z own bytes maxL ret nm n0 km Q RR T h cells slots) (hd : decode bytes pc = .ok (.lcmp, 1)) (hd2 : decode bytes (pc + 1) = .ok (.ifCond cd o, 3)) (hc : ownLc cd x y = true) (hp : (((pc + 1 : Nat) : Int) + o).toNat = pc') (ho : 0 ≤ ((pc + 1 : Nat) : Int) + o) (k : OwnGo p e below (T.setTop (mkF m pc' Ls S)) RR) : OwnGo p e below (T.setTop (mkF m pc Ls (.long y :: .long x :: S))) RR :=
  own_step (own_ifY (pc := pc + 1) (x := lcmpW x y) X hd2 ((own_lc cd x y).trans hc) hp ho k) fun t k => XS.lcmp X.here X.hx rfl (hb X.by' hd) rfl k
theorem own_ljN {cd : ClassFile.Cond} {x y : Int64} {o : Int} (X : OwnSt p l e R s m args below meth c Z own bytes maxL ret nm n0 km Q RR T h cells slots) (hd : decode bytes pc = .ok (.lcmp, 1)) (hd2 : decode bytes (pc + 1) = .ok (.ifCond cd o, 3)) (hc : ownLc cd x y = false) (hp : pc + 4 = pc') (k : OwnGo p e below (T.setTop (mkF m pc' Ls S)) RR) : OwnGo p e below (T.setTop (mkF m pc Ls (.long y :: .long x :: S))) RR :=
  own_step (own_ifN (pc := pc + 1) (x := lcmpW x y) X hd2 ((own_lc cd x y).trans hc) hp k) fun t k => XS.lcmp X.here X.hx rfl (hb X.by' hd) rfl k
theorem own_teqA {a b : Addr} (h : a = b) : if_acmp.holds .eq (some a) (some b) = true ∧ if_acmp.holds .ne (some a) (some b) = false := by simp [if_acmp.holds, h]
theorem own_feqA {a b : Addr} (h : ¬ a = b) : if_acmp.holds .eq (some a) (some b) = false ∧ if_acmp.holds .ne (some a) (some b) = true := by simp [if_acmp.holds, h]
theorem own_acY {cd : ClassFile.ACond} {a b : Addr} {o : Int} (X : OwnSt p l e R s m args below meth c Z own bytes maxL ret nm n0 km Q RR T h cells slots) (hd : decode bytes pc = .ok (.if_acmp cd o, 3)) (hc : if_acmp.holds cd (some a) (some b) = true) (hp : ((pc : Int) + o).toNat = pc') (ho : 0 ≤ (pc : Int) + o) (k : OwnGo p e below (T.setTop (mkF m pc' Ls S)) RR) : OwnGo p e below (T.setTop (mkF m pc Ls (.ref b :: .ref a :: S))) RR :=
  own_step k fun t k => XS.acmpYes X.here X.hx rfl (pc0 := pc) rfl (hb X.by' hd) rfl hc ho hp k
theorem own_acN {cd : ClassFile.ACond} {a b : Addr} {o : Int} (X : OwnSt p l e R s m args below meth c Z own bytes maxL ret nm n0 km Q RR T h cells slots) (hd : decode bytes pc = .ok (.if_acmp cd o, 3)) (hc : if_acmp.holds cd (some a) (some b) = false) (hp : pc + 3 = pc') (k : OwnGo p e below (T.setTop (mkF m pc' Ls S)) RR) : OwnGo p e below (T.setTop (mkF m pc Ls (.ref b :: .ref a :: S))) RR := by
  subst hp
  exact own_step k fun t k => XS.acmpNo X.here X.hx rfl (hb X.by' hd) rfl hc k
theorem own_goto {o : Int} (X : OwnSt p l e R s m args below meth c Z own bytes maxL ret nm n0 km Q RR T h cells slots) (hd : decode bytes pc = .ok (.goto o, 3)) (hp : ((pc : Int) + o).toNat = pc') (ho : 0 ≤ (pc : Int) + o) (k : OwnGo p e below (T.setTop (mkF m pc' Ls S)) RR) : OwnGo p e below (T.setTop (mkF m pc Ls S)) RR :=
  own_step k fun t k => XS.goto X.here X.hx rfl (pc0 := pc) rfl (hb X.by' hd) ho hp k
theorem own_tltL {x y : Int64} (h : x < y) : ownLc .lt x y = true ∧ ownLc .ge x y = false ∧ ownLc .gt y x = true ∧ ownLc .le y x = false := by simp [ownLc, h]
theorem own_fltL {x y : Int64} (h : ¬ x < y) : ownLc .lt x y = false ∧ ownLc .ge x y = true ∧ ownLc .gt y x = false ∧ ownLc .le y x = true := by simp [ownLc, h]
theorem own_teqL {x y : Int64} (h : x = y) : ownLc .eq x y = true ∧ ownLc .ne x y = false := by simp [ownLc, h]
theorem own_feqL {x y : Int64} (h : ¬ x = y) : ownLc .eq x y = false ∧ ownLc .ne x y = true := by simp [ownLc, h]
/-- the same stand at another state with the same heap; with another heap -/
abbrev OwnAt (X : OwnSt p l e R s m args below meth c Z own bytes maxL ret nm n0 km Q RR T h cells slots) (T' : State) : Prop := OwnSt p l e R s m args below meth c Z own bytes maxL ret nm n0 km Q RR T' h cells slots
abbrev OwnAtH (X : OwnSt p l e R s m args below meth c Z own bytes maxL ret nm n0 km Q RR T h cells slots) (T' : State) (h' : Heap) : Prop := OwnSt p l e R s m args below meth c Z own bytes maxL ret nm n0 km Q RR T' h' cells slots
/-! heap steps -/
theorem own_init {index : Nat} {a : Addr} (X : OwnSt p l e R s m args below meth c Z own bytes maxL ret nm n0 km Q RR T h cells slots) (hd : decode bytes pc = .ok (.invokespecial index, 3)) (w1 : (Cond.methodLink own index Lib.objectInit).before a0 Z = true) (w2 : (Cond.instanceMethod Lib.objectInit).before a0 Z = true) (w3 : (Cond.code Lib.objectInit ⟨#[0xb1]⟩ 1 none).before a0 Z = true)
    (hp : pc + 3 = pc') (hsz : Ls.size = maxL) (hf : 1 ≤ R.frames) {W : Nat} (hW : 0 + (S.map fun v => v.category).sum ≤ W) (hlo : W + 12 ≤ R.locals)
    (k : ∀ T', OwnSt p l e R s m args below meth c Z own bytes maxL ret nm n0 km Q RR T' h cells slots → OwnGo p e below (T'.setTop (mkF m pc' Ls S)) RR) : OwnGo p e below (T.setTop (mkF m pc Ls (.ref a :: S))) RR := by
  subst hp
  obtain ⟨C, hh, hkm, locs, X0, N⟩ := X
  obtain ⟨hx, hby, hml, hZ, hown, hnm, hret, hlk, hR⟩ := id C
  obtain ⟨T', X', e', st⟩ := initO X0 hx hZ hown w1 w2 w3 hh (g := mkF m pc Ls (.ref a :: S)) rfl (hsz.trans hml.symm) rfl (hb hby hd) hf hW hlo
  exact own_step (k T' ⟨C, e', hkm, locs, X', N⟩) st
theorem own_new {index n : Nat} {K : String} (X : OwnSt p l e R s m args below meth c Z own bytes maxL ret nm n0 km Q RR T h cells slots) (hd : decode bytes pc = .ok (.new index, 3)) (w1 : (Cond.classLink own index K).before a0 Z = true) (w2 : (Cond.instantiable K n).before a0 Z = true) (w3 : (Cond.initialized K).before a0 Z = true)
    (hp : pc + 3 = pc') (hc : cells + 1 ≤ R.cells) (hl : slots + n ≤ R.slots)
    (k : ∀ T' h' b, b = h.size → OwnSt p l e R s m args below meth c Z own bytes maxL ret nm n0 km Q RR T' h' (cells + 1) (slots + n) → Ext h h' → Exa Z h' b K → (∀ {O nm d : String} {ty : FieldType}, Laid Z a0 K O nm d → parseFieldDescriptor d = some ty → Fld Z h' b O nm d (defaultValue ty)) → OwnGo p e below (T'.setTop (mkF m pc' Ls (.ref b :: S))) RR) : OwnGo p e below (T.setTop (mkF m pc Ls S)) RR := by
  subst hp
  obtain ⟨C, hh, hkm, locs, X0, N⟩ := X
  obtain ⟨hx, hby, hml, hZ, hown, hnm, hret, hlk, hR⟩ := id C
  obtain ⟨T', h', X', e', E', A', D', -, st⟩ := newO X0 hx hZ hown w1 w2 w3 hh (g := mkF m pc Ls S) rfl (hb hby hd) hc hl
  exact own_step (k T' h' _ rfl ⟨C, e', Nat.le_trans hkm E'.1, locs, X', N⟩ E' A' D') st
theorem own_getF {index : Nat} {O n d R0 : String} {a : Addr} {v : Value} (X : OwnSt p l e R s m args below meth c Z own bytes maxL ret nm n0 km Q RR T h cells slots) (hd : decode bytes pc = .ok (.getfield index, 3)) (w : (Cond.fieldLink own index R0 n d).before a0 Z = true) (via : Via Z R0 O n d) (F : Fld Z h a O n d v) (hp : pc + 3 = pc')
    (k : ∀ T', OwnSt p l e R s m args below meth c Z own bytes maxL ret nm n0 km Q RR T' h cells slots → OwnGo p e below (T'.setTop (mkF m pc' Ls (v :: S))) RR) : OwnGo p e below (T.setTop (mkF m pc Ls (.ref a :: S))) RR := by
  subst hp
  obtain ⟨C, hh, hkm, locs, X0, N⟩ := X
  obtain ⟨hx, hby, hml, hZ, hown, hnm, hret, hlk, hR⟩ := id C
  obtain ⟨T', X', e', st⟩ := getF X0 hx hZ hown (host := "") (Or.inl w) via hh F (g := mkF m pc Ls (.ref a :: S)) rfl rfl (hb hby hd)
  exact own_step (k T' ⟨C, e', hkm, locs, X', N⟩) st
theorem own_getS {index : Nat} {O n d R0 : String} {v : Value} (X : OwnSt p l e R s m args below meth c Z own bytes maxL ret nm n0 km Q RR T h cells slots) (hd : decode bytes pc = .ok (.getstatic index, 3)) (w : (Cond.fieldLink own index R0 n d).before a0 Z = true) (via : Via Z R0 O n d) (F : Sta Z h O n d v) (hp : pc + 3 = pc')
    (k : ∀ T', OwnSt p l e R s m args below meth c Z own bytes maxL ret nm n0 km Q RR T' h cells slots → OwnGo p e below (T'.setTop (mkF m pc' Ls (v :: S))) RR) : OwnGo p e below (T.setTop (mkF m pc Ls S)) RR := by
  subst hp
  obtain ⟨C, hh, hkm, locs, X0, N⟩ := X
  obtain ⟨hx, hby, hml, hZ, hown, hnm, hret, hlk, hR⟩ := id C
  obtain ⟨T', X', e', st⟩ := getS X0 hx hZ (host := "") hown w via hh F (g := mkF m pc Ls S) rfl (hb hby hd)
  exact own_step (k T' ⟨C, e', hkm, locs, X', N⟩) st
theorem own_putF {index kk : Nat} {O n d R0 K : String} {a : Addr} {v v' old : Value} {ty : FieldType} (X : OwnSt p l e R s m args below meth c Z own bytes maxL ret nm n0 km Q RR T h cells slots) (hd : decode bytes pc = .ok (.putfield index, 3)) (w : (Cond.fieldLink own index R0 n d).before a0 Z = true) (via : Via Z R0 O n d) (F : Fld Z h a O n d old) (E : Exa Z h a K) (L : (Cond.lays K O n d).before a0 Z = true ∨ ((Cond.laysFinal K O n d).before a0 Z = true ∧ own = O ∧ nm = "<init>")) (wi : (Cond.instantiable K kk).before a0 Z = true)
    (hty : parseFieldDescriptor d = some ty) (hn : narrow ty v = v') (hf : fits ty v' = true) (hge : n0 ≤ a) (hp : pc + 3 = pc')
    (k : ∀ T' h', OwnSt p l e R s m args below meth c Z own bytes maxL ret nm n0 km Q RR T' h' cells slots → Wr h h' a (Jvm.RoadKit.slotOf Z O n d) v' → OwnGo p e below (T'.setTop (mkF m pc' Ls S)) RR) : OwnGo p e below (T.setTop (mkF m pc Ls (v :: .ref a :: S))) RR := by
  subst hp
  obtain ⟨C, hh, hkm, locs, X0, N⟩ := X
  obtain ⟨hx, hby, hml, hZ, hown, hnm, hret, hlk, hR⟩ := id C
  obtain ⟨T', h', X', e', W', st⟩ := putFN X0 hx hZ hown w via hh F E (L.imp id fun q => ⟨q.1, q.2.1, hnm.trans q.2.2⟩) wi hty hn hf (g := mkF m pc Ls (v :: .ref a :: S)) rfl rfl (hb hby hd)
  exact own_step (k T' h' ⟨C, e', Nat.le_trans hkm (Nat.le_of_eq W'.size.symm), _, X', Fr.snoc X' N hge⟩ W') st
/-! from the case's words to facts -/
theorem own_fldL {st : State} {as' : Array Value} {t : Term} {C n d : String} {x : Addr} {z : Int64} (ht : t.eval as' st none [] st = some (.ref x)) (h : (Cond.eq (.field t C n d) (.long z)).value as' st none st [] = some true) : Fld st st.heap x C n d (.long z) := by
  obtain ⟨a, b, e1, e2, k1, k2⟩ := cmp_v (Or.inl h)
  cases (long_at z).symm.trans e2
  obtain ⟨w, rfl⟩ := k2
  have q := gotT (eq_L e1 e2) h
  subst q
  exact Fld.start ((fld_at ht).symm.trans e1)
theorem own_fldI {st : State} {as' : Array Value} {t : Term} {C n d : String} {x : Addr} {z : Int32} (ht : t.eval as' st none [] st = some (.ref x)) (h : (Cond.eq (.field t C n d) (.int z)).value as' st none st [] = some true) : Fld st st.heap x C n d (.int z) := by
  obtain ⟨a, b, e1, e2, k1, k2⟩ := cmp_v (Or.inl h)
  cases (Term.int_eval z).symm.trans e2
  obtain ⟨w, rfl⟩ := k2
  have q : w = z := by simpa [Cond.value, e1, e2] using h
  subst q
  exact Fld.start ((fld_at ht).symm.trans e1)
/-! calls by contract -/
theorem own_callC {index : Nat} {y : MethodName} {bytes' : ByteArray} {maxL' : Nat} {rm : Room} {a : Addr} {argsL : List Value} {Q' : Option Value → Heap → Prop} {ps : List FieldType} {W : Nat}
    (X : OwnSt p l e R s m args below meth c Z own bytes maxL ret nm n0 km Q RR T h cells slots) (hd : decode bytes pc = .ok (.invokespecial index, 3)) (hy : y.name = "<init>" ∧ y.cls ≠ "java/lang/invoke/MethodHandle" ∧ y.cls ≠ "java/lang/invoke/VarHandle")
    (w1 : (Cond.methodLink own index y).before a0 Z = true) (w2 : (Cond.instanceMethod y).before a0 Z = true) (w3 : (Cond.code y bytes' maxL' none).before a0 Z = true) (w4 : (Cond.initialized y.cls).before a0 Z = true)
    (M : OwnMet l Z y bytes' maxL' none rm (.ref a :: argsL).toArray h n0 Q') (hpd : parseMethodDescriptor y.desc = some ⟨ps, none⟩) (hlen : argsL.length = ps.length) {st : List Value} (hst : st = argsL.reverse ++ .ref a :: S) (hp : pc + 3 = pc') (hsz : Ls.size = maxL)
    (hW : 0 + (S.map fun v => v.category).sum ≤ W) (hf : rm.frames + 1 ≤ R.frames) (hlo : W + (maxL' + 11) + rm.locals ≤ R.locals) (hc : cells + rm.cells ≤ R.cells) (hl : slots + rm.slots ≤ R.slots)
    (k : ∀ T' h' v, OwnSt p l e R s m args below meth c Z own bytes maxL ret nm n0 km Q RR T' h' (cells + rm.cells) (slots + rm.slots) → Q' v h' → OwnGo p e below (T'.setTop (mkF m pc' Ls (v.toList ++ S))) RR) : OwnGo p e below (T.setTop (mkF m pc Ls st)) RR := by
  subst hp hst
  obtain ⟨C, hh, hkm, locs, X0, N⟩ := X
  obtain ⟨hx, hby, hml, hZ, hown, hnm, hret, hlk, hR⟩ := id C
  obtain ⟨v, _, ⟨T', L', c', s'⟩, -, X', ⟨Lc, hQ, e1, e2, e3⟩, st⟩ := X0.specialBack hx hy.1 hown (mvT hZ w1) (mvT hZ w2) (mvT hZ w3) hy.2 (backOf (W := W) (Q := fun v h' L => (Q' v h' ∧ h.size ≤ h'.size) ∧ Fr n0 L) (M []) hZ w3 w4 hf hlo) (g := mkF m pc Ls (argsL.reverse ++ .ref a :: S)) rfl (hsz.trans hml.symm) (Steps.refl _) (a := a) (argsL := argsL) (rest := S) (lenOf hpd hlen) rfl hW (hb hby hd) (fun _ _ => ⟨rfl, hh, hc, hl⟩)
  dsimp only [Pt.U, Pt.locs, Pt.cells, Pt.slots] at X' e1 e2 e3 st hQ
  subst e1 e2 e3
  exact own_step (k T' _ v ⟨C, rfl, Nat.le_trans hkm hQ.1.2, _, X', Fr.app N hQ.2⟩ hQ.1.1) fun t q => st.trans q
theorem own_callV {index : Nat} {y : MethodName} {K : String} {bytes' : ByteArray} {maxL' : Nat} {ret' : Option FieldType} {rm : Room} {a : Addr} {argsL : List Value} {Q' : Option Value → Heap → Prop} {ps : List FieldType} {W : Nat}
    (X : OwnSt p l e R s m args below meth c Z own bytes maxL ret nm n0 km Q RR T h cells slots) (hd : decode bytes pc = .ok (.invokevirtual index, 3)) (hy : y.cls ≠ "java/lang/invoke/MethodHandle" ∧ y.cls ≠ "java/lang/invoke/VarHandle")
    (w1 : (Cond.methodLink own index y).before a0 Z = true) (w2 : (Cond.declares y).before a0 Z = true) (w3 : (Cond.selects K y y).before a0 Z = true) (w4 : (Cond.instanceMethod y).before a0 Z = true) (w5 : (Cond.code y bytes' maxL' ret').before a0 Z = true) (w6 : (Cond.initialized y.cls).before a0 Z = true) (E : Exa Z h a K)
    (M : OwnMet l Z y bytes' maxL' ret' rm (.ref a :: argsL).toArray h n0 Q') {rt : Option FieldType} (hpd : parseMethodDescriptor y.desc = some ⟨ps, rt⟩) (hlen : argsL.length = ps.length) {st : List Value} (hst : st = argsL.reverse ++ .ref a :: S) (hp : pc + 3 = pc') (hsz : Ls.size = maxL)
    (hW : 0 + (S.map fun v => v.category).sum ≤ W) (hf : rm.frames + 1 ≤ R.frames) (hlo : W + (maxL' + 11) + rm.locals ≤ R.locals) (hc : cells + rm.cells ≤ R.cells) (hl : slots + rm.slots ≤ R.slots)
    (k : ∀ T' h' v, OwnSt p l e R s m args below meth c Z own bytes maxL ret nm n0 km Q RR T' h' (cells + rm.cells) (slots + rm.slots) → Q' v h' → OwnGo p e below (T'.setTop (mkF m pc' Ls (v.toList ++ S))) RR) : OwnGo p e below (T.setTop (mkF m pc Ls st)) RR := by
  subst hp hst
  obtain ⟨C, hh, hkm, locs, X0, N⟩ := X
  obtain ⟨hx, hby, hml, hZ, hown, hnm, hret, hlk, hR⟩ := id C
  obtain ⟨cq, kq, qa, qb, qc⟩ := isOf hZ hh E
  obtain ⟨v, _, ⟨T', L', c', s'⟩, -, X', ⟨Lc, hQ, e1, e2, e3⟩, st⟩ := X0.virtualBack hx (y := y) (z := y) hown (mvT hZ w1) (mvT hZ w2) (notFace_of_selects (args := #[]) (mvT hZ w3)) (mvT hZ w3) (mvT hZ w4) hy (backOf (W := W) (Q := fun v h' L => (Q' v h' ∧ h.size ≤ h'.size) ∧ Fr n0 L) (M []) hZ w5 w6 hf hlo) qa qc (g := mkF m pc Ls (argsL.reverse ++ .ref a :: S)) rfl (hsz.trans hml.symm) (Steps.refl _) (argsL := argsL) (rest := S) (lenOf hpd hlen) rfl hW (hb hby hd) (fun _ _ => ⟨rfl, hh, hc, hl⟩)
  dsimp only [Pt.U, Pt.locs, Pt.cells, Pt.slots] at X' e1 e2 e3 st hQ
  subst e1 e2 e3
  exact own_step (k T' _ v ⟨C, rfl, Nat.le_trans hkm hQ.1.2, _, X', Fr.app N hQ.2⟩ hQ.1.1) fun t q => st.trans q
theorem own_callP {index kk : Nat} {y : MethodName} {K : String} {bytes' : ByteArray} {maxL' : Nat} {ret' : Option FieldType} {rm : Room} {a : Addr} {argsL : List Value} {Q' : Option Value → Heap → Prop} {ps : List FieldType} {W : Nat}
    (X : OwnSt p l e R s m args below meth c Z own bytes maxL ret nm n0 km Q RR T h cells slots) (hd : decode bytes pc = .ok (.invokevirtual index, 3)) (hy : y.cls ≠ "java/lang/invoke/MethodHandle" ∧ y.cls ≠ "java/lang/invoke/VarHandle")
    (w1 : (Cond.methodLink own index y).before a0 Z = true) (w2 : (Cond.privateMethod y).before a0 Z = true) (w3 : (Cond.instantiable y.cls kk).before a0 Z = true) (w4 : (Cond.instanceMethod y).before a0 Z = true) (w5 : (Cond.code y bytes' maxL' ret').before a0 Z = true) (w6 : (Cond.initialized y.cls).before a0 Z = true) (E : Exa Z h a K)
    (M : OwnMet l Z y bytes' maxL' ret' rm (.ref a :: argsL).toArray h n0 Q') {rt : Option FieldType} (hpd : parseMethodDescriptor y.desc = some ⟨ps, rt⟩) (hlen : argsL.length = ps.length) {st : List Value} (hst : st = argsL.reverse ++ .ref a :: S) (hp : pc + 3 = pc') (hsz : Ls.size = maxL)
    (hW : 0 + (S.map fun v => v.category).sum ≤ W) (hf : rm.frames + 1 ≤ R.frames) (hlo : W + (maxL' + 11) + rm.locals ≤ R.locals) (hc : cells + rm.cells ≤ R.cells) (hl : slots + rm.slots ≤ R.slots)
    (k : ∀ T' h' v, OwnSt p l e R s m args below meth c Z own bytes maxL ret nm n0 km Q RR T' h' (cells + rm.cells) (slots + rm.slots) → Q' v h' → OwnGo p e below (T'.setTop (mkF m pc' Ls (v.toList ++ S))) RR) : OwnGo p e below (T.setTop (mkF m pc Ls st)) RR := by
  subst hp hst
  obtain ⟨C, hh, hkm, locs, X0, N⟩ := X
  obtain ⟨hx, hby, hml, hZ, hown, hnm, hret, hlk, hR⟩ := id C
  obtain ⟨cl, q, q'⟩ := E.cell
  have hpriv : s.PrivateAt y := Cond.privateMethod_at (mvP hZ w2 (args := #[]))
  have wi : (Cond.instantiable y.cls kk).before args s = true := mvT hZ w3
  obtain ⟨c2, k2, i1, i2, i3, i4, -⟩ := Cond.instantiable_spec wi
  have i5 : k2.isInterface = false := by
    cases hq : k2.isInterface
    · rfl
    · rw [hq] at i4; cases i4
  have hsel : (Cond.selects y.cls y y).before args s = true := selects_self_of_private i1 i2 i5 hpriv (mvT hZ w4) hy
  obtain ⟨v, _, ⟨T', L', c', s'⟩, -, X', ⟨Lc, hQ, e1, e2, e3⟩, st⟩ := X0.privateBack hx (y := y) hown (mvT hZ w1) (mvT hZ w4) hsel hpriv (mvT hZ w5) hy (backOf (W := W) (Q := fun v h' L => (Q' v h' ∧ h.size ≤ h'.size) ∧ Fr n0 L) (M []) hZ w5 w6 hf hlo) (g := mkF m pc Ls (argsL.reverse ++ .ref a :: S)) rfl (hsz.trans hml.symm) (Steps.refl _) (a := a) (by rw [hh]; exact q) q' (argsL := argsL) (rest := S) (lenOf hpd hlen) rfl hW (hb hby hd) (fun _ _ => ⟨rfl, hh, hc, hl⟩)
  dsimp only [Pt.U, Pt.locs, Pt.cells, Pt.slots] at X' e1 e2 e3 st hQ
  subst e1 e2 e3
  exact own_step (k T' _ v ⟨C, rfl, Nat.le_trans hkm hQ.1.2, _, X', Fr.app N hQ.2⟩ hQ.1.1) fun t q => st.trans q
theorem own_callS {index : Nat} {y : MethodName} {bytes' : ByteArray} {maxL' : Nat} {ret' : Option FieldType} {rm : Room} {argsL : List Value} {Q' : Option Value → Heap → Prop} {ps : List FieldType} {W : Nat}
    (X : OwnSt p l e R s m args below meth c Z own bytes maxL ret nm n0 km Q RR T h cells slots) (hd : decode bytes pc = .ok (.invokestatic index, 3)) (hy : y.cls ≠ "java/lang/invoke/MethodHandle" ∧ y.cls ≠ "java/lang/invoke/VarHandle")
    (w1 : (Cond.methodLink own index y).before a0 Z = true) (w2 : (Cond.static y).before a0 Z = true) (w5 : (Cond.code y bytes' maxL' ret').before a0 Z = true) (w6 : (Cond.initialized y.cls).before a0 Z = true)
    (M : OwnMet l Z y bytes' maxL' ret' rm argsL.toArray h n0 Q') {rt : Option FieldType} (hpd : parseMethodDescriptor y.desc = some ⟨ps, rt⟩) (hlen : argsL.length = ps.length) {st : List Value} (hst : st = argsL.reverse ++ S) (hp : pc + 3 = pc') (hsz : Ls.size = maxL)
    (hW : 0 + (S.map fun v => v.category).sum ≤ W) (hf : rm.frames + 1 ≤ R.frames) (hlo : W + (maxL' + 11) + rm.locals ≤ R.locals) (hc : cells + rm.cells ≤ R.cells) (hl : slots + rm.slots ≤ R.slots)
    (k : ∀ T' h' v, OwnSt p l e R s m args below meth c Z own bytes maxL ret nm n0 km Q RR T' h' (cells + rm.cells) (slots + rm.slots) → Q' v h' → OwnGo p e below (T'.setTop (mkF m pc' Ls (v.toList ++ S))) RR) : OwnGo p e below (T.setTop (mkF m pc Ls st)) RR := by
  subst hp hst
  obtain ⟨C, hh, hkm, locs, X0, N⟩ := X
  obtain ⟨hx, hby, hml, hZ, hown, hnm, hret, hlk, hR⟩ := id C
  obtain ⟨v, _, ⟨T', L', c', s'⟩, -, X', ⟨Lc, hQ, e1, e2, e3⟩, st⟩ := Jvm.LawKit.callS X0 hx (y := y) hown (mvT hZ w1) (mvT hZ w2) (mvT hZ w6) (mvT hZ w5) hy (backOf (W := W) (Q := fun v h' L => (Q' v h' ∧ h.size ≤ h'.size) ∧ Fr n0 L) (M []) hZ w5 w6 hf hlo) (g := mkF m pc Ls (argsL.reverse ++ S)) rfl (hsz.trans hml.symm) (argsL := argsL) (rest := S) (lenOf hpd hlen) rfl hW (hb hby hd) (fun _ _ => ⟨rfl, hh, hc, hl⟩)
  dsimp only [Pt.U, Pt.locs, Pt.cells, Pt.slots] at X' e1 e2 e3 st hQ
  subst e1 e2 e3
  exact own_step (k T' _ v ⟨C, rfl, Nat.le_trans hkm hQ.1.2, _, X', Fr.app N hQ.2⟩ hQ.1.1) st
end OwnKit
/-! ## own kit, arrays: the whole list of what lies in them -/
section OwnArr
variable {p : Program} {l : Launch} {e : Env} {R : Room} {s : State} {m : MethodId} {args : Array Value} {below : List Frame} {meth : Method} {c : Code} {Z : State} {own : String} {bytes : ByteArray} {maxL : Nat} {ret : Option FieldType} {nm : String} {n0 km : Nat} {Q : Option Value → Heap → Prop} {RR : State → Outcome → Prop} {T : State} {h h' : Heap} {cells slots : Nat} {a0 : Array Value} {pc pc' : Nat} {Ls : Array Slot} {S : List Value} {a b : Addr} {ty : FieldType} {vs : List Value} {sl : Nat} {v : Value} {ws : List Addr}
def OwnAr (Z : State) (h : Heap) (a : Addr) (ty : FieldType) (vs : List Value) : Prop := ∃ c : Cell, Arr Z h a c ty ∧ c.slots = vs.toArray ∧ vs.length < 2 ^ 31
theorem OwnAr.lt (F : OwnAr Z h a ty vs) : a < h.size := F.elim fun _ q => q.1.lt
theorem OwnAr.ext (F : OwnAr Z h a ty vs) (E : Ext h h') : OwnAr Z h' a ty vs := by obtain ⟨c, A, r⟩ := F; exact ⟨c, A.ext E, r⟩
theorem OwnAr.other (F : OwnAr Z h b ty vs) (W : Wr h h' a sl v) (q : b ≠ a) : OwnAr Z h' b ty vs := by obtain ⟨c, A, r⟩ := F; exact ⟨c, A.other W q, r⟩
theorem OwnAr.keep (F : OwnAr Z h a ty vs) (K : Keep h h' ws) (q : a ∉ ws) : OwnAr Z h' a ty vs := by obtain ⟨c, A, r⟩ := F; exact ⟨c, ⟨K.2.1 a c A.1 q, A.2⟩, r⟩
theorem OwnAr.same (F : OwnAr Z h a ty vs) (W : Wr h h' a sl v) : OwnAr Z h' a ty (vs.set sl v) := by
  obtain ⟨c, A, r1, r2⟩ := F
  exact ⟨_, A.same W, by simp [Cell.setSlot, r1], by simpa using r2⟩
theorem OwnAr.in (F : OwnAr Z h a ty vs) {j : Int32} (h1 : ¬ j < 0) (h2 : j.toNatClampNeg < vs.length) {c : Cell} (r1 : c.slots = vs.toArray) : ¬ (j < 0 ∨ c.slots.size ≤ j.toNatClampNeg) := by
  rintro (q | q)
  · exact h1 q
  · rw [r1, List.size_toArray] at q; omega
theorem own_lt_of_get {i : Nat} {x : Value} (q : vs[i]? = some x) : i < vs.length := (List.getElem?_eq_some_iff.mp q).1
theorem own_getI {xs : List Int32} {i : Nat} (q : i < xs.length) : (xs.map Value.int)[i]? = some (.int (xs.getD i 0)) := by
  rw [List.getElem?_map, List.getElem?_eq_getElem q, List.getD_eq_getElem?_getD, List.getElem?_eq_getElem q]; rfl
theorem own_getJ {xs : List Int64} {i : Nat} (q : i < xs.length) : (xs.map Value.long)[i]? = some (.long (xs.getD i 0)) := by
  rw [List.getElem?_map, List.getElem?_eq_getElem q, List.getD_eq_getElem?_getD, List.getElem?_eq_getElem q]; rfl
theorem own_newarr {aty : ArrayType} {n : Int32} {cap : Nat} (X : OwnSt p l e R s m args below meth c Z own bytes maxL ret nm n0 km Q RR T h cells slots) (hd : decode bytes pc = .ok (.newarray aty, 2)) (w : (Cond.arrayClass (newarray.typeOf aty)).before a0 Z = true) (hp : pc + 2 = pc') (hn : ¬ n < 0) (hcap : n.toNatClampNeg ≤ cap) (hbig : cap * 8 ≤ 536870912) (hc : cells + 1 ≤ R.cells) (hl : slots + cap ≤ R.slots)
    (k : ∀ T' h' b, b = h.size → OwnSt p l e R s m args below meth c Z own bytes maxL ret nm n0 km Q RR T' h' (cells + 1) (slots + cap) → Ext h h' → OwnAr Z h' b (newarray.typeOf aty) (List.replicate n.toNatClampNeg (defaultValue (newarray.typeOf aty))) → OwnGo p e below (T'.setTop (mkF m pc' Ls (.ref b :: S))) RR) : OwnGo p e below (T.setTop (mkF m pc Ls (.int n :: S))) RR := by
  subst hp
  obtain ⟨C, hh, hkm, locs, X0, N⟩ := X
  obtain ⟨hx, hby, hml, hZ, hown, hnm, hret, hlk, hR⟩ := id C
  obtain ⟨T', h', cA, X', e', E', A', st⟩ := newP X0 hx hZ w hh (g := mkF m pc Ls (.int n :: S)) rfl (hb hby hd) rfl hn hcap hbig hc hl
  exact own_step (k T' h' _ rfl ⟨C, e', Nat.le_trans hkm E'.1, locs, X', N⟩ E' ⟨_, A', by simp [newA], by simp only [List.length_replicate]; omega⟩) st
theorem own_arraylength (X : OwnSt p l e R s m args below meth c Z own bytes maxL ret nm n0 km Q RR T h cells slots) (hd : decode bytes pc = .ok (.arraylength, 1)) (A : OwnAr Z h a ty vs) {n : Int32} (hn : vs.length.toInt32 = n) (hp : pc + 1 = pc') (k : OwnGo p e below (T.setTop (mkF m pc' Ls (.int n :: S))) RR) : OwnGo p e below (T.setTop (mkF m pc Ls (.ref a :: S))) RR := by
  subst hp hn
  obtain ⟨C, hh, hkm, locs, X0, N⟩ := id X
  obtain ⟨cl, A0, r1, r2⟩ := A
  refine own_step k fun t q => ?_
  refine X0.arraylength X.hx (by rw [hh]; exact A0.1) (State.isArrayOf_alike X.hZ.alike A0.2.1) (g := mkF m pc Ls (.ref a :: S)) rfl rfl (hb X.by' hd) _ ?_
  rw [r1, List.size_toArray]; exact q
theorem own_iaload {j : Int32} (X : OwnSt p l e R s m args below meth c Z own bytes maxL ret nm n0 km Q RR T h cells slots) (hd : decode bytes pc = .ok (.iaload, 1)) (A : OwnAr Z h a .int vs) (hj : ¬ j < 0) (hv : vs[j.toNatClampNeg]? = some v) (hp : pc + 1 = pc') (k : OwnGo p e below (T.setTop (mkF m pc' Ls (v :: S))) RR) : OwnGo p e below (T.setTop (mkF m pc Ls (.int j :: .ref a :: S))) RR := by
  subst hp
  obtain ⟨C, hh, hkm, locs, X0, N⟩ := id X
  obtain ⟨cl, A0, r1, r2⟩ := id A
  exact own_step k fun t q => X0.iaload X.hx (by rw [hh]; exact A0.1) (State.isArrayOf_alike X.hZ.alike A0.2.1) A0.2.2 (A.in hj (own_lt_of_get hv) r1) (by rw [r1, List.getElem?_toArray]; exact hv) (g := mkF m pc Ls (.int j :: .ref a :: S)) rfl rfl (hb X.by' hd) _ q
theorem own_laload {j : Int32} (X : OwnSt p l e R s m args below meth c Z own bytes maxL ret nm n0 km Q RR T h cells slots) (hd : decode bytes pc = .ok (.laload, 1)) (A : OwnAr Z h a .long vs) (hj : ¬ j < 0) (hv : vs[j.toNatClampNeg]? = some v) (hp : pc + 1 = pc') (k : OwnGo p e below (T.setTop (mkF m pc' Ls (v :: S))) RR) : OwnGo p e below (T.setTop (mkF m pc Ls (.int j :: .ref a :: S))) RR := by
  subst hp
  obtain ⟨C, hh, hkm, locs, X0, N⟩ := id X
  obtain ⟨cl, A0, r1, r2⟩ := id A
  exact own_step k fun t q => X0.laload X.hx (by rw [hh]; exact A0.1) (State.isArrayOf_alike X.hZ.alike A0.2.1) A0.2.2 (A.in hj (own_lt_of_get hv) r1) (by rw [r1, List.getElem?_toArray]; exact hv) (g := mkF m pc Ls (.int j :: .ref a :: S)) rfl rfl (hb X.by' hd) _ q
theorem own_caload {j : Int32} (X : OwnSt p l e R s m args below meth c Z own bytes maxL ret nm n0 km Q RR T h cells slots) (hd : decode bytes pc = .ok (.caload, 1)) (A : OwnAr Z h a .char vs) (hj : ¬ j < 0) (hv : vs[j.toNatClampNeg]? = some v) (hp : pc + 1 = pc') (k : OwnGo p e below (T.setTop (mkF m pc' Ls (v :: S))) RR) : OwnGo p e below (T.setTop (mkF m pc Ls (.int j :: .ref a :: S))) RR := by
  subst hp
  obtain ⟨C, hh, hkm, locs, X0, N⟩ := id X
  obtain ⟨cl, A0, r1, r2⟩ := id A
  exact own_step k fun t q => X0.caload X.hx (by rw [hh]; exact A0.1) (State.isArrayOf_alike X.hZ.alike A0.2.1) A0.2.2 (A.in hj (own_lt_of_get hv) r1) (by rw [r1, List.getElem?_toArray]; exact hv) (g := mkF m pc Ls (.int j :: .ref a :: S)) rfl rfl (hb X.by' hd) _ q
theorem own_baload {j : Int32} (X : OwnSt p l e R s m args below meth c Z own bytes maxL ret nm n0 km Q RR T h cells slots) (hd : decode bytes pc = .ok (.baload, 1)) (A : OwnAr Z h a .byte vs) (hj : ¬ j < 0) (hv : vs[j.toNatClampNeg]? = some v) (hp : pc + 1 = pc') (k : OwnGo p e below (T.setTop (mkF m pc' Ls (v :: S))) RR) : OwnGo p e below (T.setTop (mkF m pc Ls (.int j :: .ref a :: S))) RR := by
  subst hp
  obtain ⟨C, hh, hkm, locs, X0, N⟩ := id X
  obtain ⟨cl, A0, r1, r2⟩ := id A
  exact own_step k fun t q => X0.baloadBytes X.hx (by rw [hh]; exact A0.1) (State.isArrayOf_alike X.hZ.alike A0.2.1) A0.2.2 (A.in hj (own_lt_of_get hv) r1) (by rw [r1, List.getElem?_toArray]; exact hv) (g := mkF m pc Ls (.int j :: .ref a :: S)) rfl rfl (hb X.by' hd) _ q
theorem own_aaload {j : Int32} (X : OwnSt p l e R s m args below meth c Z own bytes maxL ret nm n0 km Q RR T h cells slots) (hd : decode bytes pc = .ok (.aaload, 1)) (A : OwnAr Z h a ty vs) (hty : ty.isReference = true) (hj : ¬ j < 0) (hv : vs[j.toNatClampNeg]? = some v) (hp : pc + 1 = pc') (k : OwnGo p e below (T.setTop (mkF m pc' Ls (v :: S))) RR) : OwnGo p e below (T.setTop (mkF m pc Ls (.int j :: .ref a :: S))) RR := by
  subst hp
  obtain ⟨C, hh, hkm, locs, X0, N⟩ := id X
  obtain ⟨cl, A0, r1, r2⟩ := id A
  exact own_step k fun t q => X0.aaload X.hx (by rw [hh]; exact A0.1) (State.isArrayOf_alike X.hZ.alike A0.2.1) hty A0.2.2 (A.in hj (own_lt_of_get hv) r1) (by rw [r1, List.getElem?_toArray]; exact hv) (g := mkF m pc Ls (.int j :: .ref a :: S)) rfl rfl (hb X.by' hd) _ q
theorem own_iastore {j : Int32} {x : Int32} (X : OwnSt p l e R s m args below meth c Z own bytes maxL ret nm n0 km Q RR T h cells slots) (hd : decode bytes pc = .ok (.iastore, 1)) (A : OwnAr Z h a .int vs) (hj : ¬ j < 0) (hj2 : j.toNatClampNeg < vs.length) (hge : n0 ≤ a) (hp : pc + 1 = pc') (k : ∀ T' h', OwnSt p l e R s m args below meth c Z own bytes maxL ret nm n0 km Q RR T' h' cells slots → Wr h h' a j.toNatClampNeg (.int x) → OwnAr Z h' a .int (vs.set j.toNatClampNeg (.int x)) → OwnGo p e below (T'.setTop (mkF m pc' Ls S)) RR) : OwnGo p e below (T.setTop (mkF m pc Ls (.int x :: .int j :: .ref a :: S))) RR := by
  subst hp
  obtain ⟨C, hh, hkm, locs, X0, N⟩ := id X
  obtain ⟨cl, A0, r1, r2⟩ := id A
  obtain ⟨T', h', X', e', W', st⟩ := stI X0 X.hx X.hZ hh A0 (A.in hj hj2 r1) (g := mkF m pc Ls (.int x :: .int j :: .ref a :: S)) rfl rfl (hb X.by' hd)
  exact own_step (k T' h' ⟨C, e', Nat.le_trans hkm (Nat.le_of_eq W'.size.symm), _, X', Fr.snoc X' N hge⟩ W' (A.same W')) st
theorem own_lastore {j : Int32} {x : Int64} (X : OwnSt p l e R s m args below meth c Z own bytes maxL ret nm n0 km Q RR T h cells slots) (hd : decode bytes pc = .ok (.lastore, 1)) (A : OwnAr Z h a .long vs) (hj : ¬ j < 0) (hj2 : j.toNatClampNeg < vs.length) (hge : n0 ≤ a) (hp : pc + 1 = pc') (k : ∀ T' h', OwnSt p l e R s m args below meth c Z own bytes maxL ret nm n0 km Q RR T' h' cells slots → Wr h h' a j.toNatClampNeg (.long x) → OwnAr Z h' a .long (vs.set j.toNatClampNeg (.long x)) → OwnGo p e below (T'.setTop (mkF m pc' Ls S)) RR) : OwnGo p e below (T.setTop (mkF m pc Ls (.long x :: .int j :: .ref a :: S))) RR := by
  subst hp
  obtain ⟨C, hh, hkm, locs, X0, N⟩ := id X
  obtain ⟨cl, A0, r1, r2⟩ := id A
  obtain ⟨T', h', X', e', W', st⟩ := stJ X0 X.hx X.hZ hh A0 (A.in hj hj2 r1) (g := mkF m pc Ls (.long x :: .int j :: .ref a :: S)) rfl rfl (hb X.by' hd)
  exact own_step (k T' h' ⟨C, e', Nat.le_trans hkm (Nat.le_of_eq W'.size.symm), _, X', Fr.snoc X' N hge⟩ W' (A.same W')) st
theorem own_castore {j : Int32} {x : Int32} (X : OwnSt p l e R s m args below meth c Z own bytes maxL ret nm n0 km Q RR T h cells slots) (hd : decode bytes pc = .ok (.castore, 1)) (A : OwnAr Z h a .char vs) (hj : ¬ j < 0) (hj2 : j.toNatClampNeg < vs.length) (hge : n0 ≤ a) (hp : pc + 1 = pc') (k : ∀ T' h', OwnSt p l e R s m args below meth c Z own bytes maxL ret nm n0 km Q RR T' h' cells slots → Wr h h' a j.toNatClampNeg (.int (x.toUInt32.toUInt16.toUInt32.toInt32)) → OwnAr Z h' a .char (vs.set j.toNatClampNeg (.int (x.toUInt32.toUInt16.toUInt32.toInt32))) → OwnGo p e below (T'.setTop (mkF m pc' Ls S)) RR) : OwnGo p e below (T.setTop (mkF m pc Ls (.int x :: .int j :: .ref a :: S))) RR := by
  subst hp
  obtain ⟨C, hh, hkm, locs, X0, N⟩ := id X
  obtain ⟨cl, A0, r1, r2⟩ := id A
  obtain ⟨T', h', X', e', W', st⟩ := stC X0 X.hx X.hZ hh A0 (A.in hj hj2 r1) (g := mkF m pc Ls (.int x :: .int j :: .ref a :: S)) rfl rfl (hb X.by' hd)
  exact own_step (k T' h' ⟨C, e', Nat.le_trans hkm (Nat.le_of_eq W'.size.symm), _, X', Fr.snoc X' N hge⟩ W' (A.same W')) st
end OwnArr
theorem own_nn (x : Int32) : (x.toUInt32.toUInt16.toUInt32.toInt32).toUInt32.toUInt16.toUInt32.toInt32 = x.toUInt32.toUInt16.toUInt32.toInt32 := by
  have h : ∀ u : UInt16, u.toUInt32.toInt32.toUInt32.toUInt16 = u := fun u => by simp
  rw [h]
theorem own_and (x m : Int32) (hm : 0 ≤ m.toInt) : 0 ≤ (x &&& m).toInt ∧ (x &&& m).toInt ≤ m.toInt := by
  have e1 : m.toInt = (m.toBitVec.toNat : Int) := by
    show m.toBitVec.toInt = _
    have q : 0 ≤ m.toBitVec.toInt := hm
    have := m.toBitVec.isLt
    rw [BitVec.toInt_eq_toNat_cond] at q ⊢
    split at q <;> split <;> omega
  have h1 : (x &&& m).toBitVec.toNat ≤ m.toBitVec.toNat := by
    rw [Int32.toBitVec_and, BitVec.toNat_and]; exact Nat.and_le_right
  have h3 : m.toInt < 2147483648 := m.toInt_lt
  have e2 : (x &&& m).toInt = ((x &&& m).toBitVec.toNat : Int) := by
    show (x &&& m).toBitVec.toInt = _
    rw [BitVec.toInt_eq_toNat_cond]
    split <;> omega
  omega
theorem own_or32 (c : BitVec 32) (k : BitVec 32) (hk : k.getLsbD 5 = true) : c ||| 32#32 = k ↔ c = k ∨ c = k ^^^ 32#32 := by
  have t : (32#32 : BitVec 32) = BitVec.twoPow 32 5 := by decide
  constructor
  · intro h
    by_cases b : c.getLsbD 5
    · left; rw [← h]; apply BitVec.eq_of_getLsbD_eq; intro i hi
      rw [BitVec.getLsbD_or, t, BitVec.getLsbD_twoPow]
      by_cases q : 5 = i
      · subst q; simp [b]
      · simp [q]
    · right; rw [← h]; apply BitVec.eq_of_getLsbD_eq; intro i hi
      rw [BitVec.getLsbD_xor, BitVec.getLsbD_or, t, BitVec.getLsbD_twoPow]
      by_cases q : 5 = i
      · subst q; rw [Bool.not_eq_true] at b; rw [b]; rfl
      · simp [q]
  · rintro (rfl | rfl) <;> (apply BitVec.eq_of_getLsbD_eq; intro i hi; rw [BitVec.getLsbD_or]; try rw [BitVec.getLsbD_xor]) <;> rw [t, BitVec.getLsbD_twoPow]
    · by_cases q : 5 = i
      · subst q; simp [hk]
      · simp [q]
    · by_cases q : 5 = i
      · subst q; simp [hk]
      · simp [q]
theorem own_or (c k k' : Int32) (hk : k.toBitVec.getLsbD 5 = true) (hk' : k.toBitVec ^^^ 32#32 = k'.toBitVec) : c ||| (32 : Int32) = k ↔ c = k ∨ c = k' := by
  rw [← Int32.toBitVec_inj, Int32.toBitVec_or, ← Int32.toBitVec_inj (a := c) (b := k), ← Int32.toBitVec_inj (a := c) (b := k'), ← hk']
  exact own_or32 _ _ hk
theorem own_st (c : Int32) : (if c = (84 : Int32) then (1 : Int32) else (if c = (116 : Int32) then (1 : Int32) else (0 : Int32))) = (if c ||| (32 : Int32) = (116 : Int32) then (1 : Int32) else (0 : Int32)) := by
  simp only [own_or c 116 84 (by decide) (by decide)]
  by_cases h : c = 84 <;> by_cases h2 : c = 116 <;> simp [h, h2]
theorem own_p3 (x : Int32) : ((x &&& (65535 : Int32)) % (3 : Int32)) = 0 ∨ ((x &&& (65535 : Int32)) % (3 : Int32)) = 1 ∨ ((x &&& (65535 : Int32)) % (3 : Int32)) = 2 := by
  have h1 := own_and x 65535 (by decide)
  have h2 := (Jvm.RoadKit.c_irem (x &&& (65535 : Int32)) 3 3 rfl).1 h1.1
  have h3 : ((x &&& (65535 : Int32)) % (3 : Int32)).toInt = 0 ∨ ((x &&& (65535 : Int32)) % (3 : Int32)).toInt = 1 ∨ ((x &&& (65535 : Int32)) % (3 : Int32)).toInt = 2 := by omega
  simp only [← Int32.toInt_inj]; exact h3
theorem own_p1 (x : Int32) : (x &&& (1 : Int32)) = 0 ∨ (x &&& (1 : Int32)) = 1 ∨ (x &&& (1 : Int32)) = 2 := by
  have h1 := own_and x 1 (by decide)
  have e : (1 : Int32).toInt = 1 := rfl
  have h3 : (x &&& (1 : Int32)).toInt = 0 ∨ (x &&& (1 : Int32)).toInt = 1 ∨ (x &&& (1 : Int32)).toInt = 2 := by omega
  simp only [← Int32.toInt_inj]; exact h3
theorem own_p5 (x : Int32) : ((x &&& (7 : Int32)) % (5 : Int32)) = 0 ∨ ((x &&& (7 : Int32)) % (5 : Int32)) = 1 ∨ ((x &&& (7 : Int32)) % (5 : Int32)) = 2 ∨ ((x &&& (7 : Int32)) % (5 : Int32)) = 3 ∨ ((x &&& (7 : Int32)) % (5 : Int32)) = 4 := by
  have h1 := own_and x 7 (by decide)
  have h2 := (Jvm.RoadKit.c_irem (x &&& (7 : Int32)) 5 5 rfl).1 h1.1
  have h3 : ((x &&& (7 : Int32)) % (5 : Int32)).toInt = 0 ∨ ((x &&& (7 : Int32)) % (5 : Int32)).toInt = 1 ∨ ((x &&& (7 : Int32)) % (5 : Int32)).toInt = 2 ∨ ((x &&& (7 : Int32)) % (5 : Int32)).toInt = 3 ∨ ((x &&& (7 : Int32)) % (5 : Int32)).toInt = 4 := by omega
  simp only [← Int32.toInt_inj]; exact h3
theorem own_d3_0 : decode jdk_29_method_65_code 0 = .ok (.iload_n 0, 1) := by decide +kernel
theorem own_d3_1 : decode jdk_29_method_65_code 1 = .ok (.iload_n 1, 1) := by decide +kernel
theorem own_d3_2 : decode jdk_29_method_65_code 2 = .ok (.if_icmp .lt 7, 3) := by decide +kernel
theorem own_d3_5 : decode jdk_29_method_65_code 5 = .ok (.iload_n 0, 1) := by decide +kernel
theorem own_d3_6 : decode jdk_29_method_65_code 6 = .ok (.goto 4, 3) := by decide +kernel
theorem own_d3_9 : decode jdk_29_method_65_code 9 = .ok (.iload_n 1, 1) := by decide +kernel
theorem own_d3_10 : decode jdk_29_method_65_code 10 = .ok (.ireturn, 1) := by decide +kernel
theorem own_ef3 (m : MethodId) (x0 : Int32) (x1 : Int32) : entryFrame m #[(.int x0), (.int x1)] 2 = mkF m 0 #[.val (.int x0), .val (.int x1)] [] := by first | (simp [entryFrame, mkF, argsToLocals, Value.category]; done) | rfl
theorem own_pn3 : plainFor (⟨"java/lang/Math", "max", "(II)I"⟩ : MethodName) = true := by first | exact plainFor_of_name (by first | (simp [plainName, overriddenIn]; done) | decide +kernel) | exact Jvm.Free.JP.mathPlain rfl (by decide +kernel)
set_option maxRecDepth 65536 in
set_option maxHeartbeats 40000000 in
theorem own_rm3 (l : Launch) (Z : State) (a0 : Array Value) (hw : ∀ d ∈ tables_1, d.before a0 Z = true) (p1 : Int32) (p2 : Int32) (h0 : Heap) (n0 : Nat) (Z0 : n0 ≤ h0.size)  :
    OwnMet l Z (⟨"java/lang/Math", "max", "(II)I"⟩ : MethodName) jdk_29_method_65_code 2 (some .int) ({ frames := 0, cells := 0, slots := 0, locals := 0 } : Room) #[(.int p1), (.int p2)] h0 n0 (fun v h => v = some (.int (if p1 < p2 then p2 else p1)) ∧ h0 = h) := by
  refine own_body own_pn3 ?_
  intro p e s m below meth c s₁ RR X0
  refine own_enter (own_ef3 m p1 p2) ?_
  refine own_iloadN X0 own_d3_0 (pc' := 1) rfl rfl ?_
  refine own_iloadN X0 own_d3_1 (pc' := 2) rfl rfl ?_
  have j10_1 : ∀ (f10_s0 : Int32), f10_s0 = (if p1 < p2 then p2 else p1) → OwnGo p e below (s₁.setTop (mkF m 10 #[.val (.int p1), .val (.int p2)] [(.int f10_s0)])) RR := by
    intro f10_s0 hf10_s0
    exact own_retI X0 own_d3_10 ⟨by rw [hf10_s0], rfl⟩ (by decide) (by decide)
  by_cases hc2 : p1 < p2
  · refine own_icY X0 own_d3_2 (tlt (hc2)).1 (pc' := 9) (by decide) (by decide) ?_
    refine own_iloadN X0 own_d3_9 (pc' := 10) rfl rfl ?_
    exact j10_1 _ (by rw [if_pos hc2])
  · refine own_icN X0 own_d3_2 (flt (hc2)).1 (pc' := 5) rfl ?_
    refine own_iloadN X0 own_d3_5 (pc' := 6) rfl rfl ?_
    refine own_goto X0 own_d3_6 (pc' := 10) (by decide) (by decide) ?_
    exact j10_1 _ (by rw [if_neg hc2])
theorem own_d7_0 : decode jdk_29_method_66_code 0 = .ok (.lload_n 0, 1) := by decide +kernel
theorem own_d7_1 : decode jdk_29_method_66_code 1 = .ok (.lload_n 2, 1) := by decide +kernel
theorem own_d7_2 : decode jdk_29_method_66_code 2 = .ok (.lcmp, 1) := by decide +kernel
theorem own_d7_3 : decode jdk_29_method_66_code 3 = .ok (.ifCond .lt 7, 3) := by decide +kernel
theorem own_d7_6 : decode jdk_29_method_66_code 6 = .ok (.lload_n 0, 1) := by decide +kernel
theorem own_d7_7 : decode jdk_29_method_66_code 7 = .ok (.goto 4, 3) := by decide +kernel
theorem own_d7_10 : decode jdk_29_method_66_code 10 = .ok (.lload_n 2, 1) := by decide +kernel
theorem own_d7_11 : decode jdk_29_method_66_code 11 = .ok (.lreturn, 1) := by decide +kernel
theorem own_ef7 (m : MethodId) (x0 : Int64) (x1 : Int64) : entryFrame m #[(.long x0), (.long x1)] 4 = mkF m 0 #[.val (.long x0), .second, .val (.long x1), .second] [] := by first | (simp [entryFrame, mkF, argsToLocals, Value.category]; done) | rfl
theorem own_pn7 : plainFor (⟨"java/lang/Math", "max", "(JJ)J"⟩ : MethodName) = true := by first | exact plainFor_of_name (by first | (simp [plainName, overriddenIn]; done) | decide +kernel) | exact Jvm.Free.JP.mathPlain rfl (by decide +kernel)
set_option maxRecDepth 65536 in
set_option maxHeartbeats 40000000 in
theorem own_rm7 (l : Launch) (Z : State) (a0 : Array Value) (hw : ∀ d ∈ tables_1, d.before a0 Z = true) (p1 : Int64) (p2 : Int64) (h0 : Heap) (n0 : Nat) (Z0 : n0 ≤ h0.size)  :
    OwnMet l Z (⟨"java/lang/Math", "max", "(JJ)J"⟩ : MethodName) jdk_29_method_66_code 4 (some .long) ({ frames := 0, cells := 0, slots := 0, locals := 0 } : Room) #[(.long p1), (.long p2)] h0 n0 (fun v h => v = some (.long (if p1 < p2 then p2 else p1)) ∧ h0 = h) := by
  refine own_body own_pn7 ?_
  intro p e s m below meth c s₁ RR X0
  refine own_enter (own_ef7 m p1 p2) ?_
  refine own_lloadN X0 own_d7_0 (pc' := 1) rfl rfl ?_
  refine own_lloadN X0 own_d7_1 (pc' := 2) rfl rfl ?_
  have j11_1 : ∀ (f11_s0 : Int64), f11_s0 = (if p1 < p2 then p2 else p1) → OwnGo p e below (s₁.setTop (mkF m 11 #[.val (.long p1), .second, .val (.long p2), .second] [(.long f11_s0)])) RR := by
    intro f11_s0 hf11_s0
    exact own_retJ X0 own_d7_11 ⟨by rw [hf11_s0], rfl⟩ (by decide) (by decide)
  by_cases hc3 : p1 < p2
  · refine own_ljY X0 own_d7_2 own_d7_3 (own_tltL (hc3)).1 (pc' := 10) (by decide) (by decide) ?_
    refine own_lloadN X0 own_d7_10 (pc' := 11) rfl rfl ?_
    exact j11_1 _ (by rw [if_pos hc3])
  · refine own_ljN X0 own_d7_2 own_d7_3 (own_fltL (hc3)).1 (pc' := 6) rfl ?_
    refine own_lloadN X0 own_d7_6 (pc' := 7) rfl rfl ?_
    refine own_goto X0 own_d7_7 (pc' := 11) (by decide) (by decide) ?_
    exact j11_1 _ (by rw [if_neg hc3])
theorem own_d8_0 : decode jdk_29_method_70_code 0 = .ok (.lload_n 0, 1) := by decide +kernel
theorem own_d8_1 : decode jdk_29_method_70_code 1 = .ok (.lload_n 2, 1) := by decide +kernel
theorem own_d8_2 : decode jdk_29_method_70_code 2 = .ok (.lcmp, 1) := by decide +kernel
theorem own_d8_3 : decode jdk_29_method_70_code 3 = .ok (.ifCond .gt 7, 3) := by decide +kernel
theorem own_d8_6 : decode jdk_29_method_70_code 6 = .ok (.lload_n 0, 1) := by decide +kernel
theorem own_d8_7 : decode jdk_29_method_70_code 7 = .ok (.goto 4, 3) := by decide +kernel
theorem own_d8_10 : decode jdk_29_method_70_code 10 = .ok (.lload_n 2, 1) := by decide +kernel
theorem own_d8_11 : decode jdk_29_method_70_code 11 = .ok (.lreturn, 1) := by decide +kernel
theorem own_ef8 (m : MethodId) (x0 : Int64) (x1 : Int64) : entryFrame m #[(.long x0), (.long x1)] 4 = mkF m 0 #[.val (.long x0), .second, .val (.long x1), .second] [] := by first | (simp [entryFrame, mkF, argsToLocals, Value.category]; done) | rfl
theorem own_pn8 : plainFor (⟨"java/lang/Math", "min", "(JJ)J"⟩ : MethodName) = true := by first | exact plainFor_of_name (by first | (simp [plainName, overriddenIn]; done) | decide +kernel) | exact Jvm.Free.JP.mathPlain rfl (by decide +kernel)
set_option maxRecDepth 65536 in
set_option maxHeartbeats 40000000 in
theorem own_rm8 (l : Launch) (Z : State) (a0 : Array Value) (hw : ∀ d ∈ tables_1, d.before a0 Z = true) (p1 : Int64) (p2 : Int64) (h0 : Heap) (n0 : Nat) (Z0 : n0 ≤ h0.size)  :
    OwnMet l Z (⟨"java/lang/Math", "min", "(JJ)J"⟩ : MethodName) jdk_29_method_70_code 4 (some .long) ({ frames := 0, cells := 0, slots := 0, locals := 0 } : Room) #[(.long p1), (.long p2)] h0 n0 (fun v h => v = some (.long (if p2 < p1 then p2 else p1)) ∧ h0 = h) := by
  refine own_body own_pn8 ?_
  intro p e s m below meth c s₁ RR X0
  refine own_enter (own_ef8 m p1 p2) ?_
  refine own_lloadN X0 own_d8_0 (pc' := 1) rfl rfl ?_
  refine own_lloadN X0 own_d8_1 (pc' := 2) rfl rfl ?_
  have j11_1 : ∀ (f11_s0 : Int64), f11_s0 = (if p2 < p1 then p2 else p1) → OwnGo p e below (s₁.setTop (mkF m 11 #[.val (.long p1), .second, .val (.long p2), .second] [(.long f11_s0)])) RR := by
    intro f11_s0 hf11_s0
    exact own_retJ X0 own_d8_11 ⟨by rw [hf11_s0], rfl⟩ (by decide) (by decide)
  by_cases hc3 : p2 < p1
  · refine own_ljY X0 own_d8_2 own_d8_3 (own_tltL (hc3)).2.2.1 (pc' := 10) (by decide) (by decide) ?_
    refine own_lloadN X0 own_d8_10 (pc' := 11) rfl rfl ?_
    exact j11_1 _ (by rw [if_pos hc3])
  · refine own_ljN X0 own_d8_2 own_d8_3 (own_fltL (hc3)).2.2.1 (pc' := 6) rfl ?_
    refine own_lloadN X0 own_d8_6 (pc' := 7) rfl rfl ?_
    refine own_goto X0 own_d8_7 (pc' := 11) (by decide) (by decide) ?_
    exact j11_1 _ (by rw [if_neg hc3])
theorem own_pd0 : parseMethodDescriptor "(II)I" = some ⟨[.int, .int], some .int⟩ := by decide +kernel
theorem own_d1_0 : decode prog_60_method_1_code 0 = .ok (.aload_n 0, 1) := by decide +kernel
theorem own_d1_1 : decode prog_60_method_1_code 1 = .ok (.invokespecial 1, 3) := by decide +kernel
theorem own_d1_4 : decode prog_60_method_1_code 4 = .ok (.aload_n 0, 1) := by decide +kernel
theorem own_d1_5 : decode prog_60_method_1_code 5 = .ok (.iconst 1, 1) := by decide +kernel
theorem own_d1_6 : decode prog_60_method_1_code 6 = .ok (.iload_n 2, 1) := by decide +kernel
theorem own_d1_7 : decode prog_60_method_1_code 7 = .ok (.invokestatic 7, 3) := by decide +kernel
theorem own_d1_10 : decode prog_60_method_1_code 10 = .ok (.putfield 13, 3) := by decide +kernel
theorem own_d1_13 : decode prog_60_method_1_code 13 = .ok (.aload_n 0, 1) := by decide +kernel
theorem own_d1_14 : decode prog_60_method_1_code 14 = .ok (.iconst 2, 1) := by decide +kernel
theorem own_d1_15 : decode prog_60_method_1_code 15 = .ok (.iload_n 1, 1) := by decide +kernel
theorem own_d1_16 : decode prog_60_method_1_code 16 = .ok (.imul, 1) := by decide +kernel
theorem own_d1_17 : decode prog_60_method_1_code 17 = .ok (.newarray .int, 2) := by decide +kernel
theorem own_d1_19 : decode prog_60_method_1_code 19 = .ok (.putfield 19, 3) := by decide +kernel
theorem own_d1_22 : decode prog_60_method_1_code 22 = .ok (.return_, 1) := by decide +kernel
theorem own_ef1 (m : MethodId) (x0 : Addr) (x1 : Int32) (x2 : Int32) : entryFrame m #[(.ref x0), (.int x1), (.int x2)] 3 = mkF m 0 #[.val (.ref x0), .val (.int x1), .val (.int x2)] [] := by first | (simp [entryFrame, mkF, argsToLocals, Value.category]; done) | rfl
theorem own_pn1 : plainFor (⟨"com/example/evenkeel/evenkeel/shuffle/PartitionChunks", "<init>", "(II)V"⟩ : MethodName) = true := by first | exact plainFor_of_name (by first | (simp [plainName, overriddenIn]; done) | decide +kernel) | exact Jvm.Free.JP.mathPlain rfl (by decide +kernel)
set_option maxRecDepth 65536 in
set_option maxHeartbeats 40000000 in
theorem own_rm1 (l : Launch) (Z : State) (a0 : Array Value) (hw : ∀ d ∈ tables_1, d.before a0 Z = true) (a1 : Addr) (p3 : Int32) (u1 : Int32) (u2 : Int32) (h0 : Heap) (n0 : Nat) (Z0 : n0 ≤ h0.size) (E_a1 : Exa Z h0 a1 "com/example/evenkeel/evenkeel/shuffle/PartitionChunks") (F_chunkSize_a1 : Fld Z h0 a1 "com/example/evenkeel/evenkeel/shuffle/PartitionChunks" "chunkSize" "I" (.int u1)) (F_chunks_a1 : Fld Z h0 a1 "com/example/evenkeel/evenkeel/shuffle/PartitionChunks" "chunks" "[I" .null) (F_end_a1 : Fld Z h0 a1 "com/example/evenkeel/evenkeel/shuffle/PartitionChunks" "end" "I" (.int u2)) (g_a1 : n0 ≤ a1) :
    OwnMet l Z (⟨"com/example/evenkeel/evenkeel/shuffle/PartitionChunks", "<init>", "(II)V"⟩ : MethodName) prog_60_method_1_code 3 none ({ frames := 1, cells := 1, slots := 6, locals := 14 } : Room) #[(.ref a1), (.int (3 : Int32)), (.int p3)] h0 n0 (fun v h => ∃ (cs : Int32), ∃ (b : Addr), ∃ (ys : List Int32), v = none ∧ (ys.length = 6) ∧ Keep h0 h [a1] ∧ Fld Z h a1 "com/example/evenkeel/evenkeel/shuffle/PartitionChunks" "chunkSize" "I" (.int cs) ∧ Fld Z h a1 "com/example/evenkeel/evenkeel/shuffle/PartitionChunks" "chunks" "[I" (.ref b) ∧ Fld Z h a1 "com/example/evenkeel/evenkeel/shuffle/PartitionChunks" "end" "I" (.int u2) ∧ h0.size ≤ b ∧ OwnAr Z h b .int (ys.map Value.int)) := by
  refine own_body own_pn1 ?_
  intro p e s m below meth c s₁ RR X0
  refine own_enter (own_ef1 m a1 (3 : Int32) p3) ?_
  refine own_aloadN X0 own_d1_0 (pc' := 1) rfl rfl rfl ?_
  refine own_init X0 own_d1_1 (hw _ (List.mem_of_getElem? (i := 7) rfl)) (hw _ (List.mem_of_getElem? (i := 8) rfl)) (hw _ (List.mem_of_getElem? (i := 9) rfl)) (pc' := 4) rfl rfl (by decide) (W := 0) (Nat.le_of_eq rfl) (by decide) ?_
  intro T1 X1
  refine own_aloadN X1 own_d1_4 (pc' := 5) rfl rfl rfl ?_
  refine own_iconst X1 own_d1_5 (pc' := 6) rfl (v := (1 : Int32)) (by decide) ?_
  refine own_iloadN X1 own_d1_6 (pc' := 7) rfl rfl ?_
  refine own_callS (argsL := [(.int (1 : Int32)), (.int p3)]) X1 own_d1_7 (y := (⟨"java/lang/Math", "max", "(II)I"⟩ : MethodName)) (by decide) (hw _ (List.mem_of_getElem? (i := 10) rfl)) (hw _ (List.mem_of_getElem? (i := 11) rfl)) (hw _ (List.mem_of_getElem? (i := 13) rfl)) (hw _ (List.mem_of_getElem? (i := 12) rfl)) (own_rm3 l Z a0 hw (1 : Int32) p3 h0 n0 Z0 ) own_pd0 rfl (S := [(.ref a1)]) rfl (pc' := 10) rfl rfl (W := 1) (Nat.le_of_eq rfl) (by decide) (by decide) (by decide) (by decide) ?_
  intro T2 h2 v2_ X2 q2_
  obtain ⟨rfl, rfl⟩ := q2_
  obtain ⟨r2, hr2⟩ : ∃ z, z = (if (1 : Int32) < p3 then p3 else (1 : Int32)) := ⟨_, rfl⟩
  show OwnGo p e below (T2.setTop (mkF m 10 #[.val (.ref a1), .val (.int (3 : Int32)), .val (.int p3)] [(.int (if (1 : Int32) < p3 then p3 else (1 : Int32))), (.ref a1)])) RR
  rw [← hr2]
  refine own_putF X2 own_d1_10 (hw _ (List.mem_of_getElem? (i := 14) rfl)) Via.refl F_chunkSize_a1 E_a1 (Or.inr ⟨(hw _ (List.mem_of_getElem? (i := 15) rfl)), rfl, rfl⟩) (hw _ (List.mem_of_getElem? (i := 2) rfl)) (ty := .int) (v' := (.int r2)) (by decide) rfl rfl g_a1 (pc' := 13) rfl ?_
  intro T3 h3 X3 W3
  have E_a1_3 := (E_a1).wr W3
  have F_chunkSize_a1_3 := (F_chunkSize_a1).same W3
  have F_chunks_a1_3 := (F_chunks_a1).other W3 (Or.inr (slot_ne (Or.inr (hw _ (List.mem_of_getElem? (i := 18) rfl))) (Or.inr (hw _ (List.mem_of_getElem? (i := 15) rfl))) (by decide) (t := (.array .int)) (t' := .int) (by decide) (by decide)))
  have F_end_a1_3 := (F_end_a1).other W3 (Or.inr (slot_ne (Or.inl (hw _ (List.mem_of_getElem? (i := 29) rfl))) (Or.inr (hw _ (List.mem_of_getElem? (i := 15) rfl))) (by decide) (t := .int) (t' := .int) (by decide) (by decide)))
  have Z3 : n0 ≤ h3.size := Nat.le_trans Z0 (Nat.le_of_eq W3.size.symm)
  have K3 := ((Keep.refl h0 [a1])).wr W3 (Or.inl (List.mem_of_getElem? (i := 0) rfl))
  refine own_aloadN X3 own_d1_13 (pc' := 14) rfl rfl rfl ?_
  refine own_iconst X3 own_d1_14 (pc' := 15) rfl (v := (2 : Int32)) (by decide) ?_
  refine own_iloadN X3 own_d1_15 (pc' := 16) rfl rfl ?_
  refine own_imul X3 own_d1_16 (pc' := 17) rfl ?_
  refine own_newarr X3 own_d1_17 (hw _ (List.mem_of_getElem? (i := 16) rfl)) (pc' := 19) rfl (by decide) (cap := 6) (by decide) (by decide) (by decide) (by decide) ?_
  intro T4 h4 b4 hb4 X4 E4 B4
  have g_b4 : n0 ≤ b4 := Nat.le_trans Z3 (Nat.le_of_eq hb4.symm)
  have ne_a1_b4 : a1 ≠ b4 := Nat.ne_of_lt (Nat.lt_of_lt_of_le (E_a1_3).lt (Nat.le_of_eq hb4.symm))
  have E_a1_4 := (E_a1_3).ext E4
  have F_chunkSize_a1_4 := (F_chunkSize_a1_3).ext E4
  have F_chunks_a1_4 := (F_chunks_a1_3).ext E4
  have F_end_a1_4 := (F_end_a1_3).ext E4
  have Z4 : n0 ≤ h4.size := Nat.le_trans Z3 E4.1
  have sz_b4 : h0.size ≤ b4 := Nat.le_trans (K3).1 (Nat.le_of_eq hb4.symm)
  have K4 := (K3).ext E4
  have V_b4 : OwnAr Z h4 b4 .int ([(0 : Int32), 0, 0, 0, 0, 0].map Value.int) := B4
  refine own_putF X4 own_d1_19 (hw _ (List.mem_of_getElem? (i := 17) rfl)) Via.refl F_chunks_a1_4 E_a1_4 (Or.inr ⟨(hw _ (List.mem_of_getElem? (i := 18) rfl)), rfl, rfl⟩) (hw _ (List.mem_of_getElem? (i := 2) rfl)) (ty := (.array .int)) (v' := (.ref b4)) (by decide) rfl rfl g_a1 (pc' := 22) rfl ?_
  intro T5 h5 X5 W5
  have E_a1_5 := (E_a1_4).wr W5
  have F_chunkSize_a1_5 := (F_chunkSize_a1_4).other W5 (Or.inr (slot_ne (Or.inr (hw _ (List.mem_of_getElem? (i := 15) rfl))) (Or.inr (hw _ (List.mem_of_getElem? (i := 18) rfl))) (by decide) (t := .int) (t' := (.array .int)) (by decide) (by decide)))
  have F_chunks_a1_5 := (F_chunks_a1_4).same W5
  have F_end_a1_5 := (F_end_a1_4).other W5 (Or.inr (slot_ne (Or.inl (hw _ (List.mem_of_getElem? (i := 29) rfl))) (Or.inr (hw _ (List.mem_of_getElem? (i := 18) rfl))) (by decide) (t := .int) (t' := (.array .int)) (by decide) (by decide)))
  have V_b4_5 := (V_b4).other W5 ne_a1_b4.symm
  have Z5 : n0 ≤ h5.size := Nat.le_trans Z4 (Nat.le_of_eq W5.size.symm)
  have K5 := (K4).wr W5 (Or.inl (List.mem_of_getElem? (i := 0) rfl))
  exact own_retV X5 own_d1_22 ⟨r2, b4, ([(0 : Int32), 0, 0, 0, 0, 0]), rfl, rfl, K5, F_chunkSize_a1_5, F_chunks_a1_5, F_end_a1_5, sz_b4, V_b4_5⟩ (by decide) (by decide)
theorem own_i2 {p : Int32} (hp : p = 0 ∨ p = 1 ∨ p = 2) : ¬ ((2 : Int32) * p < 0) ∧ ((2 : Int32) * p).toNatClampNeg < 6 ∧ ¬ ((2 : Int32) * p + (1 : Int32) < 0) ∧ ((2 : Int32) * p + (1 : Int32)).toNatClampNeg < 6 := by
  rcases hp with rfl | rfl | rfl <;> decide
def ownPlace (xs : List Int32) (e0 p s : Int32) : Int32 := if (xs.getD ((2 : Int32) * p + (1 : Int32)).toNatClampNeg 0 - xs.getD ((2 : Int32) * p).toNatClampNeg 0) < s then (if xs.getD ((2 : Int32) * p + (1 : Int32)).toNatClampNeg 0 = e0 then xs.getD ((2 : Int32) * p).toNatClampNeg 0 else e0) else xs.getD ((2 : Int32) * p).toNatClampNeg 0
theorem own_pd1 : parseMethodDescriptor "(JJ)J" = some ⟨[.long, .long], some .long⟩ := by decide +kernel
theorem own_d5_0 : decode prog_60_method_10_code 0 = .ok (.aload_n 0, 1) := by decide +kernel
theorem own_d5_1 : decode prog_60_method_10_code 1 = .ok (.getfield 19, 3) := by decide +kernel
theorem own_d5_4 : decode prog_60_method_10_code 4 = .ok (.iconst 2, 1) := by decide +kernel
theorem own_d5_5 : decode prog_60_method_10_code 5 = .ok (.iload_n 1, 1) := by decide +kernel
theorem own_d5_6 : decode prog_60_method_10_code 6 = .ok (.imul, 1) := by decide +kernel
theorem own_d5_7 : decode prog_60_method_10_code 7 = .ok (.iaload, 1) := by decide +kernel
theorem own_d5_8 : decode prog_60_method_10_code 8 = .ok (.istore 4, 2) := by decide +kernel
theorem own_d5_10 : decode prog_60_method_10_code 10 = .ok (.aload_n 0, 1) := by decide +kernel
theorem own_d5_11 : decode prog_60_method_10_code 11 = .ok (.getfield 19, 3) := by decide +kernel
theorem own_d5_14 : decode prog_60_method_10_code 14 = .ok (.iconst 2, 1) := by decide +kernel
theorem own_d5_15 : decode prog_60_method_10_code 15 = .ok (.iload_n 1, 1) := by decide +kernel
theorem own_d5_16 : decode prog_60_method_10_code 16 = .ok (.imul, 1) := by decide +kernel
theorem own_d5_17 : decode prog_60_method_10_code 17 = .ok (.iconst 1, 1) := by decide +kernel
theorem own_d5_18 : decode prog_60_method_10_code 18 = .ok (.iadd, 1) := by decide +kernel
theorem own_d5_19 : decode prog_60_method_10_code 19 = .ok (.iaload, 1) := by decide +kernel
theorem own_d5_20 : decode prog_60_method_10_code 20 = .ok (.istore 5, 2) := by decide +kernel
theorem own_d5_22 : decode prog_60_method_10_code 22 = .ok (.iload 5, 2) := by decide +kernel
theorem own_d5_24 : decode prog_60_method_10_code 24 = .ok (.aload_n 0, 1) := by decide +kernel
theorem own_d5_25 : decode prog_60_method_10_code 25 = .ok (.getfield 23, 3) := by decide +kernel
theorem own_d5_28 : decode prog_60_method_10_code 28 = .ok (.if_icmp .ne 7, 3) := by decide +kernel
theorem own_d5_31 : decode prog_60_method_10_code 31 = .ok (.iconst 1, 1) := by decide +kernel
theorem own_d5_32 : decode prog_60_method_10_code 32 = .ok (.goto 4, 3) := by decide +kernel
theorem own_d5_35 : decode prog_60_method_10_code 35 = .ok (.iconst 0, 1) := by decide +kernel
theorem own_d5_36 : decode prog_60_method_10_code 36 = .ok (.istore 6, 2) := by decide +kernel
theorem own_d5_38 : decode prog_60_method_10_code 38 = .ok (.iload 6, 2) := by decide +kernel
theorem own_d5_40 : decode prog_60_method_10_code 40 = .ok (.ifCond .eq 8, 3) := by decide +kernel
theorem own_d5_43 : decode prog_60_method_10_code 43 = .ok (.iload 4, 2) := by decide +kernel
theorem own_d5_45 : decode prog_60_method_10_code 45 = .ok (.goto 7, 3) := by decide +kernel
theorem own_d5_48 : decode prog_60_method_10_code 48 = .ok (.aload_n 0, 1) := by decide +kernel
theorem own_d5_49 : decode prog_60_method_10_code 49 = .ok (.getfield 23, 3) := by decide +kernel
theorem own_d5_52 : decode prog_60_method_10_code 52 = .ok (.istore 7, 2) := by decide +kernel
theorem own_d5_54 : decode prog_60_method_10_code 54 = .ok (.iload_n 2, 1) := by decide +kernel
theorem own_d5_55 : decode prog_60_method_10_code 55 = .ok (.i2l, 1) := by decide +kernel
theorem own_d5_56 : decode prog_60_method_10_code 56 = .ok (.ldc2_w 36, 3) := by decide +kernel
theorem own_d5_59 : decode prog_60_method_10_code 59 = .ok (.lmul, 1) := by decide +kernel
theorem own_d5_60 : decode prog_60_method_10_code 60 = .ok (.aload_n 0, 1) := by decide +kernel
theorem own_d5_61 : decode prog_60_method_10_code 61 = .ok (.getfield 13, 3) := by decide +kernel
theorem own_d5_64 : decode prog_60_method_10_code 64 = .ok (.i2l, 1) := by decide +kernel
theorem own_d5_65 : decode prog_60_method_10_code 65 = .ok (.lcmp, 1) := by decide +kernel
theorem own_d5_66 : decode prog_60_method_10_code 66 = .ok (.ifCond .le 45, 3) := by decide +kernel
theorem own_d5_69 : decode prog_60_method_10_code 69 = .ok (.aload_n 0, 1) := by decide +kernel
theorem own_d5_70 : decode prog_60_method_10_code 70 = .ok (.iload 7, 2) := by decide +kernel
theorem own_d5_72 : decode prog_60_method_10_code 72 = .ok (.iload_n 2, 1) := by decide +kernel
theorem own_d5_73 : decode prog_60_method_10_code 73 = .ok (.iadd, 1) := by decide +kernel
theorem own_d5_74 : decode prog_60_method_10_code 74 = .ok (.putfield 23, 3) := by decide +kernel
theorem own_d5_77 : decode prog_60_method_10_code 77 = .ok (.iload 6, 2) := by decide +kernel
theorem own_d5_79 : decode prog_60_method_10_code 79 = .ok (.ifCond .eq 29, 3) := by decide +kernel
theorem own_d5_82 : decode prog_60_method_10_code 82 = .ok (.aload_n 0, 1) := by decide +kernel
theorem own_d5_83 : decode prog_60_method_10_code 83 = .ok (.getfield 19, 3) := by decide +kernel
theorem own_d5_86 : decode prog_60_method_10_code 86 = .ok (.iconst 2, 1) := by decide +kernel
theorem own_d5_87 : decode prog_60_method_10_code 87 = .ok (.iload_n 1, 1) := by decide +kernel
theorem own_d5_88 : decode prog_60_method_10_code 88 = .ok (.imul, 1) := by decide +kernel
theorem own_d5_89 : decode prog_60_method_10_code 89 = .ok (.aload_n 0, 1) := by decide +kernel
theorem own_d5_90 : decode prog_60_method_10_code 90 = .ok (.getfield 23, 3) := by decide +kernel
theorem own_d5_93 : decode prog_60_method_10_code 93 = .ok (.iastore, 1) := by decide +kernel
theorem own_d5_94 : decode prog_60_method_10_code 94 = .ok (.aload_n 0, 1) := by decide +kernel
theorem own_d5_95 : decode prog_60_method_10_code 95 = .ok (.getfield 19, 3) := by decide +kernel
theorem own_d5_98 : decode prog_60_method_10_code 98 = .ok (.iconst 2, 1) := by decide +kernel
theorem own_d5_99 : decode prog_60_method_10_code 99 = .ok (.iload_n 1, 1) := by decide +kernel
theorem own_d5_100 : decode prog_60_method_10_code 100 = .ok (.imul, 1) := by decide +kernel
theorem own_d5_101 : decode prog_60_method_10_code 101 = .ok (.iconst 1, 1) := by decide +kernel
theorem own_d5_102 : decode prog_60_method_10_code 102 = .ok (.iadd, 1) := by decide +kernel
theorem own_d5_103 : decode prog_60_method_10_code 103 = .ok (.aload_n 0, 1) := by decide +kernel
theorem own_d5_104 : decode prog_60_method_10_code 104 = .ok (.getfield 23, 3) := by decide +kernel
theorem own_d5_107 : decode prog_60_method_10_code 107 = .ok (.iastore, 1) := by decide +kernel
theorem own_d5_108 : decode prog_60_method_10_code 108 = .ok (.iload 7, 2) := by decide +kernel
theorem own_d5_110 : decode prog_60_method_10_code 110 = .ok (.ireturn, 1) := by decide +kernel
theorem own_d5_111 : decode prog_60_method_10_code 111 = .ok (.aload_n 0, 1) := by decide +kernel
theorem own_d5_112 : decode prog_60_method_10_code 112 = .ok (.getfield 13, 3) := by decide +kernel
theorem own_d5_115 : decode prog_60_method_10_code 115 = .ok (.i2l, 1) := by decide +kernel
theorem own_d5_116 : decode prog_60_method_10_code 116 = .ok (.ldc2_w 38, 3) := by decide +kernel
theorem own_d5_119 : decode prog_60_method_10_code 119 = .ok (.iload_n 2, 1) := by decide +kernel
theorem own_d5_120 : decode prog_60_method_10_code 120 = .ok (.i2l, 1) := by decide +kernel
theorem own_d5_121 : decode prog_60_method_10_code 121 = .ok (.lmul, 1) := by decide +kernel
theorem own_d5_122 : decode prog_60_method_10_code 122 = .ok (.invokestatic 40, 3) := by decide +kernel
theorem own_d5_125 : decode prog_60_method_10_code 125 = .ok (.lstore 8, 2) := by decide +kernel
theorem own_d5_127 : decode prog_60_method_10_code 127 = .ok (.aload_n 0, 1) := by decide +kernel
theorem own_d5_128 : decode prog_60_method_10_code 128 = .ok (.iload 7, 2) := by decide +kernel
theorem own_d5_130 : decode prog_60_method_10_code 130 = .ok (.iload_n 2, 1) := by decide +kernel
theorem own_d5_131 : decode prog_60_method_10_code 131 = .ok (.iadd, 1) := by decide +kernel
theorem own_d5_132 : decode prog_60_method_10_code 132 = .ok (.i2l, 1) := by decide +kernel
theorem own_d5_133 : decode prog_60_method_10_code 133 = .ok (.iload_n 3, 1) := by decide +kernel
theorem own_d5_134 : decode prog_60_method_10_code 134 = .ok (.i2l, 1) := by decide +kernel
theorem own_d5_135 : decode prog_60_method_10_code 135 = .ok (.iload 6, 2) := by decide +kernel
theorem own_d5_137 : decode prog_60_method_10_code 137 = .ok (.ifCond .eq 8, 3) := by decide +kernel
theorem own_d5_140 : decode prog_60_method_10_code 140 = .ok (.iload 5, 2) := by decide +kernel
theorem own_d5_142 : decode prog_60_method_10_code 142 = .ok (.goto 5, 3) := by decide +kernel
theorem own_d5_145 : decode prog_60_method_10_code 145 = .ok (.iload 7, 2) := by decide +kernel
theorem own_d5_147 : decode prog_60_method_10_code 147 = .ok (.i2l, 1) := by decide +kernel
theorem own_d5_148 : decode prog_60_method_10_code 148 = .ok (.lload 8, 2) := by decide +kernel
theorem own_d5_150 : decode prog_60_method_10_code 150 = .ok (.ladd, 1) := by decide +kernel
theorem own_d5_151 : decode prog_60_method_10_code 151 = .ok (.invokestatic 43, 3) := by decide +kernel
theorem own_d5_154 : decode prog_60_method_10_code 154 = .ok (.invokestatic 40, 3) := by decide +kernel
theorem own_d5_157 : decode prog_60_method_10_code 157 = .ok (.l2i, 1) := by decide +kernel
theorem own_d5_158 : decode prog_60_method_10_code 158 = .ok (.putfield 23, 3) := by decide +kernel
theorem own_d5_161 : decode prog_60_method_10_code 161 = .ok (.aload_n 0, 1) := by decide +kernel
theorem own_d5_162 : decode prog_60_method_10_code 162 = .ok (.getfield 19, 3) := by decide +kernel
theorem own_d5_165 : decode prog_60_method_10_code 165 = .ok (.iconst 2, 1) := by decide +kernel
theorem own_d5_166 : decode prog_60_method_10_code 166 = .ok (.iload_n 1, 1) := by decide +kernel
theorem own_d5_167 : decode prog_60_method_10_code 167 = .ok (.imul, 1) := by decide +kernel
theorem own_d5_168 : decode prog_60_method_10_code 168 = .ok (.iload 7, 2) := by decide +kernel
theorem own_d5_170 : decode prog_60_method_10_code 170 = .ok (.iload_n 2, 1) := by decide +kernel
theorem own_d5_171 : decode prog_60_method_10_code 171 = .ok (.iadd, 1) := by decide +kernel
theorem own_d5_172 : decode prog_60_method_10_code 172 = .ok (.iastore, 1) := by decide +kernel
theorem own_d5_173 : decode prog_60_method_10_code 173 = .ok (.aload_n 0, 1) := by decide +kernel
theorem own_d5_174 : decode prog_60_method_10_code 174 = .ok (.getfield 19, 3) := by decide +kernel
theorem own_d5_177 : decode prog_60_method_10_code 177 = .ok (.iconst 2, 1) := by decide +kernel
theorem own_d5_178 : decode prog_60_method_10_code 178 = .ok (.iload_n 1, 1) := by decide +kernel
theorem own_d5_179 : decode prog_60_method_10_code 179 = .ok (.imul, 1) := by decide +kernel
theorem own_d5_180 : decode prog_60_method_10_code 180 = .ok (.iconst 1, 1) := by decide +kernel
theorem own_d5_181 : decode prog_60_method_10_code 181 = .ok (.iadd, 1) := by decide +kernel
theorem own_d5_182 : decode prog_60_method_10_code 182 = .ok (.aload_n 0, 1) := by decide +kernel
theorem own_d5_183 : decode prog_60_method_10_code 183 = .ok (.getfield 23, 3) := by decide +kernel
theorem own_d5_186 : decode prog_60_method_10_code 186 = .ok (.iastore, 1) := by decide +kernel
theorem own_d5_187 : decode prog_60_method_10_code 187 = .ok (.iload 7, 2) := by decide +kernel
theorem own_d5_189 : decode prog_60_method_10_code 189 = .ok (.ireturn, 1) := by decide +kernel
theorem own_ef5 (m : MethodId) (x0 : Addr) (x1 : Int32) (x2 : Int32) (x3 : Int32) : entryFrame m #[(.ref x0), (.int x1), (.int x2), (.int x3)] 10 = mkF m 0 #[.val (.ref x0), .val (.int x1), .val (.int x2), .val (.int x3), .unset, .unset, .unset, .unset, .unset, .unset] [] := by first | (simp [entryFrame, mkF, argsToLocals, Value.category]; done) | rfl
theorem own_pn5 : plainFor (⟨"com/example/evenkeel/evenkeel/shuffle/PartitionChunks", "takeBeyondRoom", "(III)I"⟩ : MethodName) = true := by first | exact plainFor_of_name (by first | (simp [plainName, overriddenIn]; done) | decide +kernel) | exact Jvm.Free.JP.mathPlain rfl (by decide +kernel)
set_option maxRecDepth 65536 in
set_option maxHeartbeats 40000000 in
theorem own_rm5 (l : Launch) (Z : State) (a0 : Array Value) (hw : ∀ d ∈ tables_1, d.before a0 Z = true) (a1 : Addr) (b1 : Addr) (cs : Int32) (e0 : Int32) (xs : List Int32) (p2 : Int32) (p3 : Int32) (p4 : Int32) (h0 : Heap) (n0 : Nat) (Z0 : n0 ≤ h0.size) (E_a1 : Exa Z h0 a1 "com/example/evenkeel/evenkeel/shuffle/PartitionChunks") (F_chunkSize_a1 : Fld Z h0 a1 "com/example/evenkeel/evenkeel/shuffle/PartitionChunks" "chunkSize" "I" (.int cs)) (F_chunks_a1 : Fld Z h0 a1 "com/example/evenkeel/evenkeel/shuffle/PartitionChunks" "chunks" "[I" (.ref b1)) (F_end_a1 : Fld Z h0 a1 "com/example/evenkeel/evenkeel/shuffle/PartitionChunks" "end" "I" (.int e0)) (V_b1 : OwnAr Z h0 b1 .int (xs.map Value.int)) (g_a1 : n0 ≤ a1) (g_b1 : n0 ≤ b1) (ne_a1_b1 : a1 ≠ b1) (hlen : xs.length = 6) (hp : p2 = 0 ∨ p2 = 1 ∨ p2 = 2) :
    OwnMet l Z (⟨"com/example/evenkeel/evenkeel/shuffle/PartitionChunks", "takeBeyondRoom", "(III)I"⟩ : MethodName) prog_60_method_10_code 10 (some .int) ({ frames := 1, cells := 0, slots := 0, locals := 18 } : Room) #[(.ref a1), (.int p2), (.int p3), (.int p4)] h0 n0 (fun v h => ∃ (e1 : Int32), ∃ (ys : List Int32), v = some (.int (if xs.getD ((2 : Int32) * p2 + (1 : Int32)).toNatClampNeg 0 = e0 then xs.getD ((2 : Int32) * p2).toNatClampNeg 0 else e0)) ∧ (ys.length = 6) ∧ Keep h0 h [a1, b1] ∧ Fld Z h a1 "com/example/evenkeel/evenkeel/shuffle/PartitionChunks" "chunkSize" "I" (.int cs) ∧ Fld Z h a1 "com/example/evenkeel/evenkeel/shuffle/PartitionChunks" "chunks" "[I" (.ref b1) ∧ Fld Z h a1 "com/example/evenkeel/evenkeel/shuffle/PartitionChunks" "end" "I" (.int e1) ∧ OwnAr Z h b1 .int (ys.map Value.int)) := by
  refine own_body own_pn5 ?_
  intro p e s m below meth c s₁ RR X0
  refine own_enter (own_ef5 m a1 p2 p3 p4) ?_
  refine own_aloadN X0 own_d5_0 (pc' := 1) rfl rfl rfl ?_
  refine own_getF X0 own_d5_1 (hw _ (List.mem_of_getElem? (i := 17) rfl)) Via.refl F_chunks_a1 (pc' := 4) rfl ?_
  intro T1 X1
  refine own_iconst X1 own_d5_4 (pc' := 5) rfl (v := (2 : Int32)) (by decide) ?_
  refine own_iloadN X1 own_d5_5 (pc' := 6) rfl rfl ?_
  refine own_imul X1 own_d5_6 (pc' := 7) rfl ?_
  refine own_iaload X1 own_d5_7 V_b1 (own_i2 hp).1 (v := (.int (xs.getD (((2 : Int32) * p2)).toNatClampNeg 0))) (own_getI (by simp only [List.length_set, hlen]; exact (own_i2 hp).2.1)) (pc' := 8) rfl ?_
  refine own_istoreV X1 own_d5_8 (pc' := 10) rfl (l' := fun v8 => #[.val (.ref a1), .val (.int p2), .val (.int p3), .val (.int p4), .val (.int v8), .unset, .unset, .unset, .unset, .unset]) (fun _ => rfl) ?_
  intro v8 hv8
  refine own_aloadN X1 own_d5_10 (pc' := 11) rfl rfl rfl ?_
  refine own_getF X1 own_d5_11 (hw _ (List.mem_of_getElem? (i := 17) rfl)) Via.refl F_chunks_a1 (pc' := 14) rfl ?_
  intro T2 X2
  refine own_iconst X2 own_d5_14 (pc' := 15) rfl (v := (2 : Int32)) (by decide) ?_
  refine own_iloadN X2 own_d5_15 (pc' := 16) rfl rfl ?_
  refine own_imul X2 own_d5_16 (pc' := 17) rfl ?_
  refine own_iconst X2 own_d5_17 (pc' := 18) rfl (v := (1 : Int32)) (by decide) ?_
  refine own_iadd X2 own_d5_18 (pc' := 19) rfl ?_
  refine own_iaload X2 own_d5_19 V_b1 (own_i2 hp).2.2.1 (v := (.int (xs.getD ((((2 : Int32) * p2) + (1 : Int32))).toNatClampNeg 0))) (own_getI (by simp only [List.length_set, hlen]; exact (own_i2 hp).2.2.2)) (pc' := 20) rfl ?_
  refine own_istoreV X2 own_d5_20 (pc' := 22) rfl (l' := fun v20 => #[.val (.ref a1), .val (.int p2), .val (.int p3), .val (.int p4), .val (.int v8), .val (.int v20), .unset, .unset, .unset, .unset]) (fun _ => rfl) ?_
  intro v20 hv20
  refine own_iload X2 own_d5_22 (pc' := 24) rfl rfl ?_
  refine own_aloadN X2 own_d5_24 (pc' := 25) rfl rfl rfl ?_
  refine own_getF X2 own_d5_25 (hw _ (List.mem_of_getElem? (i := 28) rfl)) Via.refl F_end_a1 (pc' := 28) rfl ?_
  intro T3 X3
  have j36_4 : ∀ (f36_s0 : Int32), f36_s0 = (if v20 = e0 then (1 : Int32) else (0 : Int32)) → OwnGo p e below (T3.setTop (mkF m 36 #[.val (.ref a1), .val (.int p2), .val (.int p3), .val (.int p4), .val (.int v8), .val (.int v20), .unset, .unset, .unset, .unset] [(.int f36_s0)])) RR := by
    intro f36_s0 hf36_s0
    refine own_istore X3 own_d5_36 (pc' := 38) rfl (l' := #[.val (.ref a1), .val (.int p2), .val (.int p3), .val (.int p4), .val (.int v8), .val (.int v20), .val (.int f36_s0), .unset, .unset, .unset]) rfl ?_
    refine own_iload X3 own_d5_38 (pc' := 40) rfl rfl ?_
    have j52_5 : ∀ T5, OwnAt X3 T5 → ∀ (f52_s0 : Int32), f52_s0 = (if f36_s0 = (0 : Int32) then e0 else v8) → OwnGo p e below (T5.setTop (mkF m 52 #[.val (.ref a1), .val (.int p2), .val (.int p3), .val (.int p4), .val (.int v8), .val (.int v20), .val (.int f36_s0), .unset, .unset, .unset] [(.int f52_s0)])) RR := by
      intro T5 X5 f52_s0 hf52_s0
      refine own_istore X5 own_d5_52 (pc' := 54) rfl (l' := #[.val (.ref a1), .val (.int p2), .val (.int p3), .val (.int p4), .val (.int v8), .val (.int v20), .val (.int f36_s0), .val (.int f52_s0), .unset, .unset]) rfl ?_
      refine own_iloadN X5 own_d5_54 (pc' := 55) rfl rfl ?_
      refine own_i2l X5 own_d5_55 (pc' := 56) rfl ?_
      refine own_ldc2Long X5 own_d5_56 (pc' := 59) rfl (hw _ (List.mem_of_getElem? (i := 30) rfl)) ?_
      refine own_lmul X5 own_d5_59 (pc' := 60) rfl ?_
      refine own_aloadN X5 own_d5_60 (pc' := 61) rfl rfl rfl ?_
      refine own_getF X5 own_d5_61 (hw _ (List.mem_of_getElem? (i := 14) rfl)) Via.refl F_chunkSize_a1 (pc' := 64) rfl ?_
      intro T6 X6
      refine own_i2l X6 own_d5_64 (pc' := 65) rfl ?_
      by_cases hc66 : (cs.toInt64) < ((p3.toInt64) * (4 : Int64))
      · refine own_ljN X6 own_d5_65 own_d5_66 (own_tltL (hc66)).2.2.2 (pc' := 69) rfl ?_
        refine own_aloadN X6 own_d5_69 (pc' := 70) rfl rfl rfl ?_
        refine own_iload X6 own_d5_70 (pc' := 72) rfl rfl ?_
        refine own_iloadN X6 own_d5_72 (pc' := 73) rfl rfl ?_
        refine own_iadd X6 own_d5_73 (pc' := 74) rfl ?_
        refine own_putF X6 own_d5_74 (hw _ (List.mem_of_getElem? (i := 28) rfl)) Via.refl F_end_a1 E_a1 (Or.inl (hw _ (List.mem_of_getElem? (i := 29) rfl))) (hw _ (List.mem_of_getElem? (i := 2) rfl)) (ty := .int) (v' := (.int (f52_s0 + p3))) (by decide) rfl rfl g_a1 (pc' := 77) rfl ?_
        intro T7 h7 X7 W7
        have E_a1_7 := (E_a1).wr W7
        have F_chunkSize_a1_7 := (F_chunkSize_a1).other W7 (Or.inr (slot_ne (Or.inr (hw _ (List.mem_of_getElem? (i := 15) rfl))) (Or.inl (hw _ (List.mem_of_getElem? (i := 29) rfl))) (by decide) (t := .int) (t' := .int) (by decide) (by decide)))
        have F_chunks_a1_7 := (F_chunks_a1).other W7 (Or.inr (slot_ne (Or.inr (hw _ (List.mem_of_getElem? (i := 18) rfl))) (Or.inl (hw _ (List.mem_of_getElem? (i := 29) rfl))) (by decide) (t := (.array .int)) (t' := .int) (by decide) (by decide)))
        have F_end_a1_7 := (F_end_a1).same W7
        have V_b1_7 := (V_b1).other W7 ne_a1_b1.symm
        have Z7 : n0 ≤ h7.size := Nat.le_trans Z0 (Nat.le_of_eq W7.size.symm)
        have K7 := ((Keep.refl h0 [a1, b1])).wr W7 (Or.inl (List.mem_of_getElem? (i := 0) rfl))
        refine own_iload X7 own_d5_77 (pc' := 79) rfl rfl ?_
        by_cases hc79 : f36_s0 = (0 : Int32)
        · refine own_ifY X7 own_d5_79 (teq (hc79)).1 (pc' := 108) (by decide) (by decide) ?_
          refine own_iload X7 own_d5_108 (pc' := 110) rfl rfl ?_
          exact own_retI X7 own_d5_110 ⟨((f52_s0 + p3)), xs, (by rw [hf52_s0, hf36_s0, hv8, hv20]; split <;> simp_all), (by simp only [List.length_set, hlen]), K7, F_chunkSize_a1_7, F_chunks_a1_7, F_end_a1_7, V_b1_7⟩ (by decide) (by decide)
        · refine own_ifN X7 own_d5_79 (feq (hc79)).1 (pc' := 82) rfl ?_
          refine own_aloadN X7 own_d5_82 (pc' := 83) rfl rfl rfl ?_
          refine own_getF X7 own_d5_83 (hw _ (List.mem_of_getElem? (i := 17) rfl)) Via.refl F_chunks_a1_7 (pc' := 86) rfl ?_
          intro T8 X8
          refine own_iconst X8 own_d5_86 (pc' := 87) rfl (v := (2 : Int32)) (by decide) ?_
          refine own_iloadN X8 own_d5_87 (pc' := 88) rfl rfl ?_
          refine own_imul X8 own_d5_88 (pc' := 89) rfl ?_
          refine own_aloadN X8 own_d5_89 (pc' := 90) rfl rfl rfl ?_
          refine own_getF X8 own_d5_90 (hw _ (List.mem_of_getElem? (i := 28) rfl)) Via.refl F_end_a1_7 (pc' := 93) rfl ?_
          intro T9 X9
          refine own_iastore X9 own_d5_93 V_b1_7 (own_i2 hp).1 (by rw [List.length_map]; exact (by simp only [List.length_set, hlen]; exact (own_i2 hp).2.1)) g_b1 (pc' := 94) rfl ?_
          intro T10 h10 X10 W10 B10
          have E_a1_10 := (E_a1_7).wr W10
          have F_chunkSize_a1_10 := (F_chunkSize_a1_7).other W10 (Or.inl ne_a1_b1)
          have F_chunks_a1_10 := (F_chunks_a1_7).other W10 (Or.inl ne_a1_b1)
          have F_end_a1_10 := (F_end_a1_7).other W10 (Or.inl ne_a1_b1)
          have Z10 : n0 ≤ h10.size := Nat.le_trans Z7 (Nat.le_of_eq W10.size.symm)
          have V_b1_10 : OwnAr Z h10 b1 .int ((xs.set (((2 : Int32) * p2)).toNatClampNeg (f52_s0 + p3)).map Value.int) := (by rw [List.map_set]; exact B10)
          have K10 := (K7).wr W10 (Or.inl (List.mem_of_getElem? (i := 1) rfl))
          refine own_aloadN X10 own_d5_94 (pc' := 95) rfl rfl rfl ?_
          refine own_getF X10 own_d5_95 (hw _ (List.mem_of_getElem? (i := 17) rfl)) Via.refl F_chunks_a1_10 (pc' := 98) rfl ?_
          intro T11 X11
          refine own_iconst X11 own_d5_98 (pc' := 99) rfl (v := (2 : Int32)) (by decide) ?_
          refine own_iloadN X11 own_d5_99 (pc' := 100) rfl rfl ?_
          refine own_imul X11 own_d5_100 (pc' := 101) rfl ?_
          refine own_iconst X11 own_d5_101 (pc' := 102) rfl (v := (1 : Int32)) (by decide) ?_
          refine own_iadd X11 own_d5_102 (pc' := 103) rfl ?_
          refine own_aloadN X11 own_d5_103 (pc' := 104) rfl rfl rfl ?_
          refine own_getF X11 own_d5_104 (hw _ (List.mem_of_getElem? (i := 28) rfl)) Via.refl F_end_a1_10 (pc' := 107) rfl ?_
          intro T12 X12
          refine own_iastore X12 own_d5_107 V_b1_10 (own_i2 hp).2.2.1 (by rw [List.length_map]; exact (by simp only [List.length_set, hlen]; exact (own_i2 hp).2.2.2)) g_b1 (pc' := 108) rfl ?_
          intro T13 h13 X13 W13 B13
          have E_a1_13 := (E_a1_10).wr W13
          have F_chunkSize_a1_13 := (F_chunkSize_a1_10).other W13 (Or.inl ne_a1_b1)
          have F_chunks_a1_13 := (F_chunks_a1_10).other W13 (Or.inl ne_a1_b1)
          have F_end_a1_13 := (F_end_a1_10).other W13 (Or.inl ne_a1_b1)
          have Z13 : n0 ≤ h13.size := Nat.le_trans Z10 (Nat.le_of_eq W13.size.symm)
          have V_b1_13 : OwnAr Z h13 b1 .int (((xs.set (((2 : Int32) * p2)).toNatClampNeg (f52_s0 + p3)).set ((((2 : Int32) * p2) + (1 : Int32))).toNatClampNeg (f52_s0 + p3)).map Value.int) := (by rw [List.map_set]; exact B13)
          have K13 := (K10).wr W13 (Or.inl (List.mem_of_getElem? (i := 1) rfl))
          refine own_iload X13 own_d5_108 (pc' := 110) rfl rfl ?_
          exact own_retI X13 own_d5_110 ⟨((f52_s0 + p3)), (((xs.set (((2 : Int32) * p2)).toNatClampNeg (f52_s0 + p3)).set ((((2 : Int32) * p2) + (1 : Int32))).toNatClampNeg (f52_s0 + p3))), (by rw [hf52_s0, hf36_s0, hv8, hv20]; split <;> simp_all), (by simp only [List.length_set, hlen]), K13, F_chunkSize_a1_13, F_chunks_a1_13, F_end_a1_13, V_b1_13⟩ (by decide) (by decide)
      · refine own_ljY X6 own_d5_65 own_d5_66 (own_fltL (hc66)).2.2.2 (pc' := 111) (by decide) (by decide) ?_
        refine own_aloadN X6 own_d5_111 (pc' := 112) rfl rfl rfl ?_
        refine own_getF X6 own_d5_112 (hw _ (List.mem_of_getElem? (i := 14) rfl)) Via.refl F_chunkSize_a1 (pc' := 115) rfl ?_
        intro T14 X14
        refine own_i2l X14 own_d5_115 (pc' := 116) rfl ?_
        refine own_ldc2Long X14 own_d5_116 (pc' := 119) rfl (hw _ (List.mem_of_getElem? (i := 37) rfl)) ?_
        refine own_iloadN X14 own_d5_119 (pc' := 120) rfl rfl ?_
        refine own_i2l X14 own_d5_120 (pc' := 121) rfl ?_
        refine own_lmul X14 own_d5_121 (pc' := 122) rfl ?_
        refine own_callS (argsL := [(.long (cs.toInt64)), (.long ((16 : Int64) * (p3.toInt64)))]) X14 own_d5_122 (y := (⟨"java/lang/Math", "max", "(JJ)J"⟩ : MethodName)) (by decide) (hw _ (List.mem_of_getElem? (i := 38) rfl)) (hw _ (List.mem_of_getElem? (i := 39) rfl)) (hw _ (List.mem_of_getElem? (i := 40) rfl)) (hw _ (List.mem_of_getElem? (i := 12) rfl)) (own_rm7 l Z a0 hw ((cs.toInt64)) (((16 : Int64) * (p3.toInt64))) h0 n0 Z0 ) own_pd1 rfl (S := []) rfl (pc' := 125) rfl rfl (W := 0) (Nat.le_of_eq rfl) (by decide) (by decide) (by decide) (by decide) ?_
        intro T15 h15 v15_ X15 q15_
        obtain ⟨rfl, rfl⟩ := q15_
        obtain ⟨r15, hr15⟩ : ∃ z, z = (if (cs.toInt64) < ((16 : Int64) * (p3.toInt64)) then ((16 : Int64) * (p3.toInt64)) else (cs.toInt64)) := ⟨_, rfl⟩
        show OwnGo p e below (T15.setTop (mkF m 125 #[.val (.ref a1), .val (.int p2), .val (.int p3), .val (.int p4), .val (.int v8), .val (.int v20), .val (.int f36_s0), .val (.int f52_s0), .unset, .unset] [(.long (if (cs.toInt64) < ((16 : Int64) * (p3.toInt64)) then ((16 : Int64) * (p3.toInt64)) else (cs.toInt64)))])) RR
        rw [← hr15]
        refine own_lstore X15 own_d5_125 (pc' := 127) rfl (l' := #[.val (.ref a1), .val (.int p2), .val (.int p3), .val (.int p4), .val (.int v8), .val (.int v20), .val (.int f36_s0), .val (.int f52_s0), .val (.long r15), .second]) rfl ?_
        refine own_aloadN X15 own_d5_127 (pc' := 128) rfl rfl rfl ?_
        refine own_iload X15 own_d5_128 (pc' := 130) rfl rfl ?_
        refine own_iloadN X15 own_d5_130 (pc' := 131) rfl rfl ?_
        refine own_iadd X15 own_d5_131 (pc' := 132) rfl ?_
        refine own_i2l X15 own_d5_132 (pc' := 133) rfl ?_
        refine own_iloadN X15 own_d5_133 (pc' := 134) rfl rfl ?_
        refine own_i2l X15 own_d5_134 (pc' := 135) rfl ?_
        refine own_iload X15 own_d5_135 (pc' := 137) rfl rfl ?_
        have j147_16 : ∀ (f147_s0 : Int32), f147_s0 = (if f36_s0 = (0 : Int32) then f52_s0 else v20) → OwnGo p e below (T15.setTop (mkF m 147 #[.val (.ref a1), .val (.int p2), .val (.int p3), .val (.int p4), .val (.int v8), .val (.int v20), .val (.int f36_s0), .val (.int f52_s0), .val (.long r15), .second] [(.int f147_s0), (.long (p4.toInt64)), (.long (((f52_s0 + p3)).toInt64)), (.ref a1)])) RR := by
          intro f147_s0 hf147_s0
          refine own_i2l X15 own_d5_147 (pc' := 148) rfl ?_
          refine own_lload X15 own_d5_148 (pc' := 150) rfl rfl ?_
          refine own_ladd X15 own_d5_150 (pc' := 151) rfl ?_
          refine own_callS (argsL := [(.long (p4.toInt64)), (.long ((f147_s0.toInt64) + r15))]) X15 own_d5_151 (y := (⟨"java/lang/Math", "min", "(JJ)J"⟩ : MethodName)) (by decide) (hw _ (List.mem_of_getElem? (i := 41) rfl)) (hw _ (List.mem_of_getElem? (i := 42) rfl)) (hw _ (List.mem_of_getElem? (i := 43) rfl)) (hw _ (List.mem_of_getElem? (i := 12) rfl)) (own_rm8 l Z a0 hw ((p4.toInt64)) (((f147_s0.toInt64) + r15)) h0 n0 Z0 ) own_pd1 rfl (S := [(.long (((f52_s0 + p3)).toInt64)), (.ref a1)]) rfl (pc' := 154) rfl rfl (W := 3) (Nat.le_of_eq rfl) (by decide) (by decide) (by decide) (by decide) ?_
          intro T17 h17 v17_ X17 q17_
          obtain ⟨rfl, rfl⟩ := q17_
          obtain ⟨r17, hr17⟩ : ∃ z, z = (if ((f147_s0.toInt64) + r15) < (p4.toInt64) then ((f147_s0.toInt64) + r15) else (p4.toInt64)) := ⟨_, rfl⟩
          show OwnGo p e below (T17.setTop (mkF m 154 #[.val (.ref a1), .val (.int p2), .val (.int p3), .val (.int p4), .val (.int v8), .val (.int v20), .val (.int f36_s0), .val (.int f52_s0), .val (.long r15), .second] [(.long (if ((f147_s0.toInt64) + r15) < (p4.toInt64) then ((f147_s0.toInt64) + r15) else (p4.toInt64))), (.long (((f52_s0 + p3)).toInt64)), (.ref a1)])) RR
          rw [← hr17]
          refine own_callS (argsL := [(.long (((f52_s0 + p3)).toInt64)), (.long r17)]) X17 own_d5_154 (y := (⟨"java/lang/Math", "max", "(JJ)J"⟩ : MethodName)) (by decide) (hw _ (List.mem_of_getElem? (i := 38) rfl)) (hw _ (List.mem_of_getElem? (i := 39) rfl)) (hw _ (List.mem_of_getElem? (i := 40) rfl)) (hw _ (List.mem_of_getElem? (i := 12) rfl)) (own_rm7 l Z a0 hw ((((f52_s0 + p3)).toInt64)) r17 h0 n0 Z0 ) own_pd1 rfl (S := [(.ref a1)]) rfl (pc' := 157) rfl rfl (W := 1) (Nat.le_of_eq rfl) (by decide) (by decide) (by decide) (by decide) ?_
          intro T18 h18 v18_ X18 q18_
          obtain ⟨rfl, rfl⟩ := q18_
          obtain ⟨r18, hr18⟩ : ∃ z, z = (if (((f52_s0 + p3)).toInt64) < r17 then r17 else (((f52_s0 + p3)).toInt64)) := ⟨_, rfl⟩
          show OwnGo p e below (T18.setTop (mkF m 157 #[.val (.ref a1), .val (.int p2), .val (.int p3), .val (.int p4), .val (.int v8), .val (.int v20), .val (.int f36_s0), .val (.int f52_s0), .val (.long r15), .second] [(.long (if (((f52_s0 + p3)).toInt64) < r17 then r17 else (((f52_s0 + p3)).toInt64))), (.ref a1)])) RR
          rw [← hr18]
          refine own_l2i X18 own_d5_157 (pc' := 158) rfl ?_
          refine own_putF X18 own_d5_158 (hw _ (List.mem_of_getElem? (i := 28) rfl)) Via.refl F_end_a1 E_a1 (Or.inl (hw _ (List.mem_of_getElem? (i := 29) rfl))) (hw _ (List.mem_of_getElem? (i := 2) rfl)) (ty := .int) (v' := (.int (r18.toInt32))) (by decide) rfl rfl g_a1 (pc' := 161) rfl ?_
          intro T19 h19 X19 W19
          have E_a1_19 := (E_a1).wr W19
          have F_chunkSize_a1_19 := (F_chunkSize_a1).other W19 (Or.inr (slot_ne (Or.inr (hw _ (List.mem_of_getElem? (i := 15) rfl))) (Or.inl (hw _ (List.mem_of_getElem? (i := 29) rfl))) (by decide) (t := .int) (t' := .int) (by decide) (by decide)))
          have F_chunks_a1_19 := (F_chunks_a1).other W19 (Or.inr (slot_ne (Or.inr (hw _ (List.mem_of_getElem? (i := 18) rfl))) (Or.inl (hw _ (List.mem_of_getElem? (i := 29) rfl))) (by decide) (t := (.array .int)) (t' := .int) (by decide) (by decide)))
          have F_end_a1_19 := (F_end_a1).same W19
          have V_b1_19 := (V_b1).other W19 ne_a1_b1.symm
          have Z19 : n0 ≤ h19.size := Nat.le_trans Z0 (Nat.le_of_eq W19.size.symm)
          have K19 := ((Keep.refl h0 [a1, b1])).wr W19 (Or.inl (List.mem_of_getElem? (i := 0) rfl))
          refine own_aloadN X19 own_d5_161 (pc' := 162) rfl rfl rfl ?_
          refine own_getF X19 own_d5_162 (hw _ (List.mem_of_getElem? (i := 17) rfl)) Via.refl F_chunks_a1_19 (pc' := 165) rfl ?_
          intro T20 X20
          refine own_iconst X20 own_d5_165 (pc' := 166) rfl (v := (2 : Int32)) (by decide) ?_
          refine own_iloadN X20 own_d5_166 (pc' := 167) rfl rfl ?_
          refine own_imul X20 own_d5_167 (pc' := 168) rfl ?_
          refine own_iload X20 own_d5_168 (pc' := 170) rfl rfl ?_
          refine own_iloadN X20 own_d5_170 (pc' := 171) rfl rfl ?_
          refine own_iadd X20 own_d5_171 (pc' := 172) rfl ?_
          refine own_iastore X20 own_d5_172 V_b1_19 (own_i2 hp).1 (by rw [List.length_map]; exact (by simp only [List.length_set, hlen]; exact (own_i2 hp).2.1)) g_b1 (pc' := 173) rfl ?_
          intro T21 h21 X21 W21 B21
          have E_a1_21 := (E_a1_19).wr W21
          have F_chunkSize_a1_21 := (F_chunkSize_a1_19).other W21 (Or.inl ne_a1_b1)
          have F_chunks_a1_21 := (F_chunks_a1_19).other W21 (Or.inl ne_a1_b1)
          have F_end_a1_21 := (F_end_a1_19).other W21 (Or.inl ne_a1_b1)
          have Z21 : n0 ≤ h21.size := Nat.le_trans Z19 (Nat.le_of_eq W21.size.symm)
          have V_b1_21 : OwnAr Z h21 b1 .int ((xs.set (((2 : Int32) * p2)).toNatClampNeg (f52_s0 + p3)).map Value.int) := (by rw [List.map_set]; exact B21)
          have K21 := (K19).wr W21 (Or.inl (List.mem_of_getElem? (i := 1) rfl))
          refine own_aloadN X21 own_d5_173 (pc' := 174) rfl rfl rfl ?_
          refine own_getF X21 own_d5_174 (hw _ (List.mem_of_getElem? (i := 17) rfl)) Via.refl F_chunks_a1_21 (pc' := 177) rfl ?_
          intro T22 X22
          refine own_iconst X22 own_d5_177 (pc' := 178) rfl (v := (2 : Int32)) (by decide) ?_
          refine own_iloadN X22 own_d5_178 (pc' := 179) rfl rfl ?_
          refine own_imul X22 own_d5_179 (pc' := 180) rfl ?_
          refine own_iconst X22 own_d5_180 (pc' := 181) rfl (v := (1 : Int32)) (by decide) ?_
          refine own_iadd X22 own_d5_181 (pc' := 182) rfl ?_
          refine own_aloadN X22 own_d5_182 (pc' := 183) rfl rfl rfl ?_
          refine own_getF X22 own_d5_183 (hw _ (List.mem_of_getElem? (i := 28) rfl)) Via.refl F_end_a1_21 (pc' := 186) rfl ?_
          intro T23 X23
          refine own_iastore X23 own_d5_186 V_b1_21 (own_i2 hp).2.2.1 (by rw [List.length_map]; exact (by simp only [List.length_set, hlen]; exact (own_i2 hp).2.2.2)) g_b1 (pc' := 187) rfl ?_
          intro T24 h24 X24 W24 B24
          have E_a1_24 := (E_a1_21).wr W24
          have F_chunkSize_a1_24 := (F_chunkSize_a1_21).other W24 (Or.inl ne_a1_b1)
          have F_chunks_a1_24 := (F_chunks_a1_21).other W24 (Or.inl ne_a1_b1)
          have F_end_a1_24 := (F_end_a1_21).other W24 (Or.inl ne_a1_b1)
          have Z24 : n0 ≤ h24.size := Nat.le_trans Z21 (Nat.le_of_eq W24.size.symm)
          have V_b1_24 : OwnAr Z h24 b1 .int (((xs.set (((2 : Int32) * p2)).toNatClampNeg (f52_s0 + p3)).set ((((2 : Int32) * p2) + (1 : Int32))).toNatClampNeg (r18.toInt32)).map Value.int) := (by rw [List.map_set]; exact B24)
          have K24 := (K21).wr W24 (Or.inl (List.mem_of_getElem? (i := 1) rfl))
          refine own_iload X24 own_d5_187 (pc' := 189) rfl rfl ?_
          exact own_retI X24 own_d5_189 ⟨((r18.toInt32)), (((xs.set (((2 : Int32) * p2)).toNatClampNeg (f52_s0 + p3)).set ((((2 : Int32) * p2) + (1 : Int32))).toNatClampNeg (r18.toInt32))), (by rw [hf52_s0, hf36_s0, hv8, hv20]; split <;> simp_all), (by simp only [List.length_set, hlen]), K24, F_chunkSize_a1_24, F_chunks_a1_24, F_end_a1_24, V_b1_24⟩ (by decide) (by decide)
        by_cases hc137 : f36_s0 = (0 : Int32)
        · refine own_ifY X15 own_d5_137 (teq (hc137)).1 (pc' := 145) (by decide) (by decide) ?_
          refine own_iload X15 own_d5_145 (pc' := 147) rfl rfl ?_
          exact j147_16 _ (by rw [if_pos hc137])
        · refine own_ifN X15 own_d5_137 (feq (hc137)).1 (pc' := 140) rfl ?_
          refine own_iload X15 own_d5_140 (pc' := 142) rfl rfl ?_
          refine own_goto X15 own_d5_142 (pc' := 147) (by decide) (by decide) ?_
          exact j147_16 _ (by rw [if_neg hc137])
    by_cases hc40 : f36_s0 = (0 : Int32)
    · refine own_ifY X3 own_d5_40 (teq (hc40)).1 (pc' := 48) (by decide) (by decide) ?_
      refine own_aloadN X3 own_d5_48 (pc' := 49) rfl rfl rfl ?_
      refine own_getF X3 own_d5_49 (hw _ (List.mem_of_getElem? (i := 28) rfl)) Via.refl F_end_a1 (pc' := 52) rfl ?_
      intro T25 X25
      exact j52_5 T25 X25 _ (by rw [if_pos hc40])
    · refine own_ifN X3 own_d5_40 (feq (hc40)).1 (pc' := 43) rfl ?_
      refine own_iload X3 own_d5_43 (pc' := 45) rfl rfl ?_
      refine own_goto X3 own_d5_45 (pc' := 52) (by decide) (by decide) ?_
      exact j52_5 T3 X3 _ (by rw [if_neg hc40])
  by_cases hc28 : v20 = e0
  · refine own_icN X3 own_d5_28 (teq (hc28)).2 (pc' := 31) rfl ?_
    refine own_iconst X3 own_d5_31 (pc' := 32) rfl (v := (1 : Int32)) (by decide) ?_
    refine own_goto X3 own_d5_32 (pc' := 36) (by decide) (by decide) ?_
    exact j36_4 _ (by rw [if_pos hc28])
  · refine own_icY X3 own_d5_28 (feq (hc28)).2 (pc' := 35) (by decide) (by decide) ?_
    refine own_iconst X3 own_d5_35 (pc' := 36) rfl (v := (0 : Int32)) (by decide) ?_
    exact j36_4 _ (by rw [if_neg hc28])
theorem own_pd2 : parseMethodDescriptor "(III)I" = some ⟨[.int, .int, .int], some .int⟩ := by decide +kernel
theorem own_d4_0 : decode prog_60_method_6_code 0 = .ok (.aload_n 0, 1) := by decide +kernel
theorem own_d4_1 : decode prog_60_method_6_code 1 = .ok (.getfield 19, 3) := by decide +kernel
theorem own_d4_4 : decode prog_60_method_6_code 4 = .ok (.iconst 2, 1) := by decide +kernel
theorem own_d4_5 : decode prog_60_method_6_code 5 = .ok (.iload_n 1, 1) := by decide +kernel
theorem own_d4_6 : decode prog_60_method_6_code 6 = .ok (.imul, 1) := by decide +kernel
theorem own_d4_7 : decode prog_60_method_6_code 7 = .ok (.iaload, 1) := by decide +kernel
theorem own_d4_8 : decode prog_60_method_6_code 8 = .ok (.istore 4, 2) := by decide +kernel
theorem own_d4_10 : decode prog_60_method_6_code 10 = .ok (.aload_n 0, 1) := by decide +kernel
theorem own_d4_11 : decode prog_60_method_6_code 11 = .ok (.getfield 19, 3) := by decide +kernel
theorem own_d4_14 : decode prog_60_method_6_code 14 = .ok (.iconst 2, 1) := by decide +kernel
theorem own_d4_15 : decode prog_60_method_6_code 15 = .ok (.iload_n 1, 1) := by decide +kernel
theorem own_d4_16 : decode prog_60_method_6_code 16 = .ok (.imul, 1) := by decide +kernel
theorem own_d4_17 : decode prog_60_method_6_code 17 = .ok (.iconst 1, 1) := by decide +kernel
theorem own_d4_18 : decode prog_60_method_6_code 18 = .ok (.iadd, 1) := by decide +kernel
theorem own_d4_19 : decode prog_60_method_6_code 19 = .ok (.iaload, 1) := by decide +kernel
theorem own_d4_20 : decode prog_60_method_6_code 20 = .ok (.iload 4, 2) := by decide +kernel
theorem own_d4_22 : decode prog_60_method_6_code 22 = .ok (.isub, 1) := by decide +kernel
theorem own_d4_23 : decode prog_60_method_6_code 23 = .ok (.iload_n 2, 1) := by decide +kernel
theorem own_d4_24 : decode prog_60_method_6_code 24 = .ok (.if_icmp .lt 18, 3) := by decide +kernel
theorem own_d4_27 : decode prog_60_method_6_code 27 = .ok (.aload_n 0, 1) := by decide +kernel
theorem own_d4_28 : decode prog_60_method_6_code 28 = .ok (.getfield 19, 3) := by decide +kernel
theorem own_d4_31 : decode prog_60_method_6_code 31 = .ok (.iconst 2, 1) := by decide +kernel
theorem own_d4_32 : decode prog_60_method_6_code 32 = .ok (.iload_n 1, 1) := by decide +kernel
theorem own_d4_33 : decode prog_60_method_6_code 33 = .ok (.imul, 1) := by decide +kernel
theorem own_d4_34 : decode prog_60_method_6_code 34 = .ok (.iload 4, 2) := by decide +kernel
theorem own_d4_36 : decode prog_60_method_6_code 36 = .ok (.iload_n 2, 1) := by decide +kernel
theorem own_d4_37 : decode prog_60_method_6_code 37 = .ok (.iadd, 1) := by decide +kernel
theorem own_d4_38 : decode prog_60_method_6_code 38 = .ok (.iastore, 1) := by decide +kernel
theorem own_d4_39 : decode prog_60_method_6_code 39 = .ok (.iload 4, 2) := by decide +kernel
theorem own_d4_41 : decode prog_60_method_6_code 41 = .ok (.ireturn, 1) := by decide +kernel
theorem own_d4_42 : decode prog_60_method_6_code 42 = .ok (.aload_n 0, 1) := by decide +kernel
theorem own_d4_43 : decode prog_60_method_6_code 43 = .ok (.iload_n 1, 1) := by decide +kernel
theorem own_d4_44 : decode prog_60_method_6_code 44 = .ok (.iload_n 2, 1) := by decide +kernel
theorem own_d4_45 : decode prog_60_method_6_code 45 = .ok (.iload_n 3, 1) := by decide +kernel
theorem own_d4_46 : decode prog_60_method_6_code 46 = .ok (.invokevirtual 26, 3) := by decide +kernel
theorem own_d4_49 : decode prog_60_method_6_code 49 = .ok (.ireturn, 1) := by decide +kernel
theorem own_ef4 (m : MethodId) (x0 : Addr) (x1 : Int32) (x2 : Int32) (x3 : Int32) : entryFrame m #[(.ref x0), (.int x1), (.int x2), (.int x3)] 5 = mkF m 0 #[.val (.ref x0), .val (.int x1), .val (.int x2), .val (.int x3), .unset] [] := by first | (simp [entryFrame, mkF, argsToLocals, Value.category]; done) | rfl
theorem own_pn4 : plainFor (⟨"com/example/evenkeel/evenkeel/shuffle/PartitionChunks", "take", "(III)I"⟩ : MethodName) = true := by first | exact plainFor_of_name (by first | (simp [plainName, overriddenIn]; done) | decide +kernel) | exact Jvm.Free.JP.mathPlain rfl (by decide +kernel)
set_option maxRecDepth 65536 in
set_option maxHeartbeats 40000000 in
theorem own_rm4 (l : Launch) (Z : State) (a0 : Array Value) (hw : ∀ d ∈ tables_1, d.before a0 Z = true) (a1 : Addr) (b1 : Addr) (cs : Int32) (e0 : Int32) (xs : List Int32) (p2 : Int32) (p3 : Int32) (p4 : Int32) (h0 : Heap) (n0 : Nat) (Z0 : n0 ≤ h0.size) (E_a1 : Exa Z h0 a1 "com/example/evenkeel/evenkeel/shuffle/PartitionChunks") (F_chunkSize_a1 : Fld Z h0 a1 "com/example/evenkeel/evenkeel/shuffle/PartitionChunks" "chunkSize" "I" (.int cs)) (F_chunks_a1 : Fld Z h0 a1 "com/example/evenkeel/evenkeel/shuffle/PartitionChunks" "chunks" "[I" (.ref b1)) (F_end_a1 : Fld Z h0 a1 "com/example/evenkeel/evenkeel/shuffle/PartitionChunks" "end" "I" (.int e0)) (V_b1 : OwnAr Z h0 b1 .int (xs.map Value.int)) (g_a1 : n0 ≤ a1) (g_b1 : n0 ≤ b1) (ne_a1_b1 : a1 ≠ b1) (hlen : xs.length = 6) (hp : p2 = 0 ∨ p2 = 1 ∨ p2 = 2) :
    OwnMet l Z (⟨"com/example/evenkeel/evenkeel/shuffle/PartitionChunks", "take", "(III)I"⟩ : MethodName) prog_60_method_6_code 5 (some .int) ({ frames := 2, cells := 0, slots := 0, locals := 39 } : Room) #[(.ref a1), (.int p2), (.int p3), (.int p4)] h0 n0 (fun v h => ∃ (e1 : Int32), ∃ (ys : List Int32), v = some (.int (ownPlace xs e0 p2 p3)) ∧ (ys.length = 6) ∧ Keep h0 h [a1, b1] ∧ Fld Z h a1 "com/example/evenkeel/evenkeel/shuffle/PartitionChunks" "chunkSize" "I" (.int cs) ∧ Fld Z h a1 "com/example/evenkeel/evenkeel/shuffle/PartitionChunks" "chunks" "[I" (.ref b1) ∧ Fld Z h a1 "com/example/evenkeel/evenkeel/shuffle/PartitionChunks" "end" "I" (.int e1) ∧ OwnAr Z h b1 .int (ys.map Value.int)) := by
  refine own_body own_pn4 ?_
  intro p e s m below meth c s₁ RR X0
  refine own_enter (own_ef4 m a1 p2 p3 p4) ?_
  refine own_aloadN X0 own_d4_0 (pc' := 1) rfl rfl rfl ?_
  refine own_getF X0 own_d4_1 (hw _ (List.mem_of_getElem? (i := 17) rfl)) Via.refl F_chunks_a1 (pc' := 4) rfl ?_
  intro T1 X1
  refine own_iconst X1 own_d4_4 (pc' := 5) rfl (v := (2 : Int32)) (by decide) ?_
  refine own_iloadN X1 own_d4_5 (pc' := 6) rfl rfl ?_
  refine own_imul X1 own_d4_6 (pc' := 7) rfl ?_
  refine own_iaload X1 own_d4_7 V_b1 (own_i2 hp).1 (v := (.int (xs.getD (((2 : Int32) * p2)).toNatClampNeg 0))) (own_getI (by simp only [List.length_set, hlen]; exact (own_i2 hp).2.1)) (pc' := 8) rfl ?_
  refine own_istoreV X1 own_d4_8 (pc' := 10) rfl (l' := fun v8 => #[.val (.ref a1), .val (.int p2), .val (.int p3), .val (.int p4), .val (.int v8)]) (fun _ => rfl) ?_
  intro v8 hv8
  refine own_aloadN X1 own_d4_10 (pc' := 11) rfl rfl rfl ?_
  refine own_getF X1 own_d4_11 (hw _ (List.mem_of_getElem? (i := 17) rfl)) Via.refl F_chunks_a1 (pc' := 14) rfl ?_
  intro T2 X2
  refine own_iconst X2 own_d4_14 (pc' := 15) rfl (v := (2 : Int32)) (by decide) ?_
  refine own_iloadN X2 own_d4_15 (pc' := 16) rfl rfl ?_
  refine own_imul X2 own_d4_16 (pc' := 17) rfl ?_
  refine own_iconst X2 own_d4_17 (pc' := 18) rfl (v := (1 : Int32)) (by decide) ?_
  refine own_iadd X2 own_d4_18 (pc' := 19) rfl ?_
  refine own_iaload X2 own_d4_19 V_b1 (own_i2 hp).2.2.1 (v := (.int (xs.getD ((((2 : Int32) * p2) + (1 : Int32))).toNatClampNeg 0))) (own_getI (by simp only [List.length_set, hlen]; exact (own_i2 hp).2.2.2)) (pc' := 20) rfl ?_
  refine own_iload X2 own_d4_20 (pc' := 22) rfl rfl ?_
  refine own_isub X2 own_d4_22 (pc' := 23) rfl ?_
  refine own_iloadN X2 own_d4_23 (pc' := 24) rfl rfl ?_
  by_cases hc24 : ((xs.getD ((((2 : Int32) * p2) + (1 : Int32))).toNatClampNeg 0) - v8) < p3
  · refine own_icY X2 own_d4_24 (tlt (hc24)).1 (pc' := 42) (by decide) (by decide) ?_
    refine own_aloadN X2 own_d4_42 (pc' := 43) rfl rfl rfl ?_
    refine own_iloadN X2 own_d4_43 (pc' := 44) rfl rfl ?_
    refine own_iloadN X2 own_d4_44 (pc' := 45) rfl rfl ?_
    refine own_iloadN X2 own_d4_45 (pc' := 46) rfl rfl ?_
    refine own_callP (a := a1) (argsL := [(.int p2), (.int p3), (.int p4)]) X2 own_d4_46 (y := (⟨"com/example/evenkeel/evenkeel/shuffle/PartitionChunks", "takeBeyondRoom", "(III)I"⟩ : MethodName)) (by decide) (hw _ (List.mem_of_getElem? (i := 24) rfl)) (hw _ (List.mem_of_getElem? (i := 26) rfl)) (hw _ (List.mem_of_getElem? (i := 2) rfl)) (hw _ (List.mem_of_getElem? (i := 25) rfl)) (hw _ (List.mem_of_getElem? (i := 27) rfl)) (hw _ (List.mem_of_getElem? (i := 3) rfl)) E_a1 (own_rm5 l Z a0 hw a1 b1 cs e0 xs p2 p3 p4 h0 n0 Z0 E_a1 F_chunkSize_a1 F_chunks_a1 F_end_a1 V_b1 g_a1 g_b1 ne_a1_b1 hlen hp) own_pd2 rfl (S := []) rfl (pc' := 49) rfl rfl (W := 0) (Nat.le_of_eq rfl) (by decide) (by decide) (by decide) (by decide) ?_
    intro T3 h3 v3_ X3 q3_
    obtain ⟨e1_3, ys_3, rfl, hy_3, KK3, FF3q0, FF3q1, FF3q2, FF3q3⟩ := q3_
    obtain ⟨r3, hr3⟩ : ∃ z, z = (if xs.getD ((2 : Int32) * p2 + (1 : Int32)).toNatClampNeg 0 = e0 then xs.getD ((2 : Int32) * p2).toNatClampNeg 0 else e0) := ⟨_, rfl⟩
    show OwnGo p e below (T3.setTop (mkF m 49 #[.val (.ref a1), .val (.int p2), .val (.int p3), .val (.int p4), .val (.int v8)] [(.int (if xs.getD ((2 : Int32) * p2 + (1 : Int32)).toNatClampNeg 0 = e0 then xs.getD ((2 : Int32) * p2).toNatClampNeg 0 else e0))])) RR
    rw [← hr3]
    have Z3 : n0 ≤ h3.size := Nat.le_trans Z0 KK3.1
    have E_a1_3 := (E_a1).keep KK3
    have K3 := ((Keep.refl h0 [a1, b1])).trans KK3 (allS (Or.inl (List.mem_of_getElem? (i := 0) rfl)) (allS (Or.inl (List.mem_of_getElem? (i := 1) rfl)) all0))
    exact own_retI X3 own_d4_49 ⟨e1_3, ys_3, (by rw [hr3]; unfold ownPlace; rw [← hv8, if_pos hc24]), hy_3, K3, FF3q0, FF3q1, FF3q2, FF3q3⟩ (by decide) (by decide)
  · refine own_icN X2 own_d4_24 (flt (hc24)).1 (pc' := 27) rfl ?_
    refine own_aloadN X2 own_d4_27 (pc' := 28) rfl rfl rfl ?_
    refine own_getF X2 own_d4_28 (hw _ (List.mem_of_getElem? (i := 17) rfl)) Via.refl F_chunks_a1 (pc' := 31) rfl ?_
    intro T4 X4
    refine own_iconst X4 own_d4_31 (pc' := 32) rfl (v := (2 : Int32)) (by decide) ?_
    refine own_iloadN X4 own_d4_32 (pc' := 33) rfl rfl ?_
    refine own_imul X4 own_d4_33 (pc' := 34) rfl ?_
    refine own_iload X4 own_d4_34 (pc' := 36) rfl rfl ?_
    refine own_iloadN X4 own_d4_36 (pc' := 37) rfl rfl ?_
    refine own_iadd X4 own_d4_37 (pc' := 38) rfl ?_
    refine own_iastore X4 own_d4_38 V_b1 (own_i2 hp).1 (by rw [List.length_map]; exact (by simp only [List.length_set, hlen]; exact (own_i2 hp).2.1)) g_b1 (pc' := 39) rfl ?_
    intro T5 h5 X5 W5 B5
    have E_a1_5 := (E_a1).wr W5
    have F_chunkSize_a1_5 := (F_chunkSize_a1).other W5 (Or.inl ne_a1_b1)
    have F_chunks_a1_5 := (F_chunks_a1).other W5 (Or.inl ne_a1_b1)
    have F_end_a1_5 := (F_end_a1).other W5 (Or.inl ne_a1_b1)
    have Z5 : n0 ≤ h5.size := Nat.le_trans Z0 (Nat.le_of_eq W5.size.symm)
    have V_b1_5 : OwnAr Z h5 b1 .int ((xs.set (((2 : Int32) * p2)).toNatClampNeg (v8 + p3)).map Value.int) := (by rw [List.map_set]; exact B5)
    have K5 := ((Keep.refl h0 [a1, b1])).wr W5 (Or.inl (List.mem_of_getElem? (i := 1) rfl))
    refine own_iload X5 own_d4_39 (pc' := 41) rfl rfl ?_
    exact own_retI X5 own_d4_41 ⟨e0, ((xs.set (((2 : Int32) * p2)).toNatClampNeg (v8 + p3))), (by unfold ownPlace; rw [← hv8, if_neg hc24]), (by simp only [List.length_set, hlen]), K5, F_chunkSize_a1_5, F_chunks_a1_5, F_end_a1_5, V_b1_5⟩ (by decide) (by decide)
theorem own_d6_0 : decode prog_60_method_5_code 0 = .ok (.aload_n 0, 1) := by decide +kernel
theorem own_d6_1 : decode prog_60_method_5_code 1 = .ok (.getfield 19, 3) := by decide +kernel
theorem own_d6_4 : decode prog_60_method_5_code 4 = .ok (.iconst 2, 1) := by decide +kernel
theorem own_d6_5 : decode prog_60_method_5_code 5 = .ok (.iload_n 1, 1) := by decide +kernel
theorem own_d6_6 : decode prog_60_method_5_code 6 = .ok (.imul, 1) := by decide +kernel
theorem own_d6_7 : decode prog_60_method_5_code 7 = .ok (.iaload, 1) := by decide +kernel
theorem own_d6_8 : decode prog_60_method_5_code 8 = .ok (.istore_n 3, 1) := by decide +kernel
theorem own_d6_9 : decode prog_60_method_5_code 9 = .ok (.aload_n 0, 1) := by decide +kernel
theorem own_d6_10 : decode prog_60_method_5_code 10 = .ok (.getfield 19, 3) := by decide +kernel
theorem own_d6_13 : decode prog_60_method_5_code 13 = .ok (.iconst 2, 1) := by decide +kernel
theorem own_d6_14 : decode prog_60_method_5_code 14 = .ok (.iload_n 1, 1) := by decide +kernel
theorem own_d6_15 : decode prog_60_method_5_code 15 = .ok (.imul, 1) := by decide +kernel
theorem own_d6_16 : decode prog_60_method_5_code 16 = .ok (.iconst 1, 1) := by decide +kernel
theorem own_d6_17 : decode prog_60_method_5_code 17 = .ok (.iadd, 1) := by decide +kernel
theorem own_d6_18 : decode prog_60_method_5_code 18 = .ok (.iaload, 1) := by decide +kernel
theorem own_d6_19 : decode prog_60_method_5_code 19 = .ok (.istore 4, 2) := by decide +kernel
theorem own_d6_21 : decode prog_60_method_5_code 21 = .ok (.iload 4, 2) := by decide +kernel
theorem own_d6_23 : decode prog_60_method_5_code 23 = .ok (.iload_n 3, 1) := by decide +kernel
theorem own_d6_24 : decode prog_60_method_5_code 24 = .ok (.isub, 1) := by decide +kernel
theorem own_d6_25 : decode prog_60_method_5_code 25 = .ok (.iload_n 2, 1) := by decide +kernel
theorem own_d6_26 : decode prog_60_method_5_code 26 = .ok (.if_icmp .ge 12, 3) := by decide +kernel
theorem own_d6_29 : decode prog_60_method_5_code 29 = .ok (.iload 4, 2) := by decide +kernel
theorem own_d6_31 : decode prog_60_method_5_code 31 = .ok (.aload_n 0, 1) := by decide +kernel
theorem own_d6_32 : decode prog_60_method_5_code 32 = .ok (.getfield 23, 3) := by decide +kernel
theorem own_d6_35 : decode prog_60_method_5_code 35 = .ok (.if_icmp .ne 7, 3) := by decide +kernel
theorem own_d6_38 : decode prog_60_method_5_code 38 = .ok (.iload_n 3, 1) := by decide +kernel
theorem own_d6_39 : decode prog_60_method_5_code 39 = .ok (.goto 7, 3) := by decide +kernel
theorem own_d6_42 : decode prog_60_method_5_code 42 = .ok (.aload_n 0, 1) := by decide +kernel
theorem own_d6_43 : decode prog_60_method_5_code 43 = .ok (.getfield 23, 3) := by decide +kernel
theorem own_d6_46 : decode prog_60_method_5_code 46 = .ok (.ireturn, 1) := by decide +kernel
theorem own_ef6 (m : MethodId) (x0 : Addr) (x1 : Int32) (x2 : Int32) : entryFrame m #[(.ref x0), (.int x1), (.int x2)] 5 = mkF m 0 #[.val (.ref x0), .val (.int x1), .val (.int x2), .unset, .unset] [] := by first | (simp [entryFrame, mkF, argsToLocals, Value.category]; done) | rfl
theorem own_pn6 : plainFor (⟨"com/example/evenkeel/evenkeel/shuffle/PartitionChunks", "place", "(II)I"⟩ : MethodName) = true := by first | exact plainFor_of_name (by first | (simp [plainName, overriddenIn]; done) | decide +kernel) | exact Jvm.Free.JP.mathPlain rfl (by decide +kernel)
set_option maxRecDepth 65536 in
set_option maxHeartbeats 40000000 in
theorem own_rm6 (l : Launch) (Z : State) (a0 : Array Value) (hw : ∀ d ∈ tables_1, d.before a0 Z = true) (a1 : Addr) (b1 : Addr) (cs : Int32) (e0 : Int32) (xs : List Int32) (p2 : Int32) (p3 : Int32) (h0 : Heap) (n0 : Nat) (Z0 : n0 ≤ h0.size) (E_a1 : Exa Z h0 a1 "com/example/evenkeel/evenkeel/shuffle/PartitionChunks") (F_chunkSize_a1 : Fld Z h0 a1 "com/example/evenkeel/evenkeel/shuffle/PartitionChunks" "chunkSize" "I" (.int cs)) (F_chunks_a1 : Fld Z h0 a1 "com/example/evenkeel/evenkeel/shuffle/PartitionChunks" "chunks" "[I" (.ref b1)) (F_end_a1 : Fld Z h0 a1 "com/example/evenkeel/evenkeel/shuffle/PartitionChunks" "end" "I" (.int e0)) (V_b1 : OwnAr Z h0 b1 .int (xs.map Value.int)) (g_a1 : n0 ≤ a1) (g_b1 : n0 ≤ b1) (ne_a1_b1 : a1 ≠ b1) (hlen : xs.length = 6) (hp : p2 = 0 ∨ p2 = 1 ∨ p2 = 2) :
    OwnMet l Z (⟨"com/example/evenkeel/evenkeel/shuffle/PartitionChunks", "place", "(II)I"⟩ : MethodName) prog_60_method_5_code 5 (some .int) ({ frames := 0, cells := 0, slots := 0, locals := 0 } : Room) #[(.ref a1), (.int p2), (.int p3)] h0 n0 (fun v h => v = some (.int (ownPlace xs e0 p2 p3)) ∧ h0 = h) := by
  refine own_body own_pn6 ?_
  intro p e s m below meth c s₁ RR X0
  refine own_enter (own_ef6 m a1 p2 p3) ?_
  refine own_aloadN X0 own_d6_0 (pc' := 1) rfl rfl rfl ?_
  refine own_getF X0 own_d6_1 (hw _ (List.mem_of_getElem? (i := 17) rfl)) Via.refl F_chunks_a1 (pc' := 4) rfl ?_
  intro T1 X1
  refine own_iconst X1 own_d6_4 (pc' := 5) rfl (v := (2 : Int32)) (by decide) ?_
  refine own_iloadN X1 own_d6_5 (pc' := 6) rfl rfl ?_
  refine own_imul X1 own_d6_6 (pc' := 7) rfl ?_
  refine own_iaload X1 own_d6_7 V_b1 (own_i2 hp).1 (v := (.int (xs.getD (((2 : Int32) * p2)).toNatClampNeg 0))) (own_getI (by simp only [List.length_set, hlen]; exact (own_i2 hp).2.1)) (pc' := 8) rfl ?_
  refine own_istoreNV X1 own_d6_8 (pc' := 9) rfl (l' := fun v8 => #[.val (.ref a1), .val (.int p2), .val (.int p3), .val (.int v8), .unset]) (fun _ => rfl) ?_
  intro v8 hv8
  refine own_aloadN X1 own_d6_9 (pc' := 10) rfl rfl rfl ?_
  refine own_getF X1 own_d6_10 (hw _ (List.mem_of_getElem? (i := 17) rfl)) Via.refl F_chunks_a1 (pc' := 13) rfl ?_
  intro T2 X2
  refine own_iconst X2 own_d6_13 (pc' := 14) rfl (v := (2 : Int32)) (by decide) ?_
  refine own_iloadN X2 own_d6_14 (pc' := 15) rfl rfl ?_
  refine own_imul X2 own_d6_15 (pc' := 16) rfl ?_
  refine own_iconst X2 own_d6_16 (pc' := 17) rfl (v := (1 : Int32)) (by decide) ?_
  refine own_iadd X2 own_d6_17 (pc' := 18) rfl ?_
  refine own_iaload X2 own_d6_18 V_b1 (own_i2 hp).2.2.1 (v := (.int (xs.getD ((((2 : Int32) * p2) + (1 : Int32))).toNatClampNeg 0))) (own_getI (by simp only [List.length_set, hlen]; exact (own_i2 hp).2.2.2)) (pc' := 19) rfl ?_
  refine own_istoreV X2 own_d6_19 (pc' := 21) rfl (l' := fun v19 => #[.val (.ref a1), .val (.int p2), .val (.int p3), .val (.int v8), .val (.int v19)]) (fun _ => rfl) ?_
  intro v19 hv19
  refine own_iload X2 own_d6_21 (pc' := 23) rfl rfl ?_
  refine own_iloadN X2 own_d6_23 (pc' := 24) rfl rfl ?_
  refine own_isub X2 own_d6_24 (pc' := 25) rfl ?_
  refine own_iloadN X2 own_d6_25 (pc' := 26) rfl rfl ?_
  have j46_3 : ∀ T3, OwnAt X2 T3 → ∀ (f46_s0 : Int32), f46_s0 = (if (v19 - v8) < p3 then (if v19 = e0 then v8 else e0) else v8) → OwnGo p e below (T3.setTop (mkF m 46 #[.val (.ref a1), .val (.int p2), .val (.int p3), .val (.int v8), .val (.int v19)] [(.int f46_s0)])) RR := by
    intro T3 X3 f46_s0 hf46_s0
    exact own_retI X3 own_d6_46 ⟨by rw [hf46_s0]; unfold ownPlace; simp only [← hv8, ← hv19], rfl⟩ (by decide) (by decide)
  by_cases hc26 : (v19 - v8) < p3
  · refine own_icN X2 own_d6_26 (tlt (hc26)).2.1 (pc' := 29) rfl ?_
    refine own_iload X2 own_d6_29 (pc' := 31) rfl rfl ?_
    refine own_aloadN X2 own_d6_31 (pc' := 32) rfl rfl rfl ?_
    refine own_getF X2 own_d6_32 (hw _ (List.mem_of_getElem? (i := 28) rfl)) Via.refl F_end_a1 (pc' := 35) rfl ?_
    intro T4 X4
    by_cases hc35 : v19 = e0
    · refine own_icN X4 own_d6_35 (teq (hc35)).2 (pc' := 38) rfl ?_
      refine own_iloadN X4 own_d6_38 (pc' := 39) rfl rfl ?_
      refine own_goto X4 own_d6_39 (pc' := 46) (by decide) (by decide) ?_
      exact j46_3 T4 X4 _ (by rw [if_pos hc26, if_pos hc35])
    · refine own_icY X4 own_d6_35 (feq (hc35)).2 (pc' := 42) (by decide) (by decide) ?_
      refine own_aloadN X4 own_d6_42 (pc' := 43) rfl rfl rfl ?_
      refine own_getF X4 own_d6_43 (hw _ (List.mem_of_getElem? (i := 28) rfl)) Via.refl F_end_a1 (pc' := 46) rfl ?_
      intro T5 X5
      exact j46_3 T5 X5 _ (by rw [if_pos hc26, if_neg hc35])
  · refine own_icY X2 own_d6_26 (flt (hc26)).2.1 (pc' := 38) (by decide) (by decide) ?_
    refine own_iloadN X2 own_d6_38 (pc' := 39) rfl rfl ?_
    refine own_goto X2 own_d6_39 (pc' := 46) (by decide) (by decide) ?_
    exact j46_3 T2 X2 _ (by rw [if_neg hc26])
theorem own_pd3 : parseMethodDescriptor "(II)V" = some ⟨[.int, .int], none⟩ := by decide +kernel
theorem own_ef0 (m : MethodId) (x0 : Int32) (x1 : Int32) (x2 : Int32) (x3 : Int32) (x4 : Int32) : entryFrame m #[(.int x0), (.int x1), (.int x2), (.int x3), (.int x4)] maxLocals = mkF m 0 #[.val (.int x0), .val (.int x1), .val (.int x2), .val (.int x3), .val (.int x4), .unset, .unset, .unset, .unset, .unset, .unset] [] := by first | (simp [entryFrame, mkF, argsToLocals, Value.category, maxLocals]; done) | rfl
theorem own_pn0 : plainFor x = true := by first | exact plainFor_of_name (by first | (simp [plainName, overriddenIn]; done) | decide +kernel) | exact Jvm.Free.JP.mathPlain rfl (by decide +kernel)
set_option maxRecDepth 65536 in
set_option maxHeartbeats 40000000 in
theorem own_rm0 (l : Launch) (Z : State) (a0 : Array Value) (hw : ∀ d ∈ tables_1, d.before a0 Z = true) (p1 : Int32) (p2 : Int32) (p3 : Int32) (p4 : Int32) (p5 : Int32) (h0 : Heap) (n0 : Nat) (Z0 : n0 ≤ h0.size)  :
    OwnMet l Z x code maxLocals ret room_1 #[(.int p1), (.int p2), (.int p3), (.int p4), (.int p5)] h0 n0 (fun v h => v = some (.int 1)) := by
  refine own_body own_pn0 ?_
  intro p e s m below meth c s₁ RR X0
  refine own_enter (own_ef0 m p1 p2 p3 p4 p5) ?_
  refine own_ldcInt X0 at_0 (pc' := 2) rfl (hw _ (List.mem_of_getElem? (i := 0) rfl)) ?_
  refine own_istore X0 at_2 (pc' := 4) rfl (l' := #[.val (.int p1), .val (.int p2), .val (.int p3), .val (.int p4), .val (.int p5), .val (.int (1048576 : Int32)), .unset, .unset, .unset, .unset, .unset]) rfl ?_
  refine own_new X0 at_4 (hw _ (List.mem_of_getElem? (i := 1) rfl)) (hw _ (List.mem_of_getElem? (i := 2) rfl)) (hw _ (List.mem_of_getElem? (i := 3) rfl)) (pc' := 7) rfl (by decide) (by decide) ?_
  intro T1 h1 b1 hb1 X1 E1 A1 D1
  have g_b1 : n0 ≤ b1 := Nat.le_trans Z0 (Nat.le_of_eq hb1.symm)
  have Z1 : n0 ≤ h1.size := Nat.le_trans Z0 E1.1
  have F_chunkSize_b1 : Fld Z h1 b1 "com/example/evenkeel/evenkeel/shuffle/PartitionChunks" "chunkSize" "I" (.int (0 : Int32)) := D1 (Or.inr (hw _ (List.mem_of_getElem? (i := 15) rfl))) (ty := .int) (by decide)
  have F_chunks_b1 : Fld Z h1 b1 "com/example/evenkeel/evenkeel/shuffle/PartitionChunks" "chunks" "[I" .null := D1 (Or.inr (hw _ (List.mem_of_getElem? (i := 18) rfl))) (ty := (.array .int)) (by decide)
  have F_end_b1 : Fld Z h1 b1 "com/example/evenkeel/evenkeel/shuffle/PartitionChunks" "end" "I" (.int (0 : Int32)) := D1 (Or.inl (hw _ (List.mem_of_getElem? (i := 29) rfl))) (ty := .int) (by decide)
  refine own_dup X1 at_7 (pc' := 8) rfl rfl ?_
  refine own_iconst X1 at_8 (pc' := 9) rfl (v := (3 : Int32)) (by decide) ?_
  refine own_iloadN X1 at_9 (pc' := 10) rfl rfl ?_
  refine own_sipush X1 at_10 (pc' := 13) rfl (v := (1023 : Int32)) (by decide) ?_
  refine own_iand X1 at_13 (pc' := 14) rfl ?_
  refine own_callC (a := b1) (argsL := [(.int (3 : Int32)), (.int (p1 &&& (1023 : Int32)))]) X1 at_14 (y := (⟨"com/example/evenkeel/evenkeel/shuffle/PartitionChunks", "<init>", "(II)V"⟩ : MethodName)) (by decide) (hw _ (List.mem_of_getElem? (i := 4) rfl)) (hw _ (List.mem_of_getElem? (i := 5) rfl)) (hw _ (List.mem_of_getElem? (i := 6) rfl)) (hw _ (List.mem_of_getElem? (i := 3) rfl)) (own_rm1 l Z a0 hw b1 ((p1 &&& (1023 : Int32))) (0 : Int32) (0 : Int32) h1 n0 Z1 A1 F_chunkSize_b1 F_chunks_b1 F_end_b1 g_b1) own_pd3 rfl (S := [(.ref b1)]) rfl (pc' := 17) rfl rfl (W := 1) (Nat.le_of_eq rfl) (by decide) (by decide) (by decide) (by decide) ?_
  intro T2 h2 v2_ X2 q2_
  obtain ⟨cs_2, b_2, ys_2, rfl, hy_2, KK2, FF2q0, FF2q1, FF2q2, FF2q3, FF2q4⟩ := q2_
  show OwnGo p e below (T2.setTop (mkF m 17 #[.val (.int p1), .val (.int p2), .val (.int p3), .val (.int p4), .val (.int p5), .val (.int (1048576 : Int32)), .unset, .unset, .unset, .unset, .unset] [(.ref b1)])) RR
  have Z2 : n0 ≤ h2.size := Nat.le_trans Z1 KK2.1
  have A1_2 := (A1).keep KK2
  have ne_b1_b_2 : b1 ≠ b_2 := Nat.ne_of_lt (Nat.lt_of_lt_of_le (A1).lt FF2q3)
  have g_b_2 : n0 ≤ b_2 := Nat.le_trans Z1 FF2q3
  refine own_astore X2 at_17 (pc' := 19) rfl rfl (l' := #[.val (.int p1), .val (.int p2), .val (.int p3), .val (.int p4), .val (.int p5), .val (.int (1048576 : Int32)), .val (.ref b1), .unset, .unset, .unset, .unset]) rfl ?_
  refine own_aload X2 at_19 (pc' := 21) rfl rfl rfl ?_
  refine own_iconst X2 at_21 (pc' := 22) rfl (v := (0 : Int32)) (by decide) ?_
  refine own_iloadN X2 at_22 (pc' := 23) rfl rfl ?_
  refine own_bipush X2 at_23 (pc' := 25) rfl (v := (63 : Int32)) (by decide) ?_
  refine own_iand X2 at_25 (pc' := 26) rfl ?_
  refine own_iload X2 at_26 (pc' := 28) rfl rfl ?_
  refine own_callV (a := b1) (argsL := [(.int (0 : Int32)), (.int (p2 &&& (63 : Int32))), (.int (1048576 : Int32))]) X2 at_28 (y := (⟨"com/example/evenkeel/evenkeel/shuffle/PartitionChunks", "take", "(III)I"⟩ : MethodName)) (by decide) (hw _ (List.mem_of_getElem? (i := 19) rfl)) (hw _ (List.mem_of_getElem? (i := 20) rfl)) (hw _ (List.mem_of_getElem? (i := 22) rfl)) (hw _ (List.mem_of_getElem? (i := 21) rfl)) (hw _ (List.mem_of_getElem? (i := 23) rfl)) (hw _ (List.mem_of_getElem? (i := 3) rfl)) A1_2 (own_rm4 l Z a0 hw b1 b_2 cs_2 (0 : Int32) ys_2 (0 : Int32) ((p2 &&& (63 : Int32))) (1048576 : Int32) h2 n0 Z2 A1_2 FF2q0 FF2q1 FF2q2 FF2q4 g_b1 g_b_2 ne_b1_b_2 hy_2 (Or.inl rfl)) own_pd2 rfl (S := []) rfl (pc' := 31) rfl rfl (W := 0) (Nat.le_of_eq rfl) (by decide) (by decide) (by decide) (by decide) ?_
  intro T3 h3 v3_ X3 q3_
  obtain ⟨e1_3, ys_3, rfl, hy_3, KK3, FF3q0, FF3q1, FF3q2, FF3q3⟩ := q3_
  obtain ⟨r3, hr3⟩ : ∃ z, z = (ownPlace ys_2 (0 : Int32) (0 : Int32) (p2 &&& (63 : Int32))) := ⟨_, rfl⟩
  show OwnGo p e below (T3.setTop (mkF m 31 #[.val (.int p1), .val (.int p2), .val (.int p3), .val (.int p4), .val (.int p5), .val (.int (1048576 : Int32)), .val (.ref b1), .unset, .unset, .unset, .unset] [(.int (ownPlace ys_2 (0 : Int32) (0 : Int32) (p2 &&& (63 : Int32))))])) RR
  rw [← hr3]
  have Z3 : n0 ≤ h3.size := Nat.le_trans Z2 KK3.1
  have A1_3 := (A1_2).keep KK3
  refine own_pop X3 at_31 (pc' := 32) rfl rfl ?_
  refine own_aload X3 at_32 (pc' := 34) rfl rfl rfl ?_
  refine own_iconst X3 at_34 (pc' := 35) rfl (v := (1 : Int32)) (by decide) ?_
  refine own_iloadN X3 at_35 (pc' := 36) rfl rfl ?_
  refine own_bipush X3 at_36 (pc' := 38) rfl (v := (63 : Int32)) (by decide) ?_
  refine own_iand X3 at_38 (pc' := 39) rfl ?_
  refine own_iload X3 at_39 (pc' := 41) rfl rfl ?_
  refine own_callV (a := b1) (argsL := [(.int (1 : Int32)), (.int (p3 &&& (63 : Int32))), (.int (1048576 : Int32))]) X3 at_41 (y := (⟨"com/example/evenkeel/evenkeel/shuffle/PartitionChunks", "take", "(III)I"⟩ : MethodName)) (by decide) (hw _ (List.mem_of_getElem? (i := 19) rfl)) (hw _ (List.mem_of_getElem? (i := 20) rfl)) (hw _ (List.mem_of_getElem? (i := 22) rfl)) (hw _ (List.mem_of_getElem? (i := 21) rfl)) (hw _ (List.mem_of_getElem? (i := 23) rfl)) (hw _ (List.mem_of_getElem? (i := 3) rfl)) A1_3 (own_rm4 l Z a0 hw b1 b_2 cs_2 e1_3 ys_3 (1 : Int32) ((p3 &&& (63 : Int32))) (1048576 : Int32) h3 n0 Z3 A1_3 FF3q0 FF3q1 FF3q2 FF3q3 g_b1 g_b_2 ne_b1_b_2 hy_3 (Or.inr (Or.inl rfl))) own_pd2 rfl (S := []) rfl (pc' := 44) rfl rfl (W := 0) (Nat.le_of_eq rfl) (by decide) (by decide) (by decide) (by decide) ?_
  intro T4 h4 v4_ X4 q4_
  obtain ⟨e1_4, ys_4, rfl, hy_4, KK4, FF4q0, FF4q1, FF4q2, FF4q3⟩ := q4_
  obtain ⟨r4, hr4⟩ : ∃ z, z = (ownPlace ys_3 e1_3 (1 : Int32) (p3 &&& (63 : Int32))) := ⟨_, rfl⟩
  show OwnGo p e below (T4.setTop (mkF m 44 #[.val (.int p1), .val (.int p2), .val (.int p3), .val (.int p4), .val (.int p5), .val (.int (1048576 : Int32)), .val (.ref b1), .unset, .unset, .unset, .unset] [(.int (ownPlace ys_3 e1_3 (1 : Int32) (p3 &&& (63 : Int32))))])) RR
  rw [← hr4]
  have Z4 : n0 ≤ h4.size := Nat.le_trans Z3 KK4.1
  have A1_4 := (A1_3).keep KK4
  refine own_pop X4 at_44 (pc' := 45) rfl rfl ?_
  refine own_aload X4 at_45 (pc' := 47) rfl rfl rfl ?_
  refine own_iloadN X4 at_47 (pc' := 48) rfl rfl ?_
  refine own_bipush X4 at_48 (pc' := 50) rfl (v := (6 : Int32)) (by decide) ?_
  refine own_iushr X4 at_50 (pc' := 51) rfl ?_
  refine own_iconst X4 at_51 (pc' := 52) rfl (v := (1 : Int32)) (by decide) ?_
  refine own_iand X4 at_52 (pc' := 53) rfl ?_
  refine own_iloadN X4 at_53 (pc' := 54) rfl rfl ?_
  refine own_bipush X4 at_54 (pc' := 56) rfl (v := (63 : Int32)) (by decide) ?_
  refine own_iand X4 at_56 (pc' := 57) rfl ?_
  refine own_iload X4 at_57 (pc' := 59) rfl rfl ?_
  refine own_callV (a := b1) (argsL := [(.int ((p4.toUInt32 >>> ((6 : Int32) &&& 31).toUInt32).toInt32 &&& (1 : Int32))), (.int (p4 &&& (63 : Int32))), (.int (1048576 : Int32))]) X4 at_59 (y := (⟨"com/example/evenkeel/evenkeel/shuffle/PartitionChunks", "take", "(III)I"⟩ : MethodName)) (by decide) (hw _ (List.mem_of_getElem? (i := 19) rfl)) (hw _ (List.mem_of_getElem? (i := 20) rfl)) (hw _ (List.mem_of_getElem? (i := 22) rfl)) (hw _ (List.mem_of_getElem? (i := 21) rfl)) (hw _ (List.mem_of_getElem? (i := 23) rfl)) (hw _ (List.mem_of_getElem? (i := 3) rfl)) A1_4 (own_rm4 l Z a0 hw b1 b_2 cs_2 e1_4 ys_4 (((p4.toUInt32 >>> ((6 : Int32) &&& 31).toUInt32).toInt32 &&& (1 : Int32))) ((p4 &&& (63 : Int32))) (1048576 : Int32) h4 n0 Z4 A1_4 FF4q0 FF4q1 FF4q2 FF4q3 g_b1 g_b_2 ne_b1_b_2 hy_4 (own_p1 _)) own_pd2 rfl (S := []) rfl (pc' := 62) rfl rfl (W := 0) (Nat.le_of_eq rfl) (by decide) (by decide) (by decide) (by decide) ?_
  intro T5 h5 v5_ X5 q5_
  obtain ⟨e1_5, ys_5, rfl, hy_5, KK5, FF5q0, FF5q1, FF5q2, FF5q3⟩ := q5_
  obtain ⟨r5, hr5⟩ : ∃ z, z = (ownPlace ys_4 e1_4 ((p4.toUInt32 >>> ((6 : Int32) &&& 31).toUInt32).toInt32 &&& (1 : Int32)) (p4 &&& (63 : Int32))) := ⟨_, rfl⟩
  show OwnGo p e below (T5.setTop (mkF m 62 #[.val (.int p1), .val (.int p2), .val (.int p3), .val (.int p4), .val (.int p5), .val (.int (1048576 : Int32)), .val (.ref b1), .unset, .unset, .unset, .unset] [(.int (ownPlace ys_4 e1_4 ((p4.toUInt32 >>> ((6 : Int32) &&& 31).toUInt32).toInt32 &&& (1 : Int32)) (p4 &&& (63 : Int32))))])) RR
  rw [← hr5]
  have Z5 : n0 ≤ h5.size := Nat.le_trans Z4 KK5.1
  have A1_5 := (A1_4).keep KK5
  refine own_pop X5 at_62 (pc' := 63) rfl rfl ?_
  refine own_iload X5 at_63 (pc' := 65) rfl rfl ?_
  refine own_bipush X5 at_65 (pc' := 67) rfl (v := (7 : Int32)) (by decide) ?_
  refine own_iushr X5 at_67 (pc' := 68) rfl ?_
  refine own_ldcInt X5 at_68 (pc' := 70) rfl (hw _ (List.mem_of_getElem? (i := 31) rfl)) ?_
  refine own_iand X5 at_70 (pc' := 71) rfl ?_
  refine own_iconst X5 at_71 (pc' := 72) rfl (v := (3 : Int32)) (by decide) ?_
  refine own_irem X5 at_72 (pc' := 73) rfl (by decide) ?_
  refine own_istoreV X5 at_73 (pc' := 75) rfl (l' := fun v73 => #[.val (.int p1), .val (.int p2), .val (.int p3), .val (.int p4), .val (.int p5), .val (.int (1048576 : Int32)), .val (.ref b1), .val (.int v73), .unset, .unset, .unset]) (fun _ => rfl) ?_
  intro v73 hv73
  refine own_iload X5 at_75 (pc' := 77) rfl rfl ?_
  refine own_bipush X5 at_77 (pc' := 79) rfl (v := (127 : Int32)) (by decide) ?_
  refine own_iand X5 at_79 (pc' := 80) rfl ?_
  refine own_istoreV X5 at_80 (pc' := 82) rfl (l' := fun v80 => #[.val (.int p1), .val (.int p2), .val (.int p3), .val (.int p4), .val (.int p5), .val (.int (1048576 : Int32)), .val (.ref b1), .val (.int v73), .val (.int v80), .unset, .unset]) (fun _ => rfl) ?_
  intro v80 hv80
  refine own_aload X5 at_82 (pc' := 84) rfl rfl rfl ?_
  refine own_iload X5 at_84 (pc' := 86) rfl rfl ?_
  refine own_iload X5 at_86 (pc' := 88) rfl rfl ?_
  refine own_callV (a := b1) (argsL := [(.int v73), (.int v80)]) X5 at_88 (y := (⟨"com/example/evenkeel/evenkeel/shuffle/PartitionChunks", "place", "(II)I"⟩ : MethodName)) (by decide) (hw _ (List.mem_of_getElem? (i := 32) rfl)) (hw _ (List.mem_of_getElem? (i := 33) rfl)) (hw _ (List.mem_of_getElem? (i := 35) rfl)) (hw _ (List.mem_of_getElem? (i := 34) rfl)) (hw _ (List.mem_of_getElem? (i := 36) rfl)) (hw _ (List.mem_of_getElem? (i := 3) rfl)) A1_5 (own_rm6 l Z a0 hw b1 b_2 cs_2 e1_5 ys_5 v73 v80 h5 n0 Z5 A1_5 FF5q0 FF5q1 FF5q2 FF5q3 g_b1 g_b_2 ne_b1_b_2 hy_5 (by rw [hv73]; exact own_p3 _)) own_pd0 rfl (S := []) rfl (pc' := 91) rfl rfl (W := 0) (Nat.le_of_eq rfl) (by decide) (by decide) (by decide) (by decide) ?_
  intro T6 h6 v6_ X6 q6_
  obtain ⟨rfl, rfl⟩ := q6_
  obtain ⟨r6, hr6⟩ : ∃ z, z = (ownPlace ys_5 e1_5 v73 v80) := ⟨_, rfl⟩
  show OwnGo p e below (T6.setTop (mkF m 91 #[.val (.int p1), .val (.int p2), .val (.int p3), .val (.int p4), .val (.int p5), .val (.int (1048576 : Int32)), .val (.ref b1), .val (.int v73), .val (.int v80), .unset, .unset] [(.int (ownPlace ys_5 e1_5 v73 v80))])) RR
  rw [← hr6]
  refine own_istore X6 at_91 (pc' := 93) rfl (l' := #[.val (.int p1), .val (.int p2), .val (.int p3), .val (.int p4), .val (.int p5), .val (.int (1048576 : Int32)), .val (.ref b1), .val (.int v73), .val (.int v80), .val (.int r6), .unset]) rfl ?_
  refine own_aload X6 at_93 (pc' := 95) rfl rfl rfl ?_
  refine own_iload X6 at_95 (pc' := 97) rfl rfl ?_
  refine own_iload X6 at_97 (pc' := 99) rfl rfl ?_
  refine own_iload X6 at_99 (pc' := 101) rfl rfl ?_
  refine own_callV (a := b1) (argsL := [(.int v73), (.int v80), (.int (1048576 : Int32))]) X6 at_101 (y := (⟨"com/example/evenkeel/evenkeel/shuffle/PartitionChunks", "take", "(III)I"⟩ : MethodName)) (by decide) (hw _ (List.mem_of_getElem? (i := 19) rfl)) (hw _ (List.mem_of_getElem? (i := 20) rfl)) (hw _ (List.mem_of_getElem? (i := 22) rfl)) (hw _ (List.mem_of_getElem? (i := 21) rfl)) (hw _ (List.mem_of_getElem? (i := 23) rfl)) (hw _ (List.mem_of_getElem? (i := 3) rfl)) A1_5 (own_rm4 l Z a0 hw b1 b_2 cs_2 e1_5 ys_5 v73 v80 (1048576 : Int32) h5 n0 Z5 A1_5 FF5q0 FF5q1 FF5q2 FF5q3 g_b1 g_b_2 ne_b1_b_2 hy_5 (by rw [hv73]; exact own_p3 _)) own_pd2 rfl (S := []) rfl (pc' := 104) rfl rfl (W := 0) (Nat.le_of_eq rfl) (by decide) (by decide) (by decide) (by decide) ?_
  intro T7 h7 v7_ X7 q7_
  obtain ⟨e1_7, ys_7, rfl, hy_7, KK7, FF7q0, FF7q1, FF7q2, FF7q3⟩ := q7_
  obtain ⟨r7, hr7⟩ : ∃ z, z = (ownPlace ys_5 e1_5 v73 v80) := ⟨_, rfl⟩
  show OwnGo p e below (T7.setTop (mkF m 104 #[.val (.int p1), .val (.int p2), .val (.int p3), .val (.int p4), .val (.int p5), .val (.int (1048576 : Int32)), .val (.ref b1), .val (.int v73), .val (.int v80), .val (.int r6), .unset] [(.int (ownPlace ys_5 e1_5 v73 v80))])) RR
  rw [← hr7]
  have Z7 : n0 ≤ h7.size := Nat.le_trans Z5 KK7.1
  have A1_7 := (A1_5).keep KK7
  refine own_istore X7 at_104 (pc' := 106) rfl (l' := #[.val (.int p1), .val (.int p2), .val (.int p3), .val (.int p4), .val (.int p5), .val (.int (1048576 : Int32)), .val (.ref b1), .val (.int v73), .val (.int v80), .val (.int r6), .val (.int r7)]) rfl ?_
  refine own_iload X7 at_106 (pc' := 108) rfl rfl ?_
  refine own_iload X7 at_108 (pc' := 110) rfl rfl ?_
  refine own_icN X7 at_110 (teq ((by rw [hr6, hr7] : r6 = r7))).2 (pc' := 113) rfl ?_
  refine own_iconst X7 at_113 (pc' := 114) rfl (v := (1 : Int32)) (by decide) ?_
  refine own_goto X7 at_114 (pc' := 118) (by decide) (by decide) ?_
  exact own_retZ X7 at_118 (by decide) rfl (by decide) (by decide)
set_option maxRecDepth 65536 in
set_option maxHeartbeats 40000000 in
theorem own_comes {Post : Tables → Env → Array Value → State → Outcome → State → Prop} (hpost : ∀ tb e args s v u, (limb_1_1.after args s (.returned v) u = true ∧ limb_1_2.after args s (.returned v) u = true ∧ True) → FrameEnd s (.returned v) u (Jvm.fieldLocs frame_1_writes args s ++ Jvm.arrayLocs frame_1_arrays args s ++ Jvm.staticLocs frame_1_statics s) 16 128 → Post tb e args s (.returned v) u) :
    ArmFor flags0 classFile x code maxLocals ret World_1 tables_1 room_1 Calls_1 rest_1 Pre_1 Post := by
  intro l hfl _ _ p e ha hc hk s m args below hf hA hF happ hP
  obtain ⟨hcalls, hrest, hpre⟩ := hP
  obtain ⟨-, -, -, hnamed, -, -, -, hat⟩ := (Spec.applies_iff hf).mp happ
  obtain ⟨hg, hn⟩ := and_e (Cond.before_iff.mp (show (Jvm.Cond.and given_1 narrow_1).before args s = true from hpre))
  obtain ⟨gc, g0⟩ := and_e hg
  obtain ⟨w0_, g1⟩ := and_e g0
  obtain ⟨w1_, g2⟩ := and_e g1
  obtain ⟨w2_, g3⟩ := and_e g2
  obtain ⟨w3_, g4⟩ := and_e g3
  obtain ⟨z0, z1, z2, z3, z4, rfl⟩ : ∃ z0 z1 z2 z3 z4 : Value, args = #[z0, z1, z2, z3, z4] := by
    have hs : args.size = 5 := by simpa [Cond.value, given_1] using gc
    obtain ⟨L⟩ := args
    match L, hs with
    | [z0, z1, z2, z3, z4], _ => exact ⟨z0, z1, z2, z3, z4, rfl⟩
  have hw := fun d (hd : d ∈ tables_1) => atoms_spec (ws := Jvm.Cond.code x code maxLocals ret :: tables_1) hat d (List.mem_cons_of_mem _ hd)
  obtain ⟨i0, ei0⟩ := is_v w0_
  obtain rfl : z0 = (.int i0) := Option.some.inj ei0
  obtain ⟨i1, ei1⟩ := is_v w1_
  obtain rfl : z1 = (.int i1) := Option.some.inj ei1
  obtain ⟨i2, ei2⟩ := is_v w2_
  obtain rfl : z2 = (.int i2) := Option.some.inj ei2
  obtain ⟨i3, ei3⟩ := is_v w3_
  obtain rfl : z3 = (.int i3) := Option.some.inj ei3
  obtain ⟨i4, ei4⟩ := is_v g4
  obtain rfl : z4 = (.int i4) := Option.some.inj ei4
  obtain ⟨n, o, h1, h2, h3, _, L, rfl, ⟨⟨rfl, -⟩, N⟩, hq⟩ := own_rm0 l s _ hw i0 i1 i2 i3 i4  s.heap s.heap.size (Nat.le_refl _)  tables_1 p e ha hc hk s m _ below hf ((Spec.applies_iff_loose hf).mp happ).1 ⟨rfl, State.Warmed39.refl s, rfl⟩ trivial
  exact ⟨n, _, h1, h2, h3, hpost _ _ _ _ _ _ ⟨Cond.after_iff.mpr rfl, Cond.after_iff.mpr (eq_i res_at (Term.int_eval (1)) rfl), trivial⟩ ⟨hq.1, hq.2.1, (hq.2.2.sift fun y hy => Or.inr (N y hy)).mono (by decide) (by decide)⟩⟩
theorem main_1_1 : Claimed_1_1 := own_comes fun _ _ _ _ _ _ h hF => ⟨h.1, hF⟩
theorem main_1_2 : Claimed_1_2 := own_comes fun _ _ _ _ _ _ h hF => ⟨h.2.1, hF⟩
end Jvm.Pilot.@@N@@
namespace Jvm.Pilot.@@N@@
open Jvm Jvm.ClassFile Sem Op Lib Jvm.Free Jvm.Stand Jvm.Pilot.@@N@@.Jvm.D
/-! MADE BY PROGRAM (witnessworld.py) out of the Statement's table words and the real class files: 10 classes; the members and pool entries that the words name. The judged class is class 1, her method 1. -/
namespace start1
open Jvm.ClassFile
def u (s : String) : CpInfo := .utf8 (stringToUtf16 s)
/-- a pool by its gaps: so many unusable entries, then the entry; so many at the end -/
def gap : Nat → List CpInfo → List CpInfo
  | 0, r => r
  | n + 1, r => .unusable :: gap n r
def poolList (es : List (Nat × CpInfo)) (last : Nat) : List CpInfo := es.foldr (fun e r => gap e.1 (e.2 :: r)) (gap last [])
def pool (es : List (Nat × CpInfo)) (last : Nat) : Array CpInfo := ⟨poolList es last⟩
def fileOf (pool : Array CpInfo) (this : Nat) (attrs : Array Attribute := #[]) (ms : Array MethodInfo := #[]) (fl : Nat := 33) (sup : Nat := 0) (ifs : Array Nat := #[]) (fds : Array FieldInfo := #[]) : ClassFile where
  minorVersion := 0
  majorVersion := 65
  constantPool := pool
  accessFlags := fl
  thisClass := this
  superClass := sup
  interfaces := ifs
  fields := fds
  methods := ms
  attributes := attrs
def plain (name : String) (sup : Option ClassId) : Class where
  name := name
  kind := .ordinary
  loader := none
  accessFlags := 33
  super := sup
  interfaces := #[]
  cf := none
  fields := #[]
  methods := #[]
  instanceTypes := #[]
  staticTypes := #[]
  resolved := #[]
  callSites := []
  init := .initialized
  statics := none
  mirror := none

def pool0 : Array CpInfo := pool [(5, u "<init>"), (0, u "()V"), (1, .class_ 10), (1, u "java/lang/Object")] 113

def k0c0 : Code := { maxStack := 0, maxLocals := 1, code := object_method_1_code, exceptionTable := #[], attributes := #[] }
def k0m0 : Method := { name := "<init>", desc := "()V", sig := { parameters := [], returnType := none }, accessFlags := 1, code := some k0c0 }
/-- java/lang/Object -/
def k0 : Class := { plain "java/lang/Object" none with
  accessFlags := 33
  interfaces := #[]
  cf := some (fileOf pool0 8 #[] #[{ accessFlags := 1, nameIndex := 5, descriptorIndex := 6, attributes := #[] }] 33 0 #[] #[])
  fields := #[]
  methods := #[k0m0]
  instanceTypes := #[]
  staticTypes := #[]
  resolved := Array.replicate 124 none
  statics := none }

def pool1 : Array CpInfo := pool [(2, .class_ 4), (1, u "java/lang/Object"), (0, u "<init>"), (0, u "()V"), (0, .integer 1048576), (0, .class_ 9), (0, u "com/example/evenkeel/evenkeel/shuffle/PartitionChunks"), (0, .methodref 8 11), (0, .nameAndType 5 12), (0, u "(II)V"), (0, .methodref 8 14), (0, .nameAndType 15 16), (0, u "take"), (0, u "(III)I"), (0, .integer 65535), (0, .methodref 8 19), (0, .nameAndType 20 21), (0, u "place"), (0, u "(II)I"), (0, .class_ 23), (0, u "com/example/evenkeel/evenkeel/shuffle/PartitionChunksPlacePinLaw"), (2, u "law"), (0, u "(IIIII)Z")] 3

def k1m0 : Method := { name := "<init>", desc := "()V", sig := { parameters := [], returnType := none }, accessFlags := 1, code := none }
def k1c1 : Code := { maxStack := 5, maxLocals := 11, code := code, exceptionTable := #[], attributes := #[] }
def k1m1 : Method := { name := "law", desc := "(IIIII)Z", sig := { parameters := [.int, .int, .int, .int, .int], returnType := some .boolean }, accessFlags := 9, code := some k1c1 }
/-- com/example/evenkeel/evenkeel/shuffle/PartitionChunksPlacePinLaw -/
def k1 : Class := { plain "com/example/evenkeel/evenkeel/shuffle/PartitionChunksPlacePinLaw" (some 0) with
  accessFlags := 49
  interfaces := #[]
  cf := some (fileOf pool1 22 #[] #[{ accessFlags := 1, nameIndex := 5, descriptorIndex := 6, attributes := #[] }, { accessFlags := 9, nameIndex := 26, descriptorIndex := 27, attributes := #[] }] 49 2 #[] #[])
  fields := #[]
  methods := #[k1m0, k1m1]
  instanceTypes := #[]
  staticTypes := #[]
  resolved := Array.replicate 31 none
  statics := none }

def pool2 : Array CpInfo := pool [(1, .methodref 2 3), (0, .class_ 4), (0, .nameAndType 5 6), (0, u "java/lang/Object"), (0, u "<init>"), (0, u "()V"), (0, .methodref 8 9), (0, .class_ 10), (0, .nameAndType 11 12), (0, u "java/lang/Math"), (0, u "max"), (0, u "(II)I"), (0, .fieldref 14 15), (0, .class_ 16), (0, .nameAndType 17 18), (0, u "com/example/evenkeel/evenkeel/shuffle/PartitionChunks"), (0, u "chunkSize"), (0, u "I"), (0, .fieldref 14 20), (0, .nameAndType 21 22), (0, u "chunks"), (0, u "[I"), (0, .fieldref 14 24), (0, .nameAndType 25 18), (0, u "end"), (0, .methodref 14 27), (0, .nameAndType 28 29), (0, u "takeBeyondRoom"), (0, u "(III)I"), (6, .long 4), (1, .long 16), (1, .methodref 8 41), (0, .nameAndType 11 42), (0, u "(JJ)J"), (0, .methodref 8 44), (0, .nameAndType 45 42), (0, u "min"), (0, u "(II)V"), (7, u "place"), (0, u "take")] 6

def k2c0 : Code := { maxStack := 3, maxLocals := 3, code := prog_60_method_1_code, exceptionTable := #[], attributes := #[] }
def k2m0 : Method := { name := "<init>", desc := "(II)V", sig := { parameters := [.int, .int], returnType := none }, accessFlags := 0, code := some k2c0 }
def k2c1 : Code := { maxStack := 3, maxLocals := 5, code := prog_60_method_5_code, exceptionTable := #[], attributes := #[] }
def k2m1 : Method := { name := "place", desc := "(II)I", sig := { parameters := [.int, .int], returnType := some .int }, accessFlags := 0, code := some k2c1 }
def k2c2 : Code := { maxStack := 4, maxLocals := 5, code := prog_60_method_6_code, exceptionTable := #[], attributes := #[] }
def k2m2 : Method := { name := "take", desc := "(III)I", sig := { parameters := [.int, .int, .int], returnType := some .int }, accessFlags := 0, code := some k2c2 }
def k2c3 : Code := { maxStack := 9, maxLocals := 10, code := prog_60_method_10_code, exceptionTable := #[], attributes := #[] }
def k2m3 : Method := { name := "takeBeyondRoom", desc := "(III)I", sig := { parameters := [.int, .int, .int], returnType := some .int }, accessFlags := 2, code := some k2c3 }
/-- com/example/evenkeel/evenkeel/shuffle/PartitionChunks -/
def k2 : Class := { plain "com/example/evenkeel/evenkeel/shuffle/PartitionChunks" (some 0) with
  accessFlags := 48
  interfaces := #[]
  cf := some (fileOf pool2 14 #[] #[{ accessFlags := 0, nameIndex := 5, descriptorIndex := 46, attributes := #[] }, { accessFlags := 0, nameIndex := 54, descriptorIndex := 12, attributes := #[] }, { accessFlags := 0, nameIndex := 55, descriptorIndex := 29, attributes := #[] }, { accessFlags := 2, nameIndex := 28, descriptorIndex := 29, attributes := #[] }] 48 2 #[] #[{ accessFlags := 18, nameIndex := 17, descriptorIndex := 18, attributes := #[] }, { accessFlags := 18, nameIndex := 21, descriptorIndex := 22, attributes := #[] }, { accessFlags := 2, nameIndex := 25, descriptorIndex := 18, attributes := #[] }])
  fields := #[{ name := "chunkSize", type := .int, accessFlags := 18, slot := 0, constantValue := 0 }, { name := "chunks", type := (.array .int), accessFlags := 18, slot := 1, constantValue := 0 }, { name := "end", type := .int, accessFlags := 2, slot := 2, constantValue := 0 }]
  methods := #[k2m0, k2m1, k2m2, k2m3]
  instanceTypes := #[.int, (.array .int), .int]
  staticTypes := #[]
  resolved := Array.replicate 62 none
  statics := none }

def pool3 : Array CpInfo := pool [(1, .class_ 2), (0, u "java/lang/Math"), (1, .class_ 6), (1, u "java/lang/Object"), (0, u "<init>"), (0, u "()V"), (89, .class_ 100), (1, u "java/lang/Math$RandomNumberGeneratorHolder"), (20, u "(JJ)J"), (50, u "negativeZeroFloatBits"), (0, u "J"), (2, u "negativeZeroDoubleBits"), (21, u "max"), (2, u "min"), (43, u "$assertionsDisabled"), (0, u "Z"), (88, u "(II)I"), (2, u "twoToTheDoubleScaleDown"), (0, u "D"), (4, u "twoToTheDoubleScaleUp"), (9, u "E"), (3, u "PI"), (2, u "TAU"), (2, u "DEGREES_TO_RADIANS"), (0, u "RADIANS_TO_DEGREES")] 94

def k3m0 : Method := { name := "<init>", desc := "()V", sig := { parameters := [], returnType := none }, accessFlags := 2, code := none }
def k3c1 : Code := { maxStack := 2, maxLocals := 2, code := jdk_29_method_65_code, exceptionTable := #[], attributes := #[] }
def k3m1 : Method := { name := "max", desc := "(II)I", sig := { parameters := [.int, .int], returnType := some .int }, accessFlags := 9, code := some k3c1 }
def k3c2 : Code := { maxStack := 4, maxLocals := 4, code := jdk_29_method_66_code, exceptionTable := #[], attributes := #[] }
def k3m2 : Method := { name := "max", desc := "(JJ)J", sig := { parameters := [.long, .long], returnType := some .long }, accessFlags := 9, code := some k3c2 }
def k3c3 : Code := { maxStack := 4, maxLocals := 4, code := jdk_29_method_70_code, exceptionTable := #[], attributes := #[] }
def k3m3 : Method := { name := "min", desc := "(JJ)J", sig := { parameters := [.long, .long], returnType := some .long }, accessFlags := 9, code := some k3c3 }
/-- java/lang/Math -/
def k3 : Class := { plain "java/lang/Math" (some 0) with
  accessFlags := 49
  interfaces := #[]
  cf := some (fileOf pool3 1 #[.nestMembers #[98]] #[{ accessFlags := 2, nameIndex := 7, descriptorIndex := 8, attributes := #[] }, { accessFlags := 9, nameIndex := 198, descriptorIndex := 335, attributes := #[] }, { accessFlags := 9, nameIndex := 198, descriptorIndex := 121, attributes := #[] }, { accessFlags := 9, nameIndex := 201, descriptorIndex := 121, attributes := #[] }] 49 4 #[] #[{ accessFlags := 25, nameIndex := 354, descriptorIndex := 339, attributes := #[] }, { accessFlags := 25, nameIndex := 358, descriptorIndex := 339, attributes := #[] }, { accessFlags := 25, nameIndex := 361, descriptorIndex := 339, attributes := #[] }, { accessFlags := 26, nameIndex := 364, descriptorIndex := 339, attributes := #[] }, { accessFlags := 26, nameIndex := 365, descriptorIndex := 339, attributes := #[] }, { accessFlags := 26, nameIndex := 172, descriptorIndex := 173, attributes := #[] }, { accessFlags := 26, nameIndex := 176, descriptorIndex := 173, attributes := #[] }, { accessFlags := 8, nameIndex := 344, descriptorIndex := 339, attributes := #[] }, { accessFlags := 8, nameIndex := 338, descriptorIndex := 339, attributes := #[] }, { accessFlags := 4120, nameIndex := 245, descriptorIndex := 246, attributes := #[] }])
  fields := #[{ name := "E", type := .double, accessFlags := 25, slot := 0, constantValue := 0 }, { name := "PI", type := .double, accessFlags := 25, slot := 1, constantValue := 0 }, { name := "TAU", type := .double, accessFlags := 25, slot := 2, constantValue := 0 }, { name := "DEGREES_TO_RADIANS", type := .double, accessFlags := 26, slot := 3, constantValue := 0 }, { name := "RADIANS_TO_DEGREES", type := .double, accessFlags := 26, slot := 4, constantValue := 0 }, { name := "negativeZeroFloatBits", type := .long, accessFlags := 26, slot := 5, constantValue := 0 }, { name := "negativeZeroDoubleBits", type := .long, accessFlags := 26, slot := 6, constantValue := 0 }, { name := "twoToTheDoubleScaleUp", type := .double, accessFlags := 8, slot := 7, constantValue := 0 }, { name := "twoToTheDoubleScaleDown", type := .double, accessFlags := 8, slot := 8, constantValue := 0 }, { name := "$assertionsDisabled", type := .boolean, accessFlags := 4120, slot := 9, constantValue := 0 }]
  methods := #[k3m0, k3m1, k3m2, k3m3]
  instanceTypes := #[]
  staticTypes := #[.double, .double, .double, .double, .double, .long, .long, .double, .double, .boolean]
  resolved := Array.replicate 460 none
  statics := none }

def pool4 : Array CpInfo := pool [(1, u "java/lang/Cloneable"), (0, .class_ 1), (0, u "java/lang/Object"), (0, .class_ 3)] 3

/-- java/lang/Cloneable -/
def k4 : Class := { plain "java/lang/Cloneable" (some 0) with
  accessFlags := 1537
  interfaces := #[]
  cf := some (fileOf pool4 2 #[] #[] 1537 4 #[] #[])
  fields := #[]
  methods := #[]
  instanceTypes := #[]
  staticTypes := #[]
  resolved := Array.replicate 8 none
  statics := none }

def pool5 : Array CpInfo := pool [(1, u "java/io/Serializable"), (0, .class_ 1), (0, u "java/lang/Object"), (0, .class_ 3)] 3

/-- java/io/Serializable -/
def k5 : Class := { plain "java/io/Serializable" (some 0) with
  accessFlags := 1537
  interfaces := #[]
  cf := some (fileOf pool5 2 #[] #[] 1537 4 #[] #[])
  fields := #[]
  methods := #[]
  instanceTypes := #[]
  staticTypes := #[]
  resolved := Array.replicate 8 none
  statics := none }

/-- the primitive byte -/
def k6 : Class := { plain "byte" none with kind := .primitive 'B', accessFlags := 0x411 }
/-- [B -/
def k7 : Class := { plain "[B" (some 0) with kind := .array 6 .byte, interfaces := #[4, 5], accessFlags := 1041 }

/-- the primitive int -/
def k8 : Class := { plain "int" none with kind := .primitive 'I', accessFlags := 0x411 }
/-- [I -/
def k9 : Class := { plain "[I" (some 0) with kind := .array 8 .int, interfaces := #[4, 5], accessFlags := 1041 }

def heap : Heap := #[]
def classes : Array Class := #[k0, k1, k2, k3, k4, k5, k6, k7, k8, k9]
def interned : List (Array UInt16 × Addr) := []
def slotsUsed : Nat := 0
def theMethod : MethodId := ⟨1, 1⟩
def args0 : Array Value := #[.int 5, .int 5, .int 5, .int 5, .int 5]
def aboutOver (below : List Frame) : State where
  vm := { classes := classes, interned := interned.toArray }
  heap := heap
  slotsUsed := slotsUsed
  threads := #[{ frames := .invoking theMethod args0 :: below }]
def below0 : List Frame := [.native { method := ⟨0, 0⟩, args := #[] }]
def about1 : State := aboutOver below0
def p0 : Program := .bare "" "" ""
def e0 : Env := launch0.env 0 0 0
theorem w_frames : about1.frames = Frame.invoking theMethod args0 :: below0 := rfl
set_option maxRecDepth 65536 in
theorem w_args : argsFit about1.vm theMethod args0 = true := by decide +kernel
set_option maxRecDepth 65536 in
theorem w_heap : heapFits about1 = true := by decide +kernel
set_option maxRecDepth 65536 in
theorem w_runnable : about1.curStatus? = some .runnable := by decide +kernel
set_option maxRecDepth 65536 in
theorem w_alone : about1.alone = true := by decide +kernel
set_option maxRecDepth 65536 in
theorem w_named : about1.methodNamed? x = some theMethod := by decide +kernel
set_option maxRecDepth 65536 in
theorem w_hears : about1.hears theMethod below0 = true := by decide +kernel
set_option maxRecDepth 65536 in
theorem w_ripe : about1.ripe theMethod args0 below0 = true := by decide +kernel
theorem w_running : about1.status = .running := rfl
set_option maxRecDepth 65536 in
theorem w_room : about1.hasRoom e0.platform room_1 = true :=
  launch0.hasRoom_least _ room_1 (by decide +kernel) (by decide +kernel) (by decide +kernel) (by decide +kernel) (by decide +kernel) (by decide +kernel)
theorem allAtoms_all (ts : List Jvm.Cond) (a : Array Jvm.Value) (st : Jvm.State) : (allAtoms ts).before a st = ts.all (fun c => c.before a st) := by
  induction ts with
  | nil => rfl
  | cons c t ih =>
    show (Jvm.Cond.and c (allAtoms t)).before a st = _
    rw [Jvm.Cond.before_and, ih, List.all_cons]
def words1 : List Jvm.Cond := Jvm.Cond.code x code maxLocals ret :: tables_1
/-- a 'code' word, met by the world's own term for the bytes: nothing is compared byte by byte -/
theorem code_word {y : MethodName} {bytes : ByteArray} {mx : Nat} {rt : Option FieldType} {a : Array Value} {s : State} {m : MethodId} {meth : Method} {c : Code} (h1 : s.methodNamed? y = some m) (h2 : s.vm.method? m = some meth) (h3 : meth.code = some c) (h4 : c.code = bytes)
    (h5 : (c.maxLocals == mx && c.exceptionTable.isEmpty && decide (c.maxStack ≤ mostOperands) && decide (meth.sig.returnType = rt) && !meth.locks && decide (parseMethodDescriptor y.desc = some meth.sig)) = true) : (Jvm.Cond.code y bytes mx rt).before a s = true := by
  simp only [Bool.and_eq_true, beq_iff_eq, Bool.not_eq_true', decide_eq_true_eq] at h5
  obtain ⟨⟨⟨⟨⟨g1, g2⟩, g3⟩, g4⟩, g5⟩, g6⟩ := h5
  simp [Cond.before, Cond.holds, Cond.value, h1, h2, h3, h4, g1, g2, g3, g4, g5, g6]
def isCode : Jvm.Cond → Bool
  | .code _ _ _ _ => true
  | _ => false
theorem all_split {L : List Jvm.Cond} {P : Jvm.Cond → Bool} (h1 : L.all (fun c => isCode c || P c) = true) (h2 : ∀ c ∈ L.filter isCode, P c = true) : L.all P = true := by
  refine List.all_eq_true.mpr fun c hc => ?_
  have h := List.all_eq_true.mp h1 c hc
  rcases Bool.eq_false_or_eq_true (isCode c) with hi | hi
  · exact h2 c (List.mem_filter.mpr ⟨hc, hi⟩)
  · simpa [hi] using h
set_option maxRecDepth 65536 in
theorem w_c0 : (Jvm.Cond.code x code maxLocals ret).before args0 about1 = true := code_word (m := ⟨1, 1⟩) (meth := k1m1) (c := k1c1) (by decide +kernel) rfl rfl rfl (by decide +kernel)
set_option maxRecDepth 65536 in
theorem w_c1 : (Jvm.Cond.code ({ cls := "com/example/evenkeel/evenkeel/shuffle/PartitionChunks", name := "<init>", desc := "(II)V" } : Jvm.MethodName) prog_60_method_1_code (3 : Nat) (Option.none : Option Jvm.ClassFile.FieldType)).before args0 about1 = true := code_word (m := ⟨2, 0⟩) (meth := k2m0) (c := k2c0) (by decide +kernel) rfl rfl rfl (by decide +kernel)
set_option maxRecDepth 65536 in
theorem w_c2 : (Jvm.Cond.code ({ cls := "java/lang/Object", name := "<init>", desc := "()V" } : Jvm.MethodName) object_method_1_code (1 : Nat) (Option.none : Option Jvm.ClassFile.FieldType)).before args0 about1 = true := code_word (m := ⟨0, 0⟩) (meth := k0m0) (c := k0c0) (by decide +kernel) rfl rfl rfl (by decide +kernel)
set_option maxRecDepth 65536 in
theorem w_c3 : (Jvm.Cond.code ({ cls := "java/lang/Math", name := "max", desc := "(II)I" } : Jvm.MethodName) jdk_29_method_65_code (2 : Nat) (Option.some Jvm.ClassFile.FieldType.int)).before args0 about1 = true := code_word (m := ⟨3, 1⟩) (meth := k3m1) (c := k3c1) (by decide +kernel) rfl rfl rfl (by decide +kernel)
set_option maxRecDepth 65536 in
theorem w_c4 : (Jvm.Cond.code ({ cls := "com/example/evenkeel/evenkeel/shuffle/PartitionChunks", name := "take", desc := "(III)I" } : Jvm.MethodName) prog_60_method_6_code (5 : Nat) (Option.some Jvm.ClassFile.FieldType.int)).before args0 about1 = true := code_word (m := ⟨2, 2⟩) (meth := k2m2) (c := k2c2) (by decide +kernel) rfl rfl rfl (by decide +kernel)
set_option maxRecDepth 65536 in
theorem w_c5 : (Jvm.Cond.code ({ cls := "com/example/evenkeel/evenkeel/shuffle/PartitionChunks", name := "takeBeyondRoom", desc := "(III)I" } : Jvm.MethodName) prog_60_method_10_code (10 : Nat) (Option.some Jvm.ClassFile.FieldType.int)).before args0 about1 = true := code_word (m := ⟨2, 3⟩) (meth := k2m3) (c := k2c3) (by decide +kernel) rfl rfl rfl (by decide +kernel)
set_option maxRecDepth 65536 in
theorem w_c6 : (Jvm.Cond.code ({ cls := "com/example/evenkeel/evenkeel/shuffle/PartitionChunks", name := "place", desc := "(II)I" } : Jvm.MethodName) prog_60_method_5_code (5 : Nat) (Option.some Jvm.ClassFile.FieldType.int)).before args0 about1 = true := code_word (m := ⟨2, 1⟩) (meth := k2m1) (c := k2c1) (by decide +kernel) rfl rfl rfl (by decide +kernel)
set_option maxRecDepth 65536 in
theorem w_c7 : (Jvm.Cond.code ({ cls := "java/lang/Math", name := "max", desc := "(JJ)J" } : Jvm.MethodName) jdk_29_method_66_code (4 : Nat) (Option.some Jvm.ClassFile.FieldType.long)).before args0 about1 = true := code_word (m := ⟨3, 2⟩) (meth := k3m2) (c := k3c2) (by decide +kernel) rfl rfl rfl (by decide +kernel)
set_option maxRecDepth 65536 in
theorem w_c8 : (Jvm.Cond.code ({ cls := "java/lang/Math", name := "min", desc := "(JJ)J" } : Jvm.MethodName) jdk_29_method_70_code (4 : Nat) (Option.some Jvm.ClassFile.FieldType.long)).before args0 about1 = true := code_word (m := ⟨3, 3⟩) (meth := k3m3) (c := k3c3) (by decide +kernel) rfl rfl rfl (by decide +kernel)
def codes1 : List Jvm.Cond := [Jvm.Cond.code x code maxLocals ret, Jvm.Cond.code ({ cls := "com/example/evenkeel/evenkeel/shuffle/PartitionChunks", name := "<init>", desc := "(II)V" } : Jvm.MethodName) prog_60_method_1_code (3 : Nat) (Option.none : Option Jvm.ClassFile.FieldType), Jvm.Cond.code ({ cls := "java/lang/Object", name := "<init>", desc := "()V" } : Jvm.MethodName) object_method_1_code (1 : Nat) (Option.none : Option Jvm.ClassFile.FieldType), Jvm.Cond.code ({ cls := "java/lang/Math", name := "max", desc := "(II)I" } : Jvm.MethodName) jdk_29_method_65_code (2 : Nat) (Option.some Jvm.ClassFile.FieldType.int), Jvm.Cond.code ({ cls := "com/example/evenkeel/evenkeel/shuffle/PartitionChunks", name := "take", desc := "(III)I" } : Jvm.MethodName) prog_60_method_6_code (5 : Nat) (Option.some Jvm.ClassFile.FieldType.int), Jvm.Cond.code ({ cls := "com/example/evenkeel/evenkeel/shuffle/PartitionChunks", name := "takeBeyondRoom", desc := "(III)I" } : Jvm.MethodName) prog_60_method_10_code (10 : Nat) (Option.some Jvm.ClassFile.FieldType.int), Jvm.Cond.code ({ cls := "com/example/evenkeel/evenkeel/shuffle/PartitionChunks", name := "place", desc := "(II)I" } : Jvm.MethodName) prog_60_method_5_code (5 : Nat) (Option.some Jvm.ClassFile.FieldType.int), Jvm.Cond.code ({ cls := "java/lang/Math", name := "max", desc := "(JJ)J" } : Jvm.MethodName) jdk_29_method_66_code (4 : Nat) (Option.some Jvm.ClassFile.FieldType.long), Jvm.Cond.code ({ cls := "java/lang/Math", name := "min", desc := "(JJ)J" } : Jvm.MethodName) jdk_29_method_70_code (4 : Nat) (Option.some Jvm.ClassFile.FieldType.long)]
set_option maxRecDepth 65536 in
theorem codes_eq : words1.filter isCode = codes1 := rfl
theorem w_codes : ∀ c ∈ words1.filter isCode, c.before args0 about1 = true := by
  rw [codes_eq]
  intro c hc
  simp only [codes1, List.mem_cons, List.not_mem_nil, or_false] at hc
  rcases hc with rfl | rfl | rfl | rfl | rfl | rfl | rfl | rfl | rfl
  · exact w_c0
  · exact w_c1
  · exact w_c2
  · exact w_c3
  · exact w_c4
  · exact w_c5
  · exact w_c6
  · exact w_c7
  · exact w_c8
set_option maxRecDepth 65536 in
theorem w_t1 : (words1.take 24).all (fun c => isCode c || c.before args0 about1) = true := by decide +kernel
set_option maxRecDepth 65536 in
theorem w_t2 : (words1.drop 24).all (fun c => isCode c || c.before args0 about1) = true := by decide +kernel
theorem w_tables : (allAtoms (Jvm.Cond.code x code maxLocals ret :: tables_1)).before args0 about1 = true := by
  rw [allAtoms_all]
  show words1.all (fun c => c.before args0 about1) = true
  refine all_split ?_ w_codes
  rw [← List.take_append_drop 24 words1, List.all_append, w_t1, w_t2]
  rfl
set_option maxRecDepth 65536 in
theorem w_case : (Jvm.Cond.and given_1 narrow_1).before args0 about1 = true := by decide +kernel
theorem w_applies : (headSpec (Jvm.Cond.code x code maxLocals ret :: tables_1) room_1).applies x e0.platform about1 = true :=
  (Spec.applies_iff w_frames).mpr ⟨w_running, w_runnable, w_alone, w_named, w_hears, w_ripe, w_room, w_tables⟩
theorem atStart : AtStart classFile x code maxLocals ret World_1 tables_1 room_1 Calls_1 rest_1 Pre_1 launch0 p0 e0 about1 theMethod args0 below0 :=
  ⟨lists_1, trivial, launch0.admits_env _ _ _, launch0.least_env, fairChoices_fair.cas, fairChoices_fair.clock, w_frames, w_args, w_heap, w_applies, trivial, trivial, w_case⟩
end start1
theorem witness_1 : WitnessClaimed_1 := ⟨start1.p0, start1.e0, start1.about1, start1.theMethod, start1.args0, start1.below0, start1.atStart⟩
end Jvm.Pilot.@@N@@
