import JvmDerived
import JvmDerived.Pilot.@@N@@Statement
import JvmDerived.Pilot.@@N@@Code
set_option linter.unusedVariables false
set_option linter.unusedSimpArgs false
namespace Jvm.Pilot.@@N@@
open Jvm Jvm.ClassFile Sem Op Lib Jvm.Free Jvm.Stand Jvm.LawKit Jvm.RoadKit Bundle Jvm.Pilot.@@N@@.Jvm.D
/-! ## own kit: one walk of a body in continuation style; the library's step laws of one family behind it -/
section OwnKit
variable {p : Program} {l : Launch} {e : Env} {R : Room} {s : State} {m : MethodId} {args : Array Value} {below : List Frame} {meth : Method} {c : Code} {Z : State} {own : String} {bytes : ByteArray} {maxL : Nat} {ret : Option FieldType} {nm : String} {n0 km : Nat} {Q : Option Value → Heap → Prop} {RR : State → Outcome → Prop} {T : State} {h : Heap} {cells slots : Nat} {a0 : Array Value} {pc pc' : Nat} {Ls : Array Slot} {S : List Value}
def OwnGo (p : Program) (e : Env) (below : List Frame) (S : State) (RR : State → Outcome → Prop) : Prop :=
  ∃ s₂ o, Steps p.tables e below S s₂ ∧ s₂.status = .running ∧ Ended s₂ below o ∧ RR s₂ o
theorem own_step {S S' : State} (k : OwnGo p e below S' RR) (h : ∀ t, Steps p.tables e below S' t → Steps p.tables e below S t) : OwnGo p e below S RR := by
  obtain ⟨s₂, o, h1, h2⟩ := k
  exact ⟨s₂, o, h _ h1, h2⟩
/-- the context of one body: what holds all along its walk -/
def OwnCx (p : Program) (l : Launch) (e : Env) (R : Room) (s : State) (m : MethodId) (meth : Method) (c : Code) (Z : State) (own : String) (bytes : ByteArray) (maxL : Nat) (ret : Option FieldType) (nm : String) (n0 km : Nat) (Q : Option Value → Heap → Prop) (RR : State → Outcome → Prop) : Prop :=
  p.tables.exec = Jvm.exec ∧ c.code = bytes ∧ c.maxLocals = maxL ∧ Z.Warmed39 s.vm ∧ s.vm.findClass own = some m.cls ∧ meth.name = nm ∧ meth.sig.returnType = ret ∧ meth.locks = false ∧
  ∀ (U : State) (v : Option Value) (L : List Loc), Q v U.heap → km ≤ U.heap.size → Fr n0 L → s.WarmedH U.vm → s.sameButNew ({ U with vm := s.vm } : State) L R.cells R.slots → RR U (.returned v)
/-- where the walk stands: the state T, its heap h, so many cells and slots made -/
def OwnSt (p : Program) (l : Launch) (e : Env) (R : Room) (s : State) (m : MethodId) (args : Array Value) (below : List Frame) (meth : Method) (c : Code) (Z : State) (own : String) (bytes : ByteArray) (maxL : Nat) (ret : Option FieldType) (nm : String) (n0 km : Nat) (Q : Option Value → Heap → Prop) (RR : State → Outcome → Prop) (T : State) (h : Heap) (cells slots : Nat) : Prop :=
  OwnCx p l e R s m meth c Z own bytes maxL ret nm n0 km Q RR ∧ T.heap = h ∧ km ≤ h.size ∧ ∃ locs, Stand p l e R s m args below meth c T locs cells slots ∧ Fr n0 locs
/-- a body's contract: called with these arguments at the heap h it returns v and leaves a heap, with Q -/
def OwnMet (l : Launch) (Z : State) (y : MethodName) (bytes : ByteArray) (maxL : Nat) (ret : Option FieldType) (rm : Room) (as' : Array Value) (h : Heap) (n0 : Nat) (Q : Option Value → Heap → Prop) : Prop :=
  ∀ ws : List Jvm.Cond, MetFree l y (head1 (Jvm.Cond.code y bytes maxL ret :: ws) rm) (fun a U => a = as' ∧ Z.Warmed39 U.vm ∧ U.heap = h) (fun _ _ _ _ _ => True) (fun _ U o U' => ∃ v L, o = .returned v ∧ ((Q v U'.heap ∧ h.size ≤ U'.heap.size) ∧ Fr n0 L) ∧ FrameEnd U o U' L rm.cells rm.slots)
theorem own_body {y : MethodName} {rm : Room} {as' : Array Value} (hpl : plainFor y = true)
    (body : ∀ (p : Program) (e : Env) (s : State) (m : MethodId) (below : List Frame) (meth : Method) (c : Code) (s₁ : State) (RR : State → Outcome → Prop), OwnSt p l e rm s m as' below meth c Z y.cls bytes maxL ret y.name n0 0 Q RR s₁ h 0 0 → OwnGo p e below (s₁.setTop (entryFrame m as' maxL)) RR) :
    OwnMet l Z y bytes maxL ret rm as' h n0 Q := by
  intro ws
  refine MetFree.of_bodySF hpl hisR ?_
  intro p e s m args below meth c s₁ Bd hml0 hP hK
  obtain ⟨rfl, hZ, hh⟩ := hP
  refine body p e s m below meth c s₁ _ ⟨⟨Bd.exec, Bd.bytes, hml0, hZ, findClass_of_methodNamed Bd.named, (name_of_methodNamed Bd.named Bd.method).1, Bd.returns, Bd.notSynchronized, ?_⟩, by rw [← hh, Bd.state]; rfl, Nat.zero_le _, [], Stand.of_body Bd, Fr.nil n0⟩
  intro U v L hQ _ hN hW hs
  exact ⟨v, L, rfl, ⟨⟨hQ, by rw [← hh]; exact hs.2.1⟩, hN⟩, ⟨_, rfl⟩, hW, hs⟩
theorem own_enter {g g' : JFrame} (q : g = g') (k : OwnGo p e below (T.setTop g') RR) : OwnGo p e below (T.setTop g) RR := q ▸ k
theorem own_ret {v : Option Value} {g : State} (X : OwnSt p l e R s m args below meth c Z own bytes maxL ret nm n0 km Q RR T h cells slots) (hv : ret = none → v = none) (hQ : Q v h) (hc : cells ≤ R.cells) (hl : slots ≤ R.slots)
    (k : ∀ locs, Stand p l e R s m args below meth c T locs cells slots → ∀ fs, (∀ (f : JFrame) (acts : List Action), f.method = m → f.locked = none → f.entered = [] → (doReturn e (T.setTop f) acts v).1 = T.setFrames fs) → Steps p.tables e below g (T.setFrames fs)) : OwnGo p e below g RR := by
  obtain ⟨⟨hx, hby, hml, hZ, hown, hnm, hret, hlk, hR⟩, hh, hkm, locs, X0, N⟩ := X
  obtain ⟨fs, hr, hrun, hended, hW, hsame⟩ := X0.leave (v := v) (fun q => hv (hret ▸ q)) hlk
  exact ⟨_, _, k _ X0 fs hr, hrun, hended, hR _ _ _ (by show Q v T.heap; rw [hh]; exact hQ) (by show km ≤ T.heap.size; rw [hh]; exact hkm) N hW (hsame.mono hc hl)⟩
theorem own_retV (X : OwnSt p l e R s m args below meth c Z own bytes maxL none nm n0 km Q RR T h cells slots) (hd : decode bytes pc = .ok (.return_, 1)) (hQ : Q none h) (hc : cells ≤ R.cells) (hl : slots ≤ R.slots) : OwnGo p e below (T.setTop (mkF m pc Ls [])) RR := by
  refine own_ret X (fun _ => rfl) hQ hc hl fun locs X0 fs hr => ?_
  obtain ⟨⟨hx, hby, hml, hZ, hown, hnm, hret, hlk, hR⟩, hh, -⟩ := X
  exact X0.returnOut hx hret (hb hby hd) hr
theorem own_retI {z : Int32} {rest : List Value} (X : OwnSt p l e R s m args below meth c Z own bytes maxL (some .int) nm n0 km Q RR T h cells slots) (hd : decode bytes pc = .ok (.ireturn, 1)) (hQ : Q (some (.int z)) h) (hc : cells ≤ R.cells) (hl : slots ≤ R.slots) : OwnGo p e below (T.setTop (mkF m pc Ls (.int z :: rest))) RR := by
  refine own_ret X (fun q => nomatch q) hQ hc hl fun locs X0 fs hr => ?_
  obtain ⟨⟨hx, hby, hml, hZ, hown, hnm, hret, hlk, hR⟩, hh, -⟩ := X
  exact retOut X0 hx hret rfl (Or.inl ⟨rfl, Or.inl rfl, z, rfl⟩) (hb hby hd) hr
theorem own_retJ {z : Int64} {rest : List Value} (X : OwnSt p l e R s m args below meth c Z own bytes maxL (some .long) nm n0 km Q RR T h cells slots) (hd : decode bytes pc = .ok (.lreturn, 1)) (hQ : Q (some (.long z)) h) (hc : cells ≤ R.cells) (hl : slots ≤ R.slots) : OwnGo p e below (T.setTop (mkF m pc Ls (.long z :: rest))) RR := by
  refine own_ret X (fun q => nomatch q) hQ hc hl fun locs X0 fs hr => ?_
  obtain ⟨⟨hx, hby, hml, hZ, hown, hnm, hret, hlk, hR⟩, hh, -⟩ := X
  exact retOut X0 hx hret rfl (Or.inr (Or.inl ⟨rfl, rfl, z, rfl⟩)) (hb hby hd) hr
theorem own_retA {v : Value} {t : FieldType} {rest : List Value} (X : OwnSt p l e R s m args below meth c Z own bytes maxL (some t) nm n0 km Q RR T h cells slots) (ht : t.isReference = true) (hv : v.isRef = true) (hn : narrow t v = v) (hd : decode bytes pc = .ok (.areturn, 1)) (hQ : Q (some v) h) (hc : cells ≤ R.cells) (hl : slots ≤ R.slots) : OwnGo p e below (T.setTop (mkF m pc Ls (v :: rest))) RR := by
  refine own_ret X (fun q => nomatch q) hQ hc hl fun locs X0 fs hr => ?_
  obtain ⟨⟨hx, hby, hml, hZ, hown, hnm, hret, hlk, hR⟩, hh, -⟩ := X
  exact retOut X0 hx hret hn (Or.inr (Or.inr (Or.inr (Or.inr ⟨rfl, ht, hv⟩)))) (hb hby hd) hr
theorem own_retZ {z : Int32} {rest : List Value} (X : OwnSt p l e R s m args below meth c Z own bytes maxL (some .boolean) nm n0 km Q RR T h cells slots) (hd : decode bytes pc = .ok (.ireturn, 1)) (hz : z &&& 1 = z) (hQ : Q (some (.int z)) h) (hc : cells ≤ R.cells) (hl : slots ≤ R.slots) : OwnGo p e below (T.setTop (mkF m pc Ls (.int z :: rest))) RR := by
  refine own_ret X (fun q => nomatch q) hQ hc hl fun locs X0 fs hr => ?_
  obtain ⟨⟨hx, hby, hml, hZ, hown, hnm, hret, hlk, hR⟩, hh, -⟩ := X
  exact retOut X0 hx hret (by show Value.int (z &&& 1) = _; rw [hz]) (Or.inl ⟨rfl, Or.inr (Or.inl rfl), z, rfl⟩) (hb hby hd) hr
theorem OwnSt.here (X : OwnSt p l e R s m args below meth c Z own bytes maxL ret nm n0 km Q RR T h cells slots) : At T m c below := X.2.2.2.elim fun _ q => q.1.here
theorem OwnSt.hx (X : OwnSt p l e R s m args below meth c Z own bytes maxL ret nm n0 km Q RR T h cells slots) : p.tables.exec = Jvm.exec := X.1.1
theorem OwnSt.by' (X : OwnSt p l e R s m args below meth c Z own bytes maxL ret nm n0 km Q RR T h cells slots) : c.code = bytes := X.1.2.1
theorem OwnSt.hZ (X : OwnSt p l e R s m args below meth c Z own bytes maxL ret nm n0 km Q RR T h cells slots) : Z.Warmed39 s.vm := X.1.2.2.2.1
theorem own_aloadN {k : Fin 4} {v : Value} (X : OwnSt p l e R s m args below meth c Z own bytes maxL ret nm n0 km Q RR T h cells slots) (hd : decode bytes pc = .ok (.aload_n k, 1)) (hp : pc + 1 = pc') (hl : Ls[k.val]? = some (.val v)) (hv : v.isRef = true) (k : OwnGo p e below (T.setTop (mkF m pc' Ls (v :: S))) RR) : OwnGo p e below (T.setTop (mkF m pc Ls (S))) RR := by
  subst hp
  exact own_step k fun t k => XS.aloadN X.here X.hx rfl (hb X.by' hd) hl hv k
theorem own_aload {k : Nat} {v : Value} (X : OwnSt p l e R s m args below meth c Z own bytes maxL ret nm n0 km Q RR T h cells slots) (hd : decode bytes pc = .ok (.aload k, 2)) (hp : pc + 2 = pc') (hl : Ls[k]? = some (.val v)) (hv : v.isRef = true) (k : OwnGo p e below (T.setTop (mkF m pc' Ls (v :: S))) RR) : OwnGo p e below (T.setTop (mkF m pc Ls (S))) RR := by
  subst hp
  exact own_step k fun t k => XS.aload X.here X.hx rfl (hb X.by' hd) hl hv k
theorem own_iloadN {k : Fin 4} {v : Int32} (X : OwnSt p l e R s m args below meth c Z own bytes maxL ret nm n0 km Q RR T h cells slots) (hd : decode bytes pc = .ok (.iload_n k, 1)) (hp : pc + 1 = pc') (hl : Ls[k.val]? = some (.val (.int v))) (k : OwnGo p e below (T.setTop (mkF m pc' Ls (.int v :: S))) RR) : OwnGo p e below (T.setTop (mkF m pc Ls (S))) RR := by
  subst hp
  exact own_step k fun t k => XS.iloadN X.here X.hx rfl (hb X.by' hd) hl k
theorem own_iload {k : Nat} {v : Int32} (X : OwnSt p l e R s m args below meth c Z own bytes maxL ret nm n0 km Q RR T h cells slots) (hd : decode bytes pc = .ok (.iload k, 2)) (hp : pc + 2 = pc') (hl : Ls[k]? = some (.val (.int v))) (k : OwnGo p e below (T.setTop (mkF m pc' Ls (.int v :: S))) RR) : OwnGo p e below (T.setTop (mkF m pc Ls (S))) RR := by
  subst hp
  exact own_step k fun t k => XS.iload X.here X.hx rfl (hb X.by' hd) hl k
theorem own_lloadN {k : Fin 4} {v : Int64} (X : OwnSt p l e R s m args below meth c Z own bytes maxL ret nm n0 km Q RR T h cells slots) (hd : decode bytes pc = .ok (.lload_n k, 1)) (hp : pc + 1 = pc') (hl : Ls[k.val]? = some (.val (.long v))) (k : OwnGo p e below (T.setTop (mkF m pc' Ls (.long v :: S))) RR) : OwnGo p e below (T.setTop (mkF m pc Ls (S))) RR := by
  subst hp
  exact own_step k fun t k => XS.lloadN X.here X.hx rfl (hb X.by' hd) hl k
theorem own_lload {k : Nat} {v : Int64} (X : OwnSt p l e R s m args below meth c Z own bytes maxL ret nm n0 km Q RR T h cells slots) (hd : decode bytes pc = .ok (.lload k, 2)) (hp : pc + 2 = pc') (hl : Ls[k]? = some (.val (.long v))) (k : OwnGo p e below (T.setTop (mkF m pc' Ls (.long v :: S))) RR) : OwnGo p e below (T.setTop (mkF m pc Ls (S))) RR := by
  subst hp
  exact own_step k fun t k => XS.lload X.here X.hx rfl (hb X.by' hd) hl k
theorem own_iconst {i : Int} {v : Int32} (X : OwnSt p l e R s m args below meth c Z own bytes maxL ret nm n0 km Q RR T h cells slots) (hd : decode bytes pc = .ok (.iconst i, 1)) (hp : pc + 1 = pc') (hv : Int32.ofInt i = v) (k : OwnGo p e below (T.setTop (mkF m pc' Ls (.int v :: S))) RR) : OwnGo p e below (T.setTop (mkF m pc Ls (S))) RR := by
  subst hp
  subst hv
  exact own_step k fun t k => XS.iconst X.here X.hx rfl (hb X.by' hd) k
theorem own_bipush {i : Int} {v : Int32} (X : OwnSt p l e R s m args below meth c Z own bytes maxL ret nm n0 km Q RR T h cells slots) (hd : decode bytes pc = .ok (.bipush i, 2)) (hp : pc + 2 = pc') (hv : (Int8.ofInt i).toInt32 = v) (k : OwnGo p e below (T.setTop (mkF m pc' Ls (.int v :: S))) RR) : OwnGo p e below (T.setTop (mkF m pc Ls (S))) RR := by
  subst hp
  subst hv
  exact own_step k fun t k => XS.bipush X.here X.hx rfl (hb X.by' hd) k
theorem own_sipush {i : Int} {v : Int32} (X : OwnSt p l e R s m args below meth c Z own bytes maxL ret nm n0 km Q RR T h cells slots) (hd : decode bytes pc = .ok (.sipush i, 3)) (hp : pc + 3 = pc') (hv : (Int16.ofInt i).toInt32 = v) (k : OwnGo p e below (T.setTop (mkF m pc' Ls (.int v :: S))) RR) : OwnGo p e below (T.setTop (mkF m pc Ls (S))) RR := by
  subst hp
  subst hv
  exact own_step k fun t k => XS.sipush X.here X.hx rfl (hb X.by' hd) k
theorem own_lconst {i : Fin 2} {v : Int64} (X : OwnSt p l e R s m args below meth c Z own bytes maxL ret nm n0 km Q RR T h cells slots) (hd : decode bytes pc = .ok (.lconst i, 1)) (hp : pc + 1 = pc') (hv : Int64.ofNat i = v) (k : OwnGo p e below (T.setTop (mkF m pc' Ls (.long v :: S))) RR) : OwnGo p e below (T.setTop (mkF m pc Ls (S))) RR := by
  subst hp
  subst hv
  exact own_step k fun t k => XS.lconst X.here X.hx rfl (hb X.by' hd) k
theorem own_aconst_null  (X : OwnSt p l e R s m args below meth c Z own bytes maxL ret nm n0 km Q RR T h cells slots) (hd : decode bytes pc = .ok (.aconst_null, 1)) (hp : pc + 1 = pc')  (k : OwnGo p e below (T.setTop (mkF m pc' Ls (.null :: S))) RR) : OwnGo p e below (T.setTop (mkF m pc Ls (S))) RR := by
  subst hp
  exact own_step k fun t k => XS.aconstNull X.here X.hx rfl (hb X.by' hd) k
theorem own_iadd {x y : Int32} (X : OwnSt p l e R s m args below meth c Z own bytes maxL ret nm n0 km Q RR T h cells slots) (hd : decode bytes pc = .ok (.iadd, 1)) (hp : pc + 1 = pc')  (k : OwnGo p e below (T.setTop (mkF m pc' Ls (.int (x + y) :: S))) RR) : OwnGo p e below (T.setTop (mkF m pc Ls (.int y :: .int x :: S))) RR := by
  subst hp
  exact own_step k fun t k => XS.iadd X.here X.hx rfl (hb X.by' hd) rfl k
theorem own_isub {x y : Int32} (X : OwnSt p l e R s m args below meth c Z own bytes maxL ret nm n0 km Q RR T h cells slots) (hd : decode bytes pc = .ok (.isub, 1)) (hp : pc + 1 = pc')  (k : OwnGo p e below (T.setTop (mkF m pc' Ls (.int (x - y) :: S))) RR) : OwnGo p e below (T.setTop (mkF m pc Ls (.int y :: .int x :: S))) RR := by
  subst hp
  exact own_step k fun t k => XS.isub X.here X.hx rfl (hb X.by' hd) rfl k
theorem own_imul {x y : Int32} (X : OwnSt p l e R s m args below meth c Z own bytes maxL ret nm n0 km Q RR T h cells slots) (hd : decode bytes pc = .ok (.imul, 1)) (hp : pc + 1 = pc')  (k : OwnGo p e below (T.setTop (mkF m pc' Ls (.int (x * y) :: S))) RR) : OwnGo p e below (T.setTop (mkF m pc Ls (.int y :: .int x :: S))) RR := by
  subst hp
  exact own_step k fun t k => XS.imul X.here X.hx rfl (hb X.by' hd) rfl k
theorem own_iand {x y : Int32} (X : OwnSt p l e R s m args below meth c Z own bytes maxL ret nm n0 km Q RR T h cells slots) (hd : decode bytes pc = .ok (.iand, 1)) (hp : pc + 1 = pc')  (k : OwnGo p e below (T.setTop (mkF m pc' Ls (.int (x &&& y) :: S))) RR) : OwnGo p e below (T.setTop (mkF m pc Ls (.int y :: .int x :: S))) RR := by
  subst hp
  exact own_step k fun t k => XS.iand X.here X.hx rfl (hb X.by' hd) rfl k
theorem own_ior {x y : Int32} (X : OwnSt p l e R s m args below meth c Z own bytes maxL ret nm n0 km Q RR T h cells slots) (hd : decode bytes pc = .ok (.ior, 1)) (hp : pc + 1 = pc')  (k : OwnGo p e below (T.setTop (mkF m pc' Ls (.int (x ||| y) :: S))) RR) : OwnGo p e below (T.setTop (mkF m pc Ls (.int y :: .int x :: S))) RR := by
  subst hp
  exact own_step k fun t k => XS.ior X.here X.hx rfl (hb X.by' hd) rfl k
theorem own_ixor {x y : Int32} (X : OwnSt p l e R s m args below meth c Z own bytes maxL ret nm n0 km Q RR T h cells slots) (hd : decode bytes pc = .ok (.ixor, 1)) (hp : pc + 1 = pc')  (k : OwnGo p e below (T.setTop (mkF m pc' Ls (.int (x ^^^ y) :: S))) RR) : OwnGo p e below (T.setTop (mkF m pc Ls (.int y :: .int x :: S))) RR := by
  subst hp
  exact own_step k fun t k => XS.ixor X.here X.hx rfl (hb X.by' hd) rfl k
theorem own_ishl {x y : Int32} (X : OwnSt p l e R s m args below meth c Z own bytes maxL ret nm n0 km Q RR T h cells slots) (hd : decode bytes pc = .ok (.ishl, 1)) (hp : pc + 1 = pc')  (k : OwnGo p e below (T.setTop (mkF m pc' Ls (.int (x <<< (y &&& 31)) :: S))) RR) : OwnGo p e below (T.setTop (mkF m pc Ls (.int y :: .int x :: S))) RR := by
  subst hp
  exact own_step k fun t k => XS.ishl X.here X.hx rfl (hb X.by' hd) rfl k
theorem own_ishr {x y : Int32} (X : OwnSt p l e R s m args below meth c Z own bytes maxL ret nm n0 km Q RR T h cells slots) (hd : decode bytes pc = .ok (.ishr, 1)) (hp : pc + 1 = pc')  (k : OwnGo p e below (T.setTop (mkF m pc' Ls (.int (x >>> (y &&& 31)) :: S))) RR) : OwnGo p e below (T.setTop (mkF m pc Ls (.int y :: .int x :: S))) RR := by
  subst hp
  exact own_step k fun t k => XS.ishr X.here X.hx rfl (hb X.by' hd) rfl k
theorem own_iushr {x y : Int32} (X : OwnSt p l e R s m args below meth c Z own bytes maxL ret nm n0 km Q RR T h cells slots) (hd : decode bytes pc = .ok (.iushr, 1)) (hp : pc + 1 = pc')  (k : OwnGo p e below (T.setTop (mkF m pc' Ls (.int ((x.toUInt32 >>> (y &&& 31).toUInt32).toInt32) :: S))) RR) : OwnGo p e below (T.setTop (mkF m pc Ls (.int y :: .int x :: S))) RR := by
  subst hp
  exact own_step k fun t k => XS.iushr X.here X.hx rfl (hb X.by' hd) rfl k
theorem own_idiv {x y : Int32} (X : OwnSt p l e R s m args below meth c Z own bytes maxL ret nm n0 km Q RR T h cells slots) (hd : decode bytes pc = .ok (.idiv, 1)) (hp : pc + 1 = pc') (hy : y ≠ 0) (k : OwnGo p e below (T.setTop (mkF m pc' Ls (.int (x / y) :: S))) RR) : OwnGo p e below (T.setTop (mkF m pc Ls (.int y :: .int x :: S))) RR := by
  subst hp
  exact own_step k fun t k => XS.idiv X.here X.hx rfl (hb X.by' hd) rfl hy k
theorem own_irem {x y : Int32} (X : OwnSt p l e R s m args below meth c Z own bytes maxL ret nm n0 km Q RR T h cells slots) (hd : decode bytes pc = .ok (.irem, 1)) (hp : pc + 1 = pc') (hy : y ≠ 0) (k : OwnGo p e below (T.setTop (mkF m pc' Ls (.int (x % y) :: S))) RR) : OwnGo p e below (T.setTop (mkF m pc Ls (.int y :: .int x :: S))) RR := by
  subst hp
  exact own_step k fun t k => XS.irem X.here X.hx rfl (hb X.by' hd) rfl hy (by rw [irem_eq_mod]; exact k)
theorem own_ladd {x y : Int64} (X : OwnSt p l e R s m args below meth c Z own bytes maxL ret nm n0 km Q RR T h cells slots) (hd : decode bytes pc = .ok (.ladd, 1)) (hp : pc + 1 = pc')  (k : OwnGo p e below (T.setTop (mkF m pc' Ls (.long (x + y) :: S))) RR) : OwnGo p e below (T.setTop (mkF m pc Ls (.long y :: .long x :: S))) RR := by
  subst hp
  exact own_step k fun t k => XS.ladd X.here X.hx rfl (hb X.by' hd) rfl k
theorem own_lsub {x y : Int64} (X : OwnSt p l e R s m args below meth c Z own bytes maxL ret nm n0 km Q RR T h cells slots) (hd : decode bytes pc = .ok (.lsub, 1)) (hp : pc + 1 = pc')  (k : OwnGo p e below (T.setTop (mkF m pc' Ls (.long (x - y) :: S))) RR) : OwnGo p e below (T.setTop (mkF m pc Ls (.long y :: .long x :: S))) RR := by
  subst hp
  exact own_step k fun t k => XS.lsub X.here X.hx rfl (hb X.by' hd) rfl k
theorem own_lmul {x y : Int64} (X : OwnSt p l e R s m args below meth c Z own bytes maxL ret nm n0 km Q RR T h cells slots) (hd : decode bytes pc = .ok (.lmul, 1)) (hp : pc + 1 = pc')  (k : OwnGo p e below (T.setTop (mkF m pc' Ls (.long (x * y) :: S))) RR) : OwnGo p e below (T.setTop (mkF m pc Ls (.long y :: .long x :: S))) RR := by
  subst hp
  exact own_step k fun t k => XS.lmul X.here X.hx rfl (hb X.by' hd) rfl k
theorem own_land {x y : Int64} (X : OwnSt p l e R s m args below meth c Z own bytes maxL ret nm n0 km Q RR T h cells slots) (hd : decode bytes pc = .ok (.land, 1)) (hp : pc + 1 = pc')  (k : OwnGo p e below (T.setTop (mkF m pc' Ls (.long (x &&& y) :: S))) RR) : OwnGo p e below (T.setTop (mkF m pc Ls (.long y :: .long x :: S))) RR := by
  subst hp
  exact own_step k fun t k => XS.land X.here X.hx rfl (hb X.by' hd) rfl k
theorem own_lor {x y : Int64} (X : OwnSt p l e R s m args below meth c Z own bytes maxL ret nm n0 km Q RR T h cells slots) (hd : decode bytes pc = .ok (.lor, 1)) (hp : pc + 1 = pc')  (k : OwnGo p e below (T.setTop (mkF m pc' Ls (.long (x ||| y) :: S))) RR) : OwnGo p e below (T.setTop (mkF m pc Ls (.long y :: .long x :: S))) RR := by
  subst hp
  exact own_step k fun t k => XS.lor X.here X.hx rfl (hb X.by' hd) rfl k
theorem own_lxor {x y : Int64} (X : OwnSt p l e R s m args below meth c Z own bytes maxL ret nm n0 km Q RR T h cells slots) (hd : decode bytes pc = .ok (.lxor, 1)) (hp : pc + 1 = pc')  (k : OwnGo p e below (T.setTop (mkF m pc' Ls (.long (x ^^^ y) :: S))) RR) : OwnGo p e below (T.setTop (mkF m pc Ls (.long y :: .long x :: S))) RR := by
  subst hp
  exact own_step k fun t k => XS.lxor X.here X.hx rfl (hb X.by' hd) rfl k
theorem own_ldiv {x y : Int64} (X : OwnSt p l e R s m args below meth c Z own bytes maxL ret nm n0 km Q RR T h cells slots) (hd : decode bytes pc = .ok (.ldiv, 1)) (hp : pc + 1 = pc') (hy : y ≠ 0) (k : OwnGo p e below (T.setTop (mkF m pc' Ls (.long (x / y) :: S))) RR) : OwnGo p e below (T.setTop (mkF m pc Ls (.long y :: .long x :: S))) RR := by
  subst hp
  exact own_step k fun t k => XS.ldiv X.here X.hx rfl (hb X.by' hd) rfl hy k
theorem own_lrem {x y : Int64} (X : OwnSt p l e R s m args below meth c Z own bytes maxL ret nm n0 km Q RR T h cells slots) (hd : decode bytes pc = .ok (.lrem, 1)) (hp : pc + 1 = pc') (hy : y ≠ 0) (k : OwnGo p e below (T.setTop (mkF m pc' Ls (.long (x - (x / y) * y) :: S))) RR) : OwnGo p e below (T.setTop (mkF m pc Ls (.long y :: .long x :: S))) RR := by
  subst hp
  exact own_step k fun t k => XS.lrem X.here X.hx rfl (hb X.by' hd) rfl hy k
theorem own_lshl {x : Int64} {y : Int32} (X : OwnSt p l e R s m args below meth c Z own bytes maxL ret nm n0 km Q RR T h cells slots) (hd : decode bytes pc = .ok (.lshl, 1)) (hp : pc + 1 = pc')  (k : OwnGo p e below (T.setTop (mkF m pc' Ls (.long (x <<< (y &&& 0x3f).toInt64) :: S))) RR) : OwnGo p e below (T.setTop (mkF m pc Ls (.int y :: .long x :: S))) RR := by
  subst hp
  exact own_step k fun t k => XS.lshl X.here X.hx rfl (hb X.by' hd) rfl k
theorem own_lshr {x : Int64} {y : Int32} (X : OwnSt p l e R s m args below meth c Z own bytes maxL ret nm n0 km Q RR T h cells slots) (hd : decode bytes pc = .ok (.lshr, 1)) (hp : pc + 1 = pc')  (k : OwnGo p e below (T.setTop (mkF m pc' Ls (.long (x >>> (y &&& 0x3f).toInt64) :: S))) RR) : OwnGo p e below (T.setTop (mkF m pc Ls (.int y :: .long x :: S))) RR := by
  subst hp
  exact own_step k fun t k => XS.lshr X.here X.hx rfl (hb X.by' hd) rfl k
theorem own_lushr {x : Int64} {y : Int32} (X : OwnSt p l e R s m args below meth c Z own bytes maxL ret nm n0 km Q RR T h cells slots) (hd : decode bytes pc = .ok (.lushr, 1)) (hp : pc + 1 = pc')  (k : OwnGo p e below (T.setTop (mkF m pc' Ls (.long ((x.toUInt64 >>> (y &&& 0x3f).toInt64.toUInt64).toInt64) :: S))) RR) : OwnGo p e below (T.setTop (mkF m pc Ls (.int y :: .long x :: S))) RR := by
  subst hp
  exact own_step k fun t k => XS.lushr X.here X.hx rfl (hb X.by' hd) rfl k
theorem own_ineg {x : Int32} (X : OwnSt p l e R s m args below meth c Z own bytes maxL ret nm n0 km Q RR T h cells slots) (hd : decode bytes pc = .ok (.ineg, 1)) (hp : pc + 1 = pc')  (k : OwnGo p e below (T.setTop (mkF m pc' Ls (.int (-x) :: S))) RR) : OwnGo p e below (T.setTop (mkF m pc Ls (.int x :: S))) RR := by
  subst hp
  exact own_step k fun t k => XS.ineg X.here X.hx rfl (hb X.by' hd) rfl k
theorem own_lneg {x : Int64} (X : OwnSt p l e R s m args below meth c Z own bytes maxL ret nm n0 km Q RR T h cells slots) (hd : decode bytes pc = .ok (.lneg, 1)) (hp : pc + 1 = pc')  (k : OwnGo p e below (T.setTop (mkF m pc' Ls (.long (-x) :: S))) RR) : OwnGo p e below (T.setTop (mkF m pc Ls (.long x :: S))) RR := by
  subst hp
  exact own_step k fun t k => XS.lneg X.here X.hx rfl (hb X.by' hd) rfl k
theorem own_i2l {x : Int32} (X : OwnSt p l e R s m args below meth c Z own bytes maxL ret nm n0 km Q RR T h cells slots) (hd : decode bytes pc = .ok (.i2l, 1)) (hp : pc + 1 = pc')  (k : OwnGo p e below (T.setTop (mkF m pc' Ls (.long (x.toInt64) :: S))) RR) : OwnGo p e below (T.setTop (mkF m pc Ls (.int x :: S))) RR := by
  subst hp
  exact own_step k fun t k => XS.i2l X.here X.hx rfl (hb X.by' hd) rfl k
theorem own_l2i {x : Int64} (X : OwnSt p l e R s m args below meth c Z own bytes maxL ret nm n0 km Q RR T h cells slots) (hd : decode bytes pc = .ok (.l2i, 1)) (hp : pc + 1 = pc')  (k : OwnGo p e below (T.setTop (mkF m pc' Ls (.int (x.toInt32) :: S))) RR) : OwnGo p e below (T.setTop (mkF m pc Ls (.long x :: S))) RR := by
  subst hp
  exact own_step k fun t k => XS.l2i X.here X.hx rfl (hb X.by' hd) rfl k
theorem own_i2b {x : Int32} (X : OwnSt p l e R s m args below meth c Z own bytes maxL ret nm n0 km Q RR T h cells slots) (hd : decode bytes pc = .ok (.i2b, 1)) (hp : pc + 1 = pc')  (k : OwnGo p e below (T.setTop (mkF m pc' Ls (.int (x.toInt8.toInt32) :: S))) RR) : OwnGo p e below (T.setTop (mkF m pc Ls (.int x :: S))) RR := by
  subst hp
  exact own_step k fun t k => XS.i2b X.here X.hx rfl (hb X.by' hd) rfl k
theorem own_i2s {x : Int32} (X : OwnSt p l e R s m args below meth c Z own bytes maxL ret nm n0 km Q RR T h cells slots) (hd : decode bytes pc = .ok (.i2s, 1)) (hp : pc + 1 = pc')  (k : OwnGo p e below (T.setTop (mkF m pc' Ls (.int (x.toInt16.toInt32) :: S))) RR) : OwnGo p e below (T.setTop (mkF m pc Ls (.int x :: S))) RR := by
  subst hp
  exact own_step k fun t k => XS.i2s X.here X.hx rfl (hb X.by' hd) rfl k
theorem own_i2c {x : Int32} (X : OwnSt p l e R s m args below meth c Z own bytes maxL ret nm n0 km Q RR T h cells slots) (hd : decode bytes pc = .ok (.i2c, 1)) (hp : pc + 1 = pc')  (k : OwnGo p e below (T.setTop (mkF m pc' Ls (.int (x.toUInt32.toUInt16.toUInt32.toInt32) :: S))) RR) : OwnGo p e below (T.setTop (mkF m pc Ls (.int x :: S))) RR := by
  subst hp
  exact own_step k fun t k => XS.i2c X.here X.hx rfl (hb X.by' hd) rfl k
theorem own_dup {x : Value} (X : OwnSt p l e R s m args below meth c Z own bytes maxL ret nm n0 km Q RR T h cells slots) (hd : decode bytes pc = .ok (.dup, 1)) (hp : pc + 1 = pc') (hc : x.category = 1) (k : OwnGo p e below (T.setTop (mkF m pc' Ls (x :: x :: S))) RR) : OwnGo p e below (T.setTop (mkF m pc Ls (x :: S))) RR := by
  subst hp
  exact own_step k fun t k => XS.dup X.here X.hx rfl (hb X.by' hd) rfl hc k
theorem own_pop {x : Value} (X : OwnSt p l e R s m args below meth c Z own bytes maxL ret nm n0 km Q RR T h cells slots) (hd : decode bytes pc = .ok (.pop, 1)) (hp : pc + 1 = pc') (hc : x.category = 1) (k : OwnGo p e below (T.setTop (mkF m pc' Ls (S))) RR) : OwnGo p e below (T.setTop (mkF m pc Ls (x :: S))) RR := by
  subst hp
  exact own_step k fun t k => XS.pop X.here X.hx rfl (hb X.by' hd) rfl hc k
theorem own_dup_x1 {x y : Value} (X : OwnSt p l e R s m args below meth c Z own bytes maxL ret nm n0 km Q RR T h cells slots) (hd : decode bytes pc = .ok (.dup_x1, 1)) (hp : pc + 1 = pc') (hc : x.category = 1) (hc' : y.category = 1) (k : OwnGo p e below (T.setTop (mkF m pc' Ls (x :: y :: x :: S))) RR) : OwnGo p e below (T.setTop (mkF m pc Ls (x :: y :: S))) RR := by
  subst hp
  exact own_step k fun t k => XS.dupX1 X.here X.hx rfl (hb X.by' hd) rfl hc hc' k
theorem own_istoreN {k : Fin 4} {x : Int32} {l' : Array Slot} (X : OwnSt p l e R s m args below meth c Z own bytes maxL ret nm n0 km Q RR T h cells slots) (hd : decode bytes pc = .ok (.istore_n k, 1)) (hp : pc + 1 = pc') (hl : storeLocals Ls k.val (.int x) = some l') (k : OwnGo p e below (T.setTop (mkF m pc' l' (S))) RR) : OwnGo p e below (T.setTop (mkF m pc Ls (.int x :: S))) RR := by
  subst hp
  exact own_step k fun t k => XS.istoreN X.here X.hx rfl (hb X.by' hd) rfl hl k
theorem own_istoreNV {k : Fin 4} {x : Int32} {l' : Int32 → Array Slot} (X : OwnSt p l e R s m args below meth c Z own bytes maxL ret nm n0 km Q RR T h cells slots) (hd : decode bytes pc = .ok (.istore_n k, 1)) (hp : pc + 1 = pc') (hl : ∀ v, storeLocals Ls k.val (.int v) = some (l' v)) (k : ∀ v, v = x → OwnGo p e below (T.setTop (mkF m pc' (l' v) (S))) RR) : OwnGo p e below (T.setTop (mkF m pc Ls (.int x :: S))) RR := by
  subst hp
  exact own_step (k _ rfl) fun t k => XS.istoreN X.here X.hx rfl (hb X.by' hd) rfl (hl _) k
theorem own_istore {k : Nat} {x : Int32} {l' : Array Slot} (X : OwnSt p l e R s m args below meth c Z own bytes maxL ret nm n0 km Q RR T h cells slots) (hd : decode bytes pc = .ok (.istore k, 2)) (hp : pc + 2 = pc') (hl : storeLocals Ls k (.int x) = some l') (k : OwnGo p e below (T.setTop (mkF m pc' l' (S))) RR) : OwnGo p e below (T.setTop (mkF m pc Ls (.int x :: S))) RR := by
  subst hp
  exact own_step k fun t k => XS.istore X.here X.hx rfl (hb X.by' hd) rfl hl k
theorem own_istoreV {k : Nat} {x : Int32} {l' : Int32 → Array Slot} (X : OwnSt p l e R s m args below meth c Z own bytes maxL ret nm n0 km Q RR T h cells slots) (hd : decode bytes pc = .ok (.istore k, 2)) (hp : pc + 2 = pc') (hl : ∀ v, storeLocals Ls k (.int v) = some (l' v)) (k : ∀ v, v = x → OwnGo p e below (T.setTop (mkF m pc' (l' v) (S))) RR) : OwnGo p e below (T.setTop (mkF m pc Ls (.int x :: S))) RR := by
  subst hp
  exact own_step (k _ rfl) fun t k => XS.istore X.here X.hx rfl (hb X.by' hd) rfl (hl _) k
theorem own_lstoreN {k : Fin 4} {x : Int64} {l' : Array Slot} (X : OwnSt p l e R s m args below meth c Z own bytes maxL ret nm n0 km Q RR T h cells slots) (hd : decode bytes pc = .ok (.lstore_n k, 1)) (hp : pc + 1 = pc') (hl : storeLocals Ls k.val (.long x) = some l') (k : OwnGo p e below (T.setTop (mkF m pc' l' (S))) RR) : OwnGo p e below (T.setTop (mkF m pc Ls (.long x :: S))) RR := by
  subst hp
  exact own_step k fun t k => XS.lstoreN X.here X.hx rfl (hb X.by' hd) rfl hl k
theorem own_lstoreNV {k : Fin 4} {x : Int64} {l' : Int64 → Array Slot} (X : OwnSt p l e R s m args below meth c Z own bytes maxL ret nm n0 km Q RR T h cells slots) (hd : decode bytes pc = .ok (.lstore_n k, 1)) (hp : pc + 1 = pc') (hl : ∀ v, storeLocals Ls k.val (.long v) = some (l' v)) (k : ∀ v, v = x → OwnGo p e below (T.setTop (mkF m pc' (l' v) (S))) RR) : OwnGo p e below (T.setTop (mkF m pc Ls (.long x :: S))) RR := by
  subst hp
  exact own_step (k _ rfl) fun t k => XS.lstoreN X.here X.hx rfl (hb X.by' hd) rfl (hl _) k
theorem own_lstore {k : Nat} {x : Int64} {l' : Array Slot} (X : OwnSt p l e R s m args below meth c Z own bytes maxL ret nm n0 km Q RR T h cells slots) (hd : decode bytes pc = .ok (.lstore k, 2)) (hp : pc + 2 = pc') (hl : storeLocals Ls k (.long x) = some l') (k : OwnGo p e below (T.setTop (mkF m pc' l' (S))) RR) : OwnGo p e below (T.setTop (mkF m pc Ls (.long x :: S))) RR := by
  subst hp
  exact own_step k fun t k => XS.lstore X.here X.hx rfl (hb X.by' hd) rfl hl k
theorem own_lstoreV {k : Nat} {x : Int64} {l' : Int64 → Array Slot} (X : OwnSt p l e R s m args below meth c Z own bytes maxL ret nm n0 km Q RR T h cells slots) (hd : decode bytes pc = .ok (.lstore k, 2)) (hp : pc + 2 = pc') (hl : ∀ v, storeLocals Ls k (.long v) = some (l' v)) (k : ∀ v, v = x → OwnGo p e below (T.setTop (mkF m pc' (l' v) (S))) RR) : OwnGo p e below (T.setTop (mkF m pc Ls (.long x :: S))) RR := by
  subst hp
  exact own_step (k _ rfl) fun t k => XS.lstore X.here X.hx rfl (hb X.by' hd) rfl (hl _) k
theorem own_astoreN {k : Fin 4} {x : Value} {l' : Array Slot} (X : OwnSt p l e R s m args below meth c Z own bytes maxL ret nm n0 km Q RR T h cells slots) (hd : decode bytes pc = .ok (.astore_n k, 1)) (hp : pc + 1 = pc') (hv : x.isRef = true) (hl : storeLocals Ls k.val x = some l') (k : OwnGo p e below (T.setTop (mkF m pc' l' (S))) RR) : OwnGo p e below (T.setTop (mkF m pc Ls (x :: S))) RR := by
  subst hp
  exact own_step k fun t k => XS.astoreN X.here X.hx rfl (hb X.by' hd) rfl hv hl k
theorem own_astore {k : Nat} {x : Value} {l' : Array Slot} (X : OwnSt p l e R s m args below meth c Z own bytes maxL ret nm n0 km Q RR T h cells slots) (hd : decode bytes pc = .ok (.astore k, 2)) (hp : pc + 2 = pc') (hv : x.isRef = true) (hl : storeLocals Ls k x = some l') (k : OwnGo p e below (T.setTop (mkF m pc' l' (S))) RR) : OwnGo p e below (T.setTop (mkF m pc Ls (x :: S))) RR := by
  subst hp
  exact own_step k fun t k => XS.astore X.here X.hx rfl (hb X.by' hd) rfl hv hl k
theorem own_iinc {k : Nat} {d : Int} {x y : Int32} {l' : Array Slot} (X : OwnSt p l e R s m args below meth c Z own bytes maxL ret nm n0 km Q RR T h cells slots) (hd : decode bytes pc = .ok (.iinc k d, 3)) (hp : pc + 3 = pc') (hx' : Ls[k]? = some (.val (.int x))) (hy : x + Int32.ofInt d = y) (hl : storeLocals Ls k (.int y) = some l') (k : OwnGo p e below (T.setTop (mkF m pc' l' (S))) RR) : OwnGo p e below (T.setTop (mkF m pc Ls (S))) RR := by
  subst hp
  subst hy
  exact own_step k fun t k => XS.iinc X.here X.hx rfl (hb X.by' hd) hx' hl k
theorem own_ifnonnullN {o : Int} (X : OwnSt p l e R s m args below meth c Z own bytes maxL ret nm n0 km Q RR T h cells slots) (hd : decode bytes pc = .ok (.ifnonnull o, 3)) (hp : pc + 3 = pc')  (k : OwnGo p e below (T.setTop (mkF m pc' Ls (S))) RR) : OwnGo p e below (T.setTop (mkF m pc Ls (.null :: S))) RR := by
  subst hp
  exact own_step k fun t k => XS.ifnonnullNo X.here X.hx rfl (hb X.by' hd) rfl k
theorem own_ifnullN {o : Int} {b : Addr} (X : OwnSt p l e R s m args below meth c Z own bytes maxL ret nm n0 km Q RR T h cells slots) (hd : decode bytes pc = .ok (.ifnull o, 3)) (hp : pc + 3 = pc')  (k : OwnGo p e below (T.setTop (mkF m pc' Ls (S))) RR) : OwnGo p e below (T.setTop (mkF m pc Ls (.ref b :: S))) RR := by
  subst hp
  exact own_step k fun t k => XS.ifnullNo X.here X.hx rfl (hb X.by' hd) rfl k
theorem own_ifnonnullY {o : Int} {b : Addr} (X : OwnSt p l e R s m args below meth c Z own bytes maxL ret nm n0 km Q RR T h cells slots) (hd : decode bytes pc = .ok (.ifnonnull o, 3)) (hp : ((pc : Int) + o).toNat = pc') (ho : 0 ≤ (pc : Int) + o) (k : OwnGo p e below (T.setTop (mkF m pc' Ls S)) RR) : OwnGo p e below (T.setTop (mkF m pc Ls (.ref b :: S))) RR :=
  own_step k fun t k => XS.ifnonnullYes X.here X.hx rfl (pc0 := pc) rfl (hb X.by' hd) rfl ho hp k
theorem own_ifnullY {o : Int} (X : OwnSt p l e R s m args below meth c Z own bytes maxL ret nm n0 km Q RR T h cells slots) (hd : decode bytes pc = .ok (.ifnull o, 3)) (hp : ((pc : Int) + o).toNat = pc') (ho : 0 ≤ (pc : Int) + o) (k : OwnGo p e below (T.setTop (mkF m pc' Ls S)) RR) : OwnGo p e below (T.setTop (mkF m pc Ls (.null :: S))) RR :=
  own_step k fun t k => XS.ifnullYes X.here X.hx rfl (pc0 := pc) rfl (hb X.by' hd) rfl ho hp k
theorem own_ldcInt {i : Nat} {v : Int32} (X : OwnSt p l e R s m args below meth c Z own bytes maxL ret nm n0 km Q RR T h cells slots) (hd : decode bytes pc = .ok (.ldc i, 2)) (hp : pc + 2 = pc') (w : (Cond.constant own i v).before a0 Z = true) (k : OwnGo p e below (T.setTop (mkF m pc' Ls (.int v :: S))) RR) : OwnGo p e below (T.setTop (mkF m pc Ls S)) RR := by
  subst hp
  obtain ⟨C, hh, hkm, locs, X0, N⟩ := id X
  exact own_step k (X0.ldcInt X.hx C.2.2.2.2.1 (mvT X.hZ w) (g := mkF m pc Ls S) rfl (hb X.by' hd))
theorem own_ldc2Long {i : Nat} {v : Int64} (X : OwnSt p l e R s m args below meth c Z own bytes maxL ret nm n0 km Q RR T h cells slots) (hd : decode bytes pc = .ok (.ldc2_w i, 3)) (hp : pc + 3 = pc') (w : (Cond.constantLong own i v).before a0 Z = true) (k : OwnGo p e below (T.setTop (mkF m pc' Ls (.long v :: S))) RR) : OwnGo p e below (T.setTop (mkF m pc Ls S)) RR := by
  subst hp
  obtain ⟨C, hh, hkm, locs, X0, N⟩ := id X
  exact own_step k (X0.ldc2Long X.hx C.2.2.2.2.1 (mvT X.hZ w) (g := mkF m pc Ls S) rfl (hb X.by' hd))
/-! forks -/
theorem own_ifY {cd : ClassFile.Cond} {x : Int32} {o : Int} (X : OwnSt p l e R s m args below meth c Z own bytes maxL ret nm n0 km Q RR T h cells slots) (hd : decode bytes pc = .ok (.ifCond cd o, 3)) (hc : if_icmp.holds cd x 0 = true) (hp : ((pc : Int) + o).toNat = pc') (ho : 0 ≤ (pc : Int) + o) (k : OwnGo p e below (T.setTop (mkF m pc' Ls S)) RR) : OwnGo p e below (T.setTop (mkF m pc Ls (.int x :: S))) RR :=
  own_step k fun t k => XS.ifYes X.here X.hx rfl (pc0 := pc) rfl (hb X.by' hd) rfl ((if0 _ _).trans hc) ho hp k
theorem own_ifN {cd : ClassFile.Cond} {x : Int32} {o : Int} (X : OwnSt p l e R s m args below meth c Z own bytes maxL ret nm n0 km Q RR T h cells slots) (hd : decode bytes pc = .ok (.ifCond cd o, 3)) (hc : if_icmp.holds cd x 0 = false) (hp : pc + 3 = pc') (k : OwnGo p e below (T.setTop (mkF m pc' Ls S)) RR) : OwnGo p e below (T.setTop (mkF m pc Ls (.int x :: S))) RR := by
  subst hp
  exact own_step k fun t k => XS.ifNo X.here X.hx rfl (hb X.by' hd) rfl ((if0 _ _).trans hc) k
theorem own_icY {cd : ClassFile.Cond} {x y : Int32} {o : Int} (X : OwnSt p l e R s m args below meth c Z own bytes maxL ret nm n0 km Q RR T h cells slots) (hd : decode bytes pc = .ok (.if_icmp cd o, 3)) (hc : if_icmp.holds cd x y = true) (hp : ((pc : Int) + o).toNat = pc') (ho : 0 ≤ (pc : Int) + o) (k : OwnGo p e below (T.setTop (mkF m pc' Ls S)) RR) : OwnGo p e below (T.setTop (mkF m pc Ls (.int y :: .int x :: S))) RR :=
  own_step k fun t k => XS.icmpYes X.here X.hx rfl (pc0 := pc) rfl (hb X.by' hd) rfl hc ho hp k
theorem own_icN {cd : ClassFile.Cond} {x y : Int32} {o : Int} (X : OwnSt p l e R s m args below meth c Z own bytes maxL ret nm n0 km Q RR T h cells slots) (hd : decode bytes pc = .ok (.if_icmp cd o, 3)) (hc : if_icmp.holds cd x y = false) (hp : pc + 3 = pc') (k : OwnGo p e below (T.setTop (mkF m pc' Ls S)) RR) : OwnGo p e below (T.setTop (mkF m pc Ls (.int y :: .int x :: S))) RR := by
  subst hp
  exact own_step k fun t k => XS.icmpNo X.here X.hx rfl (hb X.by' hd) rfl hc k
def ownLc (cd : ClassFile.Cond) (x y : Int64) : Bool := match cd with
  | .eq => decide (x = y) | .ne => !decide (x = y) | .lt => decide (x < y) | .ge => !decide (x < y) | .gt => decide (y < x) | .le => !decide (y < x)
theorem own_lc (cd : ClassFile.Cond) (x y : Int64) : if_icmp.holds cd (lcmpW x y) 0 = ownLc cd x y := by
  rw [lcW]
  have h1 := lc_eq x y
  have h2 := lc_lt x y
  have h3 := lc_gt x y
  cases cd <;> simp only [ownLc]
  · by_cases q : x = y
    · rw [(teq (h1.mpr q)).1]; simp [q]
    · rw [(feq fun w => q (h1.mp w)).1]; simp [q]
  · by_cases q : x = y
    · rw [(teq (h1.mpr q)).2]; simp [q]
    · rw [(feq fun w => q (h1.mp w)).2]; simp [q]
  · by_cases q : x < y
    · rw [(tlt (h2.mpr q)).1]; simp [q]
    · rw [(flt fun w => q (h2.mp w)).1]; simp [q]
  · by_cases q : x < y
    · rw [(tlt (h2.mpr q)).2.1]; simp [q]
    · rw [(flt fun w => q (h2.mp w)).2.1]; simp [q]
  · by_cases q : y < x
    · rw [(tlt (h3.mpr q)).2.2.1]; simp [q]
    · rw [(flt fun w => q (h3.mp w)).2.2.1]; simp [q]
  · by_cases q : y < x
    · rw [(tlt (h3.mpr q)).2.2.2]; simp [q]
    · rw [(flt fun w => q (h3.mp w)).2.2.2]; simp [q]
theorem own_ljY {cd : ClassFile.Cond} {x y : Int64} {o : Int} (X : OwnSt p l e R s m args below meth c Z own bytes maxL ret nm n0 km Q RR T h cells slots) (hd : decode bytes pc = .ok (.lcmp, 1)) (hd2 : decode bytes (pc + 1) = .ok (.ifCond cd o, 3)) (hc : ownLc cd x y = true) (hp : (((pc + 1 : Nat) : Int) + o).toNat = pc') (ho : 0 ≤ ((pc + 1 : Nat) : Int) + o) (k : OwnGo p e below (T.setTop (mkF m pc' Ls S)) RR) : OwnGo p e below (T.setTop (mkF m pc Ls (.long y :: .long x :: S))) RR :=
  own_step (own_ifY (pc := pc + 1) (x := lcmpW x y) X hd2 ((own_lc cd x y).trans hc) hp ho k) fun t k => XS.lcmp X.here X.hx rfl (hb X.by' hd) rfl k
theorem own_ljN {cd : ClassFile.Cond} {x y : Int64} {o : Int} (X : OwnSt p l e R s m args below meth c Z own bytes maxL ret nm n0 km Q RR T h cells slots) (hd : decode bytes pc = .ok (.lcmp, 1)) (hd2 : decode bytes (pc + 1) = .ok (.ifCond cd o, 3)) (hc : ownLc cd x y = false) (hp : pc + 4 = pc') (k : OwnGo p e below (T.setTop (mkF m pc' Ls S)) RR) : OwnGo p e below (T.setTop (mkF m pc Ls (.long y :: .long x :: S))) RR :=
  own_step (own_ifN (pc := pc + 1) (x := lcmpW x y) X hd2 ((own_lc cd x y).trans hc) hp k) fun t k => XS.lcmp X.here X.hx rfl (hb X.by' hd) rfl k
theorem own_teqA {a b : Addr} (h : a = b) : if_acmp.holds .eq (some a) (some b) = true ∧ if_acmp.holds .ne (some a) (some b) = false := by simp [if_acmp.holds, h]
theorem own_feqA {a b : Addr} (h : ¬ a = b) : if_acmp.holds .eq (some a) (some b) = false ∧ if_acmp.holds .ne (some a) (some b) = true := by simp [if_acmp.holds, h]
theorem own_acY {cd : ClassFile.ACond} {a b : Addr} {o : Int} (X : OwnSt p l e R s m args below meth c Z own bytes maxL ret nm n0 km Q RR T h cells slots) (hd : decode bytes pc = .ok (.if_acmp cd o, 3)) (hc : if_acmp.holds cd (some a) (some b) = true) (hp : ((pc : Int) + o).toNat = pc') (ho : 0 ≤ (pc : Int) + o) (k : OwnGo p e below (T.setTop (mkF m pc' Ls S)) RR) : OwnGo p e below (T.setTop (mkF m pc Ls (.ref b :: .ref a :: S))) RR :=
  own_step k fun t k => XS.acmpYes X.here X.hx rfl (pc0 := pc) rfl (hb X.by' hd) rfl hc ho hp k
theorem own_acN {cd : ClassFile.ACond} {a b : Addr} {o : Int} (X : OwnSt p l e R s m args below meth c Z own bytes maxL ret nm n0 km Q RR T h cells slots) (hd : decode bytes pc = .ok (.if_acmp cd o, 3)) (hc : if_acmp.holds cd (some a) (some b) = false) (hp : pc + 3 = pc') (k : OwnGo p e below (T.setTop (mkF m pc' Ls S)) RR) : OwnGo p e below (T.setTop (mkF m pc Ls (.ref b :: .ref a :: S))) RR := by
  subst hp
  exact own_step k fun t k => XS.acmpNo X.here X.hx rfl (hb X.by' hd) rfl hc k
theorem own_goto {o : Int} (X : OwnSt p l e R s m args below meth c Z own bytes maxL ret nm n0 km Q RR T h cells slots) (hd : decode bytes pc = .ok (.goto o, 3)) (hp : ((pc : Int) + o).toNat = pc') (ho : 0 ≤ (pc : Int) + o) (k : OwnGo p e below (T.setTop (mkF m pc' Ls S)) RR) : OwnGo p e below (T.setTop (mkF m pc Ls S)) RR :=
  own_step k fun t k => XS.goto X.here X.hx rfl (pc0 := pc) rfl (hb X.by' hd) ho hp k
theorem own_tltL {x y : Int64} (h : x < y) : ownLc .lt x y = true ∧ ownLc .ge x y = false ∧ ownLc .gt y x = true ∧ ownLc .le y x = false := by simp [ownLc, h]
theorem own_fltL {x y : Int64} (h : ¬ x < y) : ownLc .lt x y = false ∧ ownLc .ge x y = true ∧ ownLc .gt y x = false ∧ ownLc .le y x = true := by simp [ownLc, h]
theorem own_teqL {x y : Int64} (h : x = y) : ownLc .eq x y = true ∧ ownLc .ne x y = false := by simp [ownLc, h]
theorem own_feqL {x y : Int64} (h : ¬ x = y) : ownLc .eq x y = false ∧ ownLc .ne x y = true := by simp [ownLc, h]
/-- the same stand at another state with the same heap; with another heap -/
abbrev OwnAt (X : OwnSt p l e R s m args below meth c Z own bytes maxL ret nm n0 km Q RR T h cells slots) (T' : State) : Prop := OwnSt p l e R s m args below meth c Z own bytes maxL ret nm n0 km Q RR T' h cells slots
abbrev OwnAtH (X : OwnSt p l e R s m args below meth c Z own bytes maxL ret nm n0 km Q RR T h cells slots) (T' : State) (h' : Heap) : Prop := OwnSt p l e R s m args below meth c Z own bytes maxL ret nm n0 km Q RR T' h' cells slots
/-! heap steps -/
theorem own_init {index : Nat} {a : Addr} (X : OwnSt p l e R s m args below meth c Z own bytes maxL ret nm n0 km Q RR T h cells slots) (hd : decode bytes pc = .ok (.invokespecial index, 3)) (w1 : (Cond.methodLink own index Lib.objectInit).before a0 Z = true) (w2 : (Cond.instanceMethod Lib.objectInit).before a0 Z = true) (w3 : (Cond.code Lib.objectInit ⟨#[0xb1]⟩ 1 none).before a0 Z = true)
    (hp : pc + 3 = pc') (hsz : Ls.size = maxL) (hf : 1 ≤ R.frames) {W : Nat} (hW : 0 + (S.map fun v => v.category).sum ≤ W) (hlo : W + 12 ≤ R.locals)
    (k : ∀ T', OwnSt p l e R s m args below meth c Z own bytes maxL ret nm n0 km Q RR T' h cells slots → OwnGo p e below (T'.setTop (mkF m pc' Ls S)) RR) : OwnGo p e below (T.setTop (mkF m pc Ls (.ref a :: S))) RR := by
  subst hp
  obtain ⟨C, hh, hkm, locs, X0, N⟩ := X
  obtain ⟨hx, hby, hml, hZ, hown, hnm, hret, hlk, hR⟩ := id C
  obtain ⟨T', X', e', st⟩ := initO X0 hx hZ hown w1 w2 w3 hh (g := mkF m pc Ls (.ref a :: S)) rfl (hsz.trans hml.symm) rfl (hb hby hd) hf hW hlo
  exact own_step (k T' ⟨C, e', hkm, locs, X', N⟩) st
theorem own_new {index n : Nat} {K : String} (X : OwnSt p l e R s m args below meth c Z own bytes maxL ret nm n0 km Q RR T h cells slots) (hd : decode bytes pc = .ok (.new index, 3)) (w1 : (Cond.classLink own index K).before a0 Z = true) (w2 : (Cond.instantiable K n).before a0 Z = true) (w3 : (Cond.initialized K).before a0 Z = true)
    (hp : pc + 3 = pc') (hc : cells + 1 ≤ R.cells) (hl : slots + n ≤ R.slots)
    (k : ∀ T' h' b, b = h.size → OwnSt p l e R s m args below meth c Z own bytes maxL ret nm n0 km Q RR T' h' (cells + 1) (slots + n) → Ext h h' → Exa Z h' b K → (∀ {O nm d : String} {ty : FieldType}, Laid Z a0 K O nm d → parseFieldDescriptor d = some ty → Fld Z h' b O nm d (defaultValue ty)) → OwnGo p e below (T'.setTop (mkF m pc' Ls (.ref b :: S))) RR) : OwnGo p e below (T.setTop (mkF m pc Ls S)) RR := by
  subst hp
  obtain ⟨C, hh, hkm, locs, X0, N⟩ := X
  obtain ⟨hx, hby, hml, hZ, hown, hnm, hret, hlk, hR⟩ := id C
  obtain ⟨T', h', X', e', E', A', D', -, st⟩ := newO X0 hx hZ hown w1 w2 w3 hh (g := mkF m pc Ls S) rfl (hb hby hd) hc hl
  exact own_step (k T' h' _ rfl ⟨C, e', Nat.le_trans hkm E'.1, locs, X', N⟩ E' A' D') st
theorem own_getF {index : Nat} {O n d R0 : String} {a : Addr} {v : Value} (X : OwnSt p l e R s m args below meth c Z own bytes maxL ret nm n0 km Q RR T h cells slots) (hd : decode bytes pc = .ok (.getfield index, 3)) (w : (Cond.fieldLink own index R0 n d).before a0 Z = true) (via : Via Z R0 O n d) (F : Fld Z h a O n d v) (hp : pc + 3 = pc')
    (k : ∀ T', OwnSt p l e R s m args below meth c Z own bytes maxL ret nm n0 km Q RR T' h cells slots → OwnGo p e below (T'.setTop (mkF m pc' Ls (v :: S))) RR) : OwnGo p e below (T.setTop (mkF m pc Ls (.ref a :: S))) RR := by
  subst hp
  obtain ⟨C, hh, hkm, locs, X0, N⟩ := X
  obtain ⟨hx, hby, hml, hZ, hown, hnm, hret, hlk, hR⟩ := id C
  obtain ⟨T', X', e', st⟩ := getF X0 hx hZ hown (host := "") (Or.inl w) via hh F (g := mkF m pc Ls (.ref a :: S)) rfl rfl (hb hby hd)
  exact own_step (k T' ⟨C, e', hkm, locs, X', N⟩) st
theorem own_getS {index : Nat} {O n d R0 : String} {v : Value} (X : OwnSt p l e R s m args below meth c Z own bytes maxL ret nm n0 km Q RR T h cells slots) (hd : decode bytes pc = .ok (.getstatic index, 3)) (w : (Cond.fieldLink own index R0 n d).before a0 Z = true) (via : Via Z R0 O n d) (F : Sta Z h O n d v) (hp : pc + 3 = pc')
    (k : ∀ T', OwnSt p l e R s m args below meth c Z own bytes maxL ret nm n0 km Q RR T' h cells slots → OwnGo p e below (T'.setTop (mkF m pc' Ls (v :: S))) RR) : OwnGo p e below (T.setTop (mkF m pc Ls S)) RR := by
  subst hp
  obtain ⟨C, hh, hkm, locs, X0, N⟩ := X
  obtain ⟨hx, hby, hml, hZ, hown, hnm, hret, hlk, hR⟩ := id C
  obtain ⟨T', X', e', st⟩ := getS X0 hx hZ (host := "") hown w via hh F (g := mkF m pc Ls S) rfl (hb hby hd)
  exact own_step (k T' ⟨C, e', hkm, locs, X', N⟩) st
theorem own_putF {index kk : Nat} {O n d R0 K : String} {a : Addr} {v v' old : Value} {ty : FieldType} (X : OwnSt p l e R s m args below meth c Z own bytes maxL ret nm n0 km Q RR T h cells slots) (hd : decode bytes pc = .ok (.putfield index, 3)) (w : (Cond.fieldLink own index R0 n d).before a0 Z = true) (via : Via Z R0 O n d) (F : Fld Z h a O n d old) (E : Exa Z h a K) (L : (Cond.lays K O n d).before a0 Z = true ∨ ((Cond.laysFinal K O n d).before a0 Z = true ∧ own = O ∧ nm = "<init>")) (wi : (Cond.instantiable K kk).before a0 Z = true)
    (hty : parseFieldDescriptor d = some ty) (hn : narrow ty v = v') (hf : fits ty v' = true) (hge : n0 ≤ a) (hp : pc + 3 = pc')
    (k : ∀ T' h', OwnSt p l e R s m args below meth c Z own bytes maxL ret nm n0 km Q RR T' h' cells slots → Wr h h' a (Jvm.RoadKit.slotOf Z O n d) v' → OwnGo p e below (T'.setTop (mkF m pc' Ls S)) RR) : OwnGo p e below (T.setTop (mkF m pc Ls (v :: .ref a :: S))) RR := by
  subst hp
  obtain ⟨C, hh, hkm, locs, X0, N⟩ := X
  obtain ⟨hx, hby, hml, hZ, hown, hnm, hret, hlk, hR⟩ := id C
  obtain ⟨T', h', X', e', W', st⟩ := putFN X0 hx hZ hown w via hh F E (L.imp id fun q => ⟨q.1, q.2.1, hnm.trans q.2.2⟩) wi hty hn hf (g := mkF m pc Ls (v :: .ref a :: S)) rfl rfl (hb hby hd)
  exact own_step (k T' h' ⟨C, e', Nat.le_trans hkm (Nat.le_of_eq W'.size.symm), _, X', Fr.snoc X' N hge⟩ W') st
/-! from the case's words to facts -/
theorem own_fldL {st : State} {as' : Array Value} {t : Term} {C n d : String} {x : Addr} {z : Int64} (ht : t.eval as' st none [] st = some (.ref x)) (h : (Cond.eq (.field t C n d) (.long z)).value as' st none st [] = some true) : Fld st st.heap x C n d (.long z) := by
  obtain ⟨a, b, e1, e2, k1, k2⟩ := cmp_v (Or.inl h)
  cases (long_at z).symm.trans e2
  obtain ⟨w, rfl⟩ := k2
  have q := gotT (eq_L e1 e2) h
  subst q
  exact Fld.start ((fld_at ht).symm.trans e1)
theorem own_fldI {st : State} {as' : Array Value} {t : Term} {C n d : String} {x : Addr} {z : Int32} (ht : t.eval as' st none [] st = some (.ref x)) (h : (Cond.eq (.field t C n d) (.int z)).value as' st none st [] = some true) : Fld st st.heap x C n d (.int z) := by
  obtain ⟨a, b, e1, e2, k1, k2⟩ := cmp_v (Or.inl h)
  cases (Term.int_eval z).symm.trans e2
  obtain ⟨w, rfl⟩ := k2
  have q : w = z := by simpa [Cond.value, e1, e2] using h
  subst q
  exact Fld.start ((fld_at ht).symm.trans e1)
/-! calls by contract -/
theorem own_callC {index : Nat} {y : MethodName} {bytes' : ByteArray} {maxL' : Nat} {rm : Room} {a : Addr} {argsL : List Value} {Q' : Option Value → Heap → Prop} {ps : List FieldType} {W : Nat}
    (X : OwnSt p l e R s m args below meth c Z own bytes maxL ret nm n0 km Q RR T h cells slots) (hd : decode bytes pc = .ok (.invokespecial index, 3)) (hy : y.name = "<init>" ∧ y.cls ≠ "java/lang/invoke/MethodHandle" ∧ y.cls ≠ "java/lang/invoke/VarHandle")
    (w1 : (Cond.methodLink own index y).before a0 Z = true) (w2 : (Cond.instanceMethod y).before a0 Z = true) (w3 : (Cond.code y bytes' maxL' none).before a0 Z = true) (w4 : (Cond.initialized y.cls).before a0 Z = true)
    (M : OwnMet l Z y bytes' maxL' none rm (.ref a :: argsL).toArray h n0 Q') (hpd : parseMethodDescriptor y.desc = some ⟨ps, none⟩) (hlen : argsL.length = ps.length) {st : List Value} (hst : st = argsL.reverse ++ .ref a :: S) (hp : pc + 3 = pc') (hsz : Ls.size = maxL)
    (hW : 0 + (S.map fun v => v.category).sum ≤ W) (hf : rm.frames + 1 ≤ R.frames) (hlo : W + (maxL' + 11) + rm.locals ≤ R.locals) (hc : cells + rm.cells ≤ R.cells) (hl : slots + rm.slots ≤ R.slots)
    (k : ∀ T' h' v, OwnSt p l e R s m args below meth c Z own bytes maxL ret nm n0 km Q RR T' h' (cells + rm.cells) (slots + rm.slots) → Q' v h' → OwnGo p e below (T'.setTop (mkF m pc' Ls (v.toList ++ S))) RR) : OwnGo p e below (T.setTop (mkF m pc Ls st)) RR := by
  subst hp hst
  obtain ⟨C, hh, hkm, locs, X0, N⟩ := X
  obtain ⟨hx, hby, hml, hZ, hown, hnm, hret, hlk, hR⟩ := id C
  obtain ⟨v, _, ⟨T', L', c', s'⟩, -, X', ⟨Lc, hQ, e1, e2, e3⟩, st⟩ := X0.specialBack hx hy.1 hown (mvT hZ w1) (mvT hZ w2) (mvT hZ w3) hy.2 (backOf (W := W) (Q := fun v h' L => (Q' v h' ∧ h.size ≤ h'.size) ∧ Fr n0 L) (M []) hZ w3 w4 hf hlo) (g := mkF m pc Ls (argsL.reverse ++ .ref a :: S)) rfl (hsz.trans hml.symm) (Steps.refl _) (a := a) (argsL := argsL) (rest := S) (lenOf hpd hlen) rfl hW (hb hby hd) (fun _ _ => ⟨rfl, hh, hc, hl⟩)
  dsimp only [Pt.U, Pt.locs, Pt.cells, Pt.slots] at X' e1 e2 e3 st hQ
  subst e1 e2 e3
  exact own_step (k T' _ v ⟨C, rfl, Nat.le_trans hkm hQ.1.2, _, X', Fr.app N hQ.2⟩ hQ.1.1) fun t q => st.trans q
theorem own_callV {index : Nat} {y : MethodName} {K : String} {bytes' : ByteArray} {maxL' : Nat} {ret' : Option FieldType} {rm : Room} {a : Addr} {argsL : List Value} {Q' : Option Value → Heap → Prop} {ps : List FieldType} {W : Nat}
    (X : OwnSt p l e R s m args below meth c Z own bytes maxL ret nm n0 km Q RR T h cells slots) (hd : decode bytes pc = .ok (.invokevirtual index, 3)) (hy : y.cls ≠ "java/lang/invoke/MethodHandle" ∧ y.cls ≠ "java/lang/invoke/VarHandle")
    (w1 : (Cond.methodLink own index y).before a0 Z = true) (w2 : (Cond.declares y).before a0 Z = true) (w3 : (Cond.selects K y y).before a0 Z = true) (w4 : (Cond.instanceMethod y).before a0 Z = true) (w5 : (Cond.code y bytes' maxL' ret').before a0 Z = true) (w6 : (Cond.initialized y.cls).before a0 Z = true) (E : Exa Z h a K)
    (M : OwnMet l Z y bytes' maxL' ret' rm (.ref a :: argsL).toArray h n0 Q') {rt : Option FieldType} (hpd : parseMethodDescriptor y.desc = some ⟨ps, rt⟩) (hlen : argsL.length = ps.length) {st : List Value} (hst : st = argsL.reverse ++ .ref a :: S) (hp : pc + 3 = pc') (hsz : Ls.size = maxL)
    (hW : 0 + (S.map fun v => v.category).sum ≤ W) (hf : rm.frames + 1 ≤ R.frames) (hlo : W + (maxL' + 11) + rm.locals ≤ R.locals) (hc : cells + rm.cells ≤ R.cells) (hl : slots + rm.slots ≤ R.slots)
    (k : ∀ T' h' v, OwnSt p l e R s m args below meth c Z own bytes maxL ret nm n0 km Q RR T' h' (cells + rm.cells) (slots + rm.slots) → Q' v h' → OwnGo p e below (T'.setTop (mkF m pc' Ls (v.toList ++ S))) RR) : OwnGo p e below (T.setTop (mkF m pc Ls st)) RR := by
  subst hp hst
  obtain ⟨C, hh, hkm, locs, X0, N⟩ := X
  obtain ⟨hx, hby, hml, hZ, hown, hnm, hret, hlk, hR⟩ := id C
  obtain ⟨cq, kq, qa, qb, qc⟩ := isOf hZ hh E
  obtain ⟨v, _, ⟨T', L', c', s'⟩, -, X', ⟨Lc, hQ, e1, e2, e3⟩, st⟩ := X0.virtualBack hx (y := y) (z := y) hown (mvT hZ w1) (mvT hZ w2) (notFace_of_selects (args := #[]) (mvT hZ w3)) (mvT hZ w3) (mvT hZ w4) hy (backOf (W := W) (Q := fun v h' L => (Q' v h' ∧ h.size ≤ h'.size) ∧ Fr n0 L) (M []) hZ w5 w6 hf hlo) qa qc (g := mkF m pc Ls (argsL.reverse ++ .ref a :: S)) rfl (hsz.trans hml.symm) (Steps.refl _) (argsL := argsL) (rest := S) (lenOf hpd hlen) rfl hW (hb hby hd) (fun _ _ => ⟨rfl, hh, hc, hl⟩)
  dsimp only [Pt.U, Pt.locs, Pt.cells, Pt.slots] at X' e1 e2 e3 st hQ
  subst e1 e2 e3
  exact own_step (k T' _ v ⟨C, rfl, Nat.le_trans hkm hQ.1.2, _, X', Fr.app N hQ.2⟩ hQ.1.1) fun t q => st.trans q
theorem own_callP {index kk : Nat} {y : MethodName} {K : String} {bytes' : ByteArray} {maxL' : Nat} {ret' : Option FieldType} {rm : Room} {a : Addr} {argsL : List Value} {Q' : Option Value → Heap → Prop} {ps : List FieldType} {W : Nat}
    (X : OwnSt p l e R s m args below meth c Z own bytes maxL ret nm n0 km Q RR T h cells slots) (hd : decode bytes pc = .ok (.invokevirtual index, 3)) (hy : y.cls ≠ "java/lang/invoke/MethodHandle" ∧ y.cls ≠ "java/lang/invoke/VarHandle")
    (w1 : (Cond.methodLink own index y).before a0 Z = true) (w2 : (Cond.privateMethod y).before a0 Z = true) (w3 : (Cond.instantiable y.cls kk).before a0 Z = true) (w4 : (Cond.instanceMethod y).before a0 Z = true) (w5 : (Cond.code y bytes' maxL' ret').before a0 Z = true) (w6 : (Cond.initialized y.cls).before a0 Z = true) (E : Exa Z h a K)
    (M : OwnMet l Z y bytes' maxL' ret' rm (.ref a :: argsL).toArray h n0 Q') {rt : Option FieldType} (hpd : parseMethodDescriptor y.desc = some ⟨ps, rt⟩) (hlen : argsL.length = ps.length) {st : List Value} (hst : st = argsL.reverse ++ .ref a :: S) (hp : pc + 3 = pc') (hsz : Ls.size = maxL)
    (hW : 0 + (S.map fun v => v.category).sum ≤ W) (hf : rm.frames + 1 ≤ R.frames) (hlo : W + (maxL' + 11) + rm.locals ≤ R.locals) (hc : cells + rm.cells ≤ R.cells) (hl : slots + rm.slots ≤ R.slots)
    (k : ∀ T' h' v, OwnSt p l e R s m args below meth c Z own bytes maxL ret nm n0 km Q RR T' h' (cells + rm.cells) (slots + rm.slots) → Q' v h' → OwnGo p e below (T'.setTop (mkF m pc' Ls (v.toList ++ S))) RR) : OwnGo p e below (T.setTop (mkF m pc Ls st)) RR := by
  subst hp hst
  obtain ⟨C, hh, hkm, locs, X0, N⟩ := X
  obtain ⟨hx, hby, hml, hZ, hown, hnm, hret, hlk, hR⟩ := id C
  obtain ⟨cl, q, q'⟩ := E.cell
  have hpriv : s.PrivateAt y := Cond.privateMethod_at (mvP hZ w2 (args := #[]))
  have wi : (Cond.instantiable y.cls kk).before args s = true := mvT hZ w3
  obtain ⟨c2, k2, i1, i2, i3, i4, -⟩ := Cond.instantiable_spec wi
  have i5 : k2.isInterface = false := by
    cases hq : k2.isInterface
    · rfl
    · rw [hq] at i4; cases i4
  have hsel : (Cond.selects y.cls y y).before args s = true := selects_self_of_private i1 i2 i5 hpriv (mvT hZ w4) hy
  obtain ⟨v, _, ⟨T', L', c', s'⟩, -, X', ⟨Lc, hQ, e1, e2, e3⟩, st⟩ := X0.privateBack hx (y := y) hown (mvT hZ w1) (mvT hZ w4) hsel hpriv (mvT hZ w5) hy (backOf (W := W) (Q := fun v h' L => (Q' v h' ∧ h.size ≤ h'.size) ∧ Fr n0 L) (M []) hZ w5 w6 hf hlo) (g := mkF m pc Ls (argsL.reverse ++ .ref a :: S)) rfl (hsz.trans hml.symm) (Steps.refl _) (a := a) (by rw [hh]; exact q) q' (argsL := argsL) (rest := S) (lenOf hpd hlen) rfl hW (hb hby hd) (fun _ _ => ⟨rfl, hh, hc, hl⟩)
  dsimp only [Pt.U, Pt.locs, Pt.cells, Pt.slots] at X' e1 e2 e3 st hQ
  subst e1 e2 e3
  exact own_step (k T' _ v ⟨C, rfl, Nat.le_trans hkm hQ.1.2, _, X', Fr.app N hQ.2⟩ hQ.1.1) fun t q => st.trans q
theorem own_callS {index : Nat} {y : MethodName} {bytes' : ByteArray} {maxL' : Nat} {ret' : Option FieldType} {rm : Room} {argsL : List Value} {Q' : Option Value → Heap → Prop} {ps : List FieldType} {W : Nat}
    (X : OwnSt p l e R s m args below meth c Z own bytes maxL ret nm n0 km Q RR T h cells slots) (hd : decode bytes pc = .ok (.invokestatic index, 3)) (hy : y.cls ≠ "java/lang/invoke/MethodHandle" ∧ y.cls ≠ "java/lang/invoke/VarHandle")
    (w1 : (Cond.methodLink own index y).before a0 Z = true) (w2 : (Cond.static y).before a0 Z = true) (w5 : (Cond.code y bytes' maxL' ret').before a0 Z = true) (w6 : (Cond.initialized y.cls).before a0 Z = true)
    (M : OwnMet l Z y bytes' maxL' ret' rm argsL.toArray h n0 Q') {rt : Option FieldType} (hpd : parseMethodDescriptor y.desc = some ⟨ps, rt⟩) (hlen : argsL.length = ps.length) {st : List Value} (hst : st = argsL.reverse ++ S) (hp : pc + 3 = pc') (hsz : Ls.size = maxL)
    (hW : 0 + (S.map fun v => v.category).sum ≤ W) (hf : rm.frames + 1 ≤ R.frames) (hlo : W + (maxL' + 11) + rm.locals ≤ R.locals) (hc : cells + rm.cells ≤ R.cells) (hl : slots + rm.slots ≤ R.slots)
    (k : ∀ T' h' v, OwnSt p l e R s m args below meth c Z own bytes maxL ret nm n0 km Q RR T' h' (cells + rm.cells) (slots + rm.slots) → Q' v h' → OwnGo p e below (T'.setTop (mkF m pc' Ls (v.toList ++ S))) RR) : OwnGo p e below (T.setTop (mkF m pc Ls st)) RR := by
  subst hp hst
  obtain ⟨C, hh, hkm, locs, X0, N⟩ := X
  obtain ⟨hx, hby, hml, hZ, hown, hnm, hret, hlk, hR⟩ := id C
  obtain ⟨v, _, ⟨T', L', c', s'⟩, -, X', ⟨Lc, hQ, e1, e2, e3⟩, st⟩ := Jvm.LawKit.callS X0 hx (y := y) hown (mvT hZ w1) (mvT hZ w2) (mvT hZ w6) (mvT hZ w5) hy (backOf (W := W) (Q := fun v h' L => (Q' v h' ∧ h.size ≤ h'.size) ∧ Fr n0 L) (M []) hZ w5 w6 hf hlo) (g := mkF m pc Ls (argsL.reverse ++ S)) rfl (hsz.trans hml.symm) (argsL := argsL) (rest := S) (lenOf hpd hlen) rfl hW (hb hby hd) (fun _ _ => ⟨rfl, hh, hc, hl⟩)
  dsimp only [Pt.U, Pt.locs, Pt.cells, Pt.slots] at X' e1 e2 e3 st hQ
  subst e1 e2 e3
  exact own_step (k T' _ v ⟨C, rfl, Nat.le_trans hkm hQ.1.2, _, X', Fr.app N hQ.2⟩ hQ.1.1) st
end OwnKit
/-! ## own kit, arrays: the whole list of what lies in them -/
section OwnArr
variable {p : Program} {l : Launch} {e : Env} {R : Room} {s : State} {m : MethodId} {args : Array Value} {below : List Frame} {meth : Method} {c : Code} {Z : State} {own : String} {bytes : ByteArray} {maxL : Nat} {ret : Option FieldType} {nm : String} {n0 km : Nat} {Q : Option Value → Heap → Prop} {RR : State → Outcome → Prop} {T : State} {h h' : Heap} {cells slots : Nat} {a0 : Array Value} {pc pc' : Nat} {Ls : Array Slot} {S : List Value} {a b : Addr} {ty : FieldType} {vs : List Value} {sl : Nat} {v : Value} {ws : List Addr}
def OwnAr (Z : State) (h : Heap) (a : Addr) (ty : FieldType) (vs : List Value) : Prop := ∃ c : Cell, Arr Z h a c ty ∧ c.slots = vs.toArray ∧ vs.length < 2 ^ 31
theorem OwnAr.lt (F : OwnAr Z h a ty vs) : a < h.size := F.elim fun _ q => q.1.lt
theorem OwnAr.ext (F : OwnAr Z h a ty vs) (E : Ext h h') : OwnAr Z h' a ty vs := by obtain ⟨c, A, r⟩ := F; exact ⟨c, A.ext E, r⟩
theorem OwnAr.other (F : OwnAr Z h b ty vs) (W : Wr h h' a sl v) (q : b ≠ a) : OwnAr Z h' b ty vs := by obtain ⟨c, A, r⟩ := F; exact ⟨c, A.other W q, r⟩
theorem OwnAr.keep (F : OwnAr Z h a ty vs) (K : Keep h h' ws) (q : a ∉ ws) : OwnAr Z h' a ty vs := by obtain ⟨c, A, r⟩ := F; exact ⟨c, ⟨K.2.1 a c A.1 q, A.2⟩, r⟩
theorem OwnAr.same (F : OwnAr Z h a ty vs) (W : Wr h h' a sl v) : OwnAr Z h' a ty (vs.set sl v) := by
  obtain ⟨c, A, r1, r2⟩ := F
  exact ⟨_, A.same W, by simp [Cell.setSlot, r1], by simpa using r2⟩
theorem OwnAr.in (F : OwnAr Z h a ty vs) {j : Int32} (h1 : ¬ j < 0) (h2 : j.toNatClampNeg < vs.length) {c : Cell} (r1 : c.slots = vs.toArray) : ¬ (j < 0 ∨ c.slots.size ≤ j.toNatClampNeg) := by
  rintro (q | q)
  · exact h1 q
  · rw [r1, List.size_toArray] at q; omega
theorem own_lt_of_get {i : Nat} {x : Value} (q : vs[i]? = some x) : i < vs.length := (List.getElem?_eq_some_iff.mp q).1
theorem own_getI {xs : List Int32} {i : Nat} (q : i < xs.length) : (xs.map Value.int)[i]? = some (.int (xs.getD i 0)) := by
  rw [List.getElem?_map, List.getElem?_eq_getElem q, List.getD_eq_getElem?_getD, List.getElem?_eq_getElem q]; rfl
theorem own_getJ {xs : List Int64} {i : Nat} (q : i < xs.length) : (xs.map Value.long)[i]? = some (.long (xs.getD i 0)) := by
  rw [List.getElem?_map, List.getElem?_eq_getElem q, List.getD_eq_getElem?_getD, List.getElem?_eq_getElem q]; rfl
theorem own_newarr {aty : ArrayType} {n : Int32} {cap : Nat} (X : OwnSt p l e R s m args below meth c Z own bytes maxL ret nm n0 km Q RR T h cells slots) (hd : decode bytes pc = .ok (.newarray aty, 2)) (w : (Cond.arrayClass (newarray.typeOf aty)).before a0 Z = true) (hp : pc + 2 = pc') (hn : ¬ n < 0) (hcap : n.toNatClampNeg ≤ cap) (hbig : cap * 8 ≤ 536870912) (hc : cells + 1 ≤ R.cells) (hl : slots + cap ≤ R.slots)
    (k : ∀ T' h' b, b = h.size → OwnSt p l e R s m args below meth c Z own bytes maxL ret nm n0 km Q RR T' h' (cells + 1) (slots + cap) → Ext h h' → OwnAr Z h' b (newarray.typeOf aty) (List.replicate n.toNatClampNeg (defaultValue (newarray.typeOf aty))) → OwnGo p e below (T'.setTop (mkF m pc' Ls (.ref b :: S))) RR) : OwnGo p e below (T.setTop (mkF m pc Ls (.int n :: S))) RR := by
  subst hp
  obtain ⟨C, hh, hkm, locs, X0, N⟩ := X
  obtain ⟨hx, hby, hml, hZ, hown, hnm, hret, hlk, hR⟩ := id C
  obtain ⟨T', h', cA, X', e', E', A', st⟩ := newP X0 hx hZ w hh (g := mkF m pc Ls (.int n :: S)) rfl (hb hby hd) rfl hn hcap hbig hc hl
  exact own_step (k T' h' _ rfl ⟨C, e', Nat.le_trans hkm E'.1, locs, X', N⟩ E' ⟨_, A', by simp [newA], by simp only [List.length_replicate]; omega⟩) st
theorem own_arraylength (X : OwnSt p l e R s m args below meth c Z own bytes maxL ret nm n0 km Q RR T h cells slots) (hd : decode bytes pc = .ok (.arraylength, 1)) (A : OwnAr Z h a ty vs) {n : Int32} (hn : vs.length.toInt32 = n) (hp : pc + 1 = pc') (k : OwnGo p e below (T.setTop (mkF m pc' Ls (.int n :: S))) RR) : OwnGo p e below (T.setTop (mkF m pc Ls (.ref a :: S))) RR := by
  subst hp hn
  obtain ⟨C, hh, hkm, locs, X0, N⟩ := id X
  obtain ⟨cl, A0, r1, r2⟩ := A
  refine own_step k fun t q => ?_
  refine X0.arraylength X.hx (by rw [hh]; exact A0.1) (State.isArrayOf_alike X.hZ.alike A0.2.1) (g := mkF m pc Ls (.ref a :: S)) rfl rfl (hb X.by' hd) _ ?_
  rw [r1, List.size_toArray]; exact q
theorem own_iaload {j : Int32} (X : OwnSt p l e R s m args below meth c Z own bytes maxL ret nm n0 km Q RR T h cells slots) (hd : decode bytes pc = .ok (.iaload, 1)) (A : OwnAr Z h a .int vs) (hj : ¬ j < 0) (hv : vs[j.toNatClampNeg]? = some v) (hp : pc + 1 = pc') (k : OwnGo p e below (T.setTop (mkF m pc' Ls (v :: S))) RR) : OwnGo p e below (T.setTop (mkF m pc Ls (.int j :: .ref a :: S))) RR := by
  subst hp
  obtain ⟨C, hh, hkm, locs, X0, N⟩ := id X
  obtain ⟨cl, A0, r1, r2⟩ := id A
  exact own_step k fun t q => X0.iaload X.hx (by rw [hh]; exact A0.1) (State.isArrayOf_alike X.hZ.alike A0.2.1) A0.2.2 (A.in hj (own_lt_of_get hv) r1) (by rw [r1, List.getElem?_toArray]; exact hv) (g := mkF m pc Ls (.int j :: .ref a :: S)) rfl rfl (hb X.by' hd) _ q
theorem own_laload {j : Int32} (X : OwnSt p l e R s m args below meth c Z own bytes maxL ret nm n0 km Q RR T h cells slots) (hd : decode bytes pc = .ok (.laload, 1)) (A : OwnAr Z h a .long vs) (hj : ¬ j < 0) (hv : vs[j.toNatClampNeg]? = some v) (hp : pc + 1 = pc') (k : OwnGo p e below (T.setTop (mkF m pc' Ls (v :: S))) RR) : OwnGo p e below (T.setTop (mkF m pc Ls (.int j :: .ref a :: S))) RR := by
  subst hp
  obtain ⟨C, hh, hkm, locs, X0, N⟩ := id X
  obtain ⟨cl, A0, r1, r2⟩ := id A
  exact own_step k fun t q => X0.laload X.hx (by rw [hh]; exact A0.1) (State.isArrayOf_alike X.hZ.alike A0.2.1) A0.2.2 (A.in hj (own_lt_of_get hv) r1) (by rw [r1, List.getElem?_toArray]; exact hv) (g := mkF m pc Ls (.int j :: .ref a :: S)) rfl rfl (hb X.by' hd) _ q
theorem own_caload {j : Int32} (X : OwnSt p l e R s m args below meth c Z own bytes maxL ret nm n0 km Q RR T h cells slots) (hd : decode bytes pc = .ok (.caload, 1)) (A : OwnAr Z h a .char vs) (hj : ¬ j < 0) (hv : vs[j.toNatClampNeg]? = some v) (hp : pc + 1 = pc') (k : OwnGo p e below (T.setTop (mkF m pc' Ls (v :: S))) RR) : OwnGo p e below (T.setTop (mkF m pc Ls (.int j :: .ref a :: S))) RR := by
  subst hp
  obtain ⟨C, hh, hkm, locs, X0, N⟩ := id X
  obtain ⟨cl, A0, r1, r2⟩ := id A
  exact own_step k fun t q => X0.caload X.hx (by rw [hh]; exact A0.1) (State.isArrayOf_alike X.hZ.alike A0.2.1) A0.2.2 (A.in hj (own_lt_of_get hv) r1) (by rw [r1, List.getElem?_toArray]; exact hv) (g := mkF m pc Ls (.int j :: .ref a :: S)) rfl rfl (hb X.by' hd) _ q
theorem own_baload {j : Int32} (X : OwnSt p l e R s m args below meth c Z own bytes maxL ret nm n0 km Q RR T h cells slots) (hd : decode bytes pc = .ok (.baload, 1)) (A : OwnAr Z h a .byte vs) (hj : ¬ j < 0) (hv : vs[j.toNatClampNeg]? = some v) (hp : pc + 1 = pc') (k : OwnGo p e below (T.setTop (mkF m pc' Ls (v :: S))) RR) : OwnGo p e below (T.setTop (mkF m pc Ls (.int j :: .ref a :: S))) RR := by
  subst hp
  obtain ⟨C, hh, hkm, locs, X0, N⟩ := id X
  obtain ⟨cl, A0, r1, r2⟩ := id A
  exact own_step k fun t q => X0.baloadBytes X.hx (by rw [hh]; exact A0.1) (State.isArrayOf_alike X.hZ.alike A0.2.1) A0.2.2 (A.in hj (own_lt_of_get hv) r1) (by rw [r1, List.getElem?_toArray]; exact hv) (g := mkF m pc Ls (.int j :: .ref a :: S)) rfl rfl (hb X.by' hd) _ q
theorem own_aaload {j : Int32} (X : OwnSt p l e R s m args below meth c Z own bytes maxL ret nm n0 km Q RR T h cells slots) (hd : decode bytes pc = .ok (.aaload, 1)) (A : OwnAr Z h a ty vs) (hty : ty.isReference = true) (hj : ¬ j < 0) (hv : vs[j.toNatClampNeg]? = some v) (hp : pc + 1 = pc') (k : OwnGo p e below (T.setTop (mkF m pc' Ls (v :: S))) RR) : OwnGo p e below (T.setTop (mkF m pc Ls (.int j :: .ref a :: S))) RR := by
  subst hp
  obtain ⟨C, hh, hkm, locs, X0, N⟩ := id X
  obtain ⟨cl, A0, r1, r2⟩ := id A
  exact own_step k fun t q => X0.aaload X.hx (by rw [hh]; exact A0.1) (State.isArrayOf_alike X.hZ.alike A0.2.1) hty A0.2.2 (A.in hj (own_lt_of_get hv) r1) (by rw [r1, List.getElem?_toArray]; exact hv) (g := mkF m pc Ls (.int j :: .ref a :: S)) rfl rfl (hb X.by' hd) _ q
theorem own_iastore {j : Int32} {x : Int32} (X : OwnSt p l e R s m args below meth c Z own bytes maxL ret nm n0 km Q RR T h cells slots) (hd : decode bytes pc = .ok (.iastore, 1)) (A : OwnAr Z h a .int vs) (hj : ¬ j < 0) (hj2 : j.toNatClampNeg < vs.length) (hge : n0 ≤ a) (hp : pc + 1 = pc') (k : ∀ T' h', OwnSt p l e R s m args below meth c Z own bytes maxL ret nm n0 km Q RR T' h' cells slots → Wr h h' a j.toNatClampNeg (.int x) → OwnAr Z h' a .int (vs.set j.toNatClampNeg (.int x)) → OwnGo p e below (T'.setTop (mkF m pc' Ls S)) RR) : OwnGo p e below (T.setTop (mkF m pc Ls (.int x :: .int j :: .ref a :: S))) RR := by
  subst hp
  obtain ⟨C, hh, hkm, locs, X0, N⟩ := id X
  obtain ⟨cl, A0, r1, r2⟩ := id A
  obtain ⟨T', h', X', e', W', st⟩ := stI X0 X.hx X.hZ hh A0 (A.in hj hj2 r1) (g := mkF m pc Ls (.int x :: .int j :: .ref a :: S)) rfl rfl (hb X.by' hd)
  exact own_step (k T' h' ⟨C, e', Nat.le_trans hkm (Nat.le_of_eq W'.size.symm), _, X', Fr.snoc X' N hge⟩ W' (A.same W')) st
theorem own_lastore {j : Int32} {x : Int64} (X : OwnSt p l e R s m args below meth c Z own bytes maxL ret nm n0 km Q RR T h cells slots) (hd : decode bytes pc = .ok (.lastore, 1)) (A : OwnAr Z h a .long vs) (hj : ¬ j < 0) (hj2 : j.toNatClampNeg < vs.length) (hge : n0 ≤ a) (hp : pc + 1 = pc') (k : ∀ T' h', OwnSt p l e R s m args below meth c Z own bytes maxL ret nm n0 km Q RR T' h' cells slots → Wr h h' a j.toNatClampNeg (.long x) → OwnAr Z h' a .long (vs.set j.toNatClampNeg (.long x)) → OwnGo p e below (T'.setTop (mkF m pc' Ls S)) RR) : OwnGo p e below (T.setTop (mkF m pc Ls (.long x :: .int j :: .ref a :: S))) RR := by
  subst hp
  obtain ⟨C, hh, hkm, locs, X0, N⟩ := id X
  obtain ⟨cl, A0, r1, r2⟩ := id A
  obtain ⟨T', h', X', e', W', st⟩ := stJ X0 X.hx X.hZ hh A0 (A.in hj hj2 r1) (g := mkF m pc Ls (.long x :: .int j :: .ref a :: S)) rfl rfl (hb X.by' hd)
  exact own_step (k T' h' ⟨C, e', Nat.le_trans hkm (Nat.le_of_eq W'.size.symm), _, X', Fr.snoc X' N hge⟩ W' (A.same W')) st
theorem own_castore {j : Int32} {x : Int32} (X : OwnSt p l e R s m args below meth c Z own bytes maxL ret nm n0 km Q RR T h cells slots) (hd : decode bytes pc = .ok (.castore, 1)) (A : OwnAr Z h a .char vs) (hj : ¬ j < 0) (hj2 : j.toNatClampNeg < vs.length) (hge : n0 ≤ a) (hp : pc + 1 = pc') (k : ∀ T' h', OwnSt p l e R s m args below meth c Z own bytes maxL ret nm n0 km Q RR T' h' cells slots → Wr h h' a j.toNatClampNeg (.int (x.toUInt32.toUInt16.toUInt32.toInt32)) → OwnAr Z h' a .char (vs.set j.toNatClampNeg (.int (x.toUInt32.toUInt16.toUInt32.toInt32))) → OwnGo p e below (T'.setTop (mkF m pc' Ls S)) RR) : OwnGo p e below (T.setTop (mkF m pc Ls (.int x :: .int j :: .ref a :: S))) RR := by
  subst hp
  obtain ⟨C, hh, hkm, locs, X0, N⟩ := id X
  obtain ⟨cl, A0, r1, r2⟩ := id A
  obtain ⟨T', h', X', e', W', st⟩ := stC X0 X.hx X.hZ hh A0 (A.in hj hj2 r1) (g := mkF m pc Ls (.int x :: .int j :: .ref a :: S)) rfl rfl (hb X.by' hd)
  exact own_step (k T' h' ⟨C, e', Nat.le_trans hkm (Nat.le_of_eq W'.size.symm), _, X', Fr.snoc X' N hge⟩ W' (A.same W')) st
end OwnArr
/-! ## own kit, arrays: their class, a copy of one, a cast, a pair doubled -/
section OwnArr2
variable {p : Program} {l : Launch} {e : Env} {R : Room} {s : State} {m : MethodId} {args : Array Value} {below : List Frame} {meth : Method} {c : Code} {Z : State} {own : String} {bytes : ByteArray} {maxL : Nat} {ret : Option FieldType} {nm : String} {n0 km : Nat} {Q : Option Value → Heap → Prop} {RR : State → Outcome → Prop} {T : State} {h h' : Heap} {cells slots : Nat} {a0 : Array Value} {pc pc' : Nat} {Ls : Array Slot} {S : List Value} {a b : Addr} {ty : FieldType} {vs : List Value} {sl : Nat} {v : Value} {ws : List Addr}
theorem own_newarrE {aty : ArrayType} {n : Int32} {cap : Nat} {K : String} (X : OwnSt p l e R s m args below meth c Z own bytes maxL ret nm n0 km Q RR T h cells slots) (hd : decode bytes pc = .ok (.newarray aty, 2)) (w : (Cond.arrayClass (newarray.typeOf aty)).before a0 Z = true) (hK : "[" ++ (newarray.typeOf aty).toString = K) (hp : pc + 2 = pc') (hn : ¬ n < 0) (hcap : n.toNatClampNeg ≤ cap) (hbig : cap * 8 ≤ 536870912) (hc : cells + 1 ≤ R.cells) (hl : slots + cap ≤ R.slots)
    (k : ∀ T' h' b, b = h.size → OwnSt p l e R s m args below meth c Z own bytes maxL ret nm n0 km Q RR T' h' (cells + 1) (slots + cap) → Ext h h' → OwnAr Z h' b (newarray.typeOf aty) (List.replicate n.toNatClampNeg (defaultValue (newarray.typeOf aty))) → Exa Z h' b K → OwnGo p e below (T'.setTop (mkF m pc' Ls (.ref b :: S))) RR) : OwnGo p e below (T.setTop (mkF m pc Ls (.int n :: S))) RR := by
  subst hp hK
  obtain ⟨C, hh, hkm, locs, X0, N⟩ := X
  obtain ⟨hx, hby, hml, hZ, hown, hnm, hret, hlk, hR⟩ := id C
  have hcb : componentBytes (newarray.typeOf aty) ≤ 8 := by cases aty <;> decide
  obtain ⟨cA, kA, comp, h1, h2, h3, X', st⟩ := X0.newarrayPrim hx (mvA hZ w) (g := mkF m pc Ls (.int n :: S)) rfl (hb hby hd) rfl hn (Nat.le_trans (Nat.mul_le_mul hcap hcb) hbig) hc (by omega)
  subst hh
  rw [hZ.alike.findClass] at h1
  obtain ⟨kZ, z1, -⟩ := Vm.findClass_spec h1
  obtain ⟨k', z2, z3⟩ := hZ.alike.2.2 _ _ z1
  cases h2.symm.trans z2
  have z4 : kZ.kind = .array comp (newarray.typeOf aty) := by rw [← h3, z3]
  have E : Ext T.heap (T.heap.push { cls := cA, slots := Array.replicate n.toNatClampNeg (defaultValue (newarray.typeOf aty)), vm := .none }) := ext_of fun a q => Array.getElem?_push_lt q |>.trans (Array.getElem?_eq_getElem q).symm
  have hN : (T.heap.push { cls := cA, slots := Array.replicate n.toNatClampNeg (defaultValue (newarray.typeOf aty)), vm := .none })[T.heap.size]? = some ({ cls := cA, slots := Array.replicate n.toNatClampNeg (defaultValue (newarray.typeOf aty)), vm := .none } : Cell) := by simp
  refine own_step (k _ _ _ rfl ⟨C, rfl, Nat.le_trans hkm E.1, locs, X'.more (Nat.le_refl _) (by omega), N⟩ E ⟨_, ⟨hN, ⟨fun _ z => (by cases z), kZ, z1, comp, z4⟩, fun z => (by cases z)⟩, by simp, by simp only [List.length_replicate]; omega⟩ ⟨_, kZ, hN, h1, z1, rfl, fun q => by rw [z4] at q; cases q⟩) st
theorem own_clone {index cap : Nat} {ad : String} {W : Nat} (X : OwnSt p l e R s m args below meth c Z own bytes maxL ret nm n0 km Q RR T h cells slots) (hd : decode bytes pc = .ok (.invokevirtual index, 3))
    (w1 : (Cond.methodLink own index ⟨ad, "clone", "()Ljava/lang/Object;"⟩).before a0 Z = true) (w2 : (Cond.sameMethod ad "java/lang/Object" "clone" "()Ljava/lang/Object;").before a0 Z = true) (w3 : (Cond.native ⟨"java/lang/Object", "clone", "()Ljava/lang/Object;"⟩).before a0 Z = true)
    (w4 : (Cond.instanceMethod ⟨"java/lang/Object", "clone", "()Ljava/lang/Object;"⟩).before a0 Z = true) (w5 : (Cond.selects ad ⟨ad, "clone", "()Ljava/lang/Object;"⟩ ⟨"java/lang/Object", "clone", "()Ljava/lang/Object;"⟩).before a0 Z = true) (w6 : (Cond.castable ad "java/lang/Cloneable").before a0 Z = true)
    (A : OwnAr Z h a ty vs) (E : Exa Z h a ad) (hfit : ∀ v ∈ vs, fits ty v = true) (hp : pc + 3 = pc') (hsz : Ls.size = maxL) (hf : 1 ≤ R.frames) (hW : 0 + (S.map fun v => v.category).sum ≤ W) (hlo : W + 14 ≤ R.locals) (hcap : vs.length ≤ cap) (hc : cells + 1 ≤ R.cells) (hl : slots + cap ≤ R.slots)
    (k : ∀ T' h' b, b = h.size → OwnSt p l e R s m args below meth c Z own bytes maxL ret nm n0 km Q RR T' h' (cells + 1) (slots + cap) → Ext h h' → OwnAr Z h' b ty vs → Exa Z h' b ad → OwnGo p e below (T'.setTop (mkF m pc' Ls (.ref b :: S))) RR) : OwnGo p e below (T.setTop (mkF m pc Ls (.ref a :: S))) RR := by
  subst hp
  obtain ⟨C, hh, hkm, locs, X0, N⟩ := X
  obtain ⟨hx, hby, hml, hZ, hown, hnm, hret, hlk, hR⟩ := id C
  obtain ⟨cl, A0, r1, r2⟩ := A
  have F : FitC Z cl := fun i v hv => by
    obtain ⟨hs, kk, hk, comp, hkind⟩ := A0.2.1
    rw [r1, List.getElem?_toArray] at hv
    have q := hfit v (List.mem_of_getElem? hv)
    simp [State.fitsSlot, State.slotType?, hk, hkind, q]
  obtain ⟨T', h', X', e', E', A', Ex', st⟩ := cloneA X0 hx hZ hown w1 w2 w3 w4 w5 w6 hh A0 E F (g := mkF m pc Ls (.ref a :: S)) rfl (hsz.trans hml.symm) rfl (hb hby hd) hf hW hlo (by rw [r1, List.size_toArray]; exact hcap) hc hl
  exact own_step (k T' h' _ rfl ⟨C, e', Nat.le_trans hkm E'.1, locs, X', N⟩ E' ⟨_, A', r1, r2⟩ Ex') st
theorem own_cast {index : Nat} {K : String} (X : OwnSt p l e R s m args below meth c Z own bytes maxL ret nm n0 km Q RR T h cells slots) (hd : decode bytes pc = .ok (.checkcast index, 3)) (w : (Cond.classLink own index K).before a0 Z = true) (F : Ins Z h a K true) (hp : pc + 3 = pc')
    (k : ∀ T', OwnSt p l e R s m args below meth c Z own bytes maxL ret nm n0 km Q RR T' h cells slots → OwnGo p e below (T'.setTop (mkF m pc' Ls (.ref a :: S))) RR) : OwnGo p e below (T.setTop (mkF m pc Ls (.ref a :: S))) RR := by
  subst hp
  obtain ⟨C, hh, hkm, locs, X0, N⟩ := X
  obtain ⟨hx, hby, hml, hZ, hown, hnm, hret, hlk, hR⟩ := id C
  obtain ⟨T', X', e', st⟩ := castY X0 hx hZ hown w hh F (g := mkF m pc Ls (.ref a :: S)) rfl rfl (hb hby hd)
  exact own_step (k T' ⟨C, e', hkm, locs, X', N⟩) st
theorem own_dup2 {x y : Value} (X : OwnSt p l e R s m args below meth c Z own bytes maxL ret nm n0 km Q RR T h cells slots) (hd : decode bytes pc = .ok (.dup2, 1)) (hp : pc + 1 = pc') (hc : x.category = 1) (hc' : y.category = 1) (k : OwnGo p e below (T.setTop (mkF m pc' Ls (x :: y :: x :: y :: S))) RR) : OwnGo p e below (T.setTop (mkF m pc Ls (x :: y :: S))) RR := by
  subst hp
  exact own_step k fun t k => Jvm.Free.XT.dup2 X.here X.hx rfl (hb X.by' hd) rfl hc hc' k
end OwnArr2
/-! ## own kit: arrays of references, a switch, a call through a subclass's name -/
section OwnRef
variable {p : Program} {l : Launch} {e : Env} {R : Room} {s : State} {m : MethodId} {args : Array Value} {below : List Frame} {meth : Method} {c : Code} {Z : State} {own : String} {bytes : ByteArray} {maxL : Nat} {ret : Option FieldType} {nm : String} {n0 km : Nat} {Q : Option Value → Heap → Prop} {RR : State → Outcome → Prop} {T : State} {h h' : Heap} {cells slots : Nat} {a0 : Array Value} {pc pc' : Nat} {Ls : Array Slot} {S : List Value} {a b : Addr} {C : String} {vs : List Value} {sl : Nat} {v : Value} {ws : List Addr}
def OwnArR (Z : State) (h : Heap) (a : Addr) (C : String) (vs : List Value) : Prop := ∃ c : Cell, Arr Z h a c (.object C) ∧ c.slots = vs.toArray ∧ vs.length < 2 ^ 31 ∧ Ovr Z c.cls C
theorem OwnArR.lt (F : OwnArR Z h a C vs) : a < h.size := F.elim fun _ q => q.1.lt
theorem OwnArR.ar (F : OwnArR Z h a C vs) : OwnAr Z h a (.object C) vs := F.elim fun c q => ⟨c, q.1, q.2.1, q.2.2.1⟩
theorem OwnArR.ext (F : OwnArR Z h a C vs) (E : Ext h h') : OwnArR Z h' a C vs := by obtain ⟨c, A, r⟩ := F; exact ⟨c, A.ext E, r⟩
theorem OwnArR.other (F : OwnArR Z h b C vs) (W : Wr h h' a sl v) (q : b ≠ a) : OwnArR Z h' b C vs := by obtain ⟨c, A, r⟩ := F; exact ⟨c, A.other W q, r⟩
theorem OwnArR.keep (F : OwnArR Z h a C vs) (K : Keep h h' ws) (q : a ∉ ws) : OwnArR Z h' a C vs := by obtain ⟨c, A, r⟩ := F; exact ⟨c, ⟨K.2.1 a c A.1 q, A.2⟩, r⟩
theorem OwnArR.same (F : OwnArR Z h a C vs) (W : Wr h h' a sl v) : OwnArR Z h' a C (vs.set sl v) := by
  obtain ⟨c, A, r1, r2, r3⟩ := F
  exact ⟨_, A.same W, by simp [Cell.setSlot, r1], by simpa using r2, r3⟩
theorem own_anew {index : Nat} {n : Int32} {cap : Nat} (X : OwnSt p l e R s m args below meth c Z own bytes maxL ret nm n0 km Q RR T h cells slots) (hd : decode bytes pc = .ok (.anewarray index, 3)) (w1 : (Cond.classLink own index C).before a0 Z = true) (w2 : (Cond.arrayOver (.object C)).before a0 Z = true) (hp : pc + 3 = pc') (hn : ¬ n < 0) (hcap : n.toNatClampNeg ≤ cap) (hbig : cap * 8 ≤ 536870912) (hc : cells + 1 ≤ R.cells) (hl : slots + cap ≤ R.slots)
    (k : ∀ T' h' b, b = h.size → OwnSt p l e R s m args below meth c Z own bytes maxL ret nm n0 km Q RR T' h' (cells + 1) (slots + cap) → Ext h h' → OwnArR Z h' b C (List.replicate n.toNatClampNeg .null) → OwnGo p e below (T'.setTop (mkF m pc' Ls (.ref b :: S))) RR) : OwnGo p e below (T.setTop (mkF m pc Ls (.int n :: S))) RR := by
  subst hp
  obtain ⟨C0, hh, hkm, locs, X0, N⟩ := X
  obtain ⟨hx, hby, hml, hZ, hown, hnm, hret, hlk, hR⟩ := id C0
  obtain ⟨T', h', cA, X', e', E', A', O', st⟩ := newR X0 hx hZ hown w1 w2 hh (g := mkF m pc Ls (.int n :: S)) rfl (hb hby hd) rfl hn hcap hbig hc hl
  exact own_step (k T' h' _ rfl ⟨C0, e', Nat.le_trans hkm E'.1, locs, X', N⟩ E' ⟨_, A', by simp [newA, defaultValue], by simp only [List.length_replicate]; omega, O'⟩) st
theorem own_aastore {j : Int32} {y : Addr} (X : OwnSt p l e R s m args below meth c Z own bytes maxL ret nm n0 km Q RR T h cells slots) (hd : decode bytes pc = .ok (.aastore, 1)) (A : OwnArR Z h a C vs) (I : Ins Z h y C true) (hj : ¬ j < 0) (hj2 : j.toNatClampNeg < vs.length) (hge : n0 ≤ a) (hp : pc + 1 = pc')
    (k : ∀ T' h', OwnSt p l e R s m args below meth c Z own bytes maxL ret nm n0 km Q RR T' h' cells slots → Wr h h' a j.toNatClampNeg (.ref y) → OwnArR Z h' a C (vs.set j.toNatClampNeg (.ref y)) → OwnGo p e below (T'.setTop (mkF m pc' Ls S)) RR) : OwnGo p e below (T.setTop (mkF m pc Ls (.ref y :: .int j :: .ref a :: S))) RR := by
  subst hp
  obtain ⟨C0, hh, hkm, locs, X0, N⟩ := id X
  obtain ⟨cl, A0, r1, r2, r3⟩ := id A
  obtain ⟨T', h', X', e', W', st⟩ := stR X0 X.hx X.hZ hh A0 (A.ar.in hj hj2 r1) rfl (Sto.of A0 r3 I) (g := mkF m pc Ls (.ref y :: .int j :: .ref a :: S)) rfl rfl (hb X.by' hd)
  exact own_step (k T' h' ⟨C0, e', Nat.le_trans hkm (Nat.le_of_eq W'.size.symm), _, X', Fr.snoc X' N hge⟩ W' (A.same W')) st
theorem own_tsw {dflt low high : Int} {offs : Array Int} {len : Nat} {o : Int} {i : Int32} (X : OwnSt p l e R s m args below meth c Z own bytes maxL ret nm n0 km Q RR T h cells slots) (hd : decode bytes pc = .ok (.tableswitch dflt low high offs, len)) (hin : ¬ (i.toInt < low ∨ i.toInt > high)) (hoff : offs[(i.toInt - low).toNat]? = some o) (hp : ((pc : Int) + o).toNat = pc') (ho : 0 ≤ (pc : Int) + o) (k : OwnGo p e below (T.setTop (mkF m pc' Ls S)) RR) : OwnGo p e below (T.setTop (mkF m pc Ls (.int i :: S))) RR :=
  own_step k fun t k => XS.tswIn X.here X.hx rfl (pc0 := pc) rfl (hb X.by' hd) rfl hin hoff ho hp k
theorem own_callU {index : Nat} {y z : MethodName} {K owner : String} {bytes' : ByteArray} {maxL' : Nat} {ret' : Option FieldType} {rm : Room} {a : Addr} {argsL : List Value} {Q' : Option Value → Heap → Prop} {ps : List FieldType} {W : Nat}
    (X : OwnSt p l e R s m args below meth c Z own bytes maxL ret nm n0 km Q RR T h cells slots) (hd : decode bytes pc = .ok (.invokevirtual index, 3)) (hy : owner ≠ "java/lang/invoke/MethodHandle" ∧ owner ≠ "java/lang/invoke/VarHandle")
    (w1 : (Cond.methodLink own index y).before a0 Z = true) (w2 : (Cond.sameMethod y.cls owner y.name y.desc).before a0 Z = true) (w2' : (Cond.declares ⟨owner, y.name, y.desc⟩).before a0 Z = true) (w3 : (Cond.selects K y z).before a0 Z = true) (w4 : (Cond.instanceMethod z).before a0 Z = true) (w5 : (Cond.code z bytes' maxL' ret').before a0 Z = true) (w6 : (Cond.initialized z.cls).before a0 Z = true) (E : Exa Z h a K)
    (M : OwnMet l Z z bytes' maxL' ret' rm (.ref a :: argsL).toArray h n0 Q') {rt : Option FieldType} (hpd : parseMethodDescriptor y.desc = some ⟨ps, rt⟩) (hlen : argsL.length = ps.length) {st : List Value} (hst : st = argsL.reverse ++ .ref a :: S) (hp : pc + 3 = pc') (hsz : Ls.size = maxL)
    (hW : 0 + (S.map fun v => v.category).sum ≤ W) (hf : rm.frames + 1 ≤ R.frames) (hlo : W + (maxL' + 11) + rm.locals ≤ R.locals) (hc : cells + rm.cells ≤ R.cells) (hl : slots + rm.slots ≤ R.slots)
    (k : ∀ T' h' v, OwnSt p l e R s m args below meth c Z own bytes maxL ret nm n0 km Q RR T' h' (cells + rm.cells) (slots + rm.slots) → Q' v h' → OwnGo p e below (T'.setTop (mkF m pc' Ls (v.toList ++ S))) RR) : OwnGo p e below (T.setTop (mkF m pc Ls st)) RR := by
  subst hp hst
  obtain ⟨C0, hh, hkm, locs, X0, N⟩ := X
  obtain ⟨hx, hby, hml, hZ, hown, hnm, hret, hlk, hR⟩ := id C0
  obtain ⟨cq, kq, qa, qb, qc⟩ := isOf hZ hh E
  obtain ⟨v, _, ⟨T', L', c', s'⟩, -, X', ⟨Lc, hQ, e1, e2, e3⟩, st⟩ := X0.virtualBackUp hx (x := y) (y := z) hown (mvT hZ w1) (mvT hZ w2) (mvT hZ w2') hy (mvT hZ w3) (mvT hZ w4) (backOf (W := W) (Q := fun v h' L => (Q' v h' ∧ h.size ≤ h'.size) ∧ Fr n0 L) (M []) hZ w5 w6 hf hlo) qa qc (g := mkF m pc Ls (argsL.reverse ++ .ref a :: S)) rfl (hsz.trans hml.symm) (Steps.refl _) (argsL := argsL) (rest := S) (lenOf hpd hlen) rfl hW (hb hby hd) (fun _ _ => ⟨rfl, hh, hc, hl⟩)
  dsimp only [Pt.U, Pt.locs, Pt.cells, Pt.slots] at X' e1 e2 e3 st hQ
  subst e1 e2 e3
  exact own_step (k T' _ v ⟨C0, rfl, Nat.le_trans hkm hQ.1.2, _, X', Fr.app N hQ.2⟩ hQ.1.1) fun t q => st.trans q
end OwnRef
/-! ## own kit: doubles that are whole numbers, small enough to be exact -/
section OwnDbl
open Jvm.FP
variable {p : Program} {l : Launch} {e : Env} {R : Room} {s : State} {m : MethodId} {args : Array Value} {below : List Frame} {meth : Method} {c : Code} {Z : State} {own : String} {bytes : ByteArray} {maxL : Nat} {ret : Option FieldType} {nm : String} {n0 km : Nat} {Q : Option Value → Heap → Prop} {RR : State → Outcome → Prop} {T : State} {h : Heap} {cells slots : Nat} {a0 : Array Value} {pc pc' : Nat} {Ls : Array Slot} {S : List Value}
theorem own_i2d {x : Int32} (X : OwnSt p l e R s m args below meth c Z own bytes maxL ret nm n0 km Q RR T h cells slots) (hd : decode bytes pc = .ok (.i2d, 1)) (hp : pc + 1 = pc') (k : OwnGo p e below (T.setTop (mkF m pc' Ls (.double (FP.l2d x.toInt64) :: S))) RR) : OwnGo p e below (T.setTop (mkF m pc Ls (.int x :: S))) RR := by
  subst hp
  exact own_step k fun t k => XS.i2dS X.here X.hx rfl (hb X.by' hd) rfl (i2d_w x) k
theorem own_l2d {x : Int64} (X : OwnSt p l e R s m args below meth c Z own bytes maxL ret nm n0 km Q RR T h cells slots) (hd : decode bytes pc = .ok (.l2d, 1)) (hp : pc + 1 = pc') (k : OwnGo p e below (T.setTop (mkF m pc' Ls (.double (FP.l2d x) :: S))) RR) : OwnGo p e below (T.setTop (mkF m pc Ls (.long x :: S))) RR := by
  subst hp
  exact own_step k fun t k => XS.l2dS X.here X.hx rfl (hb X.by' hd) rfl rfl k
theorem own_dconst0 (X : OwnSt p l e R s m args below meth c Z own bytes maxL ret nm n0 km Q RR T h cells slots) (hd : decode bytes pc = .ok (.dconst 0, 1)) (hp : pc + 1 = pc') (k : OwnGo p e below (T.setTop (mkF m pc' Ls (.double (FP.l2d (0 : Int64)) :: S))) RR) : OwnGo p e below (T.setTop (mkF m pc Ls S)) RR := by
  subst hp
  exact own_step k fun t k => XS.dconst0 X.here X.hx rfl (hb X.by' hd) (show FP.dconst0 = FP.l2d 0 by rw [l2d_zero]; rfl) k
theorem own_dload {j : Nat} {v : UInt64} (X : OwnSt p l e R s m args below meth c Z own bytes maxL ret nm n0 km Q RR T h cells slots) (hd : decode bytes pc = .ok (.dload j, 2)) (hp : pc + 2 = pc') (hl : Ls[j]? = some (.val (.double v))) (k : OwnGo p e below (T.setTop (mkF m pc' Ls (.double v :: S))) RR) : OwnGo p e below (T.setTop (mkF m pc Ls S)) RR := by
  subst hp
  exact own_step k fun t k => XS.dload X.here X.hx rfl (hb X.by' hd) hl k
theorem own_dloadN {j : Fin 4} {v : UInt64} (X : OwnSt p l e R s m args below meth c Z own bytes maxL ret nm n0 km Q RR T h cells slots) (hd : decode bytes pc = .ok (.dload_n j, 1)) (hp : pc + 1 = pc') (hl : Ls[j.val]? = some (.val (.double v))) (k : OwnGo p e below (T.setTop (mkF m pc' Ls (.double v :: S))) RR) : OwnGo p e below (T.setTop (mkF m pc Ls S)) RR := by
  subst hp
  exact own_step k fun t k => XS.dloadN X.here X.hx rfl (hb X.by' hd) hl k
theorem own_dstore {j : Nat} {x : UInt64} {l' : Array Slot} (X : OwnSt p l e R s m args below meth c Z own bytes maxL ret nm n0 km Q RR T h cells slots) (hd : decode bytes pc = .ok (.dstore j, 2)) (hp : pc + 2 = pc') (hl : storeLocals Ls j (.double x) = some l') (k : OwnGo p e below (T.setTop (mkF m pc' l' S)) RR) : OwnGo p e below (T.setTop (mkF m pc Ls (.double x :: S))) RR := by
  subst hp
  exact own_step k fun t k => XS.dstore X.here X.hx rfl (hb X.by' hd) rfl hl k
theorem own_dstoreN {j : Fin 4} {x : UInt64} {l' : Array Slot} (X : OwnSt p l e R s m args below meth c Z own bytes maxL ret nm n0 km Q RR T h cells slots) (hd : decode bytes pc = .ok (.dstore_n j, 1)) (hp : pc + 1 = pc') (hl : storeLocals Ls j.val (.double x) = some l') (k : OwnGo p e below (T.setTop (mkF m pc' l' S)) RR) : OwnGo p e below (T.setTop (mkF m pc Ls (.double x :: S))) RR := by
  subst hp
  exact own_step k fun t k => XS.dstoreN X.here X.hx rfl (hb X.by' hd) rfl hl k
theorem own_dadd {x y : Int64} (X : OwnSt p l e R s m args below meth c Z own bytes maxL ret nm n0 km Q RR T h cells slots) (hd : decode bytes pc = .ok (.dadd, 1)) (hp : pc + 1 = pc') (hx : B53 x) (hy : B53 y) (k : OwnGo p e below (T.setTop (mkF m pc' Ls (.double (FP.l2d (x + y)) :: S))) RR) : OwnGo p e below (T.setTop (mkF m pc Ls (.double (FP.l2d y) :: .double (FP.l2d x) :: S))) RR := by
  subst hp
  exact own_step k fun t k => XS.daddS X.here X.hx rfl (hb X.by' hd) rfl (nn_w (dadd_w hx hy)) (dadd_w hx hy) k
theorem own_djY {cd : ClassFile.Cond} {op : CmpOp} {x y : Int64} {o : Int} (X : OwnSt p l e R s m args below meth c Z own bytes maxL ret nm n0 km Q RR T h cells slots) (hd : decode bytes pc = .ok (.dcmp op, 1)) (hd2 : decode bytes (pc + 1) = .ok (.ifCond cd o, 3)) (hx : B53 x) (hy : B53 y) (hc : ownLc cd x y = true) (hp : (((pc + 1 : Nat) : Int) + o).toNat = pc') (ho : 0 ≤ ((pc + 1 : Nat) : Int) + o) (k : OwnGo p e below (T.setTop (mkF m pc' Ls S)) RR) : OwnGo p e below (T.setTop (mkF m pc Ls (.double (FP.l2d y) :: .double (FP.l2d x) :: S))) RR :=
  own_step (own_ifY (pc := pc + 1) (x := lcmpW x y) X hd2 ((own_lc cd x y).trans hc) hp ho k) fun t k => XS.dcmpS X.here X.hx rfl (hb X.by' hd) rfl (dcmpV_w hx hy op) k
theorem own_djN {cd : ClassFile.Cond} {op : CmpOp} {x y : Int64} {o : Int} (X : OwnSt p l e R s m args below meth c Z own bytes maxL ret nm n0 km Q RR T h cells slots) (hd : decode bytes pc = .ok (.dcmp op, 1)) (hd2 : decode bytes (pc + 1) = .ok (.ifCond cd o, 3)) (hx : B53 x) (hy : B53 y) (hc : ownLc cd x y = false) (hp : pc + 4 = pc') (k : OwnGo p e below (T.setTop (mkF m pc' Ls S)) RR) : OwnGo p e below (T.setTop (mkF m pc Ls (.double (FP.l2d y) :: .double (FP.l2d x) :: S))) RR :=
  own_step (own_ifN (pc := pc + 1) (x := lcmpW x y) X hd2 ((own_lc cd x y).trans hc) hp k) fun t k => XS.dcmpS X.here X.hx rfl (hb X.by' hd) rfl (dcmpV_w hx hy op) k
theorem own_retD {z : UInt64} {rest : List Value} (X : OwnSt p l e R s m args below meth c Z own bytes maxL (some .double) nm n0 km Q RR T h cells slots) (hd : decode bytes pc = .ok (.dreturn, 1)) (hQ : Q (some (.double z)) h) (hc : cells ≤ R.cells) (hl : slots ≤ R.slots) : OwnGo p e below (T.setTop (mkF m pc Ls (.double z :: rest))) RR := by
  refine own_ret X (fun q => nomatch q) hQ hc hl fun locs X0 fs hr => ?_
  obtain ⟨⟨hx, hby, hml, hZ, hown, hnm, hret, hlk, hR⟩, hh, -⟩ := X
  exact retOut X0 hx hret rfl (Or.inr (Or.inr (Or.inl ⟨rfl, rfl, z, rfl⟩))) (hb hby hd) hr
/-- a sum of so many ints -/
def OwnK (k : Nat) (a : Int64) : Prop := -((k : Int) * 2147483648) ≤ a.toInt ∧ a.toInt ≤ (k : Int) * 2147483648
theorem own_K0 : OwnK 0 (0 : Int64) := by unfold OwnK; decide
theorem own_Ki (x : Int32) : OwnK 1 x.toInt64 := by
  have h1 := x.toInt_lt; have h2 := x.le_toInt
  unfold OwnK; rw [Int32.toInt_toInt64]; omega
theorem own_Ka {i j : Nat} {a b : Int64} (ha : OwnK i a) (hb : OwnK j b) (hij : i + j ≤ 1000) : OwnK (i + j) (a + b) := by
  obtain ⟨a1, a2⟩ := ha; obtain ⟨b1, b2⟩ := hb
  have e : (a + b).toInt = a.toInt + b.toInt := by rw [Int64.toInt_add]; exact Int.bmod_eq_of_le (by omega) (by omega)
  unfold OwnK; rw [e]; omega
theorem own_Kb {i : Nat} {a : Int64} (ha : OwnK i a) (hi : i ≤ 1000) : B53 a := by
  obtain ⟨a1, a2⟩ := ha
  exact ⟨by omega, by omega⟩
end OwnDbl
/-! ## own kit: arrays of whole doubles -/
section OwnDar
variable {p : Program} {l : Launch} {e : Env} {R : Room} {s : State} {m : MethodId} {args : Array Value} {below : List Frame} {meth : Method} {c : Code} {Z : State} {own : String} {bytes : ByteArray} {maxL : Nat} {ret : Option FieldType} {nm : String} {n0 km : Nat} {Q : Option Value → Heap → Prop} {RR : State → Outcome → Prop} {T : State} {h : Heap} {cells slots : Nat} {a0 : Array Value} {pc pc' : Nat} {Ls : Array Slot} {S : List Value} {a : Addr} {vs : List Value} {v : Value}
def ownDv (a : Int64) : Value := .double (FP.l2d a)
theorem own_getD {xs : List Int64} {i : Nat} (q : i < xs.length) : (xs.map ownDv)[i]? = some (.double (FP.l2d (xs.getD i 0))) := by
  rw [List.getElem?_map, List.getElem?_eq_getElem q, List.getD_eq_getElem?_getD, List.getElem?_eq_getElem q]; rfl
theorem own_zD (n : Nat) : List.replicate n (Value.double 0) = (List.replicate n (0 : Int64)).map ownDv := by
  rw [List.map_replicate]; unfold ownDv; rw [l2d_zero]
theorem own_daload {j : Int32} (X : OwnSt p l e R s m args below meth c Z own bytes maxL ret nm n0 km Q RR T h cells slots) (hd : decode bytes pc = .ok (.daload, 1)) (A : OwnAr Z h a .double vs) (hj : ¬ j < 0) (hv : vs[j.toNatClampNeg]? = some v) (hp : pc + 1 = pc') (k : OwnGo p e below (T.setTop (mkF m pc' Ls (v :: S))) RR) : OwnGo p e below (T.setTop (mkF m pc Ls (.int j :: .ref a :: S))) RR := by
  subst hp
  obtain ⟨C, hh, hkm, locs, X0, N⟩ := id X
  obtain ⟨cl, A0, r1, r2⟩ := id A
  exact own_step k fun t q => X0.daload X.hx (by rw [hh]; exact A0.1) (State.isArrayOf_alike X.hZ.alike A0.2.1) A0.2.2 (A.in hj (own_lt_of_get hv) r1) (by rw [r1, List.getElem?_toArray]; exact hv) (g := mkF m pc Ls (.int j :: .ref a :: S)) rfl rfl (hb X.by' hd) _ q
theorem own_dastore {j : Int32} {x : UInt64} (X : OwnSt p l e R s m args below meth c Z own bytes maxL ret nm n0 km Q RR T h cells slots) (hd : decode bytes pc = .ok (.dastore, 1)) (A : OwnAr Z h a .double vs) (hj : ¬ j < 0) (hj2 : j.toNatClampNeg < vs.length) (hge : n0 ≤ a) (hp : pc + 1 = pc') (k : ∀ T' h', OwnSt p l e R s m args below meth c Z own bytes maxL ret nm n0 km Q RR T' h' cells slots → Wr h h' a j.toNatClampNeg (.double x) → OwnAr Z h' a .double (vs.set j.toNatClampNeg (.double x)) → OwnGo p e below (T'.setTop (mkF m pc' Ls S)) RR) : OwnGo p e below (T.setTop (mkF m pc Ls (.double x :: .int j :: .ref a :: S))) RR := by
  subst hp
  obtain ⟨C, hh, hkm, locs, X0, N⟩ := id X
  obtain ⟨cl, A0, r1, r2⟩ := id A
  obtain ⟨T', h', X', e', W', st⟩ := stD X0 X.hx X.hZ hh A0 (A.in hj hj2 r1) (g := mkF m pc Ls (.double x :: .int j :: .ref a :: S)) rfl rfl (hb X.by' hd)
  exact own_step (k T' h' ⟨C, e', Nat.le_trans hkm (Nat.le_of_eq W'.size.symm), _, X', Fr.snoc X' N hge⟩ W' (A.same W')) st
end OwnDar
theorem own_plE {Z : State} {h : Heap} {a : Addr} {C : String} (F : Exa Z h a C) : ∃ c : Cell, h[a]? = some c ∧ c.vm.isStatics = false := by obtain ⟨c, k, h1, _, _, h4, _⟩ := F; exact ⟨c, h1, h4⟩
theorem own_plF {Z : State} {h : Heap} {a : Addr} {C n d : String} {v : Value} (F : Fld Z h a C n d v) : ∃ c : Cell, h[a]? = some c ∧ c.vm.isStatics = false := by obtain ⟨c, _, _, _, _, h1, _, _, _, h4, _⟩ := F; exact ⟨c, h1, h4⟩
theorem own_plV {Z : State} {h : Heap} {a : Addr} {ty : FieldType} {vs : List Value} (F : OwnAr Z h a ty vs) : ∃ c : Cell, h[a]? = some c ∧ c.vm.isStatics = false := by obtain ⟨c, A, _⟩ := F; exact ⟨c, A.1, A.plain⟩
theorem own_pl0 {h : Heap} : ∀ a ∈ ([] : List Addr), ∃ c : Cell, h[a]? = some c ∧ c.vm.isStatics = false := by intro a q; cases q
theorem own_plS {h : Heap} {b : Addr} {ws : List Addr} (p : ∃ c : Cell, h[b]? = some c ∧ c.vm.isStatics = false) (q : ∀ a ∈ ws, ∃ c : Cell, h[a]? = some c ∧ c.vm.isStatics = false) : ∀ a ∈ b :: ws, ∃ c : Cell, h[a]? = some c ∧ c.vm.isStatics = false := by
  intro a r
  rcases List.mem_cons.mp r with e | e
  · rw [e]; exact p
  · exact q a e
theorem own_sta_keep {Z : State} {h h' : Heap} {C n d : String} {v : Value} {ws : List Addr} (F : Sta Z h C n d v) (K : Keep h h' ws) (q : ∀ a ∈ ws, ∃ c : Cell, h[a]? = some c ∧ c.vm.isStatics = false) : Sta Z h' C n d v := by
  obtain ⟨cf, i, k, f, st, cell, h1, h2, h3, h4, h5, h6, h7⟩ := F
  refine ⟨cf, i, k, f, st, cell, h1, h2, h3, h4, K.2.1 _ _ h5 ?_, h6, h7⟩
  intro m
  obtain ⟨c, e1, e2⟩ := q st m
  rw [h5] at e1
  cases e1
  rw [h6] at e2
  cases e2
/-! ## own kit: an array of ints that a case pins whole -/
theorem own_len {st : State} {as' : Array Value} {t : Term} {x : Addr} {z : Int32} {c : Cell} {ty : FieldType} (ht : t.eval as' st none [] st = some (.ref x)) (A : Arr st st.heap x c ty) (h : (Cond.eq (.length t) (.int z)).value as' st none st [] = some true) : c.slots.size < 2 ^ 31 ∧ c.slots.size.toInt32 = z := by
  have ha : st.arrayAt? x = some c := A.fin (Vm.Alike.refl _)
  obtain ⟨a, b, e1, e2, k1, k2⟩ := cmp_v (Or.inl h)
  by_cases q : c.slots.size < 2 ^ 31
  · refine ⟨q, ?_⟩
    have e3 := len_f (args := as') (first := st) (o := none) (idx := []) ht ha q
    cases e3.symm.trans e1
    cases (Term.int_eval z).symm.trans e2
    simpa [Cond.value, e1, e2] using h
  · simp [Term.eval, ht, ha, q] at e1
theorem own_elI {st : State} {as' : Array Value} {t : Term} {x : Addr} {k z : Int32} {c : Cell} {ty : FieldType} (ht : t.eval as' st none [] st = some (.ref x)) (A : Arr st st.heap x c ty) (h : (Cond.eq (.elem t (.int k)) (.int z)).value as' st none st [] = some true) : c.slots[k.toNatClampNeg]? = some (.int z) := by
  obtain ⟨a, b, e1, e2, k1, k2⟩ := cmp_v (Or.inl h)
  cases (Term.int_eval z).symm.trans e2
  obtain ⟨w, rfl⟩ := k2
  have q : w = z := by simpa [Cond.value, e1, e2] using h
  subst q
  exact (elem_in e1 ht (Term.int_eval k) A.1).2
theorem own_arOf {st : State} {x : Addr} {c : Cell} {ty : FieldType} {vs : List Value} (A : Arr st st.heap x c ty) (h1 : c.slots.size = vs.length) (h2 : vs.length < 2 ^ 31) (H : HasL c 0 vs) : OwnAr st st.heap x ty vs := by
  refine ⟨c, A, ?_, h2⟩
  apply Array.ext_getElem?
  intro i
  by_cases q : i < vs.length
  · have := HasL.at (dv := .null) vs 0 H i q
    rw [Nat.zero_add] at this
    rw [this, List.getElem?_toArray, List.getD_eq_getElem?_getD, List.getElem?_eq_getElem q]; rfl
  · rw [Array.getElem?_eq_none (by omega), List.getElem?_toArray, List.getElem?_eq_none (by omega)]
theorem own_nn (x : Int32) : (x.toUInt32.toUInt16.toUInt32.toInt32).toUInt32.toUInt16.toUInt32.toInt32 = x.toUInt32.toUInt16.toUInt32.toInt32 := by
  have h : ∀ u : UInt16, u.toUInt32.toInt32.toUInt32.toUInt16 = u := fun u => by simp
  rw [h]
theorem own_and (x m : Int32) (hm : 0 ≤ m.toInt) : 0 ≤ (x &&& m).toInt ∧ (x &&& m).toInt ≤ m.toInt := by
  have e1 : m.toInt = (m.toBitVec.toNat : Int) := by
    show m.toBitVec.toInt = _
    have q : 0 ≤ m.toBitVec.toInt := hm
    have := m.toBitVec.isLt
    rw [BitVec.toInt_eq_toNat_cond] at q ⊢
    split at q <;> split <;> omega
  have h1 : (x &&& m).toBitVec.toNat ≤ m.toBitVec.toNat := by
    rw [Int32.toBitVec_and, BitVec.toNat_and]; exact Nat.and_le_right
  have h3 : m.toInt < 2147483648 := m.toInt_lt
  have e2 : (x &&& m).toInt = ((x &&& m).toBitVec.toNat : Int) := by
    show (x &&& m).toBitVec.toInt = _
    rw [BitVec.toInt_eq_toNat_cond]
    split <;> omega
  omega
theorem own_or32 (c : BitVec 32) (k : BitVec 32) (hk : k.getLsbD 5 = true) : c ||| 32#32 = k ↔ c = k ∨ c = k ^^^ 32#32 := by
  have t : (32#32 : BitVec 32) = BitVec.twoPow 32 5 := by decide
  constructor
  · intro h
    by_cases b : c.getLsbD 5
    · left; rw [← h]; apply BitVec.eq_of_getLsbD_eq; intro i hi
      rw [BitVec.getLsbD_or, t, BitVec.getLsbD_twoPow]
      by_cases q : 5 = i
      · subst q; simp [b]
      · simp [q]
    · right; rw [← h]; apply BitVec.eq_of_getLsbD_eq; intro i hi
      rw [BitVec.getLsbD_xor, BitVec.getLsbD_or, t, BitVec.getLsbD_twoPow]
      by_cases q : 5 = i
      · subst q; rw [Bool.not_eq_true] at b; rw [b]; rfl
      · simp [q]
  · rintro (rfl | rfl) <;> (apply BitVec.eq_of_getLsbD_eq; intro i hi; rw [BitVec.getLsbD_or]; try rw [BitVec.getLsbD_xor]) <;> rw [t, BitVec.getLsbD_twoPow]
    · by_cases q : 5 = i
      · subst q; simp [hk]
      · simp [q]
    · by_cases q : 5 = i
      · subst q; simp [hk]
      · simp [q]
theorem own_or (c k k' : Int32) (hk : k.toBitVec.getLsbD 5 = true) (hk' : k.toBitVec ^^^ 32#32 = k'.toBitVec) : c ||| (32 : Int32) = k ↔ c = k ∨ c = k' := by
  rw [← Int32.toBitVec_inj, Int32.toBitVec_or, ← Int32.toBitVec_inj (a := c) (b := k), ← Int32.toBitVec_inj (a := c) (b := k'), ← hk']
  exact own_or32 _ _ hk
theorem own_st (c : Int32) : (if c = (84 : Int32) then (1 : Int32) else (if c = (116 : Int32) then (1 : Int32) else (0 : Int32))) = (if c ||| (32 : Int32) = (116 : Int32) then (1 : Int32) else (0 : Int32)) := by
  simp only [own_or c 116 84 (by decide) (by decide)]
  by_cases h : c = 84 <;> by_cases h2 : c = 116 <;> simp [h, h2]
theorem own_p3 (x : Int32) : ((x &&& (65535 : Int32)) % (3 : Int32)) = 0 ∨ ((x &&& (65535 : Int32)) % (3 : Int32)) = 1 ∨ ((x &&& (65535 : Int32)) % (3 : Int32)) = 2 := by
  have h1 := own_and x 65535 (by decide)
  have h2 := (Jvm.RoadKit.c_irem (x &&& (65535 : Int32)) 3 3 rfl).1 h1.1
  have h3 : ((x &&& (65535 : Int32)) % (3 : Int32)).toInt = 0 ∨ ((x &&& (65535 : Int32)) % (3 : Int32)).toInt = 1 ∨ ((x &&& (65535 : Int32)) % (3 : Int32)).toInt = 2 := by omega
  simp only [← Int32.toInt_inj]; exact h3
theorem own_p1 (x : Int32) : (x &&& (1 : Int32)) = 0 ∨ (x &&& (1 : Int32)) = 1 ∨ (x &&& (1 : Int32)) = 2 := by
  have h1 := own_and x 1 (by decide)
  have e : (1 : Int32).toInt = 1 := rfl
  have h3 : (x &&& (1 : Int32)).toInt = 0 ∨ (x &&& (1 : Int32)).toInt = 1 ∨ (x &&& (1 : Int32)).toInt = 2 := by omega
  simp only [← Int32.toInt_inj]; exact h3
theorem own_p5 (x : Int32) : ((x &&& (7 : Int32)) % (5 : Int32)) = 0 ∨ ((x &&& (7 : Int32)) % (5 : Int32)) = 1 ∨ ((x &&& (7 : Int32)) % (5 : Int32)) = 2 ∨ ((x &&& (7 : Int32)) % (5 : Int32)) = 3 ∨ ((x &&& (7 : Int32)) % (5 : Int32)) = 4 := by
  have h1 := own_and x 7 (by decide)
  have h2 := (Jvm.RoadKit.c_irem (x &&& (7 : Int32)) 5 5 rfl).1 h1.1
  have h3 : ((x &&& (7 : Int32)) % (5 : Int32)).toInt = 0 ∨ ((x &&& (7 : Int32)) % (5 : Int32)).toInt = 1 ∨ ((x &&& (7 : Int32)) % (5 : Int32)).toInt = 2 ∨ ((x &&& (7 : Int32)) % (5 : Int32)).toInt = 3 ∨ ((x &&& (7 : Int32)) % (5 : Int32)).toInt = 4 := by omega
  simp only [← Int32.toInt_inj]; exact h3
theorem own_alc (a b c : Int64) : a + (b + c) = b + (a + c) := by rw [← Int64.add_assoc, Int64.add_comm a b, Int64.add_assoc]
theorem own_n1 (a v : Int32) (h : v = ((1 : Int32) + (a &&& (3 : Int32)))) : v ≠ 0 := by
  have h1 := own_and a 3 (by decide)
  have e3 : (3 : Int32).toInt = 3 := rfl
  have e1 : (1 : Int32).toInt = 1 := rfl
  have e : v.toInt = 1 + (a &&& (3 : Int32)).toInt := by rw [h, Int32.toInt_add, e1]; exact Int.bmod_eq_of_le (by omega) (by omega)
  intro q
  rw [q] at e
  have e0 : (0 : Int32).toInt = 0 := rfl
  omega
theorem own_ns (a b v s : Int32) (h : v = ((1 : Int32) + (a &&& (3 : Int32)))) (hs : s = ((b &&& (2147483647 : Int32)) % v)) : (v = 1 ∧ s = 0) ∨ (v = 2 ∧ s = 0) ∨ (v = 2 ∧ s = 1) ∨ (v = 3 ∧ s = 0) ∨ (v = 3 ∧ s = 1) ∨ (v = 3 ∧ s = 2) ∨ (v = 4 ∧ s = 0) ∨ (v = 4 ∧ s = 1) ∨ (v = 4 ∧ s = 2) ∨ (v = 4 ∧ s = 3) := by
  have h1 := own_and a 3 (by decide)
  have h2 := (own_and b 2147483647 (by decide)).1
  have e3 : (3 : Int32).toInt = 3 := rfl
  have e1 : (1 : Int32).toInt = 1 := rfl
  have e0 : (0 : Int32).toInt = 0 := rfl
  have e2 : (2 : Int32).toInt = 2 := rfl
  have e4 : (4 : Int32).toInt = 4 := rfl
  have e : v.toInt = 1 + (a &&& (3 : Int32)).toInt := by rw [h, Int32.toInt_add, e1]; exact Int.bmod_eq_of_le (by omega) (by omega)
  have f := (c_irem (b &&& (2147483647 : Int32)) v v.toInt rfl).1 h2
  rw [← hs] at f
  have f1 := Int.emod_nonneg (b &&& (2147483647 : Int32)).toInt (show v.toInt ≠ 0 by omega)
  have f2 := Int.emod_lt_of_pos (b &&& (2147483647 : Int32)).toInt (show 0 < v.toInt by omega)
  simp only [← Int32.toInt_inj, e0, e1, e2, e3, e4]
  omega
theorem own_d4_0 : decode jdk_37_method_2_code 0 = .ok (.aload_n 0, 1) := by decide +kernel
theorem own_d4_1 : decode jdk_37_method_2_code 1 = .ok (.getfield 7, 3) := by decide +kernel
theorem own_d4_4 : decode jdk_37_method_2_code 4 = .ok (.ireturn, 1) := by decide +kernel
theorem own_ef4 (m : MethodId) (x0 : Addr) : entryFrame m #[(.ref x0)] 1 = mkF m 0 #[.val (.ref x0)] [] := by first | (simp [entryFrame, mkF, argsToLocals, Value.category]; done) | rfl
theorem own_pn4 : plainFor (⟨"java/lang/Enum", "ordinal", "()I"⟩ : MethodName) = true := by first | exact plainFor_of_name (by first | (simp [plainName, overriddenIn]; done) | decide +kernel) | exact Jvm.Free.JP.mathPlain rfl (by decide +kernel)
set_option maxRecDepth 65536 in
set_option maxHeartbeats 40000000 in
theorem own_rm4 (l : Launch) (Z : State) (a0 : Array Value) (hw : ∀ d ∈ tables_1, d.before a0 Z = true) (a1 : Addr) (w1 : Int32) (h0 : Heap) (n0 : Nat) (Z0 : n0 ≤ h0.size) (F_ordinal_a1 : Fld Z h0 a1 "java/lang/Enum" "ordinal" "I" (.int w1)) :
    OwnMet l Z (⟨"java/lang/Enum", "ordinal", "()I"⟩ : MethodName) jdk_37_method_2_code 1 (some .int) ({ frames := 0, cells := 0, slots := 0, locals := 0 } : Room) #[(.ref a1)] h0 n0 (fun v h => v = some (.int w1) ∧ h0 = h) := by
  refine own_body own_pn4 ?_
  intro p e s m below meth c s₁ RR X0
  refine own_enter (own_ef4 m a1) ?_
  refine own_aloadN X0 own_d4_0 (pc' := 1) rfl rfl rfl ?_
  refine own_getF X0 own_d4_1 (hw _ (List.mem_of_getElem? (i := 32) rfl)) Via.refl F_ordinal_a1 (pc' := 4) rfl ?_
  intro T1 X1
  exact own_retI X1 own_d4_4 ⟨rfl, rfl⟩ (by decide) (by decide)
theorem own_d1_0 : decode prog_92_method_1_code 0 = .ok (.aload_n 0, 1) := by decide +kernel
theorem own_d1_1 : decode prog_92_method_1_code 1 = .ok (.invokespecial 1, 3) := by decide +kernel
theorem own_d1_4 : decode prog_92_method_1_code 4 = .ok (.aload_n 0, 1) := by decide +kernel
theorem own_d1_5 : decode prog_92_method_1_code 5 = .ok (.iload_n 1, 1) := by decide +kernel
theorem own_d1_6 : decode prog_92_method_1_code 6 = .ok (.putfield 7, 3) := by decide +kernel
theorem own_d1_9 : decode prog_92_method_1_code 9 = .ok (.aload_n 0, 1) := by decide +kernel
theorem own_d1_10 : decode prog_92_method_1_code 10 = .ok (.getstatic 13, 3) := by decide +kernel
theorem own_d1_13 : decode prog_92_method_1_code 13 = .ok (.arraylength, 1) := by decide +kernel
theorem own_d1_14 : decode prog_92_method_1_code 14 = .ok (.iload_n 1, 1) := by decide +kernel
theorem own_d1_15 : decode prog_92_method_1_code 15 = .ok (.imul, 1) := by decide +kernel
theorem own_d1_16 : decode prog_92_method_1_code 16 = .ok (.newarray .double, 2) := by decide +kernel
theorem own_d1_18 : decode prog_92_method_1_code 18 = .ok (.putfield 17, 3) := by decide +kernel
theorem own_d1_21 : decode prog_92_method_1_code 21 = .ok (.return_, 1) := by decide +kernel
theorem own_ef1_1 (m : MethodId) (x0 : Addr) (x1 : Int32) : entryFrame m #[(.ref x0), (.int x1)] 2 = mkF m 0 #[.val (.ref x0), .val (.int x1)] [] := by first | (simp [entryFrame, mkF, argsToLocals, Value.category]; done) | rfl
theorem own_pn1_1 : plainFor (⟨"com/example/evenkeel/evenkeel/skew/CourseSums", "<init>", "(I)V"⟩ : MethodName) = true := by first | exact plainFor_of_name (by first | (simp [plainName, overriddenIn]; done) | decide +kernel) | exact Jvm.Free.JP.mathPlain rfl (by decide +kernel)
set_option maxRecDepth 65536 in
set_option maxHeartbeats 40000000 in
theorem own_rm1_1 (l : Launch) (Z : State) (a0 : Array Value) (hw : ∀ d ∈ tables_1, d.before a0 Z = true) (a1 : Addr) (d0 : Addr) (vs : List Value) (u1 : Int32) (h0 : Heap) (n0 : Nat) (Z0 : n0 ≤ h0.size) (E_a1 : Exa Z h0 a1 "com/example/evenkeel/evenkeel/skew/CourseSums") (F_slots_a1 : Fld Z h0 a1 "com/example/evenkeel/evenkeel/skew/CourseSums" "slots" "I" (.int u1)) (F_sums_a1 : Fld Z h0 a1 "com/example/evenkeel/evenkeel/skew/CourseSums" "sums" "[D" .null) (S_COURSES : Sta Z h0 "com/example/evenkeel/evenkeel/skew/CourseSums" "COURSES" "[Lcom/example/evenkeel/evenkeel/skew/GroupGrowth$Course;" (.ref d0)) (V_d0 : OwnAr Z h0 d0 (.object "com/example/evenkeel/evenkeel/skew/GroupGrowth$Course") vs) (g_a1 : n0 ≤ a1) (ne_d0_a1 : d0 ≠ a1) (hvs : vs.length = 2) :
    OwnMet l Z (⟨"com/example/evenkeel/evenkeel/skew/CourseSums", "<init>", "(I)V"⟩ : MethodName) prog_92_method_1_code 2 none ({ frames := 1, cells := 1, slots := 2, locals := 12 } : Room) #[(.ref a1), (.int (1 : Int32))] h0 n0 (fun v h => ∃ (b : Addr), v = none ∧ Keep h0 h [a1] ∧ Fld Z h a1 "com/example/evenkeel/evenkeel/skew/CourseSums" "slots" "I" (.int (1 : Int32)) ∧ Fld Z h a1 "com/example/evenkeel/evenkeel/skew/CourseSums" "sums" "[D" (.ref b) ∧ h0.size ≤ b ∧ OwnAr Z h b .double ([(0 : Int64), (0 : Int64)].map ownDv)) := by
  refine own_body own_pn1_1 ?_
  intro p e s m below meth c s₁ RR X0
  refine own_enter (own_ef1_1 m a1 (1 : Int32)) ?_
  refine own_aloadN X0 own_d1_0 (pc' := 1) rfl rfl rfl ?_
  refine own_init X0 own_d1_1 (hw _ (List.mem_of_getElem? (i := 7) rfl)) (hw _ (List.mem_of_getElem? (i := 8) rfl)) (hw _ (List.mem_of_getElem? (i := 9) rfl)) (pc' := 4) rfl rfl (by decide) (W := 0) (Nat.le_of_eq rfl) (by decide) ?_
  intro T1 X1
  refine own_aloadN X1 own_d1_4 (pc' := 5) rfl rfl rfl ?_
  refine own_iloadN X1 own_d1_5 (pc' := 6) rfl rfl ?_
  refine own_putF X1 own_d1_6 (hw _ (List.mem_of_getElem? (i := 10) rfl)) Via.refl F_slots_a1 E_a1 (Or.inr ⟨(hw _ (List.mem_of_getElem? (i := 11) rfl)), rfl, rfl⟩) (hw _ (List.mem_of_getElem? (i := 2) rfl)) (ty := .int) (v' := (.int (1 : Int32))) (by decide) rfl rfl g_a1 (pc' := 9) rfl ?_
  intro T2 h2 X2 W2
  have E_a1_2 := (E_a1).wr W2
  have F_slots_a1_2 := (F_slots_a1).same W2
  have F_sums_a1_2 := (F_sums_a1).other W2 (Or.inr (slot_ne (Or.inr (hw _ (List.mem_of_getElem? (i := 16) rfl))) (Or.inr (hw _ (List.mem_of_getElem? (i := 11) rfl))) (by decide) (t := (.array .double)) (t' := .int) (by decide) (by decide)))
  have S_COURSES_2 := (S_COURSES).wr W2
  have V_d0_2 := (V_d0).other W2 ne_d0_a1
  have Z2 : n0 ≤ h2.size := Nat.le_trans Z0 (Nat.le_of_eq W2.size.symm)
  have K2 := ((Keep.refl h0 [a1])).wr W2 (Or.inl (List.mem_of_getElem? (i := 0) rfl))
  refine own_aloadN X2 own_d1_9 (pc' := 10) rfl rfl rfl ?_
  refine own_getS X2 own_d1_10 (hw _ (List.mem_of_getElem? (i := 12) rfl)) Via.refl S_COURSES_2 (pc' := 13) rfl ?_
  intro T3 X3
  refine own_arraylength X3 own_d1_13 V_d0_2 (n := (2 : Int32)) (by rw [hvs]; rfl) (pc' := 14) rfl ?_
  refine own_iloadN X3 own_d1_14 (pc' := 15) rfl rfl ?_
  refine own_imul X3 own_d1_15 (pc' := 16) rfl ?_
  refine own_newarr X3 own_d1_16 (hw _ (List.mem_of_getElem? (i := 14) rfl)) (pc' := 18) rfl (by decide) (cap := 2) (by decide) (by decide) (by decide) (by decide) ?_
  intro T4 h4 b4 hb4 X4 E4 B4
  have g_b4 : n0 ≤ b4 := Nat.le_trans Z2 (Nat.le_of_eq hb4.symm)
  have ne_a1_b4 : a1 ≠ b4 := Nat.ne_of_lt (Nat.lt_of_lt_of_le (E_a1_2).lt (Nat.le_of_eq hb4.symm))
  have ne_d0_b4 : d0 ≠ b4 := Nat.ne_of_lt (Nat.lt_of_lt_of_le (V_d0_2).lt (Nat.le_of_eq hb4.symm))
  have E_a1_4 := (E_a1_2).ext E4
  have F_slots_a1_4 := (F_slots_a1_2).ext E4
  have F_sums_a1_4 := (F_sums_a1_2).ext E4
  have S_COURSES_4 := (S_COURSES_2).ext E4
  have V_d0_4 := (V_d0_2).ext E4
  have Z4 : n0 ≤ h4.size := Nat.le_trans Z2 E4.1
  have sz_b4 : h0.size ≤ b4 := Nat.le_trans (K2).1 (Nat.le_of_eq hb4.symm)
  have K4 := (K2).ext E4
  have V_b4 : OwnAr Z h4 b4 .double ([(0 : Int64), (0 : Int64)].map ownDv) := (by show OwnAr _ _ _ _ ((List.replicate 2 (0 : Int64)).map ownDv); rw [← own_zD]; exact B4)
  refine own_putF X4 own_d1_18 (hw _ (List.mem_of_getElem? (i := 15) rfl)) Via.refl F_sums_a1_4 E_a1_4 (Or.inr ⟨(hw _ (List.mem_of_getElem? (i := 16) rfl)), rfl, rfl⟩) (hw _ (List.mem_of_getElem? (i := 2) rfl)) (ty := (.array .double)) (v' := (.ref b4)) (by decide) rfl rfl g_a1 (pc' := 21) rfl ?_
  intro T5 h5 X5 W5
  have E_a1_5 := (E_a1_4).wr W5
  have F_slots_a1_5 := (F_slots_a1_4).other W5 (Or.inr (slot_ne (Or.inr (hw _ (List.mem_of_getElem? (i := 11) rfl))) (Or.inr (hw _ (List.mem_of_getElem? (i := 16) rfl))) (by decide) (t := .int) (t' := (.array .double)) (by decide) (by decide)))
  have F_sums_a1_5 := (F_sums_a1_4).same W5
  have S_COURSES_5 := (S_COURSES_4).wr W5
  have V_d0_5 := (V_d0_4).other W5 ne_d0_a1
  have V_b4_5 := (V_b4).other W5 ne_a1_b4.symm
  have Z5 : n0 ≤ h5.size := Nat.le_trans Z4 (Nat.le_of_eq W5.size.symm)
  have K5 := (K4).wr W5 (Or.inl (List.mem_of_getElem? (i := 0) rfl))
  exact own_retV X5 own_d1_21 ⟨b4, rfl, K5, F_slots_a1_5, F_sums_a1_5, sz_b4, V_b4_5⟩ (by decide) (by decide)
theorem own_ef1_2 (m : MethodId) (x0 : Addr) (x1 : Int32) : entryFrame m #[(.ref x0), (.int x1)] 2 = mkF m 0 #[.val (.ref x0), .val (.int x1)] [] := by first | (simp [entryFrame, mkF, argsToLocals, Value.category]; done) | rfl
theorem own_pn1_2 : plainFor (⟨"com/example/evenkeel/evenkeel/skew/CourseSums", "<init>", "(I)V"⟩ : MethodName) = true := by first | exact plainFor_of_name (by first | (simp [plainName, overriddenIn]; done) | decide +kernel) | exact Jvm.Free.JP.mathPlain rfl (by decide +kernel)
set_option maxRecDepth 65536 in
set_option maxHeartbeats 40000000 in
theorem own_rm1_2 (l : Launch) (Z : State) (a0 : Array Value) (hw : ∀ d ∈ tables_1, d.before a0 Z = true) (a1 : Addr) (d0 : Addr) (vs : List Value) (u1 : Int32) (h0 : Heap) (n0 : Nat) (Z0 : n0 ≤ h0.size) (E_a1 : Exa Z h0 a1 "com/example/evenkeel/evenkeel/skew/CourseSums") (F_slots_a1 : Fld Z h0 a1 "com/example/evenkeel/evenkeel/skew/CourseSums" "slots" "I" (.int u1)) (F_sums_a1 : Fld Z h0 a1 "com/example/evenkeel/evenkeel/skew/CourseSums" "sums" "[D" .null) (S_COURSES : Sta Z h0 "com/example/evenkeel/evenkeel/skew/CourseSums" "COURSES" "[Lcom/example/evenkeel/evenkeel/skew/GroupGrowth$Course;" (.ref d0)) (V_d0 : OwnAr Z h0 d0 (.object "com/example/evenkeel/evenkeel/skew/GroupGrowth$Course") vs) (g_a1 : n0 ≤ a1) (ne_d0_a1 : d0 ≠ a1) (hvs : vs.length = 2) :
    OwnMet l Z (⟨"com/example/evenkeel/evenkeel/skew/CourseSums", "<init>", "(I)V"⟩ : MethodName) prog_92_method_1_code 2 none ({ frames := 1, cells := 1, slots := 4, locals := 12 } : Room) #[(.ref a1), (.int (2 : Int32))] h0 n0 (fun v h => ∃ (b : Addr), v = none ∧ Keep h0 h [a1] ∧ Fld Z h a1 "com/example/evenkeel/evenkeel/skew/CourseSums" "slots" "I" (.int (2 : Int32)) ∧ Fld Z h a1 "com/example/evenkeel/evenkeel/skew/CourseSums" "sums" "[D" (.ref b) ∧ h0.size ≤ b ∧ OwnAr Z h b .double ([(0 : Int64), (0 : Int64), (0 : Int64), (0 : Int64)].map ownDv)) := by
  refine own_body own_pn1_2 ?_
  intro p e s m below meth c s₁ RR X0
  refine own_enter (own_ef1_2 m a1 (2 : Int32)) ?_
  refine own_aloadN X0 own_d1_0 (pc' := 1) rfl rfl rfl ?_
  refine own_init X0 own_d1_1 (hw _ (List.mem_of_getElem? (i := 7) rfl)) (hw _ (List.mem_of_getElem? (i := 8) rfl)) (hw _ (List.mem_of_getElem? (i := 9) rfl)) (pc' := 4) rfl rfl (by decide) (W := 0) (Nat.le_of_eq rfl) (by decide) ?_
  intro T1 X1
  refine own_aloadN X1 own_d1_4 (pc' := 5) rfl rfl rfl ?_
  refine own_iloadN X1 own_d1_5 (pc' := 6) rfl rfl ?_
  refine own_putF X1 own_d1_6 (hw _ (List.mem_of_getElem? (i := 10) rfl)) Via.refl F_slots_a1 E_a1 (Or.inr ⟨(hw _ (List.mem_of_getElem? (i := 11) rfl)), rfl, rfl⟩) (hw _ (List.mem_of_getElem? (i := 2) rfl)) (ty := .int) (v' := (.int (2 : Int32))) (by decide) rfl rfl g_a1 (pc' := 9) rfl ?_
  intro T2 h2 X2 W2
  have E_a1_2 := (E_a1).wr W2
  have F_slots_a1_2 := (F_slots_a1).same W2
  have F_sums_a1_2 := (F_sums_a1).other W2 (Or.inr (slot_ne (Or.inr (hw _ (List.mem_of_getElem? (i := 16) rfl))) (Or.inr (hw _ (List.mem_of_getElem? (i := 11) rfl))) (by decide) (t := (.array .double)) (t' := .int) (by decide) (by decide)))
  have S_COURSES_2 := (S_COURSES).wr W2
  have V_d0_2 := (V_d0).other W2 ne_d0_a1
  have Z2 : n0 ≤ h2.size := Nat.le_trans Z0 (Nat.le_of_eq W2.size.symm)
  have K2 := ((Keep.refl h0 [a1])).wr W2 (Or.inl (List.mem_of_getElem? (i := 0) rfl))
  refine own_aloadN X2 own_d1_9 (pc' := 10) rfl rfl rfl ?_
  refine own_getS X2 own_d1_10 (hw _ (List.mem_of_getElem? (i := 12) rfl)) Via.refl S_COURSES_2 (pc' := 13) rfl ?_
  intro T3 X3
  refine own_arraylength X3 own_d1_13 V_d0_2 (n := (2 : Int32)) (by rw [hvs]; rfl) (pc' := 14) rfl ?_
  refine own_iloadN X3 own_d1_14 (pc' := 15) rfl rfl ?_
  refine own_imul X3 own_d1_15 (pc' := 16) rfl ?_
  refine own_newarr X3 own_d1_16 (hw _ (List.mem_of_getElem? (i := 14) rfl)) (pc' := 18) rfl (by decide) (cap := 4) (by decide) (by decide) (by decide) (by decide) ?_
  intro T4 h4 b4 hb4 X4 E4 B4
  have g_b4 : n0 ≤ b4 := Nat.le_trans Z2 (Nat.le_of_eq hb4.symm)
  have ne_a1_b4 : a1 ≠ b4 := Nat.ne_of_lt (Nat.lt_of_lt_of_le (E_a1_2).lt (Nat.le_of_eq hb4.symm))
  have ne_d0_b4 : d0 ≠ b4 := Nat.ne_of_lt (Nat.lt_of_lt_of_le (V_d0_2).lt (Nat.le_of_eq hb4.symm))
  have E_a1_4 := (E_a1_2).ext E4
  have F_slots_a1_4 := (F_slots_a1_2).ext E4
  have F_sums_a1_4 := (F_sums_a1_2).ext E4
  have S_COURSES_4 := (S_COURSES_2).ext E4
  have V_d0_4 := (V_d0_2).ext E4
  have Z4 : n0 ≤ h4.size := Nat.le_trans Z2 E4.1
  have sz_b4 : h0.size ≤ b4 := Nat.le_trans (K2).1 (Nat.le_of_eq hb4.symm)
  have K4 := (K2).ext E4
  have V_b4 : OwnAr Z h4 b4 .double ([(0 : Int64), (0 : Int64), (0 : Int64), (0 : Int64)].map ownDv) := (by show OwnAr _ _ _ _ ((List.replicate 4 (0 : Int64)).map ownDv); rw [← own_zD]; exact B4)
  refine own_putF X4 own_d1_18 (hw _ (List.mem_of_getElem? (i := 15) rfl)) Via.refl F_sums_a1_4 E_a1_4 (Or.inr ⟨(hw _ (List.mem_of_getElem? (i := 16) rfl)), rfl, rfl⟩) (hw _ (List.mem_of_getElem? (i := 2) rfl)) (ty := (.array .double)) (v' := (.ref b4)) (by decide) rfl rfl g_a1 (pc' := 21) rfl ?_
  intro T5 h5 X5 W5
  have E_a1_5 := (E_a1_4).wr W5
  have F_slots_a1_5 := (F_slots_a1_4).other W5 (Or.inr (slot_ne (Or.inr (hw _ (List.mem_of_getElem? (i := 11) rfl))) (Or.inr (hw _ (List.mem_of_getElem? (i := 16) rfl))) (by decide) (t := .int) (t' := (.array .double)) (by decide) (by decide)))
  have F_sums_a1_5 := (F_sums_a1_4).same W5
  have S_COURSES_5 := (S_COURSES_4).wr W5
  have V_d0_5 := (V_d0_4).other W5 ne_d0_a1
  have V_b4_5 := (V_b4).other W5 ne_a1_b4.symm
  have Z5 : n0 ≤ h5.size := Nat.le_trans Z4 (Nat.le_of_eq W5.size.symm)
  have K5 := (K4).wr W5 (Or.inl (List.mem_of_getElem? (i := 0) rfl))
  exact own_retV X5 own_d1_21 ⟨b4, rfl, K5, F_slots_a1_5, F_sums_a1_5, sz_b4, V_b4_5⟩ (by decide) (by decide)
theorem own_ef1_3 (m : MethodId) (x0 : Addr) (x1 : Int32) : entryFrame m #[(.ref x0), (.int x1)] 2 = mkF m 0 #[.val (.ref x0), .val (.int x1)] [] := by first | (simp [entryFrame, mkF, argsToLocals, Value.category]; done) | rfl
theorem own_pn1_3 : plainFor (⟨"com/example/evenkeel/evenkeel/skew/CourseSums", "<init>", "(I)V"⟩ : MethodName) = true := by first | exact plainFor_of_name (by first | (simp [plainName, overriddenIn]; done) | decide +kernel) | exact Jvm.Free.JP.mathPlain rfl (by decide +kernel)
set_option maxRecDepth 65536 in
set_option maxHeartbeats 40000000 in
theorem own_rm1_3 (l : Launch) (Z : State) (a0 : Array Value) (hw : ∀ d ∈ tables_1, d.before a0 Z = true) (a1 : Addr) (d0 : Addr) (vs : List Value) (u1 : Int32) (h0 : Heap) (n0 : Nat) (Z0 : n0 ≤ h0.size) (E_a1 : Exa Z h0 a1 "com/example/evenkeel/evenkeel/skew/CourseSums") (F_slots_a1 : Fld Z h0 a1 "com/example/evenkeel/evenkeel/skew/CourseSums" "slots" "I" (.int u1)) (F_sums_a1 : Fld Z h0 a1 "com/example/evenkeel/evenkeel/skew/CourseSums" "sums" "[D" .null) (S_COURSES : Sta Z h0 "com/example/evenkeel/evenkeel/skew/CourseSums" "COURSES" "[Lcom/example/evenkeel/evenkeel/skew/GroupGrowth$Course;" (.ref d0)) (V_d0 : OwnAr Z h0 d0 (.object "com/example/evenkeel/evenkeel/skew/GroupGrowth$Course") vs) (g_a1 : n0 ≤ a1) (ne_d0_a1 : d0 ≠ a1) (hvs : vs.length = 2) :
    OwnMet l Z (⟨"com/example/evenkeel/evenkeel/skew/CourseSums", "<init>", "(I)V"⟩ : MethodName) prog_92_method_1_code 2 none ({ frames := 1, cells := 1, slots := 6, locals := 12 } : Room) #[(.ref a1), (.int (3 : Int32))] h0 n0 (fun v h => ∃ (b : Addr), v = none ∧ Keep h0 h [a1] ∧ Fld Z h a1 "com/example/evenkeel/evenkeel/skew/CourseSums" "slots" "I" (.int (3 : Int32)) ∧ Fld Z h a1 "com/example/evenkeel/evenkeel/skew/CourseSums" "sums" "[D" (.ref b) ∧ h0.size ≤ b ∧ OwnAr Z h b .double ([(0 : Int64), (0 : Int64), (0 : Int64), (0 : Int64), (0 : Int64), (0 : Int64)].map ownDv)) := by
  refine own_body own_pn1_3 ?_
  intro p e s m below meth c s₁ RR X0
  refine own_enter (own_ef1_3 m a1 (3 : Int32)) ?_
  refine own_aloadN X0 own_d1_0 (pc' := 1) rfl rfl rfl ?_
  refine own_init X0 own_d1_1 (hw _ (List.mem_of_getElem? (i := 7) rfl)) (hw _ (List.mem_of_getElem? (i := 8) rfl)) (hw _ (List.mem_of_getElem? (i := 9) rfl)) (pc' := 4) rfl rfl (by decide) (W := 0) (Nat.le_of_eq rfl) (by decide) ?_
  intro T1 X1
  refine own_aloadN X1 own_d1_4 (pc' := 5) rfl rfl rfl ?_
  refine own_iloadN X1 own_d1_5 (pc' := 6) rfl rfl ?_
  refine own_putF X1 own_d1_6 (hw _ (List.mem_of_getElem? (i := 10) rfl)) Via.refl F_slots_a1 E_a1 (Or.inr ⟨(hw _ (List.mem_of_getElem? (i := 11) rfl)), rfl, rfl⟩) (hw _ (List.mem_of_getElem? (i := 2) rfl)) (ty := .int) (v' := (.int (3 : Int32))) (by decide) rfl rfl g_a1 (pc' := 9) rfl ?_
  intro T2 h2 X2 W2
  have E_a1_2 := (E_a1).wr W2
  have F_slots_a1_2 := (F_slots_a1).same W2
  have F_sums_a1_2 := (F_sums_a1).other W2 (Or.inr (slot_ne (Or.inr (hw _ (List.mem_of_getElem? (i := 16) rfl))) (Or.inr (hw _ (List.mem_of_getElem? (i := 11) rfl))) (by decide) (t := (.array .double)) (t' := .int) (by decide) (by decide)))
  have S_COURSES_2 := (S_COURSES).wr W2
  have V_d0_2 := (V_d0).other W2 ne_d0_a1
  have Z2 : n0 ≤ h2.size := Nat.le_trans Z0 (Nat.le_of_eq W2.size.symm)
  have K2 := ((Keep.refl h0 [a1])).wr W2 (Or.inl (List.mem_of_getElem? (i := 0) rfl))
  refine own_aloadN X2 own_d1_9 (pc' := 10) rfl rfl rfl ?_
  refine own_getS X2 own_d1_10 (hw _ (List.mem_of_getElem? (i := 12) rfl)) Via.refl S_COURSES_2 (pc' := 13) rfl ?_
  intro T3 X3
  refine own_arraylength X3 own_d1_13 V_d0_2 (n := (2 : Int32)) (by rw [hvs]; rfl) (pc' := 14) rfl ?_
  refine own_iloadN X3 own_d1_14 (pc' := 15) rfl rfl ?_
  refine own_imul X3 own_d1_15 (pc' := 16) rfl ?_
  refine own_newarr X3 own_d1_16 (hw _ (List.mem_of_getElem? (i := 14) rfl)) (pc' := 18) rfl (by decide) (cap := 6) (by decide) (by decide) (by decide) (by decide) ?_
  intro T4 h4 b4 hb4 X4 E4 B4
  have g_b4 : n0 ≤ b4 := Nat.le_trans Z2 (Nat.le_of_eq hb4.symm)
  have ne_a1_b4 : a1 ≠ b4 := Nat.ne_of_lt (Nat.lt_of_lt_of_le (E_a1_2).lt (Nat.le_of_eq hb4.symm))
  have ne_d0_b4 : d0 ≠ b4 := Nat.ne_of_lt (Nat.lt_of_lt_of_le (V_d0_2).lt (Nat.le_of_eq hb4.symm))
  have E_a1_4 := (E_a1_2).ext E4
  have F_slots_a1_4 := (F_slots_a1_2).ext E4
  have F_sums_a1_4 := (F_sums_a1_2).ext E4
  have S_COURSES_4 := (S_COURSES_2).ext E4
  have V_d0_4 := (V_d0_2).ext E4
  have Z4 : n0 ≤ h4.size := Nat.le_trans Z2 E4.1
  have sz_b4 : h0.size ≤ b4 := Nat.le_trans (K2).1 (Nat.le_of_eq hb4.symm)
  have K4 := (K2).ext E4
  have V_b4 : OwnAr Z h4 b4 .double ([(0 : Int64), (0 : Int64), (0 : Int64), (0 : Int64), (0 : Int64), (0 : Int64)].map ownDv) := (by show OwnAr _ _ _ _ ((List.replicate 6 (0 : Int64)).map ownDv); rw [← own_zD]; exact B4)
  refine own_putF X4 own_d1_18 (hw _ (List.mem_of_getElem? (i := 15) rfl)) Via.refl F_sums_a1_4 E_a1_4 (Or.inr ⟨(hw _ (List.mem_of_getElem? (i := 16) rfl)), rfl, rfl⟩) (hw _ (List.mem_of_getElem? (i := 2) rfl)) (ty := (.array .double)) (v' := (.ref b4)) (by decide) rfl rfl g_a1 (pc' := 21) rfl ?_
  intro T5 h5 X5 W5
  have E_a1_5 := (E_a1_4).wr W5
  have F_slots_a1_5 := (F_slots_a1_4).other W5 (Or.inr (slot_ne (Or.inr (hw _ (List.mem_of_getElem? (i := 11) rfl))) (Or.inr (hw _ (List.mem_of_getElem? (i := 16) rfl))) (by decide) (t := .int) (t' := (.array .double)) (by decide) (by decide)))
  have F_sums_a1_5 := (F_sums_a1_4).same W5
  have S_COURSES_5 := (S_COURSES_4).wr W5
  have V_d0_5 := (V_d0_4).other W5 ne_d0_a1
  have V_b4_5 := (V_b4).other W5 ne_a1_b4.symm
  have Z5 : n0 ≤ h5.size := Nat.le_trans Z4 (Nat.le_of_eq W5.size.symm)
  have K5 := (K4).wr W5 (Or.inl (List.mem_of_getElem? (i := 0) rfl))
  exact own_retV X5 own_d1_21 ⟨b4, rfl, K5, F_slots_a1_5, F_sums_a1_5, sz_b4, V_b4_5⟩ (by decide) (by decide)
theorem own_ef1_4 (m : MethodId) (x0 : Addr) (x1 : Int32) : entryFrame m #[(.ref x0), (.int x1)] 2 = mkF m 0 #[.val (.ref x0), .val (.int x1)] [] := by first | (simp [entryFrame, mkF, argsToLocals, Value.category]; done) | rfl
theorem own_pn1_4 : plainFor (⟨"com/example/evenkeel/evenkeel/skew/CourseSums", "<init>", "(I)V"⟩ : MethodName) = true := by first | exact plainFor_of_name (by first | (simp [plainName, overriddenIn]; done) | decide +kernel) | exact Jvm.Free.JP.mathPlain rfl (by decide +kernel)
set_option maxRecDepth 65536 in
set_option maxHeartbeats 40000000 in
theorem own_rm1_4 (l : Launch) (Z : State) (a0 : Array Value) (hw : ∀ d ∈ tables_1, d.before a0 Z = true) (a1 : Addr) (d0 : Addr) (vs : List Value) (u1 : Int32) (h0 : Heap) (n0 : Nat) (Z0 : n0 ≤ h0.size) (E_a1 : Exa Z h0 a1 "com/example/evenkeel/evenkeel/skew/CourseSums") (F_slots_a1 : Fld Z h0 a1 "com/example/evenkeel/evenkeel/skew/CourseSums" "slots" "I" (.int u1)) (F_sums_a1 : Fld Z h0 a1 "com/example/evenkeel/evenkeel/skew/CourseSums" "sums" "[D" .null) (S_COURSES : Sta Z h0 "com/example/evenkeel/evenkeel/skew/CourseSums" "COURSES" "[Lcom/example/evenkeel/evenkeel/skew/GroupGrowth$Course;" (.ref d0)) (V_d0 : OwnAr Z h0 d0 (.object "com/example/evenkeel/evenkeel/skew/GroupGrowth$Course") vs) (g_a1 : n0 ≤ a1) (ne_d0_a1 : d0 ≠ a1) (hvs : vs.length = 2) :
    OwnMet l Z (⟨"com/example/evenkeel/evenkeel/skew/CourseSums", "<init>", "(I)V"⟩ : MethodName) prog_92_method_1_code 2 none ({ frames := 1, cells := 1, slots := 8, locals := 12 } : Room) #[(.ref a1), (.int (4 : Int32))] h0 n0 (fun v h => ∃ (b : Addr), v = none ∧ Keep h0 h [a1] ∧ Fld Z h a1 "com/example/evenkeel/evenkeel/skew/CourseSums" "slots" "I" (.int (4 : Int32)) ∧ Fld Z h a1 "com/example/evenkeel/evenkeel/skew/CourseSums" "sums" "[D" (.ref b) ∧ h0.size ≤ b ∧ OwnAr Z h b .double ([(0 : Int64), (0 : Int64), (0 : Int64), (0 : Int64), (0 : Int64), (0 : Int64), (0 : Int64), (0 : Int64)].map ownDv)) := by
  refine own_body own_pn1_4 ?_
  intro p e s m below meth c s₁ RR X0
  refine own_enter (own_ef1_4 m a1 (4 : Int32)) ?_
  refine own_aloadN X0 own_d1_0 (pc' := 1) rfl rfl rfl ?_
  refine own_init X0 own_d1_1 (hw _ (List.mem_of_getElem? (i := 7) rfl)) (hw _ (List.mem_of_getElem? (i := 8) rfl)) (hw _ (List.mem_of_getElem? (i := 9) rfl)) (pc' := 4) rfl rfl (by decide) (W := 0) (Nat.le_of_eq rfl) (by decide) ?_
  intro T1 X1
  refine own_aloadN X1 own_d1_4 (pc' := 5) rfl rfl rfl ?_
  refine own_iloadN X1 own_d1_5 (pc' := 6) rfl rfl ?_
  refine own_putF X1 own_d1_6 (hw _ (List.mem_of_getElem? (i := 10) rfl)) Via.refl F_slots_a1 E_a1 (Or.inr ⟨(hw _ (List.mem_of_getElem? (i := 11) rfl)), rfl, rfl⟩) (hw _ (List.mem_of_getElem? (i := 2) rfl)) (ty := .int) (v' := (.int (4 : Int32))) (by decide) rfl rfl g_a1 (pc' := 9) rfl ?_
  intro T2 h2 X2 W2
  have E_a1_2 := (E_a1).wr W2
  have F_slots_a1_2 := (F_slots_a1).same W2
  have F_sums_a1_2 := (F_sums_a1).other W2 (Or.inr (slot_ne (Or.inr (hw _ (List.mem_of_getElem? (i := 16) rfl))) (Or.inr (hw _ (List.mem_of_getElem? (i := 11) rfl))) (by decide) (t := (.array .double)) (t' := .int) (by decide) (by decide)))
  have S_COURSES_2 := (S_COURSES).wr W2
  have V_d0_2 := (V_d0).other W2 ne_d0_a1
  have Z2 : n0 ≤ h2.size := Nat.le_trans Z0 (Nat.le_of_eq W2.size.symm)
  have K2 := ((Keep.refl h0 [a1])).wr W2 (Or.inl (List.mem_of_getElem? (i := 0) rfl))
  refine own_aloadN X2 own_d1_9 (pc' := 10) rfl rfl rfl ?_
  refine own_getS X2 own_d1_10 (hw _ (List.mem_of_getElem? (i := 12) rfl)) Via.refl S_COURSES_2 (pc' := 13) rfl ?_
  intro T3 X3
  refine own_arraylength X3 own_d1_13 V_d0_2 (n := (2 : Int32)) (by rw [hvs]; rfl) (pc' := 14) rfl ?_
  refine own_iloadN X3 own_d1_14 (pc' := 15) rfl rfl ?_
  refine own_imul X3 own_d1_15 (pc' := 16) rfl ?_
  refine own_newarr X3 own_d1_16 (hw _ (List.mem_of_getElem? (i := 14) rfl)) (pc' := 18) rfl (by decide) (cap := 8) (by decide) (by decide) (by decide) (by decide) ?_
  intro T4 h4 b4 hb4 X4 E4 B4
  have g_b4 : n0 ≤ b4 := Nat.le_trans Z2 (Nat.le_of_eq hb4.symm)
  have ne_a1_b4 : a1 ≠ b4 := Nat.ne_of_lt (Nat.lt_of_lt_of_le (E_a1_2).lt (Nat.le_of_eq hb4.symm))
  have ne_d0_b4 : d0 ≠ b4 := Nat.ne_of_lt (Nat.lt_of_lt_of_le (V_d0_2).lt (Nat.le_of_eq hb4.symm))
  have E_a1_4 := (E_a1_2).ext E4
  have F_slots_a1_4 := (F_slots_a1_2).ext E4
  have F_sums_a1_4 := (F_sums_a1_2).ext E4
  have S_COURSES_4 := (S_COURSES_2).ext E4
  have V_d0_4 := (V_d0_2).ext E4
  have Z4 : n0 ≤ h4.size := Nat.le_trans Z2 E4.1
  have sz_b4 : h0.size ≤ b4 := Nat.le_trans (K2).1 (Nat.le_of_eq hb4.symm)
  have K4 := (K2).ext E4
  have V_b4 : OwnAr Z h4 b4 .double ([(0 : Int64), (0 : Int64), (0 : Int64), (0 : Int64), (0 : Int64), (0 : Int64), (0 : Int64), (0 : Int64)].map ownDv) := (by show OwnAr _ _ _ _ ((List.replicate 8 (0 : Int64)).map ownDv); rw [← own_zD]; exact B4)
  refine own_putF X4 own_d1_18 (hw _ (List.mem_of_getElem? (i := 15) rfl)) Via.refl F_sums_a1_4 E_a1_4 (Or.inr ⟨(hw _ (List.mem_of_getElem? (i := 16) rfl)), rfl, rfl⟩) (hw _ (List.mem_of_getElem? (i := 2) rfl)) (ty := (.array .double)) (v' := (.ref b4)) (by decide) rfl rfl g_a1 (pc' := 21) rfl ?_
  intro T5 h5 X5 W5
  have E_a1_5 := (E_a1_4).wr W5
  have F_slots_a1_5 := (F_slots_a1_4).other W5 (Or.inr (slot_ne (Or.inr (hw _ (List.mem_of_getElem? (i := 11) rfl))) (Or.inr (hw _ (List.mem_of_getElem? (i := 16) rfl))) (by decide) (t := .int) (t' := (.array .double)) (by decide) (by decide)))
  have F_sums_a1_5 := (F_sums_a1_4).same W5
  have S_COURSES_5 := (S_COURSES_4).wr W5
  have V_d0_5 := (V_d0_4).other W5 ne_d0_a1
  have V_b4_5 := (V_b4).other W5 ne_a1_b4.symm
  have Z5 : n0 ≤ h5.size := Nat.le_trans Z4 (Nat.le_of_eq W5.size.symm)
  have K5 := (K4).wr W5 (Or.inl (List.mem_of_getElem? (i := 0) rfl))
  exact own_retV X5 own_d1_21 ⟨b4, rfl, K5, F_slots_a1_5, F_sums_a1_5, sz_b4, V_b4_5⟩ (by decide) (by decide)
theorem own_pd0 : parseMethodDescriptor "()I" = some ⟨[], some .int⟩ := by decide +kernel
theorem own_d3_0 : decode prog_92_method_2_code 0 = .ok (.aload_n 0, 1) := by decide +kernel
theorem own_d3_1 : decode prog_92_method_2_code 1 = .ok (.getfield 17, 3) := by decide +kernel
theorem own_d3_4 : decode prog_92_method_2_code 4 = .ok (.aload_n 1, 1) := by decide +kernel
theorem own_d3_5 : decode prog_92_method_2_code 5 = .ok (.invokevirtual 21, 3) := by decide +kernel
theorem own_d3_8 : decode prog_92_method_2_code 8 = .ok (.aload_n 0, 1) := by decide +kernel
theorem own_d3_9 : decode prog_92_method_2_code 9 = .ok (.getfield 7, 3) := by decide +kernel
theorem own_d3_12 : decode prog_92_method_2_code 12 = .ok (.imul, 1) := by decide +kernel
theorem own_d3_13 : decode prog_92_method_2_code 13 = .ok (.iload_n 2, 1) := by decide +kernel
theorem own_d3_14 : decode prog_92_method_2_code 14 = .ok (.iadd, 1) := by decide +kernel
theorem own_d3_15 : decode prog_92_method_2_code 15 = .ok (.dup2, 1) := by decide +kernel
theorem own_d3_16 : decode prog_92_method_2_code 16 = .ok (.daload, 1) := by decide +kernel
theorem own_d3_17 : decode prog_92_method_2_code 17 = .ok (.dload_n 3, 1) := by decide +kernel
theorem own_d3_18 : decode prog_92_method_2_code 18 = .ok (.dadd, 1) := by decide +kernel
theorem own_d3_19 : decode prog_92_method_2_code 19 = .ok (.dastore, 1) := by decide +kernel
theorem own_d3_20 : decode prog_92_method_2_code 20 = .ok (.return_, 1) := by decide +kernel
theorem own_ef3 (m : MethodId) (x0 : Addr) (x1 : Addr) (x2 : Int32) (x3 : UInt64) : entryFrame m #[(.ref x0), (.ref x1), (.int x2), (.double x3)] 5 = mkF m 0 #[.val (.ref x0), .val (.ref x1), .val (.int x2), .val (.double x3), .second] [] := by first | (simp [entryFrame, mkF, argsToLocals, Value.category]; done) | rfl
theorem own_pn3 : plainFor (⟨"com/example/evenkeel/evenkeel/skew/CourseSums", "add", "(Lcom/example/evenkeel/evenkeel/skew/GroupGrowth$Course;ID)V"⟩ : MethodName) = true := by first | exact plainFor_of_name (by first | (simp [plainName, overriddenIn]; done) | decide +kernel) | exact Jvm.Free.JP.mathPlain rfl (by decide +kernel)
set_option maxRecDepth 65536 in
set_option maxHeartbeats 40000000 in
theorem own_rm3 (l : Launch) (Z : State) (a0 : Array Value) (hw : ∀ d ∈ tables_1, d.before a0 Z = true) (a1 : Addr) (b1 : Addr) (g1 : Addr) (n1 : Int32) (k1 : Int32) (p2 : Int32) (q3 : Int64) (xs : List Int64) (h0 : Heap) (n0 : Nat) (Z0 : n0 ≤ h0.size) (F_slots_a1 : Fld Z h0 a1 "com/example/evenkeel/evenkeel/skew/CourseSums" "slots" "I" (.int n1)) (F_sums_a1 : Fld Z h0 a1 "com/example/evenkeel/evenkeel/skew/CourseSums" "sums" "[D" (.ref b1)) (E_g1 : Exa Z h0 g1 "com/example/evenkeel/evenkeel/skew/GroupGrowth$Course") (F_ordinal_g1 : Fld Z h0 g1 "java/lang/Enum" "ordinal" "I" (.int k1)) (V_b1 : OwnAr Z h0 b1 .double (xs.map ownDv)) (g_b1 : n0 ≤ b1) (hj : ¬ (((k1 * n1) + p2) < (0 : Int32))) (hl : (((k1 * n1) + p2)).toNatClampNeg < xs.length) (hB1 : B53 (xs.getD (((k1 * n1) + p2)).toNatClampNeg 0)) (hB2 : B53 q3) :
    OwnMet l Z (⟨"com/example/evenkeel/evenkeel/skew/CourseSums", "add", "(Lcom/example/evenkeel/evenkeel/skew/GroupGrowth$Course;ID)V"⟩ : MethodName) prog_92_method_2_code 5 none ({ frames := 1, cells := 0, slots := 0, locals := 13 } : Room) #[(.ref a1), (.ref g1), (.int p2), (.double (FP.l2d q3))] h0 n0 (fun v h => v = none ∧ Keep h0 h [b1] ∧ OwnAr Z h b1 .double ((xs.set (((k1 * n1) + p2)).toNatClampNeg ((xs.getD (((k1 * n1) + p2)).toNatClampNeg 0) + q3)).map ownDv)) := by
  refine own_body own_pn3 ?_
  intro p e s m below meth c s₁ RR X0
  refine own_enter (own_ef3 m a1 g1 p2 (FP.l2d q3)) ?_
  refine own_aloadN X0 own_d3_0 (pc' := 1) rfl rfl rfl ?_
  refine own_getF X0 own_d3_1 (hw _ (List.mem_of_getElem? (i := 15) rfl)) Via.refl F_sums_a1 (pc' := 4) rfl ?_
  intro T1 X1
  refine own_aloadN X1 own_d3_4 (pc' := 5) rfl rfl rfl ?_
  refine own_callU (a := g1) (argsL := []) X1 own_d3_5 (y := (⟨"com/example/evenkeel/evenkeel/skew/GroupGrowth$Course", "ordinal", "()I"⟩ : MethodName)) (z := (⟨"java/lang/Enum", "ordinal", "()I"⟩ : MethodName)) (by decide) (hw _ (List.mem_of_getElem? (i := 25) rfl)) (hw _ (List.mem_of_getElem? (i := 26) rfl)) (hw _ (List.mem_of_getElem? (i := 27) rfl)) (hw _ (List.mem_of_getElem? (i := 29) rfl)) (hw _ (List.mem_of_getElem? (i := 28) rfl)) (hw _ (List.mem_of_getElem? (i := 31) rfl)) (hw _ (List.mem_of_getElem? (i := 30) rfl)) E_g1 (own_rm4 l Z a0 hw g1 k1 h0 n0 Z0 F_ordinal_g1) own_pd0 rfl (S := [(.ref b1)]) rfl (pc' := 8) rfl rfl (W := 1) (Nat.le_of_eq rfl) (by decide) (by decide) (by decide) (by decide) ?_
  intro T2 h2 v2_ X2 q2_
  obtain ⟨rfl, rfl⟩ := q2_
  show OwnGo p e below (T2.setTop (mkF m 8 #[.val (.ref a1), .val (.ref g1), .val (.int p2), .val (.double (FP.l2d q3)), .second] [(.int k1), (.ref b1)])) RR
  refine own_aloadN X2 own_d3_8 (pc' := 9) rfl rfl rfl ?_
  refine own_getF X2 own_d3_9 (hw _ (List.mem_of_getElem? (i := 10) rfl)) Via.refl F_slots_a1 (pc' := 12) rfl ?_
  intro T3 X3
  refine own_imul X3 own_d3_12 (pc' := 13) rfl ?_
  refine own_iloadN X3 own_d3_13 (pc' := 14) rfl rfl ?_
  refine own_iadd X3 own_d3_14 (pc' := 15) rfl ?_
  refine own_dup2 X3 own_d3_15 (pc' := 16) rfl rfl rfl ?_
  refine own_daload X3 own_d3_16 V_b1 hj (v := (.double (FP.l2d (xs.getD (((k1 * n1) + p2)).toNatClampNeg 0)))) (own_getD hl) (pc' := 17) rfl ?_
  refine own_dloadN X3 own_d3_17 (pc' := 18) rfl rfl ?_
  refine own_dadd X3 own_d3_18 (pc' := 19) rfl hB1 hB2 ?_
  refine own_dastore X3 own_d3_19 V_b1 hj (by rw [List.length_map]; exact hl) g_b1 (pc' := 20) rfl ?_
  intro T4 h4 X4 W4 B4
  have E_g1_4 := (E_g1).wr W4
  have Z4 : n0 ≤ h4.size := Nat.le_trans Z0 (Nat.le_of_eq W4.size.symm)
  have V_b1_4 : OwnAr Z h4 b1 .double ((xs.set (((k1 * n1) + p2)).toNatClampNeg ((xs.getD (((k1 * n1) + p2)).toNatClampNeg 0) + q3)).map ownDv) := (by rw [List.map_set]; exact B4)
  have K4 := ((Keep.refl h0 [b1])).wr W4 (Or.inl (List.mem_of_getElem? (i := 0) rfl))
  exact own_retV X4 own_d3_20 ⟨rfl, K4, V_b1_4⟩ (by decide) (by decide)
theorem own_d5_0 : decode prog_92_method_3_code 0 = .ok (.dconst 0, 1) := by decide +kernel
theorem own_d5_1 : decode prog_92_method_3_code 1 = .ok (.dstore_n 2, 1) := by decide +kernel
theorem own_d5_2 : decode prog_92_method_3_code 2 = .ok (.iload_n 1, 1) := by decide +kernel
theorem own_d5_3 : decode prog_92_method_3_code 3 = .ok (.istore 4, 2) := by decide +kernel
theorem own_d5_5 : decode prog_92_method_3_code 5 = .ok (.iload 4, 2) := by decide +kernel
theorem own_d5_7 : decode prog_92_method_3_code 7 = .ok (.aload_n 0, 1) := by decide +kernel
theorem own_d5_8 : decode prog_92_method_3_code 8 = .ok (.getfield 17, 3) := by decide +kernel
theorem own_d5_11 : decode prog_92_method_3_code 11 = .ok (.arraylength, 1) := by decide +kernel
theorem own_d5_12 : decode prog_92_method_3_code 12 = .ok (.if_icmp .ge 25, 3) := by decide +kernel
theorem own_d5_15 : decode prog_92_method_3_code 15 = .ok (.dload_n 2, 1) := by decide +kernel
theorem own_d5_16 : decode prog_92_method_3_code 16 = .ok (.aload_n 0, 1) := by decide +kernel
theorem own_d5_17 : decode prog_92_method_3_code 17 = .ok (.getfield 17, 3) := by decide +kernel
theorem own_d5_20 : decode prog_92_method_3_code 20 = .ok (.iload 4, 2) := by decide +kernel
theorem own_d5_22 : decode prog_92_method_3_code 22 = .ok (.daload, 1) := by decide +kernel
theorem own_d5_23 : decode prog_92_method_3_code 23 = .ok (.dadd, 1) := by decide +kernel
theorem own_d5_24 : decode prog_92_method_3_code 24 = .ok (.dstore_n 2, 1) := by decide +kernel
theorem own_d5_25 : decode prog_92_method_3_code 25 = .ok (.iload 4, 2) := by decide +kernel
theorem own_d5_27 : decode prog_92_method_3_code 27 = .ok (.aload_n 0, 1) := by decide +kernel
theorem own_d5_28 : decode prog_92_method_3_code 28 = .ok (.getfield 7, 3) := by decide +kernel
theorem own_d5_31 : decode prog_92_method_3_code 31 = .ok (.iadd, 1) := by decide +kernel
theorem own_d5_32 : decode prog_92_method_3_code 32 = .ok (.istore 4, 2) := by decide +kernel
theorem own_d5_34 : decode prog_92_method_3_code 34 = .ok (.goto (-29), 3) := by decide +kernel
theorem own_d5_37 : decode prog_92_method_3_code 37 = .ok (.dload_n 2, 1) := by decide +kernel
theorem own_d5_38 : decode prog_92_method_3_code 38 = .ok (.dreturn, 1) := by decide +kernel
theorem own_ef5 (m : MethodId) (x0 : Addr) (x1 : Int32) : entryFrame m #[(.ref x0), (.int x1)] 5 = mkF m 0 #[.val (.ref x0), .val (.int x1), .unset, .unset, .unset] [] := by first | (simp [entryFrame, mkF, argsToLocals, Value.category]; done) | rfl
theorem own_pn5 : plainFor (⟨"com/example/evenkeel/evenkeel/skew/CourseSums", "sum", "(I)D"⟩ : MethodName) = true := by first | exact plainFor_of_name (by first | (simp [plainName, overriddenIn]; done) | decide +kernel) | exact Jvm.Free.JP.mathPlain rfl (by decide +kernel)
set_option maxRecDepth 65536 in
set_option maxHeartbeats 40000000 in
theorem own_rm5 (l : Launch) (Z : State) (a0 : Array Value) (hw : ∀ d ∈ tables_1, d.before a0 Z = true) (a1 : Addr) (b1 : Addr) (n1 : Int32) (p2 : Int32) (xs : List Int64) (h0 : Heap) (n0 : Nat) (Z0 : n0 ≤ h0.size) (F_slots_a1 : Fld Z h0 a1 "com/example/evenkeel/evenkeel/skew/CourseSums" "slots" "I" (.int n1)) (F_sums_a1 : Fld Z h0 a1 "com/example/evenkeel/evenkeel/skew/CourseSums" "sums" "[D" (.ref b1)) (V_b1 : OwnAr Z h0 b1 .double (xs.map ownDv)) (hc1 : p2 < (Int32.ofNat xs.length)) (hc2 : (p2 + n1) < (Int32.ofNat xs.length)) (hc3 : ¬ (((p2 + n1) + n1) < (Int32.ofNat xs.length))) (hj1 : ¬ (p2 < (0 : Int32))) (hl1 : (p2).toNatClampNeg < xs.length) (hj2 : ¬ ((p2 + n1) < (0 : Int32))) (hl2 : ((p2 + n1)).toNatClampNeg < xs.length) (hb1 : B53 (xs.getD (p2).toNatClampNeg 0)) (hb2 : B53 ((0 : Int64) + (xs.getD (p2).toNatClampNeg 0))) (hb3 : B53 (xs.getD ((p2 + n1)).toNatClampNeg 0)) :
    OwnMet l Z (⟨"com/example/evenkeel/evenkeel/skew/CourseSums", "sum", "(I)D"⟩ : MethodName) prog_92_method_3_code 5 (some .double) ({ frames := 0, cells := 0, slots := 0, locals := 0 } : Room) #[(.ref a1), (.int p2)] h0 n0 (fun v h => v = some (.double (FP.l2d (((0 : Int64) + (xs.getD (p2).toNatClampNeg 0)) + (xs.getD ((p2 + n1)).toNatClampNeg 0)))) ∧ h0 = h) := by
  refine own_body own_pn5 ?_
  intro p e s m below meth c s₁ RR X0
  refine own_enter (own_ef5 m a1 p2) ?_
  refine own_dconst0 X0 own_d5_0 (pc' := 1) rfl ?_
  refine own_dstoreN X0 own_d5_1 (pc' := 2) rfl (l' := #[.val (.ref a1), .val (.int p2), .val (.double (FP.l2d (0 : Int64))), .second, .unset]) rfl ?_
  refine own_iloadN X0 own_d5_2 (pc' := 3) rfl rfl ?_
  refine own_istore X0 own_d5_3 (pc' := 5) rfl (l' := #[.val (.ref a1), .val (.int p2), .val (.double (FP.l2d (0 : Int64))), .second, .val (.int p2)]) rfl ?_
  refine own_iload X0 own_d5_5 (pc' := 7) rfl rfl ?_
  refine own_aloadN X0 own_d5_7 (pc' := 8) rfl rfl rfl ?_
  refine own_getF X0 own_d5_8 (hw _ (List.mem_of_getElem? (i := 15) rfl)) Via.refl F_sums_a1 (pc' := 11) rfl ?_
  intro T1 X1
  refine own_arraylength X1 own_d5_11 V_b1 (n := (Int32.ofNat xs.length)) (by rw [List.length_map]) (pc' := 12) rfl ?_
  refine own_icN X1 own_d5_12 (tlt ((hc1 : p2 < (Int32.ofNat xs.length)))).2.1 (pc' := 15) rfl ?_
  refine own_dloadN X1 own_d5_15 (pc' := 16) rfl rfl ?_
  refine own_aloadN X1 own_d5_16 (pc' := 17) rfl rfl rfl ?_
  refine own_getF X1 own_d5_17 (hw _ (List.mem_of_getElem? (i := 15) rfl)) Via.refl F_sums_a1 (pc' := 20) rfl ?_
  intro T2 X2
  refine own_iload X2 own_d5_20 (pc' := 22) rfl rfl ?_
  refine own_daload X2 own_d5_22 V_b1 hj1 (v := (.double (FP.l2d (xs.getD (p2).toNatClampNeg 0)))) (own_getD hl1) (pc' := 23) rfl ?_
  refine own_dadd X2 own_d5_23 (pc' := 24) rfl (own_Kb own_K0 (by decide)) hb1 ?_
  refine own_dstoreN X2 own_d5_24 (pc' := 25) rfl (l' := #[.val (.ref a1), .val (.int p2), .val (.double (FP.l2d ((0 : Int64) + (xs.getD (p2).toNatClampNeg 0)))), .second, .val (.int p2)]) rfl ?_
  refine own_iload X2 own_d5_25 (pc' := 27) rfl rfl ?_
  refine own_aloadN X2 own_d5_27 (pc' := 28) rfl rfl rfl ?_
  refine own_getF X2 own_d5_28 (hw _ (List.mem_of_getElem? (i := 10) rfl)) Via.refl F_slots_a1 (pc' := 31) rfl ?_
  intro T3 X3
  refine own_iadd X3 own_d5_31 (pc' := 32) rfl ?_
  refine own_istoreV X3 own_d5_32 (pc' := 34) rfl (l' := fun v32 => #[.val (.ref a1), .val (.int p2), .val (.double (FP.l2d ((0 : Int64) + (xs.getD (p2).toNatClampNeg 0)))), .second, .val (.int v32)]) (fun _ => rfl) ?_
  intro v32 hv32
  refine own_goto X3 own_d5_34 (pc' := 5) (by decide) (by decide) ?_
  refine own_iload X3 own_d5_5 (pc' := 7) rfl rfl ?_
  refine own_aloadN X3 own_d5_7 (pc' := 8) rfl rfl rfl ?_
  refine own_getF X3 own_d5_8 (hw _ (List.mem_of_getElem? (i := 15) rfl)) Via.refl F_sums_a1 (pc' := 11) rfl ?_
  intro T4 X4
  refine own_arraylength X4 own_d5_11 V_b1 (n := (Int32.ofNat xs.length)) (by rw [List.length_map]) (pc' := 12) rfl ?_
  refine own_icN X4 own_d5_12 (tlt ((by rw [hv32]; exact hc2 : v32 < (Int32.ofNat xs.length)))).2.1 (pc' := 15) rfl ?_
  refine own_dloadN X4 own_d5_15 (pc' := 16) rfl rfl ?_
  refine own_aloadN X4 own_d5_16 (pc' := 17) rfl rfl rfl ?_
  refine own_getF X4 own_d5_17 (hw _ (List.mem_of_getElem? (i := 15) rfl)) Via.refl F_sums_a1 (pc' := 20) rfl ?_
  intro T5 X5
  refine own_iload X5 own_d5_20 (pc' := 22) rfl rfl ?_
  refine own_daload X5 own_d5_22 V_b1 (by rw [hv32]; exact hj2) (v := (.double (FP.l2d (xs.getD (v32).toNatClampNeg 0)))) (own_getD (by rw [hv32]; exact hl2)) (pc' := 23) rfl ?_
  refine own_dadd X5 own_d5_23 (pc' := 24) rfl hb2 (by rw [hv32]; exact hb3) ?_
  refine own_dstoreN X5 own_d5_24 (pc' := 25) rfl (l' := #[.val (.ref a1), .val (.int p2), .val (.double (FP.l2d (((0 : Int64) + (xs.getD (p2).toNatClampNeg 0)) + (xs.getD (v32).toNatClampNeg 0)))), .second, .val (.int v32)]) rfl ?_
  refine own_iload X5 own_d5_25 (pc' := 27) rfl rfl ?_
  refine own_aloadN X5 own_d5_27 (pc' := 28) rfl rfl rfl ?_
  refine own_getF X5 own_d5_28 (hw _ (List.mem_of_getElem? (i := 10) rfl)) Via.refl F_slots_a1 (pc' := 31) rfl ?_
  intro T6 X6
  refine own_iadd X6 own_d5_31 (pc' := 32) rfl ?_
  refine own_istoreV X6 own_d5_32 (pc' := 34) rfl (l' := fun v32_7 => #[.val (.ref a1), .val (.int p2), .val (.double (FP.l2d (((0 : Int64) + (xs.getD (p2).toNatClampNeg 0)) + (xs.getD (v32).toNatClampNeg 0)))), .second, .val (.int v32_7)]) (fun _ => rfl) ?_
  intro v32_7 hv32_7
  refine own_goto X6 own_d5_34 (pc' := 5) (by decide) (by decide) ?_
  refine own_iload X6 own_d5_5 (pc' := 7) rfl rfl ?_
  refine own_aloadN X6 own_d5_7 (pc' := 8) rfl rfl rfl ?_
  refine own_getF X6 own_d5_8 (hw _ (List.mem_of_getElem? (i := 15) rfl)) Via.refl F_sums_a1 (pc' := 11) rfl ?_
  intro T8 X8
  refine own_arraylength X8 own_d5_11 V_b1 (n := (Int32.ofNat xs.length)) (by rw [List.length_map]) (pc' := 12) rfl ?_
  refine own_icY X8 own_d5_12 (flt ((by rw [hv32_7, hv32]; exact hc3 : ¬ (v32_7 < (Int32.ofNat xs.length))))).2.1 (pc' := 37) (by decide) (by decide) ?_
  refine own_dloadN X8 own_d5_37 (pc' := 38) rfl rfl ?_
  exact own_retD X8 own_d5_38 ⟨(by rw [hv32]), rfl⟩ (by decide) (by decide)
theorem own_pd1 : parseMethodDescriptor "(I)V" = some ⟨[.int], none⟩ := by decide +kernel
theorem own_pd2 : parseMethodDescriptor "(Lcom/example/evenkeel/evenkeel/skew/GroupGrowth$Course;ID)V" = some ⟨[(.object "com/example/evenkeel/evenkeel/skew/GroupGrowth$Course"), .int, .double], none⟩ := by decide +kernel
theorem own_pd3 : parseMethodDescriptor "(I)D" = some ⟨[.int], some .double⟩ := by decide +kernel
theorem own_ef0 (m : MethodId) (x0 : Int32) (x1 : Int32) (x2 : Int32) (x3 : Int32) (x4 : Int32) (x5 : Int32) : entryFrame m #[(.int x0), (.int x1), (.int x2), (.int x3), (.int x4), (.int x5)] maxLocals = mkF m 0 #[.val (.int x0), .val (.int x1), .val (.int x2), .val (.int x3), .val (.int x4), .val (.int x5), .unset, .unset, .unset, .unset, .unset, .unset, .unset, .unset, .unset, .unset, .unset, .unset, .unset, .unset] [] := by first | (simp [entryFrame, mkF, argsToLocals, Value.category, maxLocals]; done) | rfl
theorem own_pn0 : plainFor x = true := by first | exact plainFor_of_name (by first | (simp [plainName, overriddenIn]; done) | decide +kernel) | exact Jvm.Free.JP.mathPlain rfl (by decide +kernel)
set_option maxRecDepth 65536 in
set_option maxHeartbeats 40000000 in
theorem own_rm0 (l : Launch) (Z : State) (a0 : Array Value) (hw : ∀ d ∈ tables_1, d.before a0 Z = true) (p0 : Int32) (p1 : Int32) (p2 : Int32) (p3 : Int32) (p4 : Int32) (p5 : Int32) (d0 : Addr) (vs : List Value) (g0 : Addr) (g1 : Addr) (h0 : Heap) (n0 : Nat) (Z0 : n0 ≤ h0.size) (S_COURSES : Sta Z h0 "com/example/evenkeel/evenkeel/skew/CourseSums" "COURSES" "[Lcom/example/evenkeel/evenkeel/skew/GroupGrowth$Course;" (.ref d0)) (V_d0 : OwnAr Z h0 d0 (.object "com/example/evenkeel/evenkeel/skew/GroupGrowth$Course") vs) (S_SPREAD : Sta Z h0 "com/example/evenkeel/evenkeel/skew/GroupGrowth$Course" "SPREAD" "Lcom/example/evenkeel/evenkeel/skew/GroupGrowth$Course;" (.ref g0)) (S_CLUSTERED : Sta Z h0 "com/example/evenkeel/evenkeel/skew/GroupGrowth$Course" "CLUSTERED" "Lcom/example/evenkeel/evenkeel/skew/GroupGrowth$Course;" (.ref g1)) (E_g0 : Exa Z h0 g0 "com/example/evenkeel/evenkeel/skew/GroupGrowth$Course") (E_g1 : Exa Z h0 g1 "com/example/evenkeel/evenkeel/skew/GroupGrowth$Course") (F_ordinal_g0 : Fld Z h0 g0 "java/lang/Enum" "ordinal" "I" (.int (0 : Int32))) (F_ordinal_g1 : Fld Z h0 g1 "java/lang/Enum" "ordinal" "I" (.int (1 : Int32))) (hvs : vs.length = 2) :
    OwnMet l Z x code maxLocals ret room_1 #[(.int p0), (.int p1), (.int p2), (.int p3), (.int p4), (.int p5)] h0 n0 (fun v h => v = some (.int 1)) := by
  refine own_body own_pn0 ?_
  intro p e s m below meth c s₁ RR X0
  refine own_enter (own_ef0 m p0 p1 p2 p3 p4 p5) ?_
  refine own_iconst X0 at_0 (pc' := 1) rfl (v := (1 : Int32)) (by decide) ?_
  refine own_iloadN X0 at_1 (pc' := 2) rfl rfl ?_
  refine own_iconst X0 at_2 (pc' := 3) rfl (v := (3 : Int32)) (by decide) ?_
  refine own_iand X0 at_3 (pc' := 4) rfl ?_
  refine own_iadd X0 at_4 (pc' := 5) rfl ?_
  refine own_istoreV X0 at_5 (pc' := 7) rfl (l' := fun v5 => #[.val (.int p0), .val (.int p1), .val (.int p2), .val (.int p3), .val (.int p4), .val (.int p5), .val (.int v5), .unset, .unset, .unset, .unset, .unset, .unset, .unset, .unset, .unset, .unset, .unset, .unset, .unset]) (fun _ => rfl) ?_
  intro v5 hv5
  refine own_iloadN X0 at_7 (pc' := 8) rfl rfl ?_
  refine own_ldcInt X0 at_8 (pc' := 10) rfl (hw _ (List.mem_of_getElem? (i := 0) rfl)) ?_
  refine own_iand X0 at_10 (pc' := 11) rfl ?_
  refine own_iload X0 at_11 (pc' := 13) rfl rfl ?_
  refine own_irem X0 at_13 (pc' := 14) rfl (own_n1 _ _ hv5) ?_
  refine own_istoreV X0 at_14 (pc' := 16) rfl (l' := fun v14 => #[.val (.int p0), .val (.int p1), .val (.int p2), .val (.int p3), .val (.int p4), .val (.int p5), .val (.int v5), .val (.int v14), .unset, .unset, .unset, .unset, .unset, .unset, .unset, .unset, .unset, .unset, .unset, .unset]) (fun _ => rfl) ?_
  intro v14 hv14
  refine own_iload X0 at_16 (pc' := 18) rfl rfl ?_
  refine own_iconst X0 at_18 (pc' := 19) rfl (v := (1 : Int32)) (by decide) ?_
  refine own_iadd X0 at_19 (pc' := 20) rfl ?_
  refine own_iload X0 at_20 (pc' := 22) rfl rfl ?_
  refine own_irem X0 at_22 (pc' := 23) rfl (own_n1 _ _ hv5) ?_
  refine own_istoreV X0 at_23 (pc' := 25) rfl (l' := fun v23 => #[.val (.int p0), .val (.int p1), .val (.int p2), .val (.int p3), .val (.int p4), .val (.int p5), .val (.int v5), .val (.int v14), .val (.int v23), .unset, .unset, .unset, .unset, .unset, .unset, .unset, .unset, .unset, .unset, .unset]) (fun _ => rfl) ?_
  intro v23 hv23
  have hcs := own_ns _ _ _ _ hv5 hv14
  rcases hcs with ⟨rfl, rfl⟩ | ⟨rfl, rfl⟩ | ⟨rfl, rfl⟩ | ⟨rfl, rfl⟩ | ⟨rfl, rfl⟩ | ⟨rfl, rfl⟩ | ⟨rfl, rfl⟩ | ⟨rfl, rfl⟩ | ⟨rfl, rfl⟩ | ⟨rfl, rfl⟩
  · obtain rfl : v23 = (0 : Int32) := by rw [hv23]; decide
    refine own_new X0 at_25 (hw _ (List.mem_of_getElem? (i := 1) rfl)) (hw _ (List.mem_of_getElem? (i := 2) rfl)) (hw _ (List.mem_of_getElem? (i := 3) rfl)) (pc' := 28) rfl (by decide) (by decide) ?_
    intro T1 h1 b1 hb1 X1 E1 A1 D1
    have g_b1 : n0 ≤ b1 := Nat.le_trans Z0 (Nat.le_of_eq hb1.symm)
    have ne_d0_b1 : d0 ≠ b1 := Nat.ne_of_lt (Nat.lt_of_lt_of_le (V_d0).lt (Nat.le_of_eq hb1.symm))
    have ne_g0_b1 : g0 ≠ b1 := Nat.ne_of_lt (Nat.lt_of_lt_of_le (E_g0).lt (Nat.le_of_eq hb1.symm))
    have ne_g1_b1 : g1 ≠ b1 := Nat.ne_of_lt (Nat.lt_of_lt_of_le (E_g1).lt (Nat.le_of_eq hb1.symm))
    have S_COURSES_1 := (S_COURSES).ext E1
    have V_d0_1 := (V_d0).ext E1
    have S_SPREAD_1 := (S_SPREAD).ext E1
    have S_CLUSTERED_1 := (S_CLUSTERED).ext E1
    have E_g0_1 := (E_g0).ext E1
    have E_g1_1 := (E_g1).ext E1
    have F_ordinal_g0_1 := (F_ordinal_g0).ext E1
    have F_ordinal_g1_1 := (F_ordinal_g1).ext E1
    have Z1 : n0 ≤ h1.size := Nat.le_trans Z0 E1.1
    have F_slots_b1 : Fld Z h1 b1 "com/example/evenkeel/evenkeel/skew/CourseSums" "slots" "I" (.int (0 : Int32)) := D1 (Or.inr (hw _ (List.mem_of_getElem? (i := 11) rfl))) (ty := .int) (by decide)
    have F_sums_b1 : Fld Z h1 b1 "com/example/evenkeel/evenkeel/skew/CourseSums" "sums" "[D" .null := D1 (Or.inr (hw _ (List.mem_of_getElem? (i := 16) rfl))) (ty := (.array .double)) (by decide)
    refine own_dup X1 at_28 (pc' := 29) rfl rfl ?_
    refine own_iload X1 at_29 (pc' := 31) rfl rfl ?_
    refine own_callC (a := b1) (argsL := [(.int (1 : Int32))]) X1 at_31 (y := (⟨"com/example/evenkeel/evenkeel/skew/CourseSums", "<init>", "(I)V"⟩ : MethodName)) (by decide) (hw _ (List.mem_of_getElem? (i := 4) rfl)) (hw _ (List.mem_of_getElem? (i := 5) rfl)) (hw _ (List.mem_of_getElem? (i := 6) rfl)) (hw _ (List.mem_of_getElem? (i := 3) rfl)) (own_rm1_1 l Z a0 hw b1 d0 vs (0 : Int32) h1 n0 Z1 A1 F_slots_b1 F_sums_b1 S_COURSES_1 V_d0_1 g_b1 ne_d0_b1 hvs) own_pd1 rfl (S := [(.ref b1)]) rfl (pc' := 34) rfl rfl (W := 1) (Nat.le_of_eq rfl) (by decide) (by decide) (by decide) (by decide) ?_
    intro T2 h2 v2_ X2 q2_
    obtain ⟨b_2, rfl, KK2, FF2q0, FF2q1, FF2q2, FF2q3⟩ := q2_
    show OwnGo p e below (T2.setTop (mkF m 34 #[.val (.int p0), .val (.int p1), .val (.int p2), .val (.int p3), .val (.int p4), .val (.int p5), .val (.int (1 : Int32)), .val (.int (0 : Int32)), .val (.int (0 : Int32)), .unset, .unset, .unset, .unset, .unset, .unset, .unset, .unset, .unset, .unset, .unset] [(.ref b1)])) RR
    have Z2 : n0 ≤ h2.size := Nat.le_trans Z1 KK2.1
    have S_COURSES_2 := own_sta_keep S_COURSES_1 KK2 (own_plS (own_plE A1) own_pl0)
    have V_d0_2 := (V_d0_1).keep KK2 (ninS ne_d0_b1 nin0)
    have S_SPREAD_2 := own_sta_keep S_SPREAD_1 KK2 (own_plS (own_plE A1) own_pl0)
    have S_CLUSTERED_2 := own_sta_keep S_CLUSTERED_1 KK2 (own_plS (own_plE A1) own_pl0)
    have E_g0_2 := (E_g0_1).keep KK2
    have E_g1_2 := (E_g1_1).keep KK2
    have F_ordinal_g0_2 := (F_ordinal_g0_1).keep KK2 (ninS ne_g0_b1 nin0)
    have F_ordinal_g1_2 := (F_ordinal_g1_1).keep KK2 (ninS ne_g1_b1 nin0)
    have A1_2 := (A1).keep KK2
    have ne_d0_b_2 : d0 ≠ b_2 := Nat.ne_of_lt (Nat.lt_of_lt_of_le (V_d0_1).lt FF2q2)
    have ne_g0_b_2 : g0 ≠ b_2 := Nat.ne_of_lt (Nat.lt_of_lt_of_le (E_g0_1).lt FF2q2)
    have ne_g1_b_2 : g1 ≠ b_2 := Nat.ne_of_lt (Nat.lt_of_lt_of_le (E_g1_1).lt FF2q2)
    have ne_b1_b_2 : b1 ≠ b_2 := Nat.ne_of_lt (Nat.lt_of_lt_of_le (A1).lt FF2q2)
    have g_b_2 : n0 ≤ b_2 := Nat.le_trans Z1 FF2q2
    refine own_astore X2 at_34 (pc' := 36) rfl rfl (l' := #[.val (.int p0), .val (.int p1), .val (.int p2), .val (.int p3), .val (.int p4), .val (.int p5), .val (.int (1 : Int32)), .val (.int (0 : Int32)), .val (.int (0 : Int32)), .val (.ref b1), .unset, .unset, .unset, .unset, .unset, .unset, .unset, .unset, .unset, .unset]) rfl ?_
    refine own_aload X2 at_36 (pc' := 38) rfl rfl rfl ?_
    refine own_getS X2 at_38 (hw _ (List.mem_of_getElem? (i := 17) rfl)) Via.refl S_SPREAD_2 (pc' := 41) rfl ?_
    intro T3 X3
    refine own_iload X3 at_41 (pc' := 43) rfl rfl ?_
    refine own_iloadN X3 at_43 (pc' := 44) rfl rfl ?_
    refine own_i2d X3 at_44 (pc' := 45) rfl ?_
    refine own_callV (a := b1) (argsL := [(.ref g0), (.int (0 : Int32)), (.double (FP.l2d (p2.toInt64)))]) X3 at_45 (y := (⟨"com/example/evenkeel/evenkeel/skew/CourseSums", "add", "(Lcom/example/evenkeel/evenkeel/skew/GroupGrowth$Course;ID)V"⟩ : MethodName)) (by decide) (hw _ (List.mem_of_getElem? (i := 20) rfl)) (hw _ (List.mem_of_getElem? (i := 21) rfl)) (hw _ (List.mem_of_getElem? (i := 23) rfl)) (hw _ (List.mem_of_getElem? (i := 22) rfl)) (hw _ (List.mem_of_getElem? (i := 24) rfl)) (hw _ (List.mem_of_getElem? (i := 3) rfl)) A1_2 (own_rm3 l Z a0 hw b1 b_2 g0 (1 : Int32) (0 : Int32) (0 : Int32) ((p2.toInt64)) ([(0 : Int64), (0 : Int64)]) h2 n0 Z2 FF2q0 FF2q1 E_g0_2 F_ordinal_g0_2 FF2q3 g_b_2 (by decide) (Nat.le_of_ble_eq_true rfl) (show B53 (0 : Int64) from own_Kb own_K0 (by decide)) (own_Kb (own_Ki _) (by decide))) own_pd2 rfl (S := []) rfl (pc' := 48) rfl rfl (W := 0) (Nat.le_of_eq rfl) (by decide) (by decide) (by decide) (by decide) ?_
    intro T4 h4 v4_ X4 q4_
    obtain ⟨rfl, KK4, FF4q0⟩ := q4_
    show OwnGo p e below (T4.setTop (mkF m 48 #[.val (.int p0), .val (.int p1), .val (.int p2), .val (.int p3), .val (.int p4), .val (.int p5), .val (.int (1 : Int32)), .val (.int (0 : Int32)), .val (.int (0 : Int32)), .val (.ref b1), .unset, .unset, .unset, .unset, .unset, .unset, .unset, .unset, .unset, .unset] [])) RR
    have Z4 : n0 ≤ h4.size := Nat.le_trans Z2 KK4.1
    have S_COURSES_4 := own_sta_keep S_COURSES_2 KK4 (own_plS (own_plV FF2q3) own_pl0)
    have V_d0_4 := (V_d0_2).keep KK4 (ninS ne_d0_b_2 nin0)
    have S_SPREAD_4 := own_sta_keep S_SPREAD_2 KK4 (own_plS (own_plV FF2q3) own_pl0)
    have S_CLUSTERED_4 := own_sta_keep S_CLUSTERED_2 KK4 (own_plS (own_plV FF2q3) own_pl0)
    have E_g0_4 := (E_g0_2).keep KK4
    have E_g1_4 := (E_g1_2).keep KK4
    have F_ordinal_g0_4 := (F_ordinal_g0_2).keep KK4 (ninS ne_g0_b_2 nin0)
    have F_ordinal_g1_4 := (F_ordinal_g1_2).keep KK4 (ninS ne_g1_b_2 nin0)
    have A1_4 := (A1_2).keep KK4
    have FF2q0_4 := (FF2q0).keep KK4 (ninS ne_b1_b_2 nin0)
    have FF2q1_4 := (FF2q1).keep KK4 (ninS ne_b1_b_2 nin0)
    have Vx4 : OwnAr Z h4 b_2 .double ([((0 : Int64) + (p2.toInt64)), (0 : Int64)].map ownDv) := FF4q0
    refine own_aload X4 at_48 (pc' := 50) rfl rfl rfl ?_
    refine own_getS X4 at_50 (hw _ (List.mem_of_getElem? (i := 34) rfl)) Via.refl S_CLUSTERED_4 (pc' := 53) rfl ?_
    intro T5 X5
    refine own_iload X5 at_53 (pc' := 55) rfl rfl ?_
    refine own_iloadN X5 at_55 (pc' := 56) rfl rfl ?_
    refine own_i2d X5 at_56 (pc' := 57) rfl ?_
    refine own_callV (a := b1) (argsL := [(.ref g1), (.int (0 : Int32)), (.double (FP.l2d (p3.toInt64)))]) X5 at_57 (y := (⟨"com/example/evenkeel/evenkeel/skew/CourseSums", "add", "(Lcom/example/evenkeel/evenkeel/skew/GroupGrowth$Course;ID)V"⟩ : MethodName)) (by decide) (hw _ (List.mem_of_getElem? (i := 20) rfl)) (hw _ (List.mem_of_getElem? (i := 21) rfl)) (hw _ (List.mem_of_getElem? (i := 23) rfl)) (hw _ (List.mem_of_getElem? (i := 22) rfl)) (hw _ (List.mem_of_getElem? (i := 24) rfl)) (hw _ (List.mem_of_getElem? (i := 3) rfl)) A1_4 (own_rm3 l Z a0 hw b1 b_2 g1 (1 : Int32) (1 : Int32) (0 : Int32) ((p3.toInt64)) ([((0 : Int64) + (p2.toInt64)), (0 : Int64)]) h4 n0 Z4 FF2q0_4 FF2q1_4 E_g1_4 F_ordinal_g1_4 Vx4 g_b_2 (by decide) (Nat.le_of_ble_eq_true rfl) (show B53 (0 : Int64) from own_Kb own_K0 (by decide)) (own_Kb (own_Ki _) (by decide))) own_pd2 rfl (S := []) rfl (pc' := 60) rfl rfl (W := 0) (Nat.le_of_eq rfl) (by decide) (by decide) (by decide) (by decide) ?_
    intro T6 h6 v6_ X6 q6_
    obtain ⟨rfl, KK6, FF6q0⟩ := q6_
    show OwnGo p e below (T6.setTop (mkF m 60 #[.val (.int p0), .val (.int p1), .val (.int p2), .val (.int p3), .val (.int p4), .val (.int p5), .val (.int (1 : Int32)), .val (.int (0 : Int32)), .val (.int (0 : Int32)), .val (.ref b1), .unset, .unset, .unset, .unset, .unset, .unset, .unset, .unset, .unset, .unset] [])) RR
    have Z6 : n0 ≤ h6.size := Nat.le_trans Z4 KK6.1
    have S_COURSES_6 := own_sta_keep S_COURSES_4 KK6 (own_plS (own_plV Vx4) own_pl0)
    have V_d0_6 := (V_d0_4).keep KK6 (ninS ne_d0_b_2 nin0)
    have S_SPREAD_6 := own_sta_keep S_SPREAD_4 KK6 (own_plS (own_plV Vx4) own_pl0)
    have S_CLUSTERED_6 := own_sta_keep S_CLUSTERED_4 KK6 (own_plS (own_plV Vx4) own_pl0)
    have E_g0_6 := (E_g0_4).keep KK6
    have E_g1_6 := (E_g1_4).keep KK6
    have F_ordinal_g0_6 := (F_ordinal_g0_4).keep KK6 (ninS ne_g0_b_2 nin0)
    have F_ordinal_g1_6 := (F_ordinal_g1_4).keep KK6 (ninS ne_g1_b_2 nin0)
    have A1_6 := (A1_4).keep KK6
    have FF2q0_6 := (FF2q0_4).keep KK6 (ninS ne_b1_b_2 nin0)
    have FF2q1_6 := (FF2q1_4).keep KK6 (ninS ne_b1_b_2 nin0)
    have Vx6 : OwnAr Z h6 b_2 .double ([((0 : Int64) + (p2.toInt64)), ((0 : Int64) + (p3.toInt64))].map ownDv) := FF6q0
    refine own_aload X6 at_60 (pc' := 62) rfl rfl rfl ?_
    refine own_getS X6 at_62 (hw _ (List.mem_of_getElem? (i := 17) rfl)) Via.refl S_SPREAD_6 (pc' := 65) rfl ?_
    intro T7 X7
    refine own_iload X7 at_65 (pc' := 67) rfl rfl ?_
    refine own_iload X7 at_67 (pc' := 69) rfl rfl ?_
    refine own_i2d X7 at_69 (pc' := 70) rfl ?_
    refine own_callV (a := b1) (argsL := [(.ref g0), (.int (0 : Int32)), (.double (FP.l2d (p4.toInt64)))]) X7 at_70 (y := (⟨"com/example/evenkeel/evenkeel/skew/CourseSums", "add", "(Lcom/example/evenkeel/evenkeel/skew/GroupGrowth$Course;ID)V"⟩ : MethodName)) (by decide) (hw _ (List.mem_of_getElem? (i := 20) rfl)) (hw _ (List.mem_of_getElem? (i := 21) rfl)) (hw _ (List.mem_of_getElem? (i := 23) rfl)) (hw _ (List.mem_of_getElem? (i := 22) rfl)) (hw _ (List.mem_of_getElem? (i := 24) rfl)) (hw _ (List.mem_of_getElem? (i := 3) rfl)) A1_6 (own_rm3 l Z a0 hw b1 b_2 g0 (1 : Int32) (0 : Int32) (0 : Int32) ((p4.toInt64)) ([((0 : Int64) + (p2.toInt64)), ((0 : Int64) + (p3.toInt64))]) h6 n0 Z6 FF2q0_6 FF2q1_6 E_g0_6 F_ordinal_g0_6 Vx6 g_b_2 (by decide) (Nat.le_of_ble_eq_true rfl) (show B53 ((0 : Int64) + (p2.toInt64)) from own_Kb (own_Ka own_K0 (own_Ki _) (by decide)) (by decide)) (own_Kb (own_Ki _) (by decide))) own_pd2 rfl (S := []) rfl (pc' := 73) rfl rfl (W := 0) (Nat.le_of_eq rfl) (by decide) (by decide) (by decide) (by decide) ?_
    intro T8 h8 v8_ X8 q8_
    obtain ⟨rfl, KK8, FF8q0⟩ := q8_
    show OwnGo p e below (T8.setTop (mkF m 73 #[.val (.int p0), .val (.int p1), .val (.int p2), .val (.int p3), .val (.int p4), .val (.int p5), .val (.int (1 : Int32)), .val (.int (0 : Int32)), .val (.int (0 : Int32)), .val (.ref b1), .unset, .unset, .unset, .unset, .unset, .unset, .unset, .unset, .unset, .unset] [])) RR
    have Z8 : n0 ≤ h8.size := Nat.le_trans Z6 KK8.1
    have S_COURSES_8 := own_sta_keep S_COURSES_6 KK8 (own_plS (own_plV Vx6) own_pl0)
    have V_d0_8 := (V_d0_6).keep KK8 (ninS ne_d0_b_2 nin0)
    have S_SPREAD_8 := own_sta_keep S_SPREAD_6 KK8 (own_plS (own_plV Vx6) own_pl0)
    have S_CLUSTERED_8 := own_sta_keep S_CLUSTERED_6 KK8 (own_plS (own_plV Vx6) own_pl0)
    have E_g0_8 := (E_g0_6).keep KK8
    have E_g1_8 := (E_g1_6).keep KK8
    have F_ordinal_g0_8 := (F_ordinal_g0_6).keep KK8 (ninS ne_g0_b_2 nin0)
    have F_ordinal_g1_8 := (F_ordinal_g1_6).keep KK8 (ninS ne_g1_b_2 nin0)
    have A1_8 := (A1_6).keep KK8
    have FF2q0_8 := (FF2q0_6).keep KK8 (ninS ne_b1_b_2 nin0)
    have FF2q1_8 := (FF2q1_6).keep KK8 (ninS ne_b1_b_2 nin0)
    have Vx8 : OwnAr Z h8 b_2 .double ([(((0 : Int64) + (p2.toInt64)) + (p4.toInt64)), ((0 : Int64) + (p3.toInt64))].map ownDv) := FF8q0
    refine own_aload X8 at_73 (pc' := 75) rfl rfl rfl ?_
    refine own_getS X8 at_75 (hw _ (List.mem_of_getElem? (i := 34) rfl)) Via.refl S_CLUSTERED_8 (pc' := 78) rfl ?_
    intro T9 X9
    refine own_iload X9 at_78 (pc' := 80) rfl rfl ?_
    refine own_iload X9 at_80 (pc' := 82) rfl rfl ?_
    refine own_i2d X9 at_82 (pc' := 83) rfl ?_
    refine own_callV (a := b1) (argsL := [(.ref g1), (.int (0 : Int32)), (.double (FP.l2d (p5.toInt64)))]) X9 at_83 (y := (⟨"com/example/evenkeel/evenkeel/skew/CourseSums", "add", "(Lcom/example/evenkeel/evenkeel/skew/GroupGrowth$Course;ID)V"⟩ : MethodName)) (by decide) (hw _ (List.mem_of_getElem? (i := 20) rfl)) (hw _ (List.mem_of_getElem? (i := 21) rfl)) (hw _ (List.mem_of_getElem? (i := 23) rfl)) (hw _ (List.mem_of_getElem? (i := 22) rfl)) (hw _ (List.mem_of_getElem? (i := 24) rfl)) (hw _ (List.mem_of_getElem? (i := 3) rfl)) A1_8 (own_rm3 l Z a0 hw b1 b_2 g1 (1 : Int32) (1 : Int32) (0 : Int32) ((p5.toInt64)) ([(((0 : Int64) + (p2.toInt64)) + (p4.toInt64)), ((0 : Int64) + (p3.toInt64))]) h8 n0 Z8 FF2q0_8 FF2q1_8 E_g1_8 F_ordinal_g1_8 Vx8 g_b_2 (by decide) (Nat.le_of_ble_eq_true rfl) (show B53 ((0 : Int64) + (p3.toInt64)) from own_Kb (own_Ka own_K0 (own_Ki _) (by decide)) (by decide)) (own_Kb (own_Ki _) (by decide))) own_pd2 rfl (S := []) rfl (pc' := 86) rfl rfl (W := 0) (Nat.le_of_eq rfl) (by decide) (by decide) (by decide) (by decide) ?_
    intro T10 h10 v10_ X10 q10_
    obtain ⟨rfl, KK10, FF10q0⟩ := q10_
    show OwnGo p e below (T10.setTop (mkF m 86 #[.val (.int p0), .val (.int p1), .val (.int p2), .val (.int p3), .val (.int p4), .val (.int p5), .val (.int (1 : Int32)), .val (.int (0 : Int32)), .val (.int (0 : Int32)), .val (.ref b1), .unset, .unset, .unset, .unset, .unset, .unset, .unset, .unset, .unset, .unset] [])) RR
    have Z10 : n0 ≤ h10.size := Nat.le_trans Z8 KK10.1
    have S_COURSES_10 := own_sta_keep S_COURSES_8 KK10 (own_plS (own_plV Vx8) own_pl0)
    have V_d0_10 := (V_d0_8).keep KK10 (ninS ne_d0_b_2 nin0)
    have S_SPREAD_10 := own_sta_keep S_SPREAD_8 KK10 (own_plS (own_plV Vx8) own_pl0)
    have S_CLUSTERED_10 := own_sta_keep S_CLUSTERED_8 KK10 (own_plS (own_plV Vx8) own_pl0)
    have E_g0_10 := (E_g0_8).keep KK10
    have E_g1_10 := (E_g1_8).keep KK10
    have F_ordinal_g0_10 := (F_ordinal_g0_8).keep KK10 (ninS ne_g0_b_2 nin0)
    have F_ordinal_g1_10 := (F_ordinal_g1_8).keep KK10 (ninS ne_g1_b_2 nin0)
    have A1_10 := (A1_8).keep KK10
    have FF2q0_10 := (FF2q0_8).keep KK10 (ninS ne_b1_b_2 nin0)
    have FF2q1_10 := (FF2q1_8).keep KK10 (ninS ne_b1_b_2 nin0)
    have Vx10 : OwnAr Z h10 b_2 .double ([(((0 : Int64) + (p2.toInt64)) + (p4.toInt64)), (((0 : Int64) + (p3.toInt64)) + (p5.toInt64))].map ownDv) := FF10q0
    refine own_iload X10 at_86 (pc' := 88) rfl rfl ?_
    refine own_i2l X10 at_88 (pc' := 89) rfl ?_
    refine own_iload X10 at_89 (pc' := 91) rfl rfl ?_
    refine own_i2l X10 at_91 (pc' := 92) rfl ?_
    refine own_ladd X10 at_92 (pc' := 93) rfl ?_
    refine own_lstoreV X10 at_93 (pc' := 95) rfl (l' := fun v93 => #[.val (.int p0), .val (.int p1), .val (.int p2), .val (.int p3), .val (.int p4), .val (.int p5), .val (.int (1 : Int32)), .val (.int (0 : Int32)), .val (.int (0 : Int32)), .val (.ref b1), .val (.long v93), .second, .unset, .unset, .unset, .unset, .unset, .unset, .unset, .unset]) (fun _ => rfl) ?_
    intro v93 hv93
    refine own_iloadN X10 at_95 (pc' := 96) rfl rfl ?_
    refine own_i2l X10 at_96 (pc' := 97) rfl ?_
    refine own_iloadN X10 at_97 (pc' := 98) rfl rfl ?_
    refine own_i2l X10 at_98 (pc' := 99) rfl ?_
    refine own_ladd X10 at_99 (pc' := 100) rfl ?_
    refine own_iload X10 at_100 (pc' := 102) rfl rfl ?_
    refine own_iload X10 at_102 (pc' := 104) rfl rfl ?_
    refine own_icN X10 at_104 (teq ((rfl : (0 : Int32) = (0 : Int32)))).2 (pc' := 107) rfl ?_
    refine own_lload X10 at_107 (pc' := 109) rfl rfl ?_
    refine own_goto X10 at_109 (pc' := 113) (by decide) (by decide) ?_
    refine own_ladd X10 at_113 (pc' := 114) rfl ?_
    refine own_lstoreV X10 at_114 (pc' := 116) rfl (l' := fun v114 => #[.val (.int p0), .val (.int p1), .val (.int p2), .val (.int p3), .val (.int p4), .val (.int p5), .val (.int (1 : Int32)), .val (.int (0 : Int32)), .val (.int (0 : Int32)), .val (.ref b1), .val (.long v93), .second, .val (.long v114), .second, .unset, .unset, .unset, .unset, .unset, .unset]) (fun _ => rfl) ?_
    intro v114 hv114
    refine own_iload X10 at_116 (pc' := 118) rfl rfl ?_
    refine own_iload X10 at_118 (pc' := 120) rfl rfl ?_
    refine own_icN X10 at_120 (teq ((rfl : (0 : Int32) = (0 : Int32)))).2 (pc' := 123) rfl ?_
    refine own_lload X10 at_123 (pc' := 125) rfl rfl ?_
    refine own_goto X10 at_125 (pc' := 130) (by decide) (by decide) ?_
    refine own_lstore X10 at_130 (pc' := 132) rfl (l' := #[.val (.int p0), .val (.int p1), .val (.int p2), .val (.int p3), .val (.int p4), .val (.int p5), .val (.int (1 : Int32)), .val (.int (0 : Int32)), .val (.int (0 : Int32)), .val (.ref b1), .val (.long v93), .second, .val (.long v114), .second, .val (.long v114), .second, .unset, .unset, .unset, .unset]) rfl ?_
    refine own_aload X10 at_132 (pc' := 134) rfl rfl rfl ?_
    refine own_iload X10 at_134 (pc' := 136) rfl rfl ?_
    refine own_callV (a := b1) (argsL := [(.int (0 : Int32))]) X10 at_136 (y := (⟨"com/example/evenkeel/evenkeel/skew/CourseSums", "sum", "(I)D"⟩ : MethodName)) (by decide) (hw _ (List.mem_of_getElem? (i := 36) rfl)) (hw _ (List.mem_of_getElem? (i := 37) rfl)) (hw _ (List.mem_of_getElem? (i := 39) rfl)) (hw _ (List.mem_of_getElem? (i := 38) rfl)) (hw _ (List.mem_of_getElem? (i := 40) rfl)) (hw _ (List.mem_of_getElem? (i := 3) rfl)) A1_10 (own_rm5 l Z a0 hw b1 b_2 (1 : Int32) (0 : Int32) ([(((0 : Int64) + (p2.toInt64)) + (p4.toInt64)), (((0 : Int64) + (p3.toInt64)) + (p5.toInt64))]) h10 n0 Z10 FF2q0_10 FF2q1_10 Vx10 (show (0 : Int32) < (2 : Int32) from by decide) (show (1 : Int32) < (2 : Int32) from by decide) (show ¬ ((2 : Int32) < (2 : Int32)) from by decide) (by decide) (Nat.le_of_ble_eq_true rfl) (by decide) (Nat.le_of_ble_eq_true rfl) (show B53 (((0 : Int64) + (p2.toInt64)) + (p4.toInt64)) from own_Kb (own_Ka (own_Ka own_K0 (own_Ki _) (by decide)) (own_Ki _) (by decide)) (by decide)) (show B53 ((0 : Int64) + (((0 : Int64) + (p2.toInt64)) + (p4.toInt64))) from own_Kb (own_Ka own_K0 (own_Ka (own_Ka own_K0 (own_Ki _) (by decide)) (own_Ki _) (by decide)) (by decide)) (by decide)) (show B53 (((0 : Int64) + (p3.toInt64)) + (p5.toInt64)) from own_Kb (own_Ka (own_Ka own_K0 (own_Ki _) (by decide)) (own_Ki _) (by decide)) (by decide))) own_pd3 rfl (S := []) rfl (pc' := 139) rfl rfl (W := 0) (Nat.le_of_eq rfl) (by decide) (by decide) (by decide) (by decide) ?_
    intro T11 h11 v11_ X11 q11_
    obtain ⟨rfl, rfl⟩ := q11_
    obtain ⟨r11, hr11⟩ : ∃ z, z = (((0 : Int64) + ([(((0 : Int64) + (p2.toInt64)) + (p4.toInt64)), (((0 : Int64) + (p3.toInt64)) + (p5.toInt64))].getD ((0 : Int32)).toNatClampNeg 0)) + ([(((0 : Int64) + (p2.toInt64)) + (p4.toInt64)), (((0 : Int64) + (p3.toInt64)) + (p5.toInt64))].getD (((0 : Int32) + (1 : Int32))).toNatClampNeg 0)) := ⟨_, rfl⟩
    show OwnGo p e below (T11.setTop (mkF m 139 #[.val (.int p0), .val (.int p1), .val (.int p2), .val (.int p3), .val (.int p4), .val (.int p5), .val (.int (1 : Int32)), .val (.int (0 : Int32)), .val (.int (0 : Int32)), .val (.ref b1), .val (.long v93), .second, .val (.long v114), .second, .val (.long v114), .second, .unset, .unset, .unset, .unset] [(.double (FP.l2d (((0 : Int64) + ([(((0 : Int64) + (p2.toInt64)) + (p4.toInt64)), (((0 : Int64) + (p3.toInt64)) + (p5.toInt64))].getD ((0 : Int32)).toNatClampNeg 0)) + ([(((0 : Int64) + (p2.toInt64)) + (p4.toInt64)), (((0 : Int64) + (p3.toInt64)) + (p5.toInt64))].getD (((0 : Int32) + (1 : Int32))).toNatClampNeg 0))))])) RR
    rw [← hr11]
    replace hr11 : r11 = (((0 : Int64) + (((0 : Int64) + (p2.toInt64)) + (p4.toInt64))) + (((0 : Int64) + (p3.toInt64)) + (p5.toInt64))) := hr11
    refine own_dstore X11 at_139 (pc' := 141) rfl (l' := #[.val (.int p0), .val (.int p1), .val (.int p2), .val (.int p3), .val (.int p4), .val (.int p5), .val (.int (1 : Int32)), .val (.int (0 : Int32)), .val (.int (0 : Int32)), .val (.ref b1), .val (.long v93), .second, .val (.long v114), .second, .val (.long v114), .second, .val (.double (FP.l2d r11)), .second, .unset, .unset]) rfl ?_
    refine own_aload X11 at_141 (pc' := 143) rfl rfl rfl ?_
    refine own_iload X11 at_143 (pc' := 145) rfl rfl ?_
    refine own_callV (a := b1) (argsL := [(.int (0 : Int32))]) X11 at_145 (y := (⟨"com/example/evenkeel/evenkeel/skew/CourseSums", "sum", "(I)D"⟩ : MethodName)) (by decide) (hw _ (List.mem_of_getElem? (i := 36) rfl)) (hw _ (List.mem_of_getElem? (i := 37) rfl)) (hw _ (List.mem_of_getElem? (i := 39) rfl)) (hw _ (List.mem_of_getElem? (i := 38) rfl)) (hw _ (List.mem_of_getElem? (i := 40) rfl)) (hw _ (List.mem_of_getElem? (i := 3) rfl)) A1_10 (own_rm5 l Z a0 hw b1 b_2 (1 : Int32) (0 : Int32) ([(((0 : Int64) + (p2.toInt64)) + (p4.toInt64)), (((0 : Int64) + (p3.toInt64)) + (p5.toInt64))]) h10 n0 Z10 FF2q0_10 FF2q1_10 Vx10 (show (0 : Int32) < (2 : Int32) from by decide) (show (1 : Int32) < (2 : Int32) from by decide) (show ¬ ((2 : Int32) < (2 : Int32)) from by decide) (by decide) (Nat.le_of_ble_eq_true rfl) (by decide) (Nat.le_of_ble_eq_true rfl) (show B53 (((0 : Int64) + (p2.toInt64)) + (p4.toInt64)) from own_Kb (own_Ka (own_Ka own_K0 (own_Ki _) (by decide)) (own_Ki _) (by decide)) (by decide)) (show B53 ((0 : Int64) + (((0 : Int64) + (p2.toInt64)) + (p4.toInt64))) from own_Kb (own_Ka own_K0 (own_Ka (own_Ka own_K0 (own_Ki _) (by decide)) (own_Ki _) (by decide)) (by decide)) (by decide)) (show B53 (((0 : Int64) + (p3.toInt64)) + (p5.toInt64)) from own_Kb (own_Ka (own_Ka own_K0 (own_Ki _) (by decide)) (own_Ki _) (by decide)) (by decide))) own_pd3 rfl (S := []) rfl (pc' := 148) rfl rfl (W := 0) (Nat.le_of_eq rfl) (by decide) (by decide) (by decide) (by decide) ?_
    intro T12 h12 v12_ X12 q12_
    obtain ⟨rfl, rfl⟩ := q12_
    obtain ⟨r12, hr12⟩ : ∃ z, z = (((0 : Int64) + ([(((0 : Int64) + (p2.toInt64)) + (p4.toInt64)), (((0 : Int64) + (p3.toInt64)) + (p5.toInt64))].getD ((0 : Int32)).toNatClampNeg 0)) + ([(((0 : Int64) + (p2.toInt64)) + (p4.toInt64)), (((0 : Int64) + (p3.toInt64)) + (p5.toInt64))].getD (((0 : Int32) + (1 : Int32))).toNatClampNeg 0)) := ⟨_, rfl⟩
    show OwnGo p e below (T12.setTop (mkF m 148 #[.val (.int p0), .val (.int p1), .val (.int p2), .val (.int p3), .val (.int p4), .val (.int p5), .val (.int (1 : Int32)), .val (.int (0 : Int32)), .val (.int (0 : Int32)), .val (.ref b1), .val (.long v93), .second, .val (.long v114), .second, .val (.long v114), .second, .val (.double (FP.l2d r11)), .second, .unset, .unset] [(.double (FP.l2d (((0 : Int64) + ([(((0 : Int64) + (p2.toInt64)) + (p4.toInt64)), (((0 : Int64) + (p3.toInt64)) + (p5.toInt64))].getD ((0 : Int32)).toNatClampNeg 0)) + ([(((0 : Int64) + (p2.toInt64)) + (p4.toInt64)), (((0 : Int64) + (p3.toInt64)) + (p5.toInt64))].getD (((0 : Int32) + (1 : Int32))).toNatClampNeg 0))))])) RR
    rw [← hr12]
    replace hr12 : r12 = (((0 : Int64) + (((0 : Int64) + (p2.toInt64)) + (p4.toInt64))) + (((0 : Int64) + (p3.toInt64)) + (p5.toInt64))) := hr12
    refine own_dstore X12 at_148 (pc' := 150) rfl (l' := #[.val (.int p0), .val (.int p1), .val (.int p2), .val (.int p3), .val (.int p4), .val (.int p5), .val (.int (1 : Int32)), .val (.int (0 : Int32)), .val (.int (0 : Int32)), .val (.ref b1), .val (.long v93), .second, .val (.long v114), .second, .val (.long v114), .second, .val (.double (FP.l2d r11)), .second, .val (.double (FP.l2d r12)), .second]) rfl ?_
    refine own_dload X12 at_150 (pc' := 152) rfl rfl ?_
    refine own_lload X12 at_152 (pc' := 154) rfl rfl ?_
    refine own_l2d X12 at_154 (pc' := 155) rfl ?_
    refine own_djN X12 at_155 at_156 (by rw [hr11]; exact own_Kb (own_Ka (own_Ka own_K0 (own_Ka (own_Ka own_K0 (own_Ki _) (by decide)) (own_Ki _) (by decide)) (by decide)) (own_Ka (own_Ka own_K0 (own_Ki _) (by decide)) (own_Ki _) (by decide)) (by decide)) (by decide)) (by rw [hv114, hv93]; exact own_Kb (own_Ka (own_Ka (own_Ki _) (own_Ki _) (by decide)) (own_Ka (own_Ki _) (own_Ki _) (by decide)) (by decide)) (by decide)) (own_teqL ((by rw [hr11, hv114, hv93]; simp only [Int64.zero_add, Int64.add_zero, Int64.add_assoc, Int64.add_comm, own_alc] : r11 = v114))).2 (pc' := 159) rfl ?_
    refine own_dload X12 at_159 (pc' := 161) rfl rfl ?_
    refine own_lload X12 at_161 (pc' := 163) rfl rfl ?_
    refine own_l2d X12 at_163 (pc' := 164) rfl ?_
    refine own_djN X12 at_164 at_165 (by rw [hr12]; exact own_Kb (own_Ka (own_Ka own_K0 (own_Ka (own_Ka own_K0 (own_Ki _) (by decide)) (own_Ki _) (by decide)) (by decide)) (own_Ka (own_Ka own_K0 (own_Ki _) (by decide)) (own_Ki _) (by decide)) (by decide)) (by decide)) (by rw [hv114, hv93]; exact own_Kb (own_Ka (own_Ka (own_Ki _) (own_Ki _) (by decide)) (own_Ka (own_Ki _) (own_Ki _) (by decide)) (by decide)) (by decide)) (own_teqL ((by rw [hr12, hv114, hv93]; simp only [Int64.zero_add, Int64.add_zero, Int64.add_assoc, Int64.add_comm, own_alc] : r12 = v114))).2 (pc' := 168) rfl ?_
    refine own_iconst X12 at_168 (pc' := 169) rfl (v := (1 : Int32)) (by decide) ?_
    refine own_goto X12 at_169 (pc' := 173) (by decide) (by decide) ?_
    exact own_retZ X12 at_173 (by decide) rfl (by decide) (by decide)
  · obtain rfl : v23 = (1 : Int32) := by rw [hv23]; decide
    refine own_new X0 at_25 (hw _ (List.mem_of_getElem? (i := 1) rfl)) (hw _ (List.mem_of_getElem? (i := 2) rfl)) (hw _ (List.mem_of_getElem? (i := 3) rfl)) (pc' := 28) rfl (by decide) (by decide) ?_
    intro T13 h13 b13 hb13 X13 E13 A13 D13
    have g_b13 : n0 ≤ b13 := Nat.le_trans Z0 (Nat.le_of_eq hb13.symm)
    have ne_d0_b13 : d0 ≠ b13 := Nat.ne_of_lt (Nat.lt_of_lt_of_le (V_d0).lt (Nat.le_of_eq hb13.symm))
    have ne_g0_b13 : g0 ≠ b13 := Nat.ne_of_lt (Nat.lt_of_lt_of_le (E_g0).lt (Nat.le_of_eq hb13.symm))
    have ne_g1_b13 : g1 ≠ b13 := Nat.ne_of_lt (Nat.lt_of_lt_of_le (E_g1).lt (Nat.le_of_eq hb13.symm))
    have S_COURSES_13 := (S_COURSES).ext E13
    have V_d0_13 := (V_d0).ext E13
    have S_SPREAD_13 := (S_SPREAD).ext E13
    have S_CLUSTERED_13 := (S_CLUSTERED).ext E13
    have E_g0_13 := (E_g0).ext E13
    have E_g1_13 := (E_g1).ext E13
    have F_ordinal_g0_13 := (F_ordinal_g0).ext E13
    have F_ordinal_g1_13 := (F_ordinal_g1).ext E13
    have Z13 : n0 ≤ h13.size := Nat.le_trans Z0 E13.1
    have F_slots_b13 : Fld Z h13 b13 "com/example/evenkeel/evenkeel/skew/CourseSums" "slots" "I" (.int (0 : Int32)) := D13 (Or.inr (hw _ (List.mem_of_getElem? (i := 11) rfl))) (ty := .int) (by decide)
    have F_sums_b13 : Fld Z h13 b13 "com/example/evenkeel/evenkeel/skew/CourseSums" "sums" "[D" .null := D13 (Or.inr (hw _ (List.mem_of_getElem? (i := 16) rfl))) (ty := (.array .double)) (by decide)
    refine own_dup X13 at_28 (pc' := 29) rfl rfl ?_
    refine own_iload X13 at_29 (pc' := 31) rfl rfl ?_
    refine own_callC (a := b13) (argsL := [(.int (2 : Int32))]) X13 at_31 (y := (⟨"com/example/evenkeel/evenkeel/skew/CourseSums", "<init>", "(I)V"⟩ : MethodName)) (by decide) (hw _ (List.mem_of_getElem? (i := 4) rfl)) (hw _ (List.mem_of_getElem? (i := 5) rfl)) (hw _ (List.mem_of_getElem? (i := 6) rfl)) (hw _ (List.mem_of_getElem? (i := 3) rfl)) (own_rm1_2 l Z a0 hw b13 d0 vs (0 : Int32) h13 n0 Z13 A13 F_slots_b13 F_sums_b13 S_COURSES_13 V_d0_13 g_b13 ne_d0_b13 hvs) own_pd1 rfl (S := [(.ref b13)]) rfl (pc' := 34) rfl rfl (W := 1) (Nat.le_of_eq rfl) (by decide) (by decide) (by decide) (by decide) ?_
    intro T14 h14 v14_ X14 q14_
    obtain ⟨b_14, rfl, KK14, FF14q0, FF14q1, FF14q2, FF14q3⟩ := q14_
    show OwnGo p e below (T14.setTop (mkF m 34 #[.val (.int p0), .val (.int p1), .val (.int p2), .val (.int p3), .val (.int p4), .val (.int p5), .val (.int (2 : Int32)), .val (.int (0 : Int32)), .val (.int (1 : Int32)), .unset, .unset, .unset, .unset, .unset, .unset, .unset, .unset, .unset, .unset, .unset] [(.ref b13)])) RR
    have Z14 : n0 ≤ h14.size := Nat.le_trans Z13 KK14.1
    have S_COURSES_14 := own_sta_keep S_COURSES_13 KK14 (own_plS (own_plE A13) own_pl0)
    have V_d0_14 := (V_d0_13).keep KK14 (ninS ne_d0_b13 nin0)
    have S_SPREAD_14 := own_sta_keep S_SPREAD_13 KK14 (own_plS (own_plE A13) own_pl0)
    have S_CLUSTERED_14 := own_sta_keep S_CLUSTERED_13 KK14 (own_plS (own_plE A13) own_pl0)
    have E_g0_14 := (E_g0_13).keep KK14
    have E_g1_14 := (E_g1_13).keep KK14
    have F_ordinal_g0_14 := (F_ordinal_g0_13).keep KK14 (ninS ne_g0_b13 nin0)
    have F_ordinal_g1_14 := (F_ordinal_g1_13).keep KK14 (ninS ne_g1_b13 nin0)
    have A13_14 := (A13).keep KK14
    have ne_d0_b_14 : d0 ≠ b_14 := Nat.ne_of_lt (Nat.lt_of_lt_of_le (V_d0_13).lt FF14q2)
    have ne_g0_b_14 : g0 ≠ b_14 := Nat.ne_of_lt (Nat.lt_of_lt_of_le (E_g0_13).lt FF14q2)
    have ne_g1_b_14 : g1 ≠ b_14 := Nat.ne_of_lt (Nat.lt_of_lt_of_le (E_g1_13).lt FF14q2)
    have ne_b13_b_14 : b13 ≠ b_14 := Nat.ne_of_lt (Nat.lt_of_lt_of_le (A13).lt FF14q2)
    have g_b_14 : n0 ≤ b_14 := Nat.le_trans Z13 FF14q2
    refine own_astore X14 at_34 (pc' := 36) rfl rfl (l' := #[.val (.int p0), .val (.int p1), .val (.int p2), .val (.int p3), .val (.int p4), .val (.int p5), .val (.int (2 : Int32)), .val (.int (0 : Int32)), .val (.int (1 : Int32)), .val (.ref b13), .unset, .unset, .unset, .unset, .unset, .unset, .unset, .unset, .unset, .unset]) rfl ?_
    refine own_aload X14 at_36 (pc' := 38) rfl rfl rfl ?_
    refine own_getS X14 at_38 (hw _ (List.mem_of_getElem? (i := 17) rfl)) Via.refl S_SPREAD_14 (pc' := 41) rfl ?_
    intro T15 X15
    refine own_iload X15 at_41 (pc' := 43) rfl rfl ?_
    refine own_iloadN X15 at_43 (pc' := 44) rfl rfl ?_
    refine own_i2d X15 at_44 (pc' := 45) rfl ?_
    refine own_callV (a := b13) (argsL := [(.ref g0), (.int (0 : Int32)), (.double (FP.l2d (p2.toInt64)))]) X15 at_45 (y := (⟨"com/example/evenkeel/evenkeel/skew/CourseSums", "add", "(Lcom/example/evenkeel/evenkeel/skew/GroupGrowth$Course;ID)V"⟩ : MethodName)) (by decide) (hw _ (List.mem_of_getElem? (i := 20) rfl)) (hw _ (List.mem_of_getElem? (i := 21) rfl)) (hw _ (List.mem_of_getElem? (i := 23) rfl)) (hw _ (List.mem_of_getElem? (i := 22) rfl)) (hw _ (List.mem_of_getElem? (i := 24) rfl)) (hw _ (List.mem_of_getElem? (i := 3) rfl)) A13_14 (own_rm3 l Z a0 hw b13 b_14 g0 (2 : Int32) (0 : Int32) (0 : Int32) ((p2.toInt64)) ([(0 : Int64), (0 : Int64), (0 : Int64), (0 : Int64)]) h14 n0 Z14 FF14q0 FF14q1 E_g0_14 F_ordinal_g0_14 FF14q3 g_b_14 (by decide) (Nat.le_of_ble_eq_true rfl) (show B53 (0 : Int64) from own_Kb own_K0 (by decide)) (own_Kb (own_Ki _) (by decide))) own_pd2 rfl (S := []) rfl (pc' := 48) rfl rfl (W := 0) (Nat.le_of_eq rfl) (by decide) (by decide) (by decide) (by decide) ?_
    intro T16 h16 v16_ X16 q16_
    obtain ⟨rfl, KK16, FF16q0⟩ := q16_
    show OwnGo p e below (T16.setTop (mkF m 48 #[.val (.int p0), .val (.int p1), .val (.int p2), .val (.int p3), .val (.int p4), .val (.int p5), .val (.int (2 : Int32)), .val (.int (0 : Int32)), .val (.int (1 : Int32)), .val (.ref b13), .unset, .unset, .unset, .unset, .unset, .unset, .unset, .unset, .unset, .unset] [])) RR
    have Z16 : n0 ≤ h16.size := Nat.le_trans Z14 KK16.1
    have S_COURSES_16 := own_sta_keep S_COURSES_14 KK16 (own_plS (own_plV FF14q3) own_pl0)
    have V_d0_16 := (V_d0_14).keep KK16 (ninS ne_d0_b_14 nin0)
    have S_SPREAD_16 := own_sta_keep S_SPREAD_14 KK16 (own_plS (own_plV FF14q3) own_pl0)
    have S_CLUSTERED_16 := own_sta_keep S_CLUSTERED_14 KK16 (own_plS (own_plV FF14q3) own_pl0)
    have E_g0_16 := (E_g0_14).keep KK16
    have E_g1_16 := (E_g1_14).keep KK16
    have F_ordinal_g0_16 := (F_ordinal_g0_14).keep KK16 (ninS ne_g0_b_14 nin0)
    have F_ordinal_g1_16 := (F_ordinal_g1_14).keep KK16 (ninS ne_g1_b_14 nin0)
    have A13_16 := (A13_14).keep KK16
    have FF14q0_16 := (FF14q0).keep KK16 (ninS ne_b13_b_14 nin0)
    have FF14q1_16 := (FF14q1).keep KK16 (ninS ne_b13_b_14 nin0)
    have Vx16 : OwnAr Z h16 b_14 .double ([((0 : Int64) + (p2.toInt64)), (0 : Int64), (0 : Int64), (0 : Int64)].map ownDv) := FF16q0
    refine own_aload X16 at_48 (pc' := 50) rfl rfl rfl ?_
    refine own_getS X16 at_50 (hw _ (List.mem_of_getElem? (i := 34) rfl)) Via.refl S_CLUSTERED_16 (pc' := 53) rfl ?_
    intro T17 X17
    refine own_iload X17 at_53 (pc' := 55) rfl rfl ?_
    refine own_iloadN X17 at_55 (pc' := 56) rfl rfl ?_
    refine own_i2d X17 at_56 (pc' := 57) rfl ?_
    refine own_callV (a := b13) (argsL := [(.ref g1), (.int (0 : Int32)), (.double (FP.l2d (p3.toInt64)))]) X17 at_57 (y := (⟨"com/example/evenkeel/evenkeel/skew/CourseSums", "add", "(Lcom/example/evenkeel/evenkeel/skew/GroupGrowth$Course;ID)V"⟩ : MethodName)) (by decide) (hw _ (List.mem_of_getElem? (i := 20) rfl)) (hw _ (List.mem_of_getElem? (i := 21) rfl)) (hw _ (List.mem_of_getElem? (i := 23) rfl)) (hw _ (List.mem_of_getElem? (i := 22) rfl)) (hw _ (List.mem_of_getElem? (i := 24) rfl)) (hw _ (List.mem_of_getElem? (i := 3) rfl)) A13_16 (own_rm3 l Z a0 hw b13 b_14 g1 (2 : Int32) (1 : Int32) (0 : Int32) ((p3.toInt64)) ([((0 : Int64) + (p2.toInt64)), (0 : Int64), (0 : Int64), (0 : Int64)]) h16 n0 Z16 FF14q0_16 FF14q1_16 E_g1_16 F_ordinal_g1_16 Vx16 g_b_14 (by decide) (Nat.le_of_ble_eq_true rfl) (show B53 (0 : Int64) from own_Kb own_K0 (by decide)) (own_Kb (own_Ki _) (by decide))) own_pd2 rfl (S := []) rfl (pc' := 60) rfl rfl (W := 0) (Nat.le_of_eq rfl) (by decide) (by decide) (by decide) (by decide) ?_
    intro T18 h18 v18_ X18 q18_
    obtain ⟨rfl, KK18, FF18q0⟩ := q18_
    show OwnGo p e below (T18.setTop (mkF m 60 #[.val (.int p0), .val (.int p1), .val (.int p2), .val (.int p3), .val (.int p4), .val (.int p5), .val (.int (2 : Int32)), .val (.int (0 : Int32)), .val (.int (1 : Int32)), .val (.ref b13), .unset, .unset, .unset, .unset, .unset, .unset, .unset, .unset, .unset, .unset] [])) RR
    have Z18 : n0 ≤ h18.size := Nat.le_trans Z16 KK18.1
    have S_COURSES_18 := own_sta_keep S_COURSES_16 KK18 (own_plS (own_plV Vx16) own_pl0)
    have V_d0_18 := (V_d0_16).keep KK18 (ninS ne_d0_b_14 nin0)
    have S_SPREAD_18 := own_sta_keep S_SPREAD_16 KK18 (own_plS (own_plV Vx16) own_pl0)
    have S_CLUSTERED_18 := own_sta_keep S_CLUSTERED_16 KK18 (own_plS (own_plV Vx16) own_pl0)
    have E_g0_18 := (E_g0_16).keep KK18
    have E_g1_18 := (E_g1_16).keep KK18
    have F_ordinal_g0_18 := (F_ordinal_g0_16).keep KK18 (ninS ne_g0_b_14 nin0)
    have F_ordinal_g1_18 := (F_ordinal_g1_16).keep KK18 (ninS ne_g1_b_14 nin0)
    have A13_18 := (A13_16).keep KK18
    have FF14q0_18 := (FF14q0_16).keep KK18 (ninS ne_b13_b_14 nin0)
    have FF14q1_18 := (FF14q1_16).keep KK18 (ninS ne_b13_b_14 nin0)
    have Vx18 : OwnAr Z h18 b_14 .double ([((0 : Int64) + (p2.toInt64)), (0 : Int64), ((0 : Int64) + (p3.toInt64)), (0 : Int64)].map ownDv) := FF18q0
    refine own_aload X18 at_60 (pc' := 62) rfl rfl rfl ?_
    refine own_getS X18 at_62 (hw _ (List.mem_of_getElem? (i := 17) rfl)) Via.refl S_SPREAD_18 (pc' := 65) rfl ?_
    intro T19 X19
    refine own_iload X19 at_65 (pc' := 67) rfl rfl ?_
    refine own_iload X19 at_67 (pc' := 69) rfl rfl ?_
    refine own_i2d X19 at_69 (pc' := 70) rfl ?_
    refine own_callV (a := b13) (argsL := [(.ref g0), (.int (1 : Int32)), (.double (FP.l2d (p4.toInt64)))]) X19 at_70 (y := (⟨"com/example/evenkeel/evenkeel/skew/CourseSums", "add", "(Lcom/example/evenkeel/evenkeel/skew/GroupGrowth$Course;ID)V"⟩ : MethodName)) (by decide) (hw _ (List.mem_of_getElem? (i := 20) rfl)) (hw _ (List.mem_of_getElem? (i := 21) rfl)) (hw _ (List.mem_of_getElem? (i := 23) rfl)) (hw _ (List.mem_of_getElem? (i := 22) rfl)) (hw _ (List.mem_of_getElem? (i := 24) rfl)) (hw _ (List.mem_of_getElem? (i := 3) rfl)) A13_18 (own_rm3 l Z a0 hw b13 b_14 g0 (2 : Int32) (0 : Int32) (1 : Int32) ((p4.toInt64)) ([((0 : Int64) + (p2.toInt64)), (0 : Int64), ((0 : Int64) + (p3.toInt64)), (0 : Int64)]) h18 n0 Z18 FF14q0_18 FF14q1_18 E_g0_18 F_ordinal_g0_18 Vx18 g_b_14 (by decide) (Nat.le_of_ble_eq_true rfl) (show B53 (0 : Int64) from own_Kb own_K0 (by decide)) (own_Kb (own_Ki _) (by decide))) own_pd2 rfl (S := []) rfl (pc' := 73) rfl rfl (W := 0) (Nat.le_of_eq rfl) (by decide) (by decide) (by decide) (by decide) ?_
    intro T20 h20 v20_ X20 q20_
    obtain ⟨rfl, KK20, FF20q0⟩ := q20_
    show OwnGo p e below (T20.setTop (mkF m 73 #[.val (.int p0), .val (.int p1), .val (.int p2), .val (.int p3), .val (.int p4), .val (.int p5), .val (.int (2 : Int32)), .val (.int (0 : Int32)), .val (.int (1 : Int32)), .val (.ref b13), .unset, .unset, .unset, .unset, .unset, .unset, .unset, .unset, .unset, .unset] [])) RR
    have Z20 : n0 ≤ h20.size := Nat.le_trans Z18 KK20.1
    have S_COURSES_20 := own_sta_keep S_COURSES_18 KK20 (own_plS (own_plV Vx18) own_pl0)
    have V_d0_20 := (V_d0_18).keep KK20 (ninS ne_d0_b_14 nin0)
    have S_SPREAD_20 := own_sta_keep S_SPREAD_18 KK20 (own_plS (own_plV Vx18) own_pl0)
    have S_CLUSTERED_20 := own_sta_keep S_CLUSTERED_18 KK20 (own_plS (own_plV Vx18) own_pl0)
    have E_g0_20 := (E_g0_18).keep KK20
    have E_g1_20 := (E_g1_18).keep KK20
    have F_ordinal_g0_20 := (F_ordinal_g0_18).keep KK20 (ninS ne_g0_b_14 nin0)
    have F_ordinal_g1_20 := (F_ordinal_g1_18).keep KK20 (ninS ne_g1_b_14 nin0)
    have A13_20 := (A13_18).keep KK20
    have FF14q0_20 := (FF14q0_18).keep KK20 (ninS ne_b13_b_14 nin0)
    have FF14q1_20 := (FF14q1_18).keep KK20 (ninS ne_b13_b_14 nin0)
    have Vx20 : OwnAr Z h20 b_14 .double ([((0 : Int64) + (p2.toInt64)), ((0 : Int64) + (p4.toInt64)), ((0 : Int64) + (p3.toInt64)), (0 : Int64)].map ownDv) := FF20q0
    refine own_aload X20 at_73 (pc' := 75) rfl rfl rfl ?_
    refine own_getS X20 at_75 (hw _ (List.mem_of_getElem? (i := 34) rfl)) Via.refl S_CLUSTERED_20 (pc' := 78) rfl ?_
    intro T21 X21
    refine own_iload X21 at_78 (pc' := 80) rfl rfl ?_
    refine own_iload X21 at_80 (pc' := 82) rfl rfl ?_
    refine own_i2d X21 at_82 (pc' := 83) rfl ?_
    refine own_callV (a := b13) (argsL := [(.ref g1), (.int (1 : Int32)), (.double (FP.l2d (p5.toInt64)))]) X21 at_83 (y := (⟨"com/example/evenkeel/evenkeel/skew/CourseSums", "add", "(Lcom/example/evenkeel/evenkeel/skew/GroupGrowth$Course;ID)V"⟩ : MethodName)) (by decide) (hw _ (List.mem_of_getElem? (i := 20) rfl)) (hw _ (List.mem_of_getElem? (i := 21) rfl)) (hw _ (List.mem_of_getElem? (i := 23) rfl)) (hw _ (List.mem_of_getElem? (i := 22) rfl)) (hw _ (List.mem_of_getElem? (i := 24) rfl)) (hw _ (List.mem_of_getElem? (i := 3) rfl)) A13_20 (own_rm3 l Z a0 hw b13 b_14 g1 (2 : Int32) (1 : Int32) (1 : Int32) ((p5.toInt64)) ([((0 : Int64) + (p2.toInt64)), ((0 : Int64) + (p4.toInt64)), ((0 : Int64) + (p3.toInt64)), (0 : Int64)]) h20 n0 Z20 FF14q0_20 FF14q1_20 E_g1_20 F_ordinal_g1_20 Vx20 g_b_14 (by decide) (Nat.le_of_ble_eq_true rfl) (show B53 (0 : Int64) from own_Kb own_K0 (by decide)) (own_Kb (own_Ki _) (by decide))) own_pd2 rfl (S := []) rfl (pc' := 86) rfl rfl (W := 0) (Nat.le_of_eq rfl) (by decide) (by decide) (by decide) (by decide) ?_
    intro T22 h22 v22_ X22 q22_
    obtain ⟨rfl, KK22, FF22q0⟩ := q22_
    show OwnGo p e below (T22.setTop (mkF m 86 #[.val (.int p0), .val (.int p1), .val (.int p2), .val (.int p3), .val (.int p4), .val (.int p5), .val (.int (2 : Int32)), .val (.int (0 : Int32)), .val (.int (1 : Int32)), .val (.ref b13), .unset, .unset, .unset, .unset, .unset, .unset, .unset, .unset, .unset, .unset] [])) RR
    have Z22 : n0 ≤ h22.size := Nat.le_trans Z20 KK22.1
    have S_COURSES_22 := own_sta_keep S_COURSES_20 KK22 (own_plS (own_plV Vx20) own_pl0)
    have V_d0_22 := (V_d0_20).keep KK22 (ninS ne_d0_b_14 nin0)
    have S_SPREAD_22 := own_sta_keep S_SPREAD_20 KK22 (own_plS (own_plV Vx20) own_pl0)
    have S_CLUSTERED_22 := own_sta_keep S_CLUSTERED_20 KK22 (own_plS (own_plV Vx20) own_pl0)
    have E_g0_22 := (E_g0_20).keep KK22
    have E_g1_22 := (E_g1_20).keep KK22
    have F_ordinal_g0_22 := (F_ordinal_g0_20).keep KK22 (ninS ne_g0_b_14 nin0)
    have F_ordinal_g1_22 := (F_ordinal_g1_20).keep KK22 (ninS ne_g1_b_14 nin0)
    have A13_22 := (A13_20).keep KK22
    have FF14q0_22 := (FF14q0_20).keep KK22 (ninS ne_b13_b_14 nin0)
    have FF14q1_22 := (FF14q1_20).keep KK22 (ninS ne_b13_b_14 nin0)
    have Vx22 : OwnAr Z h22 b_14 .double ([((0 : Int64) + (p2.toInt64)), ((0 : Int64) + (p4.toInt64)), ((0 : Int64) + (p3.toInt64)), ((0 : Int64) + (p5.toInt64))].map ownDv) := FF22q0
    refine own_iload X22 at_86 (pc' := 88) rfl rfl ?_
    refine own_i2l X22 at_88 (pc' := 89) rfl ?_
    refine own_iload X22 at_89 (pc' := 91) rfl rfl ?_
    refine own_i2l X22 at_91 (pc' := 92) rfl ?_
    refine own_ladd X22 at_92 (pc' := 93) rfl ?_
    refine own_lstoreV X22 at_93 (pc' := 95) rfl (l' := fun v93 => #[.val (.int p0), .val (.int p1), .val (.int p2), .val (.int p3), .val (.int p4), .val (.int p5), .val (.int (2 : Int32)), .val (.int (0 : Int32)), .val (.int (1 : Int32)), .val (.ref b13), .val (.long v93), .second, .unset, .unset, .unset, .unset, .unset, .unset, .unset, .unset]) (fun _ => rfl) ?_
    intro v93 hv93
    refine own_iloadN X22 at_95 (pc' := 96) rfl rfl ?_
    refine own_i2l X22 at_96 (pc' := 97) rfl ?_
    refine own_iloadN X22 at_97 (pc' := 98) rfl rfl ?_
    refine own_i2l X22 at_98 (pc' := 99) rfl ?_
    refine own_ladd X22 at_99 (pc' := 100) rfl ?_
    refine own_iload X22 at_100 (pc' := 102) rfl rfl ?_
    refine own_iload X22 at_102 (pc' := 104) rfl rfl ?_
    refine own_icY X22 at_104 (feq ((by decide : ¬ ((1 : Int32) = (0 : Int32))))).2 (pc' := 112) (by decide) (by decide) ?_
    refine own_lconst X22 at_112 (pc' := 113) rfl (v := (0 : Int64)) (by decide) ?_
    refine own_ladd X22 at_113 (pc' := 114) rfl ?_
    refine own_lstoreV X22 at_114 (pc' := 116) rfl (l' := fun v114 => #[.val (.int p0), .val (.int p1), .val (.int p2), .val (.int p3), .val (.int p4), .val (.int p5), .val (.int (2 : Int32)), .val (.int (0 : Int32)), .val (.int (1 : Int32)), .val (.ref b13), .val (.long v93), .second, .val (.long v114), .second, .unset, .unset, .unset, .unset, .unset, .unset]) (fun _ => rfl) ?_
    intro v114 hv114
    refine own_iload X22 at_116 (pc' := 118) rfl rfl ?_
    refine own_iload X22 at_118 (pc' := 120) rfl rfl ?_
    refine own_icY X22 at_120 (feq ((by decide : ¬ ((1 : Int32) = (0 : Int32))))).2 (pc' := 128) (by decide) (by decide) ?_
    refine own_lload X22 at_128 (pc' := 130) rfl rfl ?_
    refine own_lstore X22 at_130 (pc' := 132) rfl (l' := #[.val (.int p0), .val (.int p1), .val (.int p2), .val (.int p3), .val (.int p4), .val (.int p5), .val (.int (2 : Int32)), .val (.int (0 : Int32)), .val (.int (1 : Int32)), .val (.ref b13), .val (.long v93), .second, .val (.long v114), .second, .val (.long v93), .second, .unset, .unset, .unset, .unset]) rfl ?_
    refine own_aload X22 at_132 (pc' := 134) rfl rfl rfl ?_
    refine own_iload X22 at_134 (pc' := 136) rfl rfl ?_
    refine own_callV (a := b13) (argsL := [(.int (0 : Int32))]) X22 at_136 (y := (⟨"com/example/evenkeel/evenkeel/skew/CourseSums", "sum", "(I)D"⟩ : MethodName)) (by decide) (hw _ (List.mem_of_getElem? (i := 36) rfl)) (hw _ (List.mem_of_getElem? (i := 37) rfl)) (hw _ (List.mem_of_getElem? (i := 39) rfl)) (hw _ (List.mem_of_getElem? (i := 38) rfl)) (hw _ (List.mem_of_getElem? (i := 40) rfl)) (hw _ (List.mem_of_getElem? (i := 3) rfl)) A13_22 (own_rm5 l Z a0 hw b13 b_14 (2 : Int32) (0 : Int32) ([((0 : Int64) + (p2.toInt64)), ((0 : Int64) + (p4.toInt64)), ((0 : Int64) + (p3.toInt64)), ((0 : Int64) + (p5.toInt64))]) h22 n0 Z22 FF14q0_22 FF14q1_22 Vx22 (show (0 : Int32) < (4 : Int32) from by decide) (show (2 : Int32) < (4 : Int32) from by decide) (show ¬ ((4 : Int32) < (4 : Int32)) from by decide) (by decide) (Nat.le_of_ble_eq_true rfl) (by decide) (Nat.le_of_ble_eq_true rfl) (show B53 ((0 : Int64) + (p2.toInt64)) from own_Kb (own_Ka own_K0 (own_Ki _) (by decide)) (by decide)) (show B53 ((0 : Int64) + ((0 : Int64) + (p2.toInt64))) from own_Kb (own_Ka own_K0 (own_Ka own_K0 (own_Ki _) (by decide)) (by decide)) (by decide)) (show B53 ((0 : Int64) + (p3.toInt64)) from own_Kb (own_Ka own_K0 (own_Ki _) (by decide)) (by decide))) own_pd3 rfl (S := []) rfl (pc' := 139) rfl rfl (W := 0) (Nat.le_of_eq rfl) (by decide) (by decide) (by decide) (by decide) ?_
    intro T23 h23 v23_ X23 q23_
    obtain ⟨rfl, rfl⟩ := q23_
    obtain ⟨r23, hr23⟩ : ∃ z, z = (((0 : Int64) + ([((0 : Int64) + (p2.toInt64)), ((0 : Int64) + (p4.toInt64)), ((0 : Int64) + (p3.toInt64)), ((0 : Int64) + (p5.toInt64))].getD ((0 : Int32)).toNatClampNeg 0)) + ([((0 : Int64) + (p2.toInt64)), ((0 : Int64) + (p4.toInt64)), ((0 : Int64) + (p3.toInt64)), ((0 : Int64) + (p5.toInt64))].getD (((0 : Int32) + (2 : Int32))).toNatClampNeg 0)) := ⟨_, rfl⟩
    show OwnGo p e below (T23.setTop (mkF m 139 #[.val (.int p0), .val (.int p1), .val (.int p2), .val (.int p3), .val (.int p4), .val (.int p5), .val (.int (2 : Int32)), .val (.int (0 : Int32)), .val (.int (1 : Int32)), .val (.ref b13), .val (.long v93), .second, .val (.long v114), .second, .val (.long v93), .second, .unset, .unset, .unset, .unset] [(.double (FP.l2d (((0 : Int64) + ([((0 : Int64) + (p2.toInt64)), ((0 : Int64) + (p4.toInt64)), ((0 : Int64) + (p3.toInt64)), ((0 : Int64) + (p5.toInt64))].getD ((0 : Int32)).toNatClampNeg 0)) + ([((0 : Int64) + (p2.toInt64)), ((0 : Int64) + (p4.toInt64)), ((0 : Int64) + (p3.toInt64)), ((0 : Int64) + (p5.toInt64))].getD (((0 : Int32) + (2 : Int32))).toNatClampNeg 0))))])) RR
    rw [← hr23]
    replace hr23 : r23 = (((0 : Int64) + ((0 : Int64) + (p2.toInt64))) + ((0 : Int64) + (p3.toInt64))) := hr23
    refine own_dstore X23 at_139 (pc' := 141) rfl (l' := #[.val (.int p0), .val (.int p1), .val (.int p2), .val (.int p3), .val (.int p4), .val (.int p5), .val (.int (2 : Int32)), .val (.int (0 : Int32)), .val (.int (1 : Int32)), .val (.ref b13), .val (.long v93), .second, .val (.long v114), .second, .val (.long v93), .second, .val (.double (FP.l2d r23)), .second, .unset, .unset]) rfl ?_
    refine own_aload X23 at_141 (pc' := 143) rfl rfl rfl ?_
    refine own_iload X23 at_143 (pc' := 145) rfl rfl ?_
    refine own_callV (a := b13) (argsL := [(.int (1 : Int32))]) X23 at_145 (y := (⟨"com/example/evenkeel/evenkeel/skew/CourseSums", "sum", "(I)D"⟩ : MethodName)) (by decide) (hw _ (List.mem_of_getElem? (i := 36) rfl)) (hw _ (List.mem_of_getElem? (i := 37) rfl)) (hw _ (List.mem_of_getElem? (i := 39) rfl)) (hw _ (List.mem_of_getElem? (i := 38) rfl)) (hw _ (List.mem_of_getElem? (i := 40) rfl)) (hw _ (List.mem_of_getElem? (i := 3) rfl)) A13_22 (own_rm5 l Z a0 hw b13 b_14 (2 : Int32) (1 : Int32) ([((0 : Int64) + (p2.toInt64)), ((0 : Int64) + (p4.toInt64)), ((0 : Int64) + (p3.toInt64)), ((0 : Int64) + (p5.toInt64))]) h22 n0 Z22 FF14q0_22 FF14q1_22 Vx22 (show (1 : Int32) < (4 : Int32) from by decide) (show (3 : Int32) < (4 : Int32) from by decide) (show ¬ ((5 : Int32) < (4 : Int32)) from by decide) (by decide) (Nat.le_of_ble_eq_true rfl) (by decide) (Nat.le_of_ble_eq_true rfl) (show B53 ((0 : Int64) + (p4.toInt64)) from own_Kb (own_Ka own_K0 (own_Ki _) (by decide)) (by decide)) (show B53 ((0 : Int64) + ((0 : Int64) + (p4.toInt64))) from own_Kb (own_Ka own_K0 (own_Ka own_K0 (own_Ki _) (by decide)) (by decide)) (by decide)) (show B53 ((0 : Int64) + (p5.toInt64)) from own_Kb (own_Ka own_K0 (own_Ki _) (by decide)) (by decide))) own_pd3 rfl (S := []) rfl (pc' := 148) rfl rfl (W := 0) (Nat.le_of_eq rfl) (by decide) (by decide) (by decide) (by decide) ?_
    intro T24 h24 v24_ X24 q24_
    obtain ⟨rfl, rfl⟩ := q24_
    obtain ⟨r24, hr24⟩ : ∃ z, z = (((0 : Int64) + ([((0 : Int64) + (p2.toInt64)), ((0 : Int64) + (p4.toInt64)), ((0 : Int64) + (p3.toInt64)), ((0 : Int64) + (p5.toInt64))].getD ((1 : Int32)).toNatClampNeg 0)) + ([((0 : Int64) + (p2.toInt64)), ((0 : Int64) + (p4.toInt64)), ((0 : Int64) + (p3.toInt64)), ((0 : Int64) + (p5.toInt64))].getD (((1 : Int32) + (2 : Int32))).toNatClampNeg 0)) := ⟨_, rfl⟩
    show OwnGo p e below (T24.setTop (mkF m 148 #[.val (.int p0), .val (.int p1), .val (.int p2), .val (.int p3), .val (.int p4), .val (.int p5), .val (.int (2 : Int32)), .val (.int (0 : Int32)), .val (.int (1 : Int32)), .val (.ref b13), .val (.long v93), .second, .val (.long v114), .second, .val (.long v93), .second, .val (.double (FP.l2d r23)), .second, .unset, .unset] [(.double (FP.l2d (((0 : Int64) + ([((0 : Int64) + (p2.toInt64)), ((0 : Int64) + (p4.toInt64)), ((0 : Int64) + (p3.toInt64)), ((0 : Int64) + (p5.toInt64))].getD ((1 : Int32)).toNatClampNeg 0)) + ([((0 : Int64) + (p2.toInt64)), ((0 : Int64) + (p4.toInt64)), ((0 : Int64) + (p3.toInt64)), ((0 : Int64) + (p5.toInt64))].getD (((1 : Int32) + (2 : Int32))).toNatClampNeg 0))))])) RR
    rw [← hr24]
    replace hr24 : r24 = (((0 : Int64) + ((0 : Int64) + (p4.toInt64))) + ((0 : Int64) + (p5.toInt64))) := hr24
    refine own_dstore X24 at_148 (pc' := 150) rfl (l' := #[.val (.int p0), .val (.int p1), .val (.int p2), .val (.int p3), .val (.int p4), .val (.int p5), .val (.int (2 : Int32)), .val (.int (0 : Int32)), .val (.int (1 : Int32)), .val (.ref b13), .val (.long v93), .second, .val (.long v114), .second, .val (.long v93), .second, .val (.double (FP.l2d r23)), .second, .val (.double (FP.l2d r24)), .second]) rfl ?_
    refine own_dload X24 at_150 (pc' := 152) rfl rfl ?_
    refine own_lload X24 at_152 (pc' := 154) rfl rfl ?_
    refine own_l2d X24 at_154 (pc' := 155) rfl ?_
    refine own_djN X24 at_155 at_156 (by rw [hr23]; exact own_Kb (own_Ka (own_Ka own_K0 (own_Ka own_K0 (own_Ki _) (by decide)) (by decide)) (own_Ka own_K0 (own_Ki _) (by decide)) (by decide)) (by decide)) (by rw [hv114]; exact own_Kb (own_Ka (own_Ka (own_Ki _) (own_Ki _) (by decide)) own_K0 (by decide)) (by decide)) (own_teqL ((by rw [hr23, hv114]; simp only [Int64.zero_add, Int64.add_zero, Int64.add_assoc, Int64.add_comm, own_alc] : r23 = v114))).2 (pc' := 159) rfl ?_
    refine own_dload X24 at_159 (pc' := 161) rfl rfl ?_
    refine own_lload X24 at_161 (pc' := 163) rfl rfl ?_
    refine own_l2d X24 at_163 (pc' := 164) rfl ?_
    refine own_djN X24 at_164 at_165 (by rw [hr24]; exact own_Kb (own_Ka (own_Ka own_K0 (own_Ka own_K0 (own_Ki _) (by decide)) (by decide)) (own_Ka own_K0 (own_Ki _) (by decide)) (by decide)) (by decide)) (by rw [hv93]; exact own_Kb (own_Ka (own_Ki _) (own_Ki _) (by decide)) (by decide)) (own_teqL ((by rw [hr24, hv93]; simp only [Int64.zero_add, Int64.add_zero, Int64.add_assoc, Int64.add_comm, own_alc] : r24 = v93))).2 (pc' := 168) rfl ?_
    refine own_iconst X24 at_168 (pc' := 169) rfl (v := (1 : Int32)) (by decide) ?_
    refine own_goto X24 at_169 (pc' := 173) (by decide) (by decide) ?_
    exact own_retZ X24 at_173 (by decide) rfl (by decide) (by decide)
  · obtain rfl : v23 = (0 : Int32) := by rw [hv23]; decide
    refine own_new X0 at_25 (hw _ (List.mem_of_getElem? (i := 1) rfl)) (hw _ (List.mem_of_getElem? (i := 2) rfl)) (hw _ (List.mem_of_getElem? (i := 3) rfl)) (pc' := 28) rfl (by decide) (by decide) ?_
    intro T25 h25 b25 hb25 X25 E25 A25 D25
    have g_b25 : n0 ≤ b25 := Nat.le_trans Z0 (Nat.le_of_eq hb25.symm)
    have ne_d0_b25 : d0 ≠ b25 := Nat.ne_of_lt (Nat.lt_of_lt_of_le (V_d0).lt (Nat.le_of_eq hb25.symm))
    have ne_g0_b25 : g0 ≠ b25 := Nat.ne_of_lt (Nat.lt_of_lt_of_le (E_g0).lt (Nat.le_of_eq hb25.symm))
    have ne_g1_b25 : g1 ≠ b25 := Nat.ne_of_lt (Nat.lt_of_lt_of_le (E_g1).lt (Nat.le_of_eq hb25.symm))
    have S_COURSES_25 := (S_COURSES).ext E25
    have V_d0_25 := (V_d0).ext E25
    have S_SPREAD_25 := (S_SPREAD).ext E25
    have S_CLUSTERED_25 := (S_CLUSTERED).ext E25
    have E_g0_25 := (E_g0).ext E25
    have E_g1_25 := (E_g1).ext E25
    have F_ordinal_g0_25 := (F_ordinal_g0).ext E25
    have F_ordinal_g1_25 := (F_ordinal_g1).ext E25
    have Z25 : n0 ≤ h25.size := Nat.le_trans Z0 E25.1
    have F_slots_b25 : Fld Z h25 b25 "com/example/evenkeel/evenkeel/skew/CourseSums" "slots" "I" (.int (0 : Int32)) := D25 (Or.inr (hw _ (List.mem_of_getElem? (i := 11) rfl))) (ty := .int) (by decide)
    have F_sums_b25 : Fld Z h25 b25 "com/example/evenkeel/evenkeel/skew/CourseSums" "sums" "[D" .null := D25 (Or.inr (hw _ (List.mem_of_getElem? (i := 16) rfl))) (ty := (.array .double)) (by decide)
    refine own_dup X25 at_28 (pc' := 29) rfl rfl ?_
    refine own_iload X25 at_29 (pc' := 31) rfl rfl ?_
    refine own_callC (a := b25) (argsL := [(.int (2 : Int32))]) X25 at_31 (y := (⟨"com/example/evenkeel/evenkeel/skew/CourseSums", "<init>", "(I)V"⟩ : MethodName)) (by decide) (hw _ (List.mem_of_getElem? (i := 4) rfl)) (hw _ (List.mem_of_getElem? (i := 5) rfl)) (hw _ (List.mem_of_getElem? (i := 6) rfl)) (hw _ (List.mem_of_getElem? (i := 3) rfl)) (own_rm1_2 l Z a0 hw b25 d0 vs (0 : Int32) h25 n0 Z25 A25 F_slots_b25 F_sums_b25 S_COURSES_25 V_d0_25 g_b25 ne_d0_b25 hvs) own_pd1 rfl (S := [(.ref b25)]) rfl (pc' := 34) rfl rfl (W := 1) (Nat.le_of_eq rfl) (by decide) (by decide) (by decide) (by decide) ?_
    intro T26 h26 v26_ X26 q26_
    obtain ⟨b_26, rfl, KK26, FF26q0, FF26q1, FF26q2, FF26q3⟩ := q26_
    show OwnGo p e below (T26.setTop (mkF m 34 #[.val (.int p0), .val (.int p1), .val (.int p2), .val (.int p3), .val (.int p4), .val (.int p5), .val (.int (2 : Int32)), .val (.int (1 : Int32)), .val (.int (0 : Int32)), .unset, .unset, .unset, .unset, .unset, .unset, .unset, .unset, .unset, .unset, .unset] [(.ref b25)])) RR
    have Z26 : n0 ≤ h26.size := Nat.le_trans Z25 KK26.1
    have S_COURSES_26 := own_sta_keep S_COURSES_25 KK26 (own_plS (own_plE A25) own_pl0)
    have V_d0_26 := (V_d0_25).keep KK26 (ninS ne_d0_b25 nin0)
    have S_SPREAD_26 := own_sta_keep S_SPREAD_25 KK26 (own_plS (own_plE A25) own_pl0)
    have S_CLUSTERED_26 := own_sta_keep S_CLUSTERED_25 KK26 (own_plS (own_plE A25) own_pl0)
    have E_g0_26 := (E_g0_25).keep KK26
    have E_g1_26 := (E_g1_25).keep KK26
    have F_ordinal_g0_26 := (F_ordinal_g0_25).keep KK26 (ninS ne_g0_b25 nin0)
    have F_ordinal_g1_26 := (F_ordinal_g1_25).keep KK26 (ninS ne_g1_b25 nin0)
    have A25_26 := (A25).keep KK26
    have ne_d0_b_26 : d0 ≠ b_26 := Nat.ne_of_lt (Nat.lt_of_lt_of_le (V_d0_25).lt FF26q2)
    have ne_g0_b_26 : g0 ≠ b_26 := Nat.ne_of_lt (Nat.lt_of_lt_of_le (E_g0_25).lt FF26q2)
    have ne_g1_b_26 : g1 ≠ b_26 := Nat.ne_of_lt (Nat.lt_of_lt_of_le (E_g1_25).lt FF26q2)
    have ne_b25_b_26 : b25 ≠ b_26 := Nat.ne_of_lt (Nat.lt_of_lt_of_le (A25).lt FF26q2)
    have g_b_26 : n0 ≤ b_26 := Nat.le_trans Z25 FF26q2
    refine own_astore X26 at_34 (pc' := 36) rfl rfl (l' := #[.val (.int p0), .val (.int p1), .val (.int p2), .val (.int p3), .val (.int p4), .val (.int p5), .val (.int (2 : Int32)), .val (.int (1 : Int32)), .val (.int (0 : Int32)), .val (.ref b25), .unset, .unset, .unset, .unset, .unset, .unset, .unset, .unset, .unset, .unset]) rfl ?_
    refine own_aload X26 at_36 (pc' := 38) rfl rfl rfl ?_
    refine own_getS X26 at_38 (hw _ (List.mem_of_getElem? (i := 17) rfl)) Via.refl S_SPREAD_26 (pc' := 41) rfl ?_
    intro T27 X27
    refine own_iload X27 at_41 (pc' := 43) rfl rfl ?_
    refine own_iloadN X27 at_43 (pc' := 44) rfl rfl ?_
    refine own_i2d X27 at_44 (pc' := 45) rfl ?_
    refine own_callV (a := b25) (argsL := [(.ref g0), (.int (1 : Int32)), (.double (FP.l2d (p2.toInt64)))]) X27 at_45 (y := (⟨"com/example/evenkeel/evenkeel/skew/CourseSums", "add", "(Lcom/example/evenkeel/evenkeel/skew/GroupGrowth$Course;ID)V"⟩ : MethodName)) (by decide) (hw _ (List.mem_of_getElem? (i := 20) rfl)) (hw _ (List.mem_of_getElem? (i := 21) rfl)) (hw _ (List.mem_of_getElem? (i := 23) rfl)) (hw _ (List.mem_of_getElem? (i := 22) rfl)) (hw _ (List.mem_of_getElem? (i := 24) rfl)) (hw _ (List.mem_of_getElem? (i := 3) rfl)) A25_26 (own_rm3 l Z a0 hw b25 b_26 g0 (2 : Int32) (0 : Int32) (1 : Int32) ((p2.toInt64)) ([(0 : Int64), (0 : Int64), (0 : Int64), (0 : Int64)]) h26 n0 Z26 FF26q0 FF26q1 E_g0_26 F_ordinal_g0_26 FF26q3 g_b_26 (by decide) (Nat.le_of_ble_eq_true rfl) (show B53 (0 : Int64) from own_Kb own_K0 (by decide)) (own_Kb (own_Ki _) (by decide))) own_pd2 rfl (S := []) rfl (pc' := 48) rfl rfl (W := 0) (Nat.le_of_eq rfl) (by decide) (by decide) (by decide) (by decide) ?_
    intro T28 h28 v28_ X28 q28_
    obtain ⟨rfl, KK28, FF28q0⟩ := q28_
    show OwnGo p e below (T28.setTop (mkF m 48 #[.val (.int p0), .val (.int p1), .val (.int p2), .val (.int p3), .val (.int p4), .val (.int p5), .val (.int (2 : Int32)), .val (.int (1 : Int32)), .val (.int (0 : Int32)), .val (.ref b25), .unset, .unset, .unset, .unset, .unset, .unset, .unset, .unset, .unset, .unset] [])) RR
    have Z28 : n0 ≤ h28.size := Nat.le_trans Z26 KK28.1
    have S_COURSES_28 := own_sta_keep S_COURSES_26 KK28 (own_plS (own_plV FF26q3) own_pl0)
    have V_d0_28 := (V_d0_26).keep KK28 (ninS ne_d0_b_26 nin0)
    have S_SPREAD_28 := own_sta_keep S_SPREAD_26 KK28 (own_plS (own_plV FF26q3) own_pl0)
    have S_CLUSTERED_28 := own_sta_keep S_CLUSTERED_26 KK28 (own_plS (own_plV FF26q3) own_pl0)
    have E_g0_28 := (E_g0_26).keep KK28
    have E_g1_28 := (E_g1_26).keep KK28
    have F_ordinal_g0_28 := (F_ordinal_g0_26).keep KK28 (ninS ne_g0_b_26 nin0)
    have F_ordinal_g1_28 := (F_ordinal_g1_26).keep KK28 (ninS ne_g1_b_26 nin0)
    have A25_28 := (A25_26).keep KK28
    have FF26q0_28 := (FF26q0).keep KK28 (ninS ne_b25_b_26 nin0)
    have FF26q1_28 := (FF26q1).keep KK28 (ninS ne_b25_b_26 nin0)
    have Vx28 : OwnAr Z h28 b_26 .double ([(0 : Int64), ((0 : Int64) + (p2.toInt64)), (0 : Int64), (0 : Int64)].map ownDv) := FF28q0
    refine own_aload X28 at_48 (pc' := 50) rfl rfl rfl ?_
    refine own_getS X28 at_50 (hw _ (List.mem_of_getElem? (i := 34) rfl)) Via.refl S_CLUSTERED_28 (pc' := 53) rfl ?_
    intro T29 X29
    refine own_iload X29 at_53 (pc' := 55) rfl rfl ?_
    refine own_iloadN X29 at_55 (pc' := 56) rfl rfl ?_
    refine own_i2d X29 at_56 (pc' := 57) rfl ?_
    refine own_callV (a := b25) (argsL := [(.ref g1), (.int (1 : Int32)), (.double (FP.l2d (p3.toInt64)))]) X29 at_57 (y := (⟨"com/example/evenkeel/evenkeel/skew/CourseSums", "add", "(Lcom/example/evenkeel/evenkeel/skew/GroupGrowth$Course;ID)V"⟩ : MethodName)) (by decide) (hw _ (List.mem_of_getElem? (i := 20) rfl)) (hw _ (List.mem_of_getElem? (i := 21) rfl)) (hw _ (List.mem_of_getElem? (i := 23) rfl)) (hw _ (List.mem_of_getElem? (i := 22) rfl)) (hw _ (List.mem_of_getElem? (i := 24) rfl)) (hw _ (List.mem_of_getElem? (i := 3) rfl)) A25_28 (own_rm3 l Z a0 hw b25 b_26 g1 (2 : Int32) (1 : Int32) (1 : Int32) ((p3.toInt64)) ([(0 : Int64), ((0 : Int64) + (p2.toInt64)), (0 : Int64), (0 : Int64)]) h28 n0 Z28 FF26q0_28 FF26q1_28 E_g1_28 F_ordinal_g1_28 Vx28 g_b_26 (by decide) (Nat.le_of_ble_eq_true rfl) (show B53 (0 : Int64) from own_Kb own_K0 (by decide)) (own_Kb (own_Ki _) (by decide))) own_pd2 rfl (S := []) rfl (pc' := 60) rfl rfl (W := 0) (Nat.le_of_eq rfl) (by decide) (by decide) (by decide) (by decide) ?_
    intro T30 h30 v30_ X30 q30_
    obtain ⟨rfl, KK30, FF30q0⟩ := q30_
    show OwnGo p e below (T30.setTop (mkF m 60 #[.val (.int p0), .val (.int p1), .val (.int p2), .val (.int p3), .val (.int p4), .val (.int p5), .val (.int (2 : Int32)), .val (.int (1 : Int32)), .val (.int (0 : Int32)), .val (.ref b25), .unset, .unset, .unset, .unset, .unset, .unset, .unset, .unset, .unset, .unset] [])) RR
    have Z30 : n0 ≤ h30.size := Nat.le_trans Z28 KK30.1
    have S_COURSES_30 := own_sta_keep S_COURSES_28 KK30 (own_plS (own_plV Vx28) own_pl0)
    have V_d0_30 := (V_d0_28).keep KK30 (ninS ne_d0_b_26 nin0)
    have S_SPREAD_30 := own_sta_keep S_SPREAD_28 KK30 (own_plS (own_plV Vx28) own_pl0)
    have S_CLUSTERED_30 := own_sta_keep S_CLUSTERED_28 KK30 (own_plS (own_plV Vx28) own_pl0)
    have E_g0_30 := (E_g0_28).keep KK30
    have E_g1_30 := (E_g1_28).keep KK30
    have F_ordinal_g0_30 := (F_ordinal_g0_28).keep KK30 (ninS ne_g0_b_26 nin0)
    have F_ordinal_g1_30 := (F_ordinal_g1_28).keep KK30 (ninS ne_g1_b_26 nin0)
    have A25_30 := (A25_28).keep KK30
    have FF26q0_30 := (FF26q0_28).keep KK30 (ninS ne_b25_b_26 nin0)
    have FF26q1_30 := (FF26q1_28).keep KK30 (ninS ne_b25_b_26 nin0)
    have Vx30 : OwnAr Z h30 b_26 .double ([(0 : Int64), ((0 : Int64) + (p2.toInt64)), (0 : Int64), ((0 : Int64) + (p3.toInt64))].map ownDv) := FF30q0
    refine own_aload X30 at_60 (pc' := 62) rfl rfl rfl ?_
    refine own_getS X30 at_62 (hw _ (List.mem_of_getElem? (i := 17) rfl)) Via.refl S_SPREAD_30 (pc' := 65) rfl ?_
    intro T31 X31
    refine own_iload X31 at_65 (pc' := 67) rfl rfl ?_
    refine own_iload X31 at_67 (pc' := 69) rfl rfl ?_
    refine own_i2d X31 at_69 (pc' := 70) rfl ?_
    refine own_callV (a := b25) (argsL := [(.ref g0), (.int (0 : Int32)), (.double (FP.l2d (p4.toInt64)))]) X31 at_70 (y := (⟨"com/example/evenkeel/evenkeel/skew/CourseSums", "add", "(Lcom/example/evenkeel/evenkeel/skew/GroupGrowth$Course;ID)V"⟩ : MethodName)) (by decide) (hw _ (List.mem_of_getElem? (i := 20) rfl)) (hw _ (List.mem_of_getElem? (i := 21) rfl)) (hw _ (List.mem_of_getElem? (i := 23) rfl)) (hw _ (List.mem_of_getElem? (i := 22) rfl)) (hw _ (List.mem_of_getElem? (i := 24) rfl)) (hw _ (List.mem_of_getElem? (i := 3) rfl)) A25_30 (own_rm3 l Z a0 hw b25 b_26 g0 (2 : Int32) (0 : Int32) (0 : Int32) ((p4.toInt64)) ([(0 : Int64), ((0 : Int64) + (p2.toInt64)), (0 : Int64), ((0 : Int64) + (p3.toInt64))]) h30 n0 Z30 FF26q0_30 FF26q1_30 E_g0_30 F_ordinal_g0_30 Vx30 g_b_26 (by decide) (Nat.le_of_ble_eq_true rfl) (show B53 (0 : Int64) from own_Kb own_K0 (by decide)) (own_Kb (own_Ki _) (by decide))) own_pd2 rfl (S := []) rfl (pc' := 73) rfl rfl (W := 0) (Nat.le_of_eq rfl) (by decide) (by decide) (by decide) (by decide) ?_
    intro T32 h32 v32_ X32 q32_
    obtain ⟨rfl, KK32, FF32q0⟩ := q32_
    show OwnGo p e below (T32.setTop (mkF m 73 #[.val (.int p0), .val (.int p1), .val (.int p2), .val (.int p3), .val (.int p4), .val (.int p5), .val (.int (2 : Int32)), .val (.int (1 : Int32)), .val (.int (0 : Int32)), .val (.ref b25), .unset, .unset, .unset, .unset, .unset, .unset, .unset, .unset, .unset, .unset] [])) RR
    have Z32 : n0 ≤ h32.size := Nat.le_trans Z30 KK32.1
    have S_COURSES_32 := own_sta_keep S_COURSES_30 KK32 (own_plS (own_plV Vx30) own_pl0)
    have V_d0_32 := (V_d0_30).keep KK32 (ninS ne_d0_b_26 nin0)
    have S_SPREAD_32 := own_sta_keep S_SPREAD_30 KK32 (own_plS (own_plV Vx30) own_pl0)
    have S_CLUSTERED_32 := own_sta_keep S_CLUSTERED_30 KK32 (own_plS (own_plV Vx30) own_pl0)
    have E_g0_32 := (E_g0_30).keep KK32
    have E_g1_32 := (E_g1_30).keep KK32
    have F_ordinal_g0_32 := (F_ordinal_g0_30).keep KK32 (ninS ne_g0_b_26 nin0)
    have F_ordinal_g1_32 := (F_ordinal_g1_30).keep KK32 (ninS ne_g1_b_26 nin0)
    have A25_32 := (A25_30).keep KK32
    have FF26q0_32 := (FF26q0_30).keep KK32 (ninS ne_b25_b_26 nin0)
    have FF26q1_32 := (FF26q1_30).keep KK32 (ninS ne_b25_b_26 nin0)
    have Vx32 : OwnAr Z h32 b_26 .double ([((0 : Int64) + (p4.toInt64)), ((0 : Int64) + (p2.toInt64)), (0 : Int64), ((0 : Int64) + (p3.toInt64))].map ownDv) := FF32q0
    refine own_aload X32 at_73 (pc' := 75) rfl rfl rfl ?_
    refine own_getS X32 at_75 (hw _ (List.mem_of_getElem? (i := 34) rfl)) Via.refl S_CLUSTERED_32 (pc' := 78) rfl ?_
    intro T33 X33
    refine own_iload X33 at_78 (pc' := 80) rfl rfl ?_
    refine own_iload X33 at_80 (pc' := 82) rfl rfl ?_
    refine own_i2d X33 at_82 (pc' := 83) rfl ?_
    refine own_callV (a := b25) (argsL := [(.ref g1), (.int (0 : Int32)), (.double (FP.l2d (p5.toInt64)))]) X33 at_83 (y := (⟨"com/example/evenkeel/evenkeel/skew/CourseSums", "add", "(Lcom/example/evenkeel/evenkeel/skew/GroupGrowth$Course;ID)V"⟩ : MethodName)) (by decide) (hw _ (List.mem_of_getElem? (i := 20) rfl)) (hw _ (List.mem_of_getElem? (i := 21) rfl)) (hw _ (List.mem_of_getElem? (i := 23) rfl)) (hw _ (List.mem_of_getElem? (i := 22) rfl)) (hw _ (List.mem_of_getElem? (i := 24) rfl)) (hw _ (List.mem_of_getElem? (i := 3) rfl)) A25_32 (own_rm3 l Z a0 hw b25 b_26 g1 (2 : Int32) (1 : Int32) (0 : Int32) ((p5.toInt64)) ([((0 : Int64) + (p4.toInt64)), ((0 : Int64) + (p2.toInt64)), (0 : Int64), ((0 : Int64) + (p3.toInt64))]) h32 n0 Z32 FF26q0_32 FF26q1_32 E_g1_32 F_ordinal_g1_32 Vx32 g_b_26 (by decide) (Nat.le_of_ble_eq_true rfl) (show B53 (0 : Int64) from own_Kb own_K0 (by decide)) (own_Kb (own_Ki _) (by decide))) own_pd2 rfl (S := []) rfl (pc' := 86) rfl rfl (W := 0) (Nat.le_of_eq rfl) (by decide) (by decide) (by decide) (by decide) ?_
    intro T34 h34 v34_ X34 q34_
    obtain ⟨rfl, KK34, FF34q0⟩ := q34_
    show OwnGo p e below (T34.setTop (mkF m 86 #[.val (.int p0), .val (.int p1), .val (.int p2), .val (.int p3), .val (.int p4), .val (.int p5), .val (.int (2 : Int32)), .val (.int (1 : Int32)), .val (.int (0 : Int32)), .val (.ref b25), .unset, .unset, .unset, .unset, .unset, .unset, .unset, .unset, .unset, .unset] [])) RR
    have Z34 : n0 ≤ h34.size := Nat.le_trans Z32 KK34.1
    have S_COURSES_34 := own_sta_keep S_COURSES_32 KK34 (own_plS (own_plV Vx32) own_pl0)
    have V_d0_34 := (V_d0_32).keep KK34 (ninS ne_d0_b_26 nin0)
    have S_SPREAD_34 := own_sta_keep S_SPREAD_32 KK34 (own_plS (own_plV Vx32) own_pl0)
    have S_CLUSTERED_34 := own_sta_keep S_CLUSTERED_32 KK34 (own_plS (own_plV Vx32) own_pl0)
    have E_g0_34 := (E_g0_32).keep KK34
    have E_g1_34 := (E_g1_32).keep KK34
    have F_ordinal_g0_34 := (F_ordinal_g0_32).keep KK34 (ninS ne_g0_b_26 nin0)
    have F_ordinal_g1_34 := (F_ordinal_g1_32).keep KK34 (ninS ne_g1_b_26 nin0)
    have A25_34 := (A25_32).keep KK34
    have FF26q0_34 := (FF26q0_32).keep KK34 (ninS ne_b25_b_26 nin0)
    have FF26q1_34 := (FF26q1_32).keep KK34 (ninS ne_b25_b_26 nin0)
    have Vx34 : OwnAr Z h34 b_26 .double ([((0 : Int64) + (p4.toInt64)), ((0 : Int64) + (p2.toInt64)), ((0 : Int64) + (p5.toInt64)), ((0 : Int64) + (p3.toInt64))].map ownDv) := FF34q0
    refine own_iload X34 at_86 (pc' := 88) rfl rfl ?_
    refine own_i2l X34 at_88 (pc' := 89) rfl ?_
    refine own_iload X34 at_89 (pc' := 91) rfl rfl ?_
    refine own_i2l X34 at_91 (pc' := 92) rfl ?_
    refine own_ladd X34 at_92 (pc' := 93) rfl ?_
    refine own_lstoreV X34 at_93 (pc' := 95) rfl (l' := fun v93 => #[.val (.int p0), .val (.int p1), .val (.int p2), .val (.int p3), .val (.int p4), .val (.int p5), .val (.int (2 : Int32)), .val (.int (1 : Int32)), .val (.int (0 : Int32)), .val (.ref b25), .val (.long v93), .second, .unset, .unset, .unset, .unset, .unset, .unset, .unset, .unset]) (fun _ => rfl) ?_
    intro v93 hv93
    refine own_iloadN X34 at_95 (pc' := 96) rfl rfl ?_
    refine own_i2l X34 at_96 (pc' := 97) rfl ?_
    refine own_iloadN X34 at_97 (pc' := 98) rfl rfl ?_
    refine own_i2l X34 at_98 (pc' := 99) rfl ?_
    refine own_ladd X34 at_99 (pc' := 100) rfl ?_
    refine own_iload X34 at_100 (pc' := 102) rfl rfl ?_
    refine own_iload X34 at_102 (pc' := 104) rfl rfl ?_
    refine own_icY X34 at_104 (feq ((by decide : ¬ ((0 : Int32) = (1 : Int32))))).2 (pc' := 112) (by decide) (by decide) ?_
    refine own_lconst X34 at_112 (pc' := 113) rfl (v := (0 : Int64)) (by decide) ?_
    refine own_ladd X34 at_113 (pc' := 114) rfl ?_
    refine own_lstoreV X34 at_114 (pc' := 116) rfl (l' := fun v114 => #[.val (.int p0), .val (.int p1), .val (.int p2), .val (.int p3), .val (.int p4), .val (.int p5), .val (.int (2 : Int32)), .val (.int (1 : Int32)), .val (.int (0 : Int32)), .val (.ref b25), .val (.long v93), .second, .val (.long v114), .second, .unset, .unset, .unset, .unset, .unset, .unset]) (fun _ => rfl) ?_
    intro v114 hv114
    refine own_iload X34 at_116 (pc' := 118) rfl rfl ?_
    refine own_iload X34 at_118 (pc' := 120) rfl rfl ?_
    refine own_icY X34 at_120 (feq ((by decide : ¬ ((0 : Int32) = (1 : Int32))))).2 (pc' := 128) (by decide) (by decide) ?_
    refine own_lload X34 at_128 (pc' := 130) rfl rfl ?_
    refine own_lstore X34 at_130 (pc' := 132) rfl (l' := #[.val (.int p0), .val (.int p1), .val (.int p2), .val (.int p3), .val (.int p4), .val (.int p5), .val (.int (2 : Int32)), .val (.int (1 : Int32)), .val (.int (0 : Int32)), .val (.ref b25), .val (.long v93), .second, .val (.long v114), .second, .val (.long v93), .second, .unset, .unset, .unset, .unset]) rfl ?_
    refine own_aload X34 at_132 (pc' := 134) rfl rfl rfl ?_
    refine own_iload X34 at_134 (pc' := 136) rfl rfl ?_
    refine own_callV (a := b25) (argsL := [(.int (1 : Int32))]) X34 at_136 (y := (⟨"com/example/evenkeel/evenkeel/skew/CourseSums", "sum", "(I)D"⟩ : MethodName)) (by decide) (hw _ (List.mem_of_getElem? (i := 36) rfl)) (hw _ (List.mem_of_getElem? (i := 37) rfl)) (hw _ (List.mem_of_getElem? (i := 39) rfl)) (hw _ (List.mem_of_getElem? (i := 38) rfl)) (hw _ (List.mem_of_getElem? (i := 40) rfl)) (hw _ (List.mem_of_getElem? (i := 3) rfl)) A25_34 (own_rm5 l Z a0 hw b25 b_26 (2 : Int32) (1 : Int32) ([((0 : Int64) + (p4.toInt64)), ((0 : Int64) + (p2.toInt64)), ((0 : Int64) + (p5.toInt64)), ((0 : Int64) + (p3.toInt64))]) h34 n0 Z34 FF26q0_34 FF26q1_34 Vx34 (show (1 : Int32) < (4 : Int32) from by decide) (show (3 : Int32) < (4 : Int32) from by decide) (show ¬ ((5 : Int32) < (4 : Int32)) from by decide) (by decide) (Nat.le_of_ble_eq_true rfl) (by decide) (Nat.le_of_ble_eq_true rfl) (show B53 ((0 : Int64) + (p2.toInt64)) from own_Kb (own_Ka own_K0 (own_Ki _) (by decide)) (by decide)) (show B53 ((0 : Int64) + ((0 : Int64) + (p2.toInt64))) from own_Kb (own_Ka own_K0 (own_Ka own_K0 (own_Ki _) (by decide)) (by decide)) (by decide)) (show B53 ((0 : Int64) + (p3.toInt64)) from own_Kb (own_Ka own_K0 (own_Ki _) (by decide)) (by decide))) own_pd3 rfl (S := []) rfl (pc' := 139) rfl rfl (W := 0) (Nat.le_of_eq rfl) (by decide) (by decide) (by decide) (by decide) ?_
    intro T35 h35 v35_ X35 q35_
    obtain ⟨rfl, rfl⟩ := q35_
    obtain ⟨r35, hr35⟩ : ∃ z, z = (((0 : Int64) + ([((0 : Int64) + (p4.toInt64)), ((0 : Int64) + (p2.toInt64)), ((0 : Int64) + (p5.toInt64)), ((0 : Int64) + (p3.toInt64))].getD ((1 : Int32)).toNatClampNeg 0)) + ([((0 : Int64) + (p4.toInt64)), ((0 : Int64) + (p2.toInt64)), ((0 : Int64) + (p5.toInt64)), ((0 : Int64) + (p3.toInt64))].getD (((1 : Int32) + (2 : Int32))).toNatClampNeg 0)) := ⟨_, rfl⟩
    show OwnGo p e below (T35.setTop (mkF m 139 #[.val (.int p0), .val (.int p1), .val (.int p2), .val (.int p3), .val (.int p4), .val (.int p5), .val (.int (2 : Int32)), .val (.int (1 : Int32)), .val (.int (0 : Int32)), .val (.ref b25), .val (.long v93), .second, .val (.long v114), .second, .val (.long v93), .second, .unset, .unset, .unset, .unset] [(.double (FP.l2d (((0 : Int64) + ([((0 : Int64) + (p4.toInt64)), ((0 : Int64) + (p2.toInt64)), ((0 : Int64) + (p5.toInt64)), ((0 : Int64) + (p3.toInt64))].getD ((1 : Int32)).toNatClampNeg 0)) + ([((0 : Int64) + (p4.toInt64)), ((0 : Int64) + (p2.toInt64)), ((0 : Int64) + (p5.toInt64)), ((0 : Int64) + (p3.toInt64))].getD (((1 : Int32) + (2 : Int32))).toNatClampNeg 0))))])) RR
    rw [← hr35]
    replace hr35 : r35 = (((0 : Int64) + ((0 : Int64) + (p2.toInt64))) + ((0 : Int64) + (p3.toInt64))) := hr35
    refine own_dstore X35 at_139 (pc' := 141) rfl (l' := #[.val (.int p0), .val (.int p1), .val (.int p2), .val (.int p3), .val (.int p4), .val (.int p5), .val (.int (2 : Int32)), .val (.int (1 : Int32)), .val (.int (0 : Int32)), .val (.ref b25), .val (.long v93), .second, .val (.long v114), .second, .val (.long v93), .second, .val (.double (FP.l2d r35)), .second, .unset, .unset]) rfl ?_
    refine own_aload X35 at_141 (pc' := 143) rfl rfl rfl ?_
    refine own_iload X35 at_143 (pc' := 145) rfl rfl ?_
    refine own_callV (a := b25) (argsL := [(.int (0 : Int32))]) X35 at_145 (y := (⟨"com/example/evenkeel/evenkeel/skew/CourseSums", "sum", "(I)D"⟩ : MethodName)) (by decide) (hw _ (List.mem_of_getElem? (i := 36) rfl)) (hw _ (List.mem_of_getElem? (i := 37) rfl)) (hw _ (List.mem_of_getElem? (i := 39) rfl)) (hw _ (List.mem_of_getElem? (i := 38) rfl)) (hw _ (List.mem_of_getElem? (i := 40) rfl)) (hw _ (List.mem_of_getElem? (i := 3) rfl)) A25_34 (own_rm5 l Z a0 hw b25 b_26 (2 : Int32) (0 : Int32) ([((0 : Int64) + (p4.toInt64)), ((0 : Int64) + (p2.toInt64)), ((0 : Int64) + (p5.toInt64)), ((0 : Int64) + (p3.toInt64))]) h34 n0 Z34 FF26q0_34 FF26q1_34 Vx34 (show (0 : Int32) < (4 : Int32) from by decide) (show (2 : Int32) < (4 : Int32) from by decide) (show ¬ ((4 : Int32) < (4 : Int32)) from by decide) (by decide) (Nat.le_of_ble_eq_true rfl) (by decide) (Nat.le_of_ble_eq_true rfl) (show B53 ((0 : Int64) + (p4.toInt64)) from own_Kb (own_Ka own_K0 (own_Ki _) (by decide)) (by decide)) (show B53 ((0 : Int64) + ((0 : Int64) + (p4.toInt64))) from own_Kb (own_Ka own_K0 (own_Ka own_K0 (own_Ki _) (by decide)) (by decide)) (by decide)) (show B53 ((0 : Int64) + (p5.toInt64)) from own_Kb (own_Ka own_K0 (own_Ki _) (by decide)) (by decide))) own_pd3 rfl (S := []) rfl (pc' := 148) rfl rfl (W := 0) (Nat.le_of_eq rfl) (by decide) (by decide) (by decide) (by decide) ?_
    intro T36 h36 v36_ X36 q36_
    obtain ⟨rfl, rfl⟩ := q36_
    obtain ⟨r36, hr36⟩ : ∃ z, z = (((0 : Int64) + ([((0 : Int64) + (p4.toInt64)), ((0 : Int64) + (p2.toInt64)), ((0 : Int64) + (p5.toInt64)), ((0 : Int64) + (p3.toInt64))].getD ((0 : Int32)).toNatClampNeg 0)) + ([((0 : Int64) + (p4.toInt64)), ((0 : Int64) + (p2.toInt64)), ((0 : Int64) + (p5.toInt64)), ((0 : Int64) + (p3.toInt64))].getD (((0 : Int32) + (2 : Int32))).toNatClampNeg 0)) := ⟨_, rfl⟩
    show OwnGo p e below (T36.setTop (mkF m 148 #[.val (.int p0), .val (.int p1), .val (.int p2), .val (.int p3), .val (.int p4), .val (.int p5), .val (.int (2 : Int32)), .val (.int (1 : Int32)), .val (.int (0 : Int32)), .val (.ref b25), .val (.long v93), .second, .val (.long v114), .second, .val (.long v93), .second, .val (.double (FP.l2d r35)), .second, .unset, .unset] [(.double (FP.l2d (((0 : Int64) + ([((0 : Int64) + (p4.toInt64)), ((0 : Int64) + (p2.toInt64)), ((0 : Int64) + (p5.toInt64)), ((0 : Int64) + (p3.toInt64))].getD ((0 : Int32)).toNatClampNeg 0)) + ([((0 : Int64) + (p4.toInt64)), ((0 : Int64) + (p2.toInt64)), ((0 : Int64) + (p5.toInt64)), ((0 : Int64) + (p3.toInt64))].getD (((0 : Int32) + (2 : Int32))).toNatClampNeg 0))))])) RR
    rw [← hr36]
    replace hr36 : r36 = (((0 : Int64) + ((0 : Int64) + (p4.toInt64))) + ((0 : Int64) + (p5.toInt64))) := hr36
    refine own_dstore X36 at_148 (pc' := 150) rfl (l' := #[.val (.int p0), .val (.int p1), .val (.int p2), .val (.int p3), .val (.int p4), .val (.int p5), .val (.int (2 : Int32)), .val (.int (1 : Int32)), .val (.int (0 : Int32)), .val (.ref b25), .val (.long v93), .second, .val (.long v114), .second, .val (.long v93), .second, .val (.double (FP.l2d r35)), .second, .val (.double (FP.l2d r36)), .second]) rfl ?_
    refine own_dload X36 at_150 (pc' := 152) rfl rfl ?_
    refine own_lload X36 at_152 (pc' := 154) rfl rfl ?_
    refine own_l2d X36 at_154 (pc' := 155) rfl ?_
    refine own_djN X36 at_155 at_156 (by rw [hr35]; exact own_Kb (own_Ka (own_Ka own_K0 (own_Ka own_K0 (own_Ki _) (by decide)) (by decide)) (own_Ka own_K0 (own_Ki _) (by decide)) (by decide)) (by decide)) (by rw [hv114]; exact own_Kb (own_Ka (own_Ka (own_Ki _) (own_Ki _) (by decide)) own_K0 (by decide)) (by decide)) (own_teqL ((by rw [hr35, hv114]; simp only [Int64.zero_add, Int64.add_zero, Int64.add_assoc, Int64.add_comm, own_alc] : r35 = v114))).2 (pc' := 159) rfl ?_
    refine own_dload X36 at_159 (pc' := 161) rfl rfl ?_
    refine own_lload X36 at_161 (pc' := 163) rfl rfl ?_
    refine own_l2d X36 at_163 (pc' := 164) rfl ?_
    refine own_djN X36 at_164 at_165 (by rw [hr36]; exact own_Kb (own_Ka (own_Ka own_K0 (own_Ka own_K0 (own_Ki _) (by decide)) (by decide)) (own_Ka own_K0 (own_Ki _) (by decide)) (by decide)) (by decide)) (by rw [hv93]; exact own_Kb (own_Ka (own_Ki _) (own_Ki _) (by decide)) (by decide)) (own_teqL ((by rw [hr36, hv93]; simp only [Int64.zero_add, Int64.add_zero, Int64.add_assoc, Int64.add_comm, own_alc] : r36 = v93))).2 (pc' := 168) rfl ?_
    refine own_iconst X36 at_168 (pc' := 169) rfl (v := (1 : Int32)) (by decide) ?_
    refine own_goto X36 at_169 (pc' := 173) (by decide) (by decide) ?_
    exact own_retZ X36 at_173 (by decide) rfl (by decide) (by decide)
  · obtain rfl : v23 = (1 : Int32) := by rw [hv23]; decide
    refine own_new X0 at_25 (hw _ (List.mem_of_getElem? (i := 1) rfl)) (hw _ (List.mem_of_getElem? (i := 2) rfl)) (hw _ (List.mem_of_getElem? (i := 3) rfl)) (pc' := 28) rfl (by decide) (by decide) ?_
    intro T37 h37 b37 hb37 X37 E37 A37 D37
    have g_b37 : n0 ≤ b37 := Nat.le_trans Z0 (Nat.le_of_eq hb37.symm)
    have ne_d0_b37 : d0 ≠ b37 := Nat.ne_of_lt (Nat.lt_of_lt_of_le (V_d0).lt (Nat.le_of_eq hb37.symm))
    have ne_g0_b37 : g0 ≠ b37 := Nat.ne_of_lt (Nat.lt_of_lt_of_le (E_g0).lt (Nat.le_of_eq hb37.symm))
    have ne_g1_b37 : g1 ≠ b37 := Nat.ne_of_lt (Nat.lt_of_lt_of_le (E_g1).lt (Nat.le_of_eq hb37.symm))
    have S_COURSES_37 := (S_COURSES).ext E37
    have V_d0_37 := (V_d0).ext E37
    have S_SPREAD_37 := (S_SPREAD).ext E37
    have S_CLUSTERED_37 := (S_CLUSTERED).ext E37
    have E_g0_37 := (E_g0).ext E37
    have E_g1_37 := (E_g1).ext E37
    have F_ordinal_g0_37 := (F_ordinal_g0).ext E37
    have F_ordinal_g1_37 := (F_ordinal_g1).ext E37
    have Z37 : n0 ≤ h37.size := Nat.le_trans Z0 E37.1
    have F_slots_b37 : Fld Z h37 b37 "com/example/evenkeel/evenkeel/skew/CourseSums" "slots" "I" (.int (0 : Int32)) := D37 (Or.inr (hw _ (List.mem_of_getElem? (i := 11) rfl))) (ty := .int) (by decide)
    have F_sums_b37 : Fld Z h37 b37 "com/example/evenkeel/evenkeel/skew/CourseSums" "sums" "[D" .null := D37 (Or.inr (hw _ (List.mem_of_getElem? (i := 16) rfl))) (ty := (.array .double)) (by decide)
    refine own_dup X37 at_28 (pc' := 29) rfl rfl ?_
    refine own_iload X37 at_29 (pc' := 31) rfl rfl ?_
    refine own_callC (a := b37) (argsL := [(.int (3 : Int32))]) X37 at_31 (y := (⟨"com/example/evenkeel/evenkeel/skew/CourseSums", "<init>", "(I)V"⟩ : MethodName)) (by decide) (hw _ (List.mem_of_getElem? (i := 4) rfl)) (hw _ (List.mem_of_getElem? (i := 5) rfl)) (hw _ (List.mem_of_getElem? (i := 6) rfl)) (hw _ (List.mem_of_getElem? (i := 3) rfl)) (own_rm1_3 l Z a0 hw b37 d0 vs (0 : Int32) h37 n0 Z37 A37 F_slots_b37 F_sums_b37 S_COURSES_37 V_d0_37 g_b37 ne_d0_b37 hvs) own_pd1 rfl (S := [(.ref b37)]) rfl (pc' := 34) rfl rfl (W := 1) (Nat.le_of_eq rfl) (by decide) (by decide) (by decide) (by decide) ?_
    intro T38 h38 v38_ X38 q38_
    obtain ⟨b_38, rfl, KK38, FF38q0, FF38q1, FF38q2, FF38q3⟩ := q38_
    show OwnGo p e below (T38.setTop (mkF m 34 #[.val (.int p0), .val (.int p1), .val (.int p2), .val (.int p3), .val (.int p4), .val (.int p5), .val (.int (3 : Int32)), .val (.int (0 : Int32)), .val (.int (1 : Int32)), .unset, .unset, .unset, .unset, .unset, .unset, .unset, .unset, .unset, .unset, .unset] [(.ref b37)])) RR
    have Z38 : n0 ≤ h38.size := Nat.le_trans Z37 KK38.1
    have S_COURSES_38 := own_sta_keep S_COURSES_37 KK38 (own_plS (own_plE A37) own_pl0)
    have V_d0_38 := (V_d0_37).keep KK38 (ninS ne_d0_b37 nin0)
    have S_SPREAD_38 := own_sta_keep S_SPREAD_37 KK38 (own_plS (own_plE A37) own_pl0)
    have S_CLUSTERED_38 := own_sta_keep S_CLUSTERED_37 KK38 (own_plS (own_plE A37) own_pl0)
    have E_g0_38 := (E_g0_37).keep KK38
    have E_g1_38 := (E_g1_37).keep KK38
    have F_ordinal_g0_38 := (F_ordinal_g0_37).keep KK38 (ninS ne_g0_b37 nin0)
    have F_ordinal_g1_38 := (F_ordinal_g1_37).keep KK38 (ninS ne_g1_b37 nin0)
    have A37_38 := (A37).keep KK38
    have ne_d0_b_38 : d0 ≠ b_38 := Nat.ne_of_lt (Nat.lt_of_lt_of_le (V_d0_37).lt FF38q2)
    have ne_g0_b_38 : g0 ≠ b_38 := Nat.ne_of_lt (Nat.lt_of_lt_of_le (E_g0_37).lt FF38q2)
    have ne_g1_b_38 : g1 ≠ b_38 := Nat.ne_of_lt (Nat.lt_of_lt_of_le (E_g1_37).lt FF38q2)
    have ne_b37_b_38 : b37 ≠ b_38 := Nat.ne_of_lt (Nat.lt_of_lt_of_le (A37).lt FF38q2)
    have g_b_38 : n0 ≤ b_38 := Nat.le_trans Z37 FF38q2
    refine own_astore X38 at_34 (pc' := 36) rfl rfl (l' := #[.val (.int p0), .val (.int p1), .val (.int p2), .val (.int p3), .val (.int p4), .val (.int p5), .val (.int (3 : Int32)), .val (.int (0 : Int32)), .val (.int (1 : Int32)), .val (.ref b37), .unset, .unset, .unset, .unset, .unset, .unset, .unset, .unset, .unset, .unset]) rfl ?_
    refine own_aload X38 at_36 (pc' := 38) rfl rfl rfl ?_
    refine own_getS X38 at_38 (hw _ (List.mem_of_getElem? (i := 17) rfl)) Via.refl S_SPREAD_38 (pc' := 41) rfl ?_
    intro T39 X39
    refine own_iload X39 at_41 (pc' := 43) rfl rfl ?_
    refine own_iloadN X39 at_43 (pc' := 44) rfl rfl ?_
    refine own_i2d X39 at_44 (pc' := 45) rfl ?_
    refine own_callV (a := b37) (argsL := [(.ref g0), (.int (0 : Int32)), (.double (FP.l2d (p2.toInt64)))]) X39 at_45 (y := (⟨"com/example/evenkeel/evenkeel/skew/CourseSums", "add", "(Lcom/example/evenkeel/evenkeel/skew/GroupGrowth$Course;ID)V"⟩ : MethodName)) (by decide) (hw _ (List.mem_of_getElem? (i := 20) rfl)) (hw _ (List.mem_of_getElem? (i := 21) rfl)) (hw _ (List.mem_of_getElem? (i := 23) rfl)) (hw _ (List.mem_of_getElem? (i := 22) rfl)) (hw _ (List.mem_of_getElem? (i := 24) rfl)) (hw _ (List.mem_of_getElem? (i := 3) rfl)) A37_38 (own_rm3 l Z a0 hw b37 b_38 g0 (3 : Int32) (0 : Int32) (0 : Int32) ((p2.toInt64)) ([(0 : Int64), (0 : Int64), (0 : Int64), (0 : Int64), (0 : Int64), (0 : Int64)]) h38 n0 Z38 FF38q0 FF38q1 E_g0_38 F_ordinal_g0_38 FF38q3 g_b_38 (by decide) (Nat.le_of_ble_eq_true rfl) (show B53 (0 : Int64) from own_Kb own_K0 (by decide)) (own_Kb (own_Ki _) (by decide))) own_pd2 rfl (S := []) rfl (pc' := 48) rfl rfl (W := 0) (Nat.le_of_eq rfl) (by decide) (by decide) (by decide) (by decide) ?_
    intro T40 h40 v40_ X40 q40_
    obtain ⟨rfl, KK40, FF40q0⟩ := q40_
    show OwnGo p e below (T40.setTop (mkF m 48 #[.val (.int p0), .val (.int p1), .val (.int p2), .val (.int p3), .val (.int p4), .val (.int p5), .val (.int (3 : Int32)), .val (.int (0 : Int32)), .val (.int (1 : Int32)), .val (.ref b37), .unset, .unset, .unset, .unset, .unset, .unset, .unset, .unset, .unset, .unset] [])) RR
    have Z40 : n0 ≤ h40.size := Nat.le_trans Z38 KK40.1
    have S_COURSES_40 := own_sta_keep S_COURSES_38 KK40 (own_plS (own_plV FF38q3) own_pl0)
    have V_d0_40 := (V_d0_38).keep KK40 (ninS ne_d0_b_38 nin0)
    have S_SPREAD_40 := own_sta_keep S_SPREAD_38 KK40 (own_plS (own_plV FF38q3) own_pl0)
    have S_CLUSTERED_40 := own_sta_keep S_CLUSTERED_38 KK40 (own_plS (own_plV FF38q3) own_pl0)
    have E_g0_40 := (E_g0_38).keep KK40
    have E_g1_40 := (E_g1_38).keep KK40
    have F_ordinal_g0_40 := (F_ordinal_g0_38).keep KK40 (ninS ne_g0_b_38 nin0)
    have F_ordinal_g1_40 := (F_ordinal_g1_38).keep KK40 (ninS ne_g1_b_38 nin0)
    have A37_40 := (A37_38).keep KK40
    have FF38q0_40 := (FF38q0).keep KK40 (ninS ne_b37_b_38 nin0)
    have FF38q1_40 := (FF38q1).keep KK40 (ninS ne_b37_b_38 nin0)
    have Vx40 : OwnAr Z h40 b_38 .double ([((0 : Int64) + (p2.toInt64)), (0 : Int64), (0 : Int64), (0 : Int64), (0 : Int64), (0 : Int64)].map ownDv) := FF40q0
    refine own_aload X40 at_48 (pc' := 50) rfl rfl rfl ?_
    refine own_getS X40 at_50 (hw _ (List.mem_of_getElem? (i := 34) rfl)) Via.refl S_CLUSTERED_40 (pc' := 53) rfl ?_
    intro T41 X41
    refine own_iload X41 at_53 (pc' := 55) rfl rfl ?_
    refine own_iloadN X41 at_55 (pc' := 56) rfl rfl ?_
    refine own_i2d X41 at_56 (pc' := 57) rfl ?_
    refine own_callV (a := b37) (argsL := [(.ref g1), (.int (0 : Int32)), (.double (FP.l2d (p3.toInt64)))]) X41 at_57 (y := (⟨"com/example/evenkeel/evenkeel/skew/CourseSums", "add", "(Lcom/example/evenkeel/evenkeel/skew/GroupGrowth$Course;ID)V"⟩ : MethodName)) (by decide) (hw _ (List.mem_of_getElem? (i := 20) rfl)) (hw _ (List.mem_of_getElem? (i := 21) rfl)) (hw _ (List.mem_of_getElem? (i := 23) rfl)) (hw _ (List.mem_of_getElem? (i := 22) rfl)) (hw _ (List.mem_of_getElem? (i := 24) rfl)) (hw _ (List.mem_of_getElem? (i := 3) rfl)) A37_40 (own_rm3 l Z a0 hw b37 b_38 g1 (3 : Int32) (1 : Int32) (0 : Int32) ((p3.toInt64)) ([((0 : Int64) + (p2.toInt64)), (0 : Int64), (0 : Int64), (0 : Int64), (0 : Int64), (0 : Int64)]) h40 n0 Z40 FF38q0_40 FF38q1_40 E_g1_40 F_ordinal_g1_40 Vx40 g_b_38 (by decide) (Nat.le_of_ble_eq_true rfl) (show B53 (0 : Int64) from own_Kb own_K0 (by decide)) (own_Kb (own_Ki _) (by decide))) own_pd2 rfl (S := []) rfl (pc' := 60) rfl rfl (W := 0) (Nat.le_of_eq rfl) (by decide) (by decide) (by decide) (by decide) ?_
    intro T42 h42 v42_ X42 q42_
    obtain ⟨rfl, KK42, FF42q0⟩ := q42_
    show OwnGo p e below (T42.setTop (mkF m 60 #[.val (.int p0), .val (.int p1), .val (.int p2), .val (.int p3), .val (.int p4), .val (.int p5), .val (.int (3 : Int32)), .val (.int (0 : Int32)), .val (.int (1 : Int32)), .val (.ref b37), .unset, .unset, .unset, .unset, .unset, .unset, .unset, .unset, .unset, .unset] [])) RR
    have Z42 : n0 ≤ h42.size := Nat.le_trans Z40 KK42.1
    have S_COURSES_42 := own_sta_keep S_COURSES_40 KK42 (own_plS (own_plV Vx40) own_pl0)
    have V_d0_42 := (V_d0_40).keep KK42 (ninS ne_d0_b_38 nin0)
    have S_SPREAD_42 := own_sta_keep S_SPREAD_40 KK42 (own_plS (own_plV Vx40) own_pl0)
    have S_CLUSTERED_42 := own_sta_keep S_CLUSTERED_40 KK42 (own_plS (own_plV Vx40) own_pl0)
    have E_g0_42 := (E_g0_40).keep KK42
    have E_g1_42 := (E_g1_40).keep KK42
    have F_ordinal_g0_42 := (F_ordinal_g0_40).keep KK42 (ninS ne_g0_b_38 nin0)
    have F_ordinal_g1_42 := (F_ordinal_g1_40).keep KK42 (ninS ne_g1_b_38 nin0)
    have A37_42 := (A37_40).keep KK42
    have FF38q0_42 := (FF38q0_40).keep KK42 (ninS ne_b37_b_38 nin0)
    have FF38q1_42 := (FF38q1_40).keep KK42 (ninS ne_b37_b_38 nin0)
    have Vx42 : OwnAr Z h42 b_38 .double ([((0 : Int64) + (p2.toInt64)), (0 : Int64), (0 : Int64), ((0 : Int64) + (p3.toInt64)), (0 : Int64), (0 : Int64)].map ownDv) := FF42q0
    refine own_aload X42 at_60 (pc' := 62) rfl rfl rfl ?_
    refine own_getS X42 at_62 (hw _ (List.mem_of_getElem? (i := 17) rfl)) Via.refl S_SPREAD_42 (pc' := 65) rfl ?_
    intro T43 X43
    refine own_iload X43 at_65 (pc' := 67) rfl rfl ?_
    refine own_iload X43 at_67 (pc' := 69) rfl rfl ?_
    refine own_i2d X43 at_69 (pc' := 70) rfl ?_
    refine own_callV (a := b37) (argsL := [(.ref g0), (.int (1 : Int32)), (.double (FP.l2d (p4.toInt64)))]) X43 at_70 (y := (⟨"com/example/evenkeel/evenkeel/skew/CourseSums", "add", "(Lcom/example/evenkeel/evenkeel/skew/GroupGrowth$Course;ID)V"⟩ : MethodName)) (by decide) (hw _ (List.mem_of_getElem? (i := 20) rfl)) (hw _ (List.mem_of_getElem? (i := 21) rfl)) (hw _ (List.mem_of_getElem? (i := 23) rfl)) (hw _ (List.mem_of_getElem? (i := 22) rfl)) (hw _ (List.mem_of_getElem? (i := 24) rfl)) (hw _ (List.mem_of_getElem? (i := 3) rfl)) A37_42 (own_rm3 l Z a0 hw b37 b_38 g0 (3 : Int32) (0 : Int32) (1 : Int32) ((p4.toInt64)) ([((0 : Int64) + (p2.toInt64)), (0 : Int64), (0 : Int64), ((0 : Int64) + (p3.toInt64)), (0 : Int64), (0 : Int64)]) h42 n0 Z42 FF38q0_42 FF38q1_42 E_g0_42 F_ordinal_g0_42 Vx42 g_b_38 (by decide) (Nat.le_of_ble_eq_true rfl) (show B53 (0 : Int64) from own_Kb own_K0 (by decide)) (own_Kb (own_Ki _) (by decide))) own_pd2 rfl (S := []) rfl (pc' := 73) rfl rfl (W := 0) (Nat.le_of_eq rfl) (by decide) (by decide) (by decide) (by decide) ?_
    intro T44 h44 v44_ X44 q44_
    obtain ⟨rfl, KK44, FF44q0⟩ := q44_
    show OwnGo p e below (T44.setTop (mkF m 73 #[.val (.int p0), .val (.int p1), .val (.int p2), .val (.int p3), .val (.int p4), .val (.int p5), .val (.int (3 : Int32)), .val (.int (0 : Int32)), .val (.int (1 : Int32)), .val (.ref b37), .unset, .unset, .unset, .unset, .unset, .unset, .unset, .unset, .unset, .unset] [])) RR
    have Z44 : n0 ≤ h44.size := Nat.le_trans Z42 KK44.1
    have S_COURSES_44 := own_sta_keep S_COURSES_42 KK44 (own_plS (own_plV Vx42) own_pl0)
    have V_d0_44 := (V_d0_42).keep KK44 (ninS ne_d0_b_38 nin0)
    have S_SPREAD_44 := own_sta_keep S_SPREAD_42 KK44 (own_plS (own_plV Vx42) own_pl0)
    have S_CLUSTERED_44 := own_sta_keep S_CLUSTERED_42 KK44 (own_plS (own_plV Vx42) own_pl0)
    have E_g0_44 := (E_g0_42).keep KK44
    have E_g1_44 := (E_g1_42).keep KK44
    have F_ordinal_g0_44 := (F_ordinal_g0_42).keep KK44 (ninS ne_g0_b_38 nin0)
    have F_ordinal_g1_44 := (F_ordinal_g1_42).keep KK44 (ninS ne_g1_b_38 nin0)
    have A37_44 := (A37_42).keep KK44
    have FF38q0_44 := (FF38q0_42).keep KK44 (ninS ne_b37_b_38 nin0)
    have FF38q1_44 := (FF38q1_42).keep KK44 (ninS ne_b37_b_38 nin0)
    have Vx44 : OwnAr Z h44 b_38 .double ([((0 : Int64) + (p2.toInt64)), ((0 : Int64) + (p4.toInt64)), (0 : Int64), ((0 : Int64) + (p3.toInt64)), (0 : Int64), (0 : Int64)].map ownDv) := FF44q0
    refine own_aload X44 at_73 (pc' := 75) rfl rfl rfl ?_
    refine own_getS X44 at_75 (hw _ (List.mem_of_getElem? (i := 34) rfl)) Via.refl S_CLUSTERED_44 (pc' := 78) rfl ?_
    intro T45 X45
    refine own_iload X45 at_78 (pc' := 80) rfl rfl ?_
    refine own_iload X45 at_80 (pc' := 82) rfl rfl ?_
    refine own_i2d X45 at_82 (pc' := 83) rfl ?_
    refine own_callV (a := b37) (argsL := [(.ref g1), (.int (1 : Int32)), (.double (FP.l2d (p5.toInt64)))]) X45 at_83 (y := (⟨"com/example/evenkeel/evenkeel/skew/CourseSums", "add", "(Lcom/example/evenkeel/evenkeel/skew/GroupGrowth$Course;ID)V"⟩ : MethodName)) (by decide) (hw _ (List.mem_of_getElem? (i := 20) rfl)) (hw _ (List.mem_of_getElem? (i := 21) rfl)) (hw _ (List.mem_of_getElem? (i := 23) rfl)) (hw _ (List.mem_of_getElem? (i := 22) rfl)) (hw _ (List.mem_of_getElem? (i := 24) rfl)) (hw _ (List.mem_of_getElem? (i := 3) rfl)) A37_44 (own_rm3 l Z a0 hw b37 b_38 g1 (3 : Int32) (1 : Int32) (1 : Int32) ((p5.toInt64)) ([((0 : Int64) + (p2.toInt64)), ((0 : Int64) + (p4.toInt64)), (0 : Int64), ((0 : Int64) + (p3.toInt64)), (0 : Int64), (0 : Int64)]) h44 n0 Z44 FF38q0_44 FF38q1_44 E_g1_44 F_ordinal_g1_44 Vx44 g_b_38 (by decide) (Nat.le_of_ble_eq_true rfl) (show B53 (0 : Int64) from own_Kb own_K0 (by decide)) (own_Kb (own_Ki _) (by decide))) own_pd2 rfl (S := []) rfl (pc' := 86) rfl rfl (W := 0) (Nat.le_of_eq rfl) (by decide) (by decide) (by decide) (by decide) ?_
    intro T46 h46 v46_ X46 q46_
    obtain ⟨rfl, KK46, FF46q0⟩ := q46_
    show OwnGo p e below (T46.setTop (mkF m 86 #[.val (.int p0), .val (.int p1), .val (.int p2), .val (.int p3), .val (.int p4), .val (.int p5), .val (.int (3 : Int32)), .val (.int (0 : Int32)), .val (.int (1 : Int32)), .val (.ref b37), .unset, .unset, .unset, .unset, .unset, .unset, .unset, .unset, .unset, .unset] [])) RR
    have Z46 : n0 ≤ h46.size := Nat.le_trans Z44 KK46.1
    have S_COURSES_46 := own_sta_keep S_COURSES_44 KK46 (own_plS (own_plV Vx44) own_pl0)
    have V_d0_46 := (V_d0_44).keep KK46 (ninS ne_d0_b_38 nin0)
    have S_SPREAD_46 := own_sta_keep S_SPREAD_44 KK46 (own_plS (own_plV Vx44) own_pl0)
    have S_CLUSTERED_46 := own_sta_keep S_CLUSTERED_44 KK46 (own_plS (own_plV Vx44) own_pl0)
    have E_g0_46 := (E_g0_44).keep KK46
    have E_g1_46 := (E_g1_44).keep KK46
    have F_ordinal_g0_46 := (F_ordinal_g0_44).keep KK46 (ninS ne_g0_b_38 nin0)
    have F_ordinal_g1_46 := (F_ordinal_g1_44).keep KK46 (ninS ne_g1_b_38 nin0)
    have A37_46 := (A37_44).keep KK46
    have FF38q0_46 := (FF38q0_44).keep KK46 (ninS ne_b37_b_38 nin0)
    have FF38q1_46 := (FF38q1_44).keep KK46 (ninS ne_b37_b_38 nin0)
    have Vx46 : OwnAr Z h46 b_38 .double ([((0 : Int64) + (p2.toInt64)), ((0 : Int64) + (p4.toInt64)), (0 : Int64), ((0 : Int64) + (p3.toInt64)), ((0 : Int64) + (p5.toInt64)), (0 : Int64)].map ownDv) := FF46q0
    refine own_iload X46 at_86 (pc' := 88) rfl rfl ?_
    refine own_i2l X46 at_88 (pc' := 89) rfl ?_
    refine own_iload X46 at_89 (pc' := 91) rfl rfl ?_
    refine own_i2l X46 at_91 (pc' := 92) rfl ?_
    refine own_ladd X46 at_92 (pc' := 93) rfl ?_
    refine own_lstoreV X46 at_93 (pc' := 95) rfl (l' := fun v93 => #[.val (.int p0), .val (.int p1), .val (.int p2), .val (.int p3), .val (.int p4), .val (.int p5), .val (.int (3 : Int32)), .val (.int (0 : Int32)), .val (.int (1 : Int32)), .val (.ref b37), .val (.long v93), .second, .unset, .unset, .unset, .unset, .unset, .unset, .unset, .unset]) (fun _ => rfl) ?_
    intro v93 hv93
    refine own_iloadN X46 at_95 (pc' := 96) rfl rfl ?_
    refine own_i2l X46 at_96 (pc' := 97) rfl ?_
    refine own_iloadN X46 at_97 (pc' := 98) rfl rfl ?_
    refine own_i2l X46 at_98 (pc' := 99) rfl ?_
    refine own_ladd X46 at_99 (pc' := 100) rfl ?_
    refine own_iload X46 at_100 (pc' := 102) rfl rfl ?_
    refine own_iload X46 at_102 (pc' := 104) rfl rfl ?_
    refine own_icY X46 at_104 (feq ((by decide : ¬ ((1 : Int32) = (0 : Int32))))).2 (pc' := 112) (by decide) (by decide) ?_
    refine own_lconst X46 at_112 (pc' := 113) rfl (v := (0 : Int64)) (by decide) ?_
    refine own_ladd X46 at_113 (pc' := 114) rfl ?_
    refine own_lstoreV X46 at_114 (pc' := 116) rfl (l' := fun v114 => #[.val (.int p0), .val (.int p1), .val (.int p2), .val (.int p3), .val (.int p4), .val (.int p5), .val (.int (3 : Int32)), .val (.int (0 : Int32)), .val (.int (1 : Int32)), .val (.ref b37), .val (.long v93), .second, .val (.long v114), .second, .unset, .unset, .unset, .unset, .unset, .unset]) (fun _ => rfl) ?_
    intro v114 hv114
    refine own_iload X46 at_116 (pc' := 118) rfl rfl ?_
    refine own_iload X46 at_118 (pc' := 120) rfl rfl ?_
    refine own_icY X46 at_120 (feq ((by decide : ¬ ((1 : Int32) = (0 : Int32))))).2 (pc' := 128) (by decide) (by decide) ?_
    refine own_lload X46 at_128 (pc' := 130) rfl rfl ?_
    refine own_lstore X46 at_130 (pc' := 132) rfl (l' := #[.val (.int p0), .val (.int p1), .val (.int p2), .val (.int p3), .val (.int p4), .val (.int p5), .val (.int (3 : Int32)), .val (.int (0 : Int32)), .val (.int (1 : Int32)), .val (.ref b37), .val (.long v93), .second, .val (.long v114), .second, .val (.long v93), .second, .unset, .unset, .unset, .unset]) rfl ?_
    refine own_aload X46 at_132 (pc' := 134) rfl rfl rfl ?_
    refine own_iload X46 at_134 (pc' := 136) rfl rfl ?_
    refine own_callV (a := b37) (argsL := [(.int (0 : Int32))]) X46 at_136 (y := (⟨"com/example/evenkeel/evenkeel/skew/CourseSums", "sum", "(I)D"⟩ : MethodName)) (by decide) (hw _ (List.mem_of_getElem? (i := 36) rfl)) (hw _ (List.mem_of_getElem? (i := 37) rfl)) (hw _ (List.mem_of_getElem? (i := 39) rfl)) (hw _ (List.mem_of_getElem? (i := 38) rfl)) (hw _ (List.mem_of_getElem? (i := 40) rfl)) (hw _ (List.mem_of_getElem? (i := 3) rfl)) A37_46 (own_rm5 l Z a0 hw b37 b_38 (3 : Int32) (0 : Int32) ([((0 : Int64) + (p2.toInt64)), ((0 : Int64) + (p4.toInt64)), (0 : Int64), ((0 : Int64) + (p3.toInt64)), ((0 : Int64) + (p5.toInt64)), (0 : Int64)]) h46 n0 Z46 FF38q0_46 FF38q1_46 Vx46 (show (0 : Int32) < (6 : Int32) from by decide) (show (3 : Int32) < (6 : Int32) from by decide) (show ¬ ((6 : Int32) < (6 : Int32)) from by decide) (by decide) (Nat.le_of_ble_eq_true rfl) (by decide) (Nat.le_of_ble_eq_true rfl) (show B53 ((0 : Int64) + (p2.toInt64)) from own_Kb (own_Ka own_K0 (own_Ki _) (by decide)) (by decide)) (show B53 ((0 : Int64) + ((0 : Int64) + (p2.toInt64))) from own_Kb (own_Ka own_K0 (own_Ka own_K0 (own_Ki _) (by decide)) (by decide)) (by decide)) (show B53 ((0 : Int64) + (p3.toInt64)) from own_Kb (own_Ka own_K0 (own_Ki _) (by decide)) (by decide))) own_pd3 rfl (S := []) rfl (pc' := 139) rfl rfl (W := 0) (Nat.le_of_eq rfl) (by decide) (by decide) (by decide) (by decide) ?_
    intro T47 h47 v47_ X47 q47_
    obtain ⟨rfl, rfl⟩ := q47_
    obtain ⟨r47, hr47⟩ : ∃ z, z = (((0 : Int64) + ([((0 : Int64) + (p2.toInt64)), ((0 : Int64) + (p4.toInt64)), (0 : Int64), ((0 : Int64) + (p3.toInt64)), ((0 : Int64) + (p5.toInt64)), (0 : Int64)].getD ((0 : Int32)).toNatClampNeg 0)) + ([((0 : Int64) + (p2.toInt64)), ((0 : Int64) + (p4.toInt64)), (0 : Int64), ((0 : Int64) + (p3.toInt64)), ((0 : Int64) + (p5.toInt64)), (0 : Int64)].getD (((0 : Int32) + (3 : Int32))).toNatClampNeg 0)) := ⟨_, rfl⟩
    show OwnGo p e below (T47.setTop (mkF m 139 #[.val (.int p0), .val (.int p1), .val (.int p2), .val (.int p3), .val (.int p4), .val (.int p5), .val (.int (3 : Int32)), .val (.int (0 : Int32)), .val (.int (1 : Int32)), .val (.ref b37), .val (.long v93), .second, .val (.long v114), .second, .val (.long v93), .second, .unset, .unset, .unset, .unset] [(.double (FP.l2d (((0 : Int64) + ([((0 : Int64) + (p2.toInt64)), ((0 : Int64) + (p4.toInt64)), (0 : Int64), ((0 : Int64) + (p3.toInt64)), ((0 : Int64) + (p5.toInt64)), (0 : Int64)].getD ((0 : Int32)).toNatClampNeg 0)) + ([((0 : Int64) + (p2.toInt64)), ((0 : Int64) + (p4.toInt64)), (0 : Int64), ((0 : Int64) + (p3.toInt64)), ((0 : Int64) + (p5.toInt64)), (0 : Int64)].getD (((0 : Int32) + (3 : Int32))).toNatClampNeg 0))))])) RR
    rw [← hr47]
    replace hr47 : r47 = (((0 : Int64) + ((0 : Int64) + (p2.toInt64))) + ((0 : Int64) + (p3.toInt64))) := hr47
    refine own_dstore X47 at_139 (pc' := 141) rfl (l' := #[.val (.int p0), .val (.int p1), .val (.int p2), .val (.int p3), .val (.int p4), .val (.int p5), .val (.int (3 : Int32)), .val (.int (0 : Int32)), .val (.int (1 : Int32)), .val (.ref b37), .val (.long v93), .second, .val (.long v114), .second, .val (.long v93), .second, .val (.double (FP.l2d r47)), .second, .unset, .unset]) rfl ?_
    refine own_aload X47 at_141 (pc' := 143) rfl rfl rfl ?_
    refine own_iload X47 at_143 (pc' := 145) rfl rfl ?_
    refine own_callV (a := b37) (argsL := [(.int (1 : Int32))]) X47 at_145 (y := (⟨"com/example/evenkeel/evenkeel/skew/CourseSums", "sum", "(I)D"⟩ : MethodName)) (by decide) (hw _ (List.mem_of_getElem? (i := 36) rfl)) (hw _ (List.mem_of_getElem? (i := 37) rfl)) (hw _ (List.mem_of_getElem? (i := 39) rfl)) (hw _ (List.mem_of_getElem? (i := 38) rfl)) (hw _ (List.mem_of_getElem? (i := 40) rfl)) (hw _ (List.mem_of_getElem? (i := 3) rfl)) A37_46 (own_rm5 l Z a0 hw b37 b_38 (3 : Int32) (1 : Int32) ([((0 : Int64) + (p2.toInt64)), ((0 : Int64) + (p4.toInt64)), (0 : Int64), ((0 : Int64) + (p3.toInt64)), ((0 : Int64) + (p5.toInt64)), (0 : Int64)]) h46 n0 Z46 FF38q0_46 FF38q1_46 Vx46 (show (1 : Int32) < (6 : Int32) from by decide) (show (4 : Int32) < (6 : Int32) from by decide) (show ¬ ((7 : Int32) < (6 : Int32)) from by decide) (by decide) (Nat.le_of_ble_eq_true rfl) (by decide) (Nat.le_of_ble_eq_true rfl) (show B53 ((0 : Int64) + (p4.toInt64)) from own_Kb (own_Ka own_K0 (own_Ki _) (by decide)) (by decide)) (show B53 ((0 : Int64) + ((0 : Int64) + (p4.toInt64))) from own_Kb (own_Ka own_K0 (own_Ka own_K0 (own_Ki _) (by decide)) (by decide)) (by decide)) (show B53 ((0 : Int64) + (p5.toInt64)) from own_Kb (own_Ka own_K0 (own_Ki _) (by decide)) (by decide))) own_pd3 rfl (S := []) rfl (pc' := 148) rfl rfl (W := 0) (Nat.le_of_eq rfl) (by decide) (by decide) (by decide) (by decide) ?_
    intro T48 h48 v48_ X48 q48_
    obtain ⟨rfl, rfl⟩ := q48_
    obtain ⟨r48, hr48⟩ : ∃ z, z = (((0 : Int64) + ([((0 : Int64) + (p2.toInt64)), ((0 : Int64) + (p4.toInt64)), (0 : Int64), ((0 : Int64) + (p3.toInt64)), ((0 : Int64) + (p5.toInt64)), (0 : Int64)].getD ((1 : Int32)).toNatClampNeg 0)) + ([((0 : Int64) + (p2.toInt64)), ((0 : Int64) + (p4.toInt64)), (0 : Int64), ((0 : Int64) + (p3.toInt64)), ((0 : Int64) + (p5.toInt64)), (0 : Int64)].getD (((1 : Int32) + (3 : Int32))).toNatClampNeg 0)) := ⟨_, rfl⟩
    show OwnGo p e below (T48.setTop (mkF m 148 #[.val (.int p0), .val (.int p1), .val (.int p2), .val (.int p3), .val (.int p4), .val (.int p5), .val (.int (3 : Int32)), .val (.int (0 : Int32)), .val (.int (1 : Int32)), .val (.ref b37), .val (.long v93), .second, .val (.long v114), .second, .val (.long v93), .second, .val (.double (FP.l2d r47)), .second, .unset, .unset] [(.double (FP.l2d (((0 : Int64) + ([((0 : Int64) + (p2.toInt64)), ((0 : Int64) + (p4.toInt64)), (0 : Int64), ((0 : Int64) + (p3.toInt64)), ((0 : Int64) + (p5.toInt64)), (0 : Int64)].getD ((1 : Int32)).toNatClampNeg 0)) + ([((0 : Int64) + (p2.toInt64)), ((0 : Int64) + (p4.toInt64)), (0 : Int64), ((0 : Int64) + (p3.toInt64)), ((0 : Int64) + (p5.toInt64)), (0 : Int64)].getD (((1 : Int32) + (3 : Int32))).toNatClampNeg 0))))])) RR
    rw [← hr48]
    replace hr48 : r48 = (((0 : Int64) + ((0 : Int64) + (p4.toInt64))) + ((0 : Int64) + (p5.toInt64))) := hr48
    refine own_dstore X48 at_148 (pc' := 150) rfl (l' := #[.val (.int p0), .val (.int p1), .val (.int p2), .val (.int p3), .val (.int p4), .val (.int p5), .val (.int (3 : Int32)), .val (.int (0 : Int32)), .val (.int (1 : Int32)), .val (.ref b37), .val (.long v93), .second, .val (.long v114), .second, .val (.long v93), .second, .val (.double (FP.l2d r47)), .second, .val (.double (FP.l2d r48)), .second]) rfl ?_
    refine own_dload X48 at_150 (pc' := 152) rfl rfl ?_
    refine own_lload X48 at_152 (pc' := 154) rfl rfl ?_
    refine own_l2d X48 at_154 (pc' := 155) rfl ?_
    refine own_djN X48 at_155 at_156 (by rw [hr47]; exact own_Kb (own_Ka (own_Ka own_K0 (own_Ka own_K0 (own_Ki _) (by decide)) (by decide)) (own_Ka own_K0 (own_Ki _) (by decide)) (by decide)) (by decide)) (by rw [hv114]; exact own_Kb (own_Ka (own_Ka (own_Ki _) (own_Ki _) (by decide)) own_K0 (by decide)) (by decide)) (own_teqL ((by rw [hr47, hv114]; simp only [Int64.zero_add, Int64.add_zero, Int64.add_assoc, Int64.add_comm, own_alc] : r47 = v114))).2 (pc' := 159) rfl ?_
    refine own_dload X48 at_159 (pc' := 161) rfl rfl ?_
    refine own_lload X48 at_161 (pc' := 163) rfl rfl ?_
    refine own_l2d X48 at_163 (pc' := 164) rfl ?_
    refine own_djN X48 at_164 at_165 (by rw [hr48]; exact own_Kb (own_Ka (own_Ka own_K0 (own_Ka own_K0 (own_Ki _) (by decide)) (by decide)) (own_Ka own_K0 (own_Ki _) (by decide)) (by decide)) (by decide)) (by rw [hv93]; exact own_Kb (own_Ka (own_Ki _) (own_Ki _) (by decide)) (by decide)) (own_teqL ((by rw [hr48, hv93]; simp only [Int64.zero_add, Int64.add_zero, Int64.add_assoc, Int64.add_comm, own_alc] : r48 = v93))).2 (pc' := 168) rfl ?_
    refine own_iconst X48 at_168 (pc' := 169) rfl (v := (1 : Int32)) (by decide) ?_
    refine own_goto X48 at_169 (pc' := 173) (by decide) (by decide) ?_
    exact own_retZ X48 at_173 (by decide) rfl (by decide) (by decide)
  · obtain rfl : v23 = (2 : Int32) := by rw [hv23]; decide
    refine own_new X0 at_25 (hw _ (List.mem_of_getElem? (i := 1) rfl)) (hw _ (List.mem_of_getElem? (i := 2) rfl)) (hw _ (List.mem_of_getElem? (i := 3) rfl)) (pc' := 28) rfl (by decide) (by decide) ?_
    intro T49 h49 b49 hb49 X49 E49 A49 D49
    have g_b49 : n0 ≤ b49 := Nat.le_trans Z0 (Nat.le_of_eq hb49.symm)
    have ne_d0_b49 : d0 ≠ b49 := Nat.ne_of_lt (Nat.lt_of_lt_of_le (V_d0).lt (Nat.le_of_eq hb49.symm))
    have ne_g0_b49 : g0 ≠ b49 := Nat.ne_of_lt (Nat.lt_of_lt_of_le (E_g0).lt (Nat.le_of_eq hb49.symm))
    have ne_g1_b49 : g1 ≠ b49 := Nat.ne_of_lt (Nat.lt_of_lt_of_le (E_g1).lt (Nat.le_of_eq hb49.symm))
    have S_COURSES_49 := (S_COURSES).ext E49
    have V_d0_49 := (V_d0).ext E49
    have S_SPREAD_49 := (S_SPREAD).ext E49
    have S_CLUSTERED_49 := (S_CLUSTERED).ext E49
    have E_g0_49 := (E_g0).ext E49
    have E_g1_49 := (E_g1).ext E49
    have F_ordinal_g0_49 := (F_ordinal_g0).ext E49
    have F_ordinal_g1_49 := (F_ordinal_g1).ext E49
    have Z49 : n0 ≤ h49.size := Nat.le_trans Z0 E49.1
    have F_slots_b49 : Fld Z h49 b49 "com/example/evenkeel/evenkeel/skew/CourseSums" "slots" "I" (.int (0 : Int32)) := D49 (Or.inr (hw _ (List.mem_of_getElem? (i := 11) rfl))) (ty := .int) (by decide)
    have F_sums_b49 : Fld Z h49 b49 "com/example/evenkeel/evenkeel/skew/CourseSums" "sums" "[D" .null := D49 (Or.inr (hw _ (List.mem_of_getElem? (i := 16) rfl))) (ty := (.array .double)) (by decide)
    refine own_dup X49 at_28 (pc' := 29) rfl rfl ?_
    refine own_iload X49 at_29 (pc' := 31) rfl rfl ?_
    refine own_callC (a := b49) (argsL := [(.int (3 : Int32))]) X49 at_31 (y := (⟨"com/example/evenkeel/evenkeel/skew/CourseSums", "<init>", "(I)V"⟩ : MethodName)) (by decide) (hw _ (List.mem_of_getElem? (i := 4) rfl)) (hw _ (List.mem_of_getElem? (i := 5) rfl)) (hw _ (List.mem_of_getElem? (i := 6) rfl)) (hw _ (List.mem_of_getElem? (i := 3) rfl)) (own_rm1_3 l Z a0 hw b49 d0 vs (0 : Int32) h49 n0 Z49 A49 F_slots_b49 F_sums_b49 S_COURSES_49 V_d0_49 g_b49 ne_d0_b49 hvs) own_pd1 rfl (S := [(.ref b49)]) rfl (pc' := 34) rfl rfl (W := 1) (Nat.le_of_eq rfl) (by decide) (by decide) (by decide) (by decide) ?_
    intro T50 h50 v50_ X50 q50_
    obtain ⟨b_50, rfl, KK50, FF50q0, FF50q1, FF50q2, FF50q3⟩ := q50_
    show OwnGo p e below (T50.setTop (mkF m 34 #[.val (.int p0), .val (.int p1), .val (.int p2), .val (.int p3), .val (.int p4), .val (.int p5), .val (.int (3 : Int32)), .val (.int (1 : Int32)), .val (.int (2 : Int32)), .unset, .unset, .unset, .unset, .unset, .unset, .unset, .unset, .unset, .unset, .unset] [(.ref b49)])) RR
    have Z50 : n0 ≤ h50.size := Nat.le_trans Z49 KK50.1
    have S_COURSES_50 := own_sta_keep S_COURSES_49 KK50 (own_plS (own_plE A49) own_pl0)
    have V_d0_50 := (V_d0_49).keep KK50 (ninS ne_d0_b49 nin0)
    have S_SPREAD_50 := own_sta_keep S_SPREAD_49 KK50 (own_plS (own_plE A49) own_pl0)
    have S_CLUSTERED_50 := own_sta_keep S_CLUSTERED_49 KK50 (own_plS (own_plE A49) own_pl0)
    have E_g0_50 := (E_g0_49).keep KK50
    have E_g1_50 := (E_g1_49).keep KK50
    have F_ordinal_g0_50 := (F_ordinal_g0_49).keep KK50 (ninS ne_g0_b49 nin0)
    have F_ordinal_g1_50 := (F_ordinal_g1_49).keep KK50 (ninS ne_g1_b49 nin0)
    have A49_50 := (A49).keep KK50
    have ne_d0_b_50 : d0 ≠ b_50 := Nat.ne_of_lt (Nat.lt_of_lt_of_le (V_d0_49).lt FF50q2)
    have ne_g0_b_50 : g0 ≠ b_50 := Nat.ne_of_lt (Nat.lt_of_lt_of_le (E_g0_49).lt FF50q2)
    have ne_g1_b_50 : g1 ≠ b_50 := Nat.ne_of_lt (Nat.lt_of_lt_of_le (E_g1_49).lt FF50q2)
    have ne_b49_b_50 : b49 ≠ b_50 := Nat.ne_of_lt (Nat.lt_of_lt_of_le (A49).lt FF50q2)
    have g_b_50 : n0 ≤ b_50 := Nat.le_trans Z49 FF50q2
    refine own_astore X50 at_34 (pc' := 36) rfl rfl (l' := #[.val (.int p0), .val (.int p1), .val (.int p2), .val (.int p3), .val (.int p4), .val (.int p5), .val (.int (3 : Int32)), .val (.int (1 : Int32)), .val (.int (2 : Int32)), .val (.ref b49), .unset, .unset, .unset, .unset, .unset, .unset, .unset, .unset, .unset, .unset]) rfl ?_
    refine own_aload X50 at_36 (pc' := 38) rfl rfl rfl ?_
    refine own_getS X50 at_38 (hw _ (List.mem_of_getElem? (i := 17) rfl)) Via.refl S_SPREAD_50 (pc' := 41) rfl ?_
    intro T51 X51
    refine own_iload X51 at_41 (pc' := 43) rfl rfl ?_
    refine own_iloadN X51 at_43 (pc' := 44) rfl rfl ?_
    refine own_i2d X51 at_44 (pc' := 45) rfl ?_
    refine own_callV (a := b49) (argsL := [(.ref g0), (.int (1 : Int32)), (.double (FP.l2d (p2.toInt64)))]) X51 at_45 (y := (⟨"com/example/evenkeel/evenkeel/skew/CourseSums", "add", "(Lcom/example/evenkeel/evenkeel/skew/GroupGrowth$Course;ID)V"⟩ : MethodName)) (by decide) (hw _ (List.mem_of_getElem? (i := 20) rfl)) (hw _ (List.mem_of_getElem? (i := 21) rfl)) (hw _ (List.mem_of_getElem? (i := 23) rfl)) (hw _ (List.mem_of_getElem? (i := 22) rfl)) (hw _ (List.mem_of_getElem? (i := 24) rfl)) (hw _ (List.mem_of_getElem? (i := 3) rfl)) A49_50 (own_rm3 l Z a0 hw b49 b_50 g0 (3 : Int32) (0 : Int32) (1 : Int32) ((p2.toInt64)) ([(0 : Int64), (0 : Int64), (0 : Int64), (0 : Int64), (0 : Int64), (0 : Int64)]) h50 n0 Z50 FF50q0 FF50q1 E_g0_50 F_ordinal_g0_50 FF50q3 g_b_50 (by decide) (Nat.le_of_ble_eq_true rfl) (show B53 (0 : Int64) from own_Kb own_K0 (by decide)) (own_Kb (own_Ki _) (by decide))) own_pd2 rfl (S := []) rfl (pc' := 48) rfl rfl (W := 0) (Nat.le_of_eq rfl) (by decide) (by decide) (by decide) (by decide) ?_
    intro T52 h52 v52_ X52 q52_
    obtain ⟨rfl, KK52, FF52q0⟩ := q52_
    show OwnGo p e below (T52.setTop (mkF m 48 #[.val (.int p0), .val (.int p1), .val (.int p2), .val (.int p3), .val (.int p4), .val (.int p5), .val (.int (3 : Int32)), .val (.int (1 : Int32)), .val (.int (2 : Int32)), .val (.ref b49), .unset, .unset, .unset, .unset, .unset, .unset, .unset, .unset, .unset, .unset] [])) RR
    have Z52 : n0 ≤ h52.size := Nat.le_trans Z50 KK52.1
    have S_COURSES_52 := own_sta_keep S_COURSES_50 KK52 (own_plS (own_plV FF50q3) own_pl0)
    have V_d0_52 := (V_d0_50).keep KK52 (ninS ne_d0_b_50 nin0)
    have S_SPREAD_52 := own_sta_keep S_SPREAD_50 KK52 (own_plS (own_plV FF50q3) own_pl0)
    have S_CLUSTERED_52 := own_sta_keep S_CLUSTERED_50 KK52 (own_plS (own_plV FF50q3) own_pl0)
    have E_g0_52 := (E_g0_50).keep KK52
    have E_g1_52 := (E_g1_50).keep KK52
    have F_ordinal_g0_52 := (F_ordinal_g0_50).keep KK52 (ninS ne_g0_b_50 nin0)
    have F_ordinal_g1_52 := (F_ordinal_g1_50).keep KK52 (ninS ne_g1_b_50 nin0)
    have A49_52 := (A49_50).keep KK52
    have FF50q0_52 := (FF50q0).keep KK52 (ninS ne_b49_b_50 nin0)
    have FF50q1_52 := (FF50q1).keep KK52 (ninS ne_b49_b_50 nin0)
    have Vx52 : OwnAr Z h52 b_50 .double ([(0 : Int64), ((0 : Int64) + (p2.toInt64)), (0 : Int64), (0 : Int64), (0 : Int64), (0 : Int64)].map ownDv) := FF52q0
    refine own_aload X52 at_48 (pc' := 50) rfl rfl rfl ?_
    refine own_getS X52 at_50 (hw _ (List.mem_of_getElem? (i := 34) rfl)) Via.refl S_CLUSTERED_52 (pc' := 53) rfl ?_
    intro T53 X53
    refine own_iload X53 at_53 (pc' := 55) rfl rfl ?_
    refine own_iloadN X53 at_55 (pc' := 56) rfl rfl ?_
    refine own_i2d X53 at_56 (pc' := 57) rfl ?_
    refine own_callV (a := b49) (argsL := [(.ref g1), (.int (1 : Int32)), (.double (FP.l2d (p3.toInt64)))]) X53 at_57 (y := (⟨"com/example/evenkeel/evenkeel/skew/CourseSums", "add", "(Lcom/example/evenkeel/evenkeel/skew/GroupGrowth$Course;ID)V"⟩ : MethodName)) (by decide) (hw _ (List.mem_of_getElem? (i := 20) rfl)) (hw _ (List.mem_of_getElem? (i := 21) rfl)) (hw _ (List.mem_of_getElem? (i := 23) rfl)) (hw _ (List.mem_of_getElem? (i := 22) rfl)) (hw _ (List.mem_of_getElem? (i := 24) rfl)) (hw _ (List.mem_of_getElem? (i := 3) rfl)) A49_52 (own_rm3 l Z a0 hw b49 b_50 g1 (3 : Int32) (1 : Int32) (1 : Int32) ((p3.toInt64)) ([(0 : Int64), ((0 : Int64) + (p2.toInt64)), (0 : Int64), (0 : Int64), (0 : Int64), (0 : Int64)]) h52 n0 Z52 FF50q0_52 FF50q1_52 E_g1_52 F_ordinal_g1_52 Vx52 g_b_50 (by decide) (Nat.le_of_ble_eq_true rfl) (show B53 (0 : Int64) from own_Kb own_K0 (by decide)) (own_Kb (own_Ki _) (by decide))) own_pd2 rfl (S := []) rfl (pc' := 60) rfl rfl (W := 0) (Nat.le_of_eq rfl) (by decide) (by decide) (by decide) (by decide) ?_
    intro T54 h54 v54_ X54 q54_
    obtain ⟨rfl, KK54, FF54q0⟩ := q54_
    show OwnGo p e below (T54.setTop (mkF m 60 #[.val (.int p0), .val (.int p1), .val (.int p2), .val (.int p3), .val (.int p4), .val (.int p5), .val (.int (3 : Int32)), .val (.int (1 : Int32)), .val (.int (2 : Int32)), .val (.ref b49), .unset, .unset, .unset, .unset, .unset, .unset, .unset, .unset, .unset, .unset] [])) RR
    have Z54 : n0 ≤ h54.size := Nat.le_trans Z52 KK54.1
    have S_COURSES_54 := own_sta_keep S_COURSES_52 KK54 (own_plS (own_plV Vx52) own_pl0)
    have V_d0_54 := (V_d0_52).keep KK54 (ninS ne_d0_b_50 nin0)
    have S_SPREAD_54 := own_sta_keep S_SPREAD_52 KK54 (own_plS (own_plV Vx52) own_pl0)
    have S_CLUSTERED_54 := own_sta_keep S_CLUSTERED_52 KK54 (own_plS (own_plV Vx52) own_pl0)
    have E_g0_54 := (E_g0_52).keep KK54
    have E_g1_54 := (E_g1_52).keep KK54
    have F_ordinal_g0_54 := (F_ordinal_g0_52).keep KK54 (ninS ne_g0_b_50 nin0)
    have F_ordinal_g1_54 := (F_ordinal_g1_52).keep KK54 (ninS ne_g1_b_50 nin0)
    have A49_54 := (A49_52).keep KK54
    have FF50q0_54 := (FF50q0_52).keep KK54 (ninS ne_b49_b_50 nin0)
    have FF50q1_54 := (FF50q1_52).keep KK54 (ninS ne_b49_b_50 nin0)
    have Vx54 : OwnAr Z h54 b_50 .double ([(0 : Int64), ((0 : Int64) + (p2.toInt64)), (0 : Int64), (0 : Int64), ((0 : Int64) + (p3.toInt64)), (0 : Int64)].map ownDv) := FF54q0
    refine own_aload X54 at_60 (pc' := 62) rfl rfl rfl ?_
    refine own_getS X54 at_62 (hw _ (List.mem_of_getElem? (i := 17) rfl)) Via.refl S_SPREAD_54 (pc' := 65) rfl ?_
    intro T55 X55
    refine own_iload X55 at_65 (pc' := 67) rfl rfl ?_
    refine own_iload X55 at_67 (pc' := 69) rfl rfl ?_
    refine own_i2d X55 at_69 (pc' := 70) rfl ?_
    refine own_callV (a := b49) (argsL := [(.ref g0), (.int (2 : Int32)), (.double (FP.l2d (p4.toInt64)))]) X55 at_70 (y := (⟨"com/example/evenkeel/evenkeel/skew/CourseSums", "add", "(Lcom/example/evenkeel/evenkeel/skew/GroupGrowth$Course;ID)V"⟩ : MethodName)) (by decide) (hw _ (List.mem_of_getElem? (i := 20) rfl)) (hw _ (List.mem_of_getElem? (i := 21) rfl)) (hw _ (List.mem_of_getElem? (i := 23) rfl)) (hw _ (List.mem_of_getElem? (i := 22) rfl)) (hw _ (List.mem_of_getElem? (i := 24) rfl)) (hw _ (List.mem_of_getElem? (i := 3) rfl)) A49_54 (own_rm3 l Z a0 hw b49 b_50 g0 (3 : Int32) (0 : Int32) (2 : Int32) ((p4.toInt64)) ([(0 : Int64), ((0 : Int64) + (p2.toInt64)), (0 : Int64), (0 : Int64), ((0 : Int64) + (p3.toInt64)), (0 : Int64)]) h54 n0 Z54 FF50q0_54 FF50q1_54 E_g0_54 F_ordinal_g0_54 Vx54 g_b_50 (by decide) (Nat.le_of_ble_eq_true rfl) (show B53 (0 : Int64) from own_Kb own_K0 (by decide)) (own_Kb (own_Ki _) (by decide))) own_pd2 rfl (S := []) rfl (pc' := 73) rfl rfl (W := 0) (Nat.le_of_eq rfl) (by decide) (by decide) (by decide) (by decide) ?_
    intro T56 h56 v56_ X56 q56_
    obtain ⟨rfl, KK56, FF56q0⟩ := q56_
    show OwnGo p e below (T56.setTop (mkF m 73 #[.val (.int p0), .val (.int p1), .val (.int p2), .val (.int p3), .val (.int p4), .val (.int p5), .val (.int (3 : Int32)), .val (.int (1 : Int32)), .val (.int (2 : Int32)), .val (.ref b49), .unset, .unset, .unset, .unset, .unset, .unset, .unset, .unset, .unset, .unset] [])) RR
    have Z56 : n0 ≤ h56.size := Nat.le_trans Z54 KK56.1
    have S_COURSES_56 := own_sta_keep S_COURSES_54 KK56 (own_plS (own_plV Vx54) own_pl0)
    have V_d0_56 := (V_d0_54).keep KK56 (ninS ne_d0_b_50 nin0)
    have S_SPREAD_56 := own_sta_keep S_SPREAD_54 KK56 (own_plS (own_plV Vx54) own_pl0)
    have S_CLUSTERED_56 := own_sta_keep S_CLUSTERED_54 KK56 (own_plS (own_plV Vx54) own_pl0)
    have E_g0_56 := (E_g0_54).keep KK56
    have E_g1_56 := (E_g1_54).keep KK56
    have F_ordinal_g0_56 := (F_ordinal_g0_54).keep KK56 (ninS ne_g0_b_50 nin0)
    have F_ordinal_g1_56 := (F_ordinal_g1_54).keep KK56 (ninS ne_g1_b_50 nin0)
    have A49_56 := (A49_54).keep KK56
    have FF50q0_56 := (FF50q0_54).keep KK56 (ninS ne_b49_b_50 nin0)
    have FF50q1_56 := (FF50q1_54).keep KK56 (ninS ne_b49_b_50 nin0)
    have Vx56 : OwnAr Z h56 b_50 .double ([(0 : Int64), ((0 : Int64) + (p2.toInt64)), ((0 : Int64) + (p4.toInt64)), (0 : Int64), ((0 : Int64) + (p3.toInt64)), (0 : Int64)].map ownDv) := FF56q0
    refine own_aload X56 at_73 (pc' := 75) rfl rfl rfl ?_
    refine own_getS X56 at_75 (hw _ (List.mem_of_getElem? (i := 34) rfl)) Via.refl S_CLUSTERED_56 (pc' := 78) rfl ?_
    intro T57 X57
    refine own_iload X57 at_78 (pc' := 80) rfl rfl ?_
    refine own_iload X57 at_80 (pc' := 82) rfl rfl ?_
    refine own_i2d X57 at_82 (pc' := 83) rfl ?_
    refine own_callV (a := b49) (argsL := [(.ref g1), (.int (2 : Int32)), (.double (FP.l2d (p5.toInt64)))]) X57 at_83 (y := (⟨"com/example/evenkeel/evenkeel/skew/CourseSums", "add", "(Lcom/example/evenkeel/evenkeel/skew/GroupGrowth$Course;ID)V"⟩ : MethodName)) (by decide) (hw _ (List.mem_of_getElem? (i := 20) rfl)) (hw _ (List.mem_of_getElem? (i := 21) rfl)) (hw _ (List.mem_of_getElem? (i := 23) rfl)) (hw _ (List.mem_of_getElem? (i := 22) rfl)) (hw _ (List.mem_of_getElem? (i := 24) rfl)) (hw _ (List.mem_of_getElem? (i := 3) rfl)) A49_56 (own_rm3 l Z a0 hw b49 b_50 g1 (3 : Int32) (1 : Int32) (2 : Int32) ((p5.toInt64)) ([(0 : Int64), ((0 : Int64) + (p2.toInt64)), ((0 : Int64) + (p4.toInt64)), (0 : Int64), ((0 : Int64) + (p3.toInt64)), (0 : Int64)]) h56 n0 Z56 FF50q0_56 FF50q1_56 E_g1_56 F_ordinal_g1_56 Vx56 g_b_50 (by decide) (Nat.le_of_ble_eq_true rfl) (show B53 (0 : Int64) from own_Kb own_K0 (by decide)) (own_Kb (own_Ki _) (by decide))) own_pd2 rfl (S := []) rfl (pc' := 86) rfl rfl (W := 0) (Nat.le_of_eq rfl) (by decide) (by decide) (by decide) (by decide) ?_
    intro T58 h58 v58_ X58 q58_
    obtain ⟨rfl, KK58, FF58q0⟩ := q58_
    show OwnGo p e below (T58.setTop (mkF m 86 #[.val (.int p0), .val (.int p1), .val (.int p2), .val (.int p3), .val (.int p4), .val (.int p5), .val (.int (3 : Int32)), .val (.int (1 : Int32)), .val (.int (2 : Int32)), .val (.ref b49), .unset, .unset, .unset, .unset, .unset, .unset, .unset, .unset, .unset, .unset] [])) RR
    have Z58 : n0 ≤ h58.size := Nat.le_trans Z56 KK58.1
    have S_COURSES_58 := own_sta_keep S_COURSES_56 KK58 (own_plS (own_plV Vx56) own_pl0)
    have V_d0_58 := (V_d0_56).keep KK58 (ninS ne_d0_b_50 nin0)
    have S_SPREAD_58 := own_sta_keep S_SPREAD_56 KK58 (own_plS (own_plV Vx56) own_pl0)
    have S_CLUSTERED_58 := own_sta_keep S_CLUSTERED_56 KK58 (own_plS (own_plV Vx56) own_pl0)
    have E_g0_58 := (E_g0_56).keep KK58
    have E_g1_58 := (E_g1_56).keep KK58
    have F_ordinal_g0_58 := (F_ordinal_g0_56).keep KK58 (ninS ne_g0_b_50 nin0)
    have F_ordinal_g1_58 := (F_ordinal_g1_56).keep KK58 (ninS ne_g1_b_50 nin0)
    have A49_58 := (A49_56).keep KK58
    have FF50q0_58 := (FF50q0_56).keep KK58 (ninS ne_b49_b_50 nin0)
    have FF50q1_58 := (FF50q1_56).keep KK58 (ninS ne_b49_b_50 nin0)
    have Vx58 : OwnAr Z h58 b_50 .double ([(0 : Int64), ((0 : Int64) + (p2.toInt64)), ((0 : Int64) + (p4.toInt64)), (0 : Int64), ((0 : Int64) + (p3.toInt64)), ((0 : Int64) + (p5.toInt64))].map ownDv) := FF58q0
    refine own_iload X58 at_86 (pc' := 88) rfl rfl ?_
    refine own_i2l X58 at_88 (pc' := 89) rfl ?_
    refine own_iload X58 at_89 (pc' := 91) rfl rfl ?_
    refine own_i2l X58 at_91 (pc' := 92) rfl ?_
    refine own_ladd X58 at_92 (pc' := 93) rfl ?_
    refine own_lstoreV X58 at_93 (pc' := 95) rfl (l' := fun v93 => #[.val (.int p0), .val (.int p1), .val (.int p2), .val (.int p3), .val (.int p4), .val (.int p5), .val (.int (3 : Int32)), .val (.int (1 : Int32)), .val (.int (2 : Int32)), .val (.ref b49), .val (.long v93), .second, .unset, .unset, .unset, .unset, .unset, .unset, .unset, .unset]) (fun _ => rfl) ?_
    intro v93 hv93
    refine own_iloadN X58 at_95 (pc' := 96) rfl rfl ?_
    refine own_i2l X58 at_96 (pc' := 97) rfl ?_
    refine own_iloadN X58 at_97 (pc' := 98) rfl rfl ?_
    refine own_i2l X58 at_98 (pc' := 99) rfl ?_
    refine own_ladd X58 at_99 (pc' := 100) rfl ?_
    refine own_iload X58 at_100 (pc' := 102) rfl rfl ?_
    refine own_iload X58 at_102 (pc' := 104) rfl rfl ?_
    refine own_icY X58 at_104 (feq ((by decide : ¬ ((2 : Int32) = (1 : Int32))))).2 (pc' := 112) (by decide) (by decide) ?_
    refine own_lconst X58 at_112 (pc' := 113) rfl (v := (0 : Int64)) (by decide) ?_
    refine own_ladd X58 at_113 (pc' := 114) rfl ?_
    refine own_lstoreV X58 at_114 (pc' := 116) rfl (l' := fun v114 => #[.val (.int p0), .val (.int p1), .val (.int p2), .val (.int p3), .val (.int p4), .val (.int p5), .val (.int (3 : Int32)), .val (.int (1 : Int32)), .val (.int (2 : Int32)), .val (.ref b49), .val (.long v93), .second, .val (.long v114), .second, .unset, .unset, .unset, .unset, .unset, .unset]) (fun _ => rfl) ?_
    intro v114 hv114
    refine own_iload X58 at_116 (pc' := 118) rfl rfl ?_
    refine own_iload X58 at_118 (pc' := 120) rfl rfl ?_
    refine own_icY X58 at_120 (feq ((by decide : ¬ ((2 : Int32) = (1 : Int32))))).2 (pc' := 128) (by decide) (by decide) ?_
    refine own_lload X58 at_128 (pc' := 130) rfl rfl ?_
    refine own_lstore X58 at_130 (pc' := 132) rfl (l' := #[.val (.int p0), .val (.int p1), .val (.int p2), .val (.int p3), .val (.int p4), .val (.int p5), .val (.int (3 : Int32)), .val (.int (1 : Int32)), .val (.int (2 : Int32)), .val (.ref b49), .val (.long v93), .second, .val (.long v114), .second, .val (.long v93), .second, .unset, .unset, .unset, .unset]) rfl ?_
    refine own_aload X58 at_132 (pc' := 134) rfl rfl rfl ?_
    refine own_iload X58 at_134 (pc' := 136) rfl rfl ?_
    refine own_callV (a := b49) (argsL := [(.int (1 : Int32))]) X58 at_136 (y := (⟨"com/example/evenkeel/evenkeel/skew/CourseSums", "sum", "(I)D"⟩ : MethodName)) (by decide) (hw _ (List.mem_of_getElem? (i := 36) rfl)) (hw _ (List.mem_of_getElem? (i := 37) rfl)) (hw _ (List.mem_of_getElem? (i := 39) rfl)) (hw _ (List.mem_of_getElem? (i := 38) rfl)) (hw _ (List.mem_of_getElem? (i := 40) rfl)) (hw _ (List.mem_of_getElem? (i := 3) rfl)) A49_58 (own_rm5 l Z a0 hw b49 b_50 (3 : Int32) (1 : Int32) ([(0 : Int64), ((0 : Int64) + (p2.toInt64)), ((0 : Int64) + (p4.toInt64)), (0 : Int64), ((0 : Int64) + (p3.toInt64)), ((0 : Int64) + (p5.toInt64))]) h58 n0 Z58 FF50q0_58 FF50q1_58 Vx58 (show (1 : Int32) < (6 : Int32) from by decide) (show (4 : Int32) < (6 : Int32) from by decide) (show ¬ ((7 : Int32) < (6 : Int32)) from by decide) (by decide) (Nat.le_of_ble_eq_true rfl) (by decide) (Nat.le_of_ble_eq_true rfl) (show B53 ((0 : Int64) + (p2.toInt64)) from own_Kb (own_Ka own_K0 (own_Ki _) (by decide)) (by decide)) (show B53 ((0 : Int64) + ((0 : Int64) + (p2.toInt64))) from own_Kb (own_Ka own_K0 (own_Ka own_K0 (own_Ki _) (by decide)) (by decide)) (by decide)) (show B53 ((0 : Int64) + (p3.toInt64)) from own_Kb (own_Ka own_K0 (own_Ki _) (by decide)) (by decide))) own_pd3 rfl (S := []) rfl (pc' := 139) rfl rfl (W := 0) (Nat.le_of_eq rfl) (by decide) (by decide) (by decide) (by decide) ?_
    intro T59 h59 v59_ X59 q59_
    obtain ⟨rfl, rfl⟩ := q59_
    obtain ⟨r59, hr59⟩ : ∃ z, z = (((0 : Int64) + ([(0 : Int64), ((0 : Int64) + (p2.toInt64)), ((0 : Int64) + (p4.toInt64)), (0 : Int64), ((0 : Int64) + (p3.toInt64)), ((0 : Int64) + (p5.toInt64))].getD ((1 : Int32)).toNatClampNeg 0)) + ([(0 : Int64), ((0 : Int64) + (p2.toInt64)), ((0 : Int64) + (p4.toInt64)), (0 : Int64), ((0 : Int64) + (p3.toInt64)), ((0 : Int64) + (p5.toInt64))].getD (((1 : Int32) + (3 : Int32))).toNatClampNeg 0)) := ⟨_, rfl⟩
    show OwnGo p e below (T59.setTop (mkF m 139 #[.val (.int p0), .val (.int p1), .val (.int p2), .val (.int p3), .val (.int p4), .val (.int p5), .val (.int (3 : Int32)), .val (.int (1 : Int32)), .val (.int (2 : Int32)), .val (.ref b49), .val (.long v93), .second, .val (.long v114), .second, .val (.long v93), .second, .unset, .unset, .unset, .unset] [(.double (FP.l2d (((0 : Int64) + ([(0 : Int64), ((0 : Int64) + (p2.toInt64)), ((0 : Int64) + (p4.toInt64)), (0 : Int64), ((0 : Int64) + (p3.toInt64)), ((0 : Int64) + (p5.toInt64))].getD ((1 : Int32)).toNatClampNeg 0)) + ([(0 : Int64), ((0 : Int64) + (p2.toInt64)), ((0 : Int64) + (p4.toInt64)), (0 : Int64), ((0 : Int64) + (p3.toInt64)), ((0 : Int64) + (p5.toInt64))].getD (((1 : Int32) + (3 : Int32))).toNatClampNeg 0))))])) RR
    rw [← hr59]
    replace hr59 : r59 = (((0 : Int64) + ((0 : Int64) + (p2.toInt64))) + ((0 : Int64) + (p3.toInt64))) := hr59
    refine own_dstore X59 at_139 (pc' := 141) rfl (l' := #[.val (.int p0), .val (.int p1), .val (.int p2), .val (.int p3), .val (.int p4), .val (.int p5), .val (.int (3 : Int32)), .val (.int (1 : Int32)), .val (.int (2 : Int32)), .val (.ref b49), .val (.long v93), .second, .val (.long v114), .second, .val (.long v93), .second, .val (.double (FP.l2d r59)), .second, .unset, .unset]) rfl ?_
    refine own_aload X59 at_141 (pc' := 143) rfl rfl rfl ?_
    refine own_iload X59 at_143 (pc' := 145) rfl rfl ?_
    refine own_callV (a := b49) (argsL := [(.int (2 : Int32))]) X59 at_145 (y := (⟨"com/example/evenkeel/evenkeel/skew/CourseSums", "sum", "(I)D"⟩ : MethodName)) (by decide) (hw _ (List.mem_of_getElem? (i := 36) rfl)) (hw _ (List.mem_of_getElem? (i := 37) rfl)) (hw _ (List.mem_of_getElem? (i := 39) rfl)) (hw _ (List.mem_of_getElem? (i := 38) rfl)) (hw _ (List.mem_of_getElem? (i := 40) rfl)) (hw _ (List.mem_of_getElem? (i := 3) rfl)) A49_58 (own_rm5 l Z a0 hw b49 b_50 (3 : Int32) (2 : Int32) ([(0 : Int64), ((0 : Int64) + (p2.toInt64)), ((0 : Int64) + (p4.toInt64)), (0 : Int64), ((0 : Int64) + (p3.toInt64)), ((0 : Int64) + (p5.toInt64))]) h58 n0 Z58 FF50q0_58 FF50q1_58 Vx58 (show (2 : Int32) < (6 : Int32) from by decide) (show (5 : Int32) < (6 : Int32) from by decide) (show ¬ ((8 : Int32) < (6 : Int32)) from by decide) (by decide) (Nat.le_of_ble_eq_true rfl) (by decide) (Nat.le_of_ble_eq_true rfl) (show B53 ((0 : Int64) + (p4.toInt64)) from own_Kb (own_Ka own_K0 (own_Ki _) (by decide)) (by decide)) (show B53 ((0 : Int64) + ((0 : Int64) + (p4.toInt64))) from own_Kb (own_Ka own_K0 (own_Ka own_K0 (own_Ki _) (by decide)) (by decide)) (by decide)) (show B53 ((0 : Int64) + (p5.toInt64)) from own_Kb (own_Ka own_K0 (own_Ki _) (by decide)) (by decide))) own_pd3 rfl (S := []) rfl (pc' := 148) rfl rfl (W := 0) (Nat.le_of_eq rfl) (by decide) (by decide) (by decide) (by decide) ?_
    intro T60 h60 v60_ X60 q60_
    obtain ⟨rfl, rfl⟩ := q60_
    obtain ⟨r60, hr60⟩ : ∃ z, z = (((0 : Int64) + ([(0 : Int64), ((0 : Int64) + (p2.toInt64)), ((0 : Int64) + (p4.toInt64)), (0 : Int64), ((0 : Int64) + (p3.toInt64)), ((0 : Int64) + (p5.toInt64))].getD ((2 : Int32)).toNatClampNeg 0)) + ([(0 : Int64), ((0 : Int64) + (p2.toInt64)), ((0 : Int64) + (p4.toInt64)), (0 : Int64), ((0 : Int64) + (p3.toInt64)), ((0 : Int64) + (p5.toInt64))].getD (((2 : Int32) + (3 : Int32))).toNatClampNeg 0)) := ⟨_, rfl⟩
    show OwnGo p e below (T60.setTop (mkF m 148 #[.val (.int p0), .val (.int p1), .val (.int p2), .val (.int p3), .val (.int p4), .val (.int p5), .val (.int (3 : Int32)), .val (.int (1 : Int32)), .val (.int (2 : Int32)), .val (.ref b49), .val (.long v93), .second, .val (.long v114), .second, .val (.long v93), .second, .val (.double (FP.l2d r59)), .second, .unset, .unset] [(.double (FP.l2d (((0 : Int64) + ([(0 : Int64), ((0 : Int64) + (p2.toInt64)), ((0 : Int64) + (p4.toInt64)), (0 : Int64), ((0 : Int64) + (p3.toInt64)), ((0 : Int64) + (p5.toInt64))].getD ((2 : Int32)).toNatClampNeg 0)) + ([(0 : Int64), ((0 : Int64) + (p2.toInt64)), ((0 : Int64) + (p4.toInt64)), (0 : Int64), ((0 : Int64) + (p3.toInt64)), ((0 : Int64) + (p5.toInt64))].getD (((2 : Int32) + (3 : Int32))).toNatClampNeg 0))))])) RR
    rw [← hr60]
    replace hr60 : r60 = (((0 : Int64) + ((0 : Int64) + (p4.toInt64))) + ((0 : Int64) + (p5.toInt64))) := hr60
    refine own_dstore X60 at_148 (pc' := 150) rfl (l' := #[.val (.int p0), .val (.int p1), .val (.int p2), .val (.int p3), .val (.int p4), .val (.int p5), .val (.int (3 : Int32)), .val (.int (1 : Int32)), .val (.int (2 : Int32)), .val (.ref b49), .val (.long v93), .second, .val (.long v114), .second, .val (.long v93), .second, .val (.double (FP.l2d r59)), .second, .val (.double (FP.l2d r60)), .second]) rfl ?_
    refine own_dload X60 at_150 (pc' := 152) rfl rfl ?_
    refine own_lload X60 at_152 (pc' := 154) rfl rfl ?_
    refine own_l2d X60 at_154 (pc' := 155) rfl ?_
    refine own_djN X60 at_155 at_156 (by rw [hr59]; exact own_Kb (own_Ka (own_Ka own_K0 (own_Ka own_K0 (own_Ki _) (by decide)) (by decide)) (own_Ka own_K0 (own_Ki _) (by decide)) (by decide)) (by decide)) (by rw [hv114]; exact own_Kb (own_Ka (own_Ka (own_Ki _) (own_Ki _) (by decide)) own_K0 (by decide)) (by decide)) (own_teqL ((by rw [hr59, hv114]; simp only [Int64.zero_add, Int64.add_zero, Int64.add_assoc, Int64.add_comm, own_alc] : r59 = v114))).2 (pc' := 159) rfl ?_
    refine own_dload X60 at_159 (pc' := 161) rfl rfl ?_
    refine own_lload X60 at_161 (pc' := 163) rfl rfl ?_
    refine own_l2d X60 at_163 (pc' := 164) rfl ?_
    refine own_djN X60 at_164 at_165 (by rw [hr60]; exact own_Kb (own_Ka (own_Ka own_K0 (own_Ka own_K0 (own_Ki _) (by decide)) (by decide)) (own_Ka own_K0 (own_Ki _) (by decide)) (by decide)) (by decide)) (by rw [hv93]; exact own_Kb (own_Ka (own_Ki _) (own_Ki _) (by decide)) (by decide)) (own_teqL ((by rw [hr60, hv93]; simp only [Int64.zero_add, Int64.add_zero, Int64.add_assoc, Int64.add_comm, own_alc] : r60 = v93))).2 (pc' := 168) rfl ?_
    refine own_iconst X60 at_168 (pc' := 169) rfl (v := (1 : Int32)) (by decide) ?_
    refine own_goto X60 at_169 (pc' := 173) (by decide) (by decide) ?_
    exact own_retZ X60 at_173 (by decide) rfl (by decide) (by decide)
  · obtain rfl : v23 = (0 : Int32) := by rw [hv23]; decide
    refine own_new X0 at_25 (hw _ (List.mem_of_getElem? (i := 1) rfl)) (hw _ (List.mem_of_getElem? (i := 2) rfl)) (hw _ (List.mem_of_getElem? (i := 3) rfl)) (pc' := 28) rfl (by decide) (by decide) ?_
    intro T61 h61 b61 hb61 X61 E61 A61 D61
    have g_b61 : n0 ≤ b61 := Nat.le_trans Z0 (Nat.le_of_eq hb61.symm)
    have ne_d0_b61 : d0 ≠ b61 := Nat.ne_of_lt (Nat.lt_of_lt_of_le (V_d0).lt (Nat.le_of_eq hb61.symm))
    have ne_g0_b61 : g0 ≠ b61 := Nat.ne_of_lt (Nat.lt_of_lt_of_le (E_g0).lt (Nat.le_of_eq hb61.symm))
    have ne_g1_b61 : g1 ≠ b61 := Nat.ne_of_lt (Nat.lt_of_lt_of_le (E_g1).lt (Nat.le_of_eq hb61.symm))
    have S_COURSES_61 := (S_COURSES).ext E61
    have V_d0_61 := (V_d0).ext E61
    have S_SPREAD_61 := (S_SPREAD).ext E61
    have S_CLUSTERED_61 := (S_CLUSTERED).ext E61
    have E_g0_61 := (E_g0).ext E61
    have E_g1_61 := (E_g1).ext E61
    have F_ordinal_g0_61 := (F_ordinal_g0).ext E61
    have F_ordinal_g1_61 := (F_ordinal_g1).ext E61
    have Z61 : n0 ≤ h61.size := Nat.le_trans Z0 E61.1
    have F_slots_b61 : Fld Z h61 b61 "com/example/evenkeel/evenkeel/skew/CourseSums" "slots" "I" (.int (0 : Int32)) := D61 (Or.inr (hw _ (List.mem_of_getElem? (i := 11) rfl))) (ty := .int) (by decide)
    have F_sums_b61 : Fld Z h61 b61 "com/example/evenkeel/evenkeel/skew/CourseSums" "sums" "[D" .null := D61 (Or.inr (hw _ (List.mem_of_getElem? (i := 16) rfl))) (ty := (.array .double)) (by decide)
    refine own_dup X61 at_28 (pc' := 29) rfl rfl ?_
    refine own_iload X61 at_29 (pc' := 31) rfl rfl ?_
    refine own_callC (a := b61) (argsL := [(.int (3 : Int32))]) X61 at_31 (y := (⟨"com/example/evenkeel/evenkeel/skew/CourseSums", "<init>", "(I)V"⟩ : MethodName)) (by decide) (hw _ (List.mem_of_getElem? (i := 4) rfl)) (hw _ (List.mem_of_getElem? (i := 5) rfl)) (hw _ (List.mem_of_getElem? (i := 6) rfl)) (hw _ (List.mem_of_getElem? (i := 3) rfl)) (own_rm1_3 l Z a0 hw b61 d0 vs (0 : Int32) h61 n0 Z61 A61 F_slots_b61 F_sums_b61 S_COURSES_61 V_d0_61 g_b61 ne_d0_b61 hvs) own_pd1 rfl (S := [(.ref b61)]) rfl (pc' := 34) rfl rfl (W := 1) (Nat.le_of_eq rfl) (by decide) (by decide) (by decide) (by decide) ?_
    intro T62 h62 v62_ X62 q62_
    obtain ⟨b_62, rfl, KK62, FF62q0, FF62q1, FF62q2, FF62q3⟩ := q62_
    show OwnGo p e below (T62.setTop (mkF m 34 #[.val (.int p0), .val (.int p1), .val (.int p2), .val (.int p3), .val (.int p4), .val (.int p5), .val (.int (3 : Int32)), .val (.int (2 : Int32)), .val (.int (0 : Int32)), .unset, .unset, .unset, .unset, .unset, .unset, .unset, .unset, .unset, .unset, .unset] [(.ref b61)])) RR
    have Z62 : n0 ≤ h62.size := Nat.le_trans Z61 KK62.1
    have S_COURSES_62 := own_sta_keep S_COURSES_61 KK62 (own_plS (own_plE A61) own_pl0)
    have V_d0_62 := (V_d0_61).keep KK62 (ninS ne_d0_b61 nin0)
    have S_SPREAD_62 := own_sta_keep S_SPREAD_61 KK62 (own_plS (own_plE A61) own_pl0)
    have S_CLUSTERED_62 := own_sta_keep S_CLUSTERED_61 KK62 (own_plS (own_plE A61) own_pl0)
    have E_g0_62 := (E_g0_61).keep KK62
    have E_g1_62 := (E_g1_61).keep KK62
    have F_ordinal_g0_62 := (F_ordinal_g0_61).keep KK62 (ninS ne_g0_b61 nin0)
    have F_ordinal_g1_62 := (F_ordinal_g1_61).keep KK62 (ninS ne_g1_b61 nin0)
    have A61_62 := (A61).keep KK62
    have ne_d0_b_62 : d0 ≠ b_62 := Nat.ne_of_lt (Nat.lt_of_lt_of_le (V_d0_61).lt FF62q2)
    have ne_g0_b_62 : g0 ≠ b_62 := Nat.ne_of_lt (Nat.lt_of_lt_of_le (E_g0_61).lt FF62q2)
    have ne_g1_b_62 : g1 ≠ b_62 := Nat.ne_of_lt (Nat.lt_of_lt_of_le (E_g1_61).lt FF62q2)
    have ne_b61_b_62 : b61 ≠ b_62 := Nat.ne_of_lt (Nat.lt_of_lt_of_le (A61).lt FF62q2)
    have g_b_62 : n0 ≤ b_62 := Nat.le_trans Z61 FF62q2
    refine own_astore X62 at_34 (pc' := 36) rfl rfl (l' := #[.val (.int p0), .val (.int p1), .val (.int p2), .val (.int p3), .val (.int p4), .val (.int p5), .val (.int (3 : Int32)), .val (.int (2 : Int32)), .val (.int (0 : Int32)), .val (.ref b61), .unset, .unset, .unset, .unset, .unset, .unset, .unset, .unset, .unset, .unset]) rfl ?_
    refine own_aload X62 at_36 (pc' := 38) rfl rfl rfl ?_
    refine own_getS X62 at_38 (hw _ (List.mem_of_getElem? (i := 17) rfl)) Via.refl S_SPREAD_62 (pc' := 41) rfl ?_
    intro T63 X63
    refine own_iload X63 at_41 (pc' := 43) rfl rfl ?_
    refine own_iloadN X63 at_43 (pc' := 44) rfl rfl ?_
    refine own_i2d X63 at_44 (pc' := 45) rfl ?_
    refine own_callV (a := b61) (argsL := [(.ref g0), (.int (2 : Int32)), (.double (FP.l2d (p2.toInt64)))]) X63 at_45 (y := (⟨"com/example/evenkeel/evenkeel/skew/CourseSums", "add", "(Lcom/example/evenkeel/evenkeel/skew/GroupGrowth$Course;ID)V"⟩ : MethodName)) (by decide) (hw _ (List.mem_of_getElem? (i := 20) rfl)) (hw _ (List.mem_of_getElem? (i := 21) rfl)) (hw _ (List.mem_of_getElem? (i := 23) rfl)) (hw _ (List.mem_of_getElem? (i := 22) rfl)) (hw _ (List.mem_of_getElem? (i := 24) rfl)) (hw _ (List.mem_of_getElem? (i := 3) rfl)) A61_62 (own_rm3 l Z a0 hw b61 b_62 g0 (3 : Int32) (0 : Int32) (2 : Int32) ((p2.toInt64)) ([(0 : Int64), (0 : Int64), (0 : Int64), (0 : Int64), (0 : Int64), (0 : Int64)]) h62 n0 Z62 FF62q0 FF62q1 E_g0_62 F_ordinal_g0_62 FF62q3 g_b_62 (by decide) (Nat.le_of_ble_eq_true rfl) (show B53 (0 : Int64) from own_Kb own_K0 (by decide)) (own_Kb (own_Ki _) (by decide))) own_pd2 rfl (S := []) rfl (pc' := 48) rfl rfl (W := 0) (Nat.le_of_eq rfl) (by decide) (by decide) (by decide) (by decide) ?_
    intro T64 h64 v64_ X64 q64_
    obtain ⟨rfl, KK64, FF64q0⟩ := q64_
    show OwnGo p e below (T64.setTop (mkF m 48 #[.val (.int p0), .val (.int p1), .val (.int p2), .val (.int p3), .val (.int p4), .val (.int p5), .val (.int (3 : Int32)), .val (.int (2 : Int32)), .val (.int (0 : Int32)), .val (.ref b61), .unset, .unset, .unset, .unset, .unset, .unset, .unset, .unset, .unset, .unset] [])) RR
    have Z64 : n0 ≤ h64.size := Nat.le_trans Z62 KK64.1
    have S_COURSES_64 := own_sta_keep S_COURSES_62 KK64 (own_plS (own_plV FF62q3) own_pl0)
    have V_d0_64 := (V_d0_62).keep KK64 (ninS ne_d0_b_62 nin0)
    have S_SPREAD_64 := own_sta_keep S_SPREAD_62 KK64 (own_plS (own_plV FF62q3) own_pl0)
    have S_CLUSTERED_64 := own_sta_keep S_CLUSTERED_62 KK64 (own_plS (own_plV FF62q3) own_pl0)
    have E_g0_64 := (E_g0_62).keep KK64
    have E_g1_64 := (E_g1_62).keep KK64
    have F_ordinal_g0_64 := (F_ordinal_g0_62).keep KK64 (ninS ne_g0_b_62 nin0)
    have F_ordinal_g1_64 := (F_ordinal_g1_62).keep KK64 (ninS ne_g1_b_62 nin0)
    have A61_64 := (A61_62).keep KK64
    have FF62q0_64 := (FF62q0).keep KK64 (ninS ne_b61_b_62 nin0)
    have FF62q1_64 := (FF62q1).keep KK64 (ninS ne_b61_b_62 nin0)
    have Vx64 : OwnAr Z h64 b_62 .double ([(0 : Int64), (0 : Int64), ((0 : Int64) + (p2.toInt64)), (0 : Int64), (0 : Int64), (0 : Int64)].map ownDv) := FF64q0
    refine own_aload X64 at_48 (pc' := 50) rfl rfl rfl ?_
    refine own_getS X64 at_50 (hw _ (List.mem_of_getElem? (i := 34) rfl)) Via.refl S_CLUSTERED_64 (pc' := 53) rfl ?_
    intro T65 X65
    refine own_iload X65 at_53 (pc' := 55) rfl rfl ?_
    refine own_iloadN X65 at_55 (pc' := 56) rfl rfl ?_
    refine own_i2d X65 at_56 (pc' := 57) rfl ?_
    refine own_callV (a := b61) (argsL := [(.ref g1), (.int (2 : Int32)), (.double (FP.l2d (p3.toInt64)))]) X65 at_57 (y := (⟨"com/example/evenkeel/evenkeel/skew/CourseSums", "add", "(Lcom/example/evenkeel/evenkeel/skew/GroupGrowth$Course;ID)V"⟩ : MethodName)) (by decide) (hw _ (List.mem_of_getElem? (i := 20) rfl)) (hw _ (List.mem_of_getElem? (i := 21) rfl)) (hw _ (List.mem_of_getElem? (i := 23) rfl)) (hw _ (List.mem_of_getElem? (i := 22) rfl)) (hw _ (List.mem_of_getElem? (i := 24) rfl)) (hw _ (List.mem_of_getElem? (i := 3) rfl)) A61_64 (own_rm3 l Z a0 hw b61 b_62 g1 (3 : Int32) (1 : Int32) (2 : Int32) ((p3.toInt64)) ([(0 : Int64), (0 : Int64), ((0 : Int64) + (p2.toInt64)), (0 : Int64), (0 : Int64), (0 : Int64)]) h64 n0 Z64 FF62q0_64 FF62q1_64 E_g1_64 F_ordinal_g1_64 Vx64 g_b_62 (by decide) (Nat.le_of_ble_eq_true rfl) (show B53 (0 : Int64) from own_Kb own_K0 (by decide)) (own_Kb (own_Ki _) (by decide))) own_pd2 rfl (S := []) rfl (pc' := 60) rfl rfl (W := 0) (Nat.le_of_eq rfl) (by decide) (by decide) (by decide) (by decide) ?_
    intro T66 h66 v66_ X66 q66_
    obtain ⟨rfl, KK66, FF66q0⟩ := q66_
    show OwnGo p e below (T66.setTop (mkF m 60 #[.val (.int p0), .val (.int p1), .val (.int p2), .val (.int p3), .val (.int p4), .val (.int p5), .val (.int (3 : Int32)), .val (.int (2 : Int32)), .val (.int (0 : Int32)), .val (.ref b61), .unset, .unset, .unset, .unset, .unset, .unset, .unset, .unset, .unset, .unset] [])) RR
    have Z66 : n0 ≤ h66.size := Nat.le_trans Z64 KK66.1
    have S_COURSES_66 := own_sta_keep S_COURSES_64 KK66 (own_plS (own_plV Vx64) own_pl0)
    have V_d0_66 := (V_d0_64).keep KK66 (ninS ne_d0_b_62 nin0)
    have S_SPREAD_66 := own_sta_keep S_SPREAD_64 KK66 (own_plS (own_plV Vx64) own_pl0)
    have S_CLUSTERED_66 := own_sta_keep S_CLUSTERED_64 KK66 (own_plS (own_plV Vx64) own_pl0)
    have E_g0_66 := (E_g0_64).keep KK66
    have E_g1_66 := (E_g1_64).keep KK66
    have F_ordinal_g0_66 := (F_ordinal_g0_64).keep KK66 (ninS ne_g0_b_62 nin0)
    have F_ordinal_g1_66 := (F_ordinal_g1_64).keep KK66 (ninS ne_g1_b_62 nin0)
    have A61_66 := (A61_64).keep KK66
    have FF62q0_66 := (FF62q0_64).keep KK66 (ninS ne_b61_b_62 nin0)
    have FF62q1_66 := (FF62q1_64).keep KK66 (ninS ne_b61_b_62 nin0)
    have Vx66 : OwnAr Z h66 b_62 .double ([(0 : Int64), (0 : Int64), ((0 : Int64) + (p2.toInt64)), (0 : Int64), (0 : Int64), ((0 : Int64) + (p3.toInt64))].map ownDv) := FF66q0
    refine own_aload X66 at_60 (pc' := 62) rfl rfl rfl ?_
    refine own_getS X66 at_62 (hw _ (List.mem_of_getElem? (i := 17) rfl)) Via.refl S_SPREAD_66 (pc' := 65) rfl ?_
    intro T67 X67
    refine own_iload X67 at_65 (pc' := 67) rfl rfl ?_
    refine own_iload X67 at_67 (pc' := 69) rfl rfl ?_
    refine own_i2d X67 at_69 (pc' := 70) rfl ?_
    refine own_callV (a := b61) (argsL := [(.ref g0), (.int (0 : Int32)), (.double (FP.l2d (p4.toInt64)))]) X67 at_70 (y := (⟨"com/example/evenkeel/evenkeel/skew/CourseSums", "add", "(Lcom/example/evenkeel/evenkeel/skew/GroupGrowth$Course;ID)V"⟩ : MethodName)) (by decide) (hw _ (List.mem_of_getElem? (i := 20) rfl)) (hw _ (List.mem_of_getElem? (i := 21) rfl)) (hw _ (List.mem_of_getElem? (i := 23) rfl)) (hw _ (List.mem_of_getElem? (i := 22) rfl)) (hw _ (List.mem_of_getElem? (i := 24) rfl)) (hw _ (List.mem_of_getElem? (i := 3) rfl)) A61_66 (own_rm3 l Z a0 hw b61 b_62 g0 (3 : Int32) (0 : Int32) (0 : Int32) ((p4.toInt64)) ([(0 : Int64), (0 : Int64), ((0 : Int64) + (p2.toInt64)), (0 : Int64), (0 : Int64), ((0 : Int64) + (p3.toInt64))]) h66 n0 Z66 FF62q0_66 FF62q1_66 E_g0_66 F_ordinal_g0_66 Vx66 g_b_62 (by decide) (Nat.le_of_ble_eq_true rfl) (show B53 (0 : Int64) from own_Kb own_K0 (by decide)) (own_Kb (own_Ki _) (by decide))) own_pd2 rfl (S := []) rfl (pc' := 73) rfl rfl (W := 0) (Nat.le_of_eq rfl) (by decide) (by decide) (by decide) (by decide) ?_
    intro T68 h68 v68_ X68 q68_
    obtain ⟨rfl, KK68, FF68q0⟩ := q68_
    show OwnGo p e below (T68.setTop (mkF m 73 #[.val (.int p0), .val (.int p1), .val (.int p2), .val (.int p3), .val (.int p4), .val (.int p5), .val (.int (3 : Int32)), .val (.int (2 : Int32)), .val (.int (0 : Int32)), .val (.ref b61), .unset, .unset, .unset, .unset, .unset, .unset, .unset, .unset, .unset, .unset] [])) RR
    have Z68 : n0 ≤ h68.size := Nat.le_trans Z66 KK68.1
    have S_COURSES_68 := own_sta_keep S_COURSES_66 KK68 (own_plS (own_plV Vx66) own_pl0)
    have V_d0_68 := (V_d0_66).keep KK68 (ninS ne_d0_b_62 nin0)
    have S_SPREAD_68 := own_sta_keep S_SPREAD_66 KK68 (own_plS (own_plV Vx66) own_pl0)
    have S_CLUSTERED_68 := own_sta_keep S_CLUSTERED_66 KK68 (own_plS (own_plV Vx66) own_pl0)
    have E_g0_68 := (E_g0_66).keep KK68
    have E_g1_68 := (E_g1_66).keep KK68
    have F_ordinal_g0_68 := (F_ordinal_g0_66).keep KK68 (ninS ne_g0_b_62 nin0)
    have F_ordinal_g1_68 := (F_ordinal_g1_66).keep KK68 (ninS ne_g1_b_62 nin0)
    have A61_68 := (A61_66).keep KK68
    have FF62q0_68 := (FF62q0_66).keep KK68 (ninS ne_b61_b_62 nin0)
    have FF62q1_68 := (FF62q1_66).keep KK68 (ninS ne_b61_b_62 nin0)
    have Vx68 : OwnAr Z h68 b_62 .double ([((0 : Int64) + (p4.toInt64)), (0 : Int64), ((0 : Int64) + (p2.toInt64)), (0 : Int64), (0 : Int64), ((0 : Int64) + (p3.toInt64))].map ownDv) := FF68q0
    refine own_aload X68 at_73 (pc' := 75) rfl rfl rfl ?_
    refine own_getS X68 at_75 (hw _ (List.mem_of_getElem? (i := 34) rfl)) Via.refl S_CLUSTERED_68 (pc' := 78) rfl ?_
    intro T69 X69
    refine own_iload X69 at_78 (pc' := 80) rfl rfl ?_
    refine own_iload X69 at_80 (pc' := 82) rfl rfl ?_
    refine own_i2d X69 at_82 (pc' := 83) rfl ?_
    refine own_callV (a := b61) (argsL := [(.ref g1), (.int (0 : Int32)), (.double (FP.l2d (p5.toInt64)))]) X69 at_83 (y := (⟨"com/example/evenkeel/evenkeel/skew/CourseSums", "add", "(Lcom/example/evenkeel/evenkeel/skew/GroupGrowth$Course;ID)V"⟩ : MethodName)) (by decide) (hw _ (List.mem_of_getElem? (i := 20) rfl)) (hw _ (List.mem_of_getElem? (i := 21) rfl)) (hw _ (List.mem_of_getElem? (i := 23) rfl)) (hw _ (List.mem_of_getElem? (i := 22) rfl)) (hw _ (List.mem_of_getElem? (i := 24) rfl)) (hw _ (List.mem_of_getElem? (i := 3) rfl)) A61_68 (own_rm3 l Z a0 hw b61 b_62 g1 (3 : Int32) (1 : Int32) (0 : Int32) ((p5.toInt64)) ([((0 : Int64) + (p4.toInt64)), (0 : Int64), ((0 : Int64) + (p2.toInt64)), (0 : Int64), (0 : Int64), ((0 : Int64) + (p3.toInt64))]) h68 n0 Z68 FF62q0_68 FF62q1_68 E_g1_68 F_ordinal_g1_68 Vx68 g_b_62 (by decide) (Nat.le_of_ble_eq_true rfl) (show B53 (0 : Int64) from own_Kb own_K0 (by decide)) (own_Kb (own_Ki _) (by decide))) own_pd2 rfl (S := []) rfl (pc' := 86) rfl rfl (W := 0) (Nat.le_of_eq rfl) (by decide) (by decide) (by decide) (by decide) ?_
    intro T70 h70 v70_ X70 q70_
    obtain ⟨rfl, KK70, FF70q0⟩ := q70_
    show OwnGo p e below (T70.setTop (mkF m 86 #[.val (.int p0), .val (.int p1), .val (.int p2), .val (.int p3), .val (.int p4), .val (.int p5), .val (.int (3 : Int32)), .val (.int (2 : Int32)), .val (.int (0 : Int32)), .val (.ref b61), .unset, .unset, .unset, .unset, .unset, .unset, .unset, .unset, .unset, .unset] [])) RR
    have Z70 : n0 ≤ h70.size := Nat.le_trans Z68 KK70.1
    have S_COURSES_70 := own_sta_keep S_COURSES_68 KK70 (own_plS (own_plV Vx68) own_pl0)
    have V_d0_70 := (V_d0_68).keep KK70 (ninS ne_d0_b_62 nin0)
    have S_SPREAD_70 := own_sta_keep S_SPREAD_68 KK70 (own_plS (own_plV Vx68) own_pl0)
    have S_CLUSTERED_70 := own_sta_keep S_CLUSTERED_68 KK70 (own_plS (own_plV Vx68) own_pl0)
    have E_g0_70 := (E_g0_68).keep KK70
    have E_g1_70 := (E_g1_68).keep KK70
    have F_ordinal_g0_70 := (F_ordinal_g0_68).keep KK70 (ninS ne_g0_b_62 nin0)
    have F_ordinal_g1_70 := (F_ordinal_g1_68).keep KK70 (ninS ne_g1_b_62 nin0)
    have A61_70 := (A61_68).keep KK70
    have FF62q0_70 := (FF62q0_68).keep KK70 (ninS ne_b61_b_62 nin0)
    have FF62q1_70 := (FF62q1_68).keep KK70 (ninS ne_b61_b_62 nin0)
    have Vx70 : OwnAr Z h70 b_62 .double ([((0 : Int64) + (p4.toInt64)), (0 : Int64), ((0 : Int64) + (p2.toInt64)), ((0 : Int64) + (p5.toInt64)), (0 : Int64), ((0 : Int64) + (p3.toInt64))].map ownDv) := FF70q0
    refine own_iload X70 at_86 (pc' := 88) rfl rfl ?_
    refine own_i2l X70 at_88 (pc' := 89) rfl ?_
    refine own_iload X70 at_89 (pc' := 91) rfl rfl ?_
    refine own_i2l X70 at_91 (pc' := 92) rfl ?_
    refine own_ladd X70 at_92 (pc' := 93) rfl ?_
    refine own_lstoreV X70 at_93 (pc' := 95) rfl (l' := fun v93 => #[.val (.int p0), .val (.int p1), .val (.int p2), .val (.int p3), .val (.int p4), .val (.int p5), .val (.int (3 : Int32)), .val (.int (2 : Int32)), .val (.int (0 : Int32)), .val (.ref b61), .val (.long v93), .second, .unset, .unset, .unset, .unset, .unset, .unset, .unset, .unset]) (fun _ => rfl) ?_
    intro v93 hv93
    refine own_iloadN X70 at_95 (pc' := 96) rfl rfl ?_
    refine own_i2l X70 at_96 (pc' := 97) rfl ?_
    refine own_iloadN X70 at_97 (pc' := 98) rfl rfl ?_
    refine own_i2l X70 at_98 (pc' := 99) rfl ?_
    refine own_ladd X70 at_99 (pc' := 100) rfl ?_
    refine own_iload X70 at_100 (pc' := 102) rfl rfl ?_
    refine own_iload X70 at_102 (pc' := 104) rfl rfl ?_
    refine own_icY X70 at_104 (feq ((by decide : ¬ ((0 : Int32) = (2 : Int32))))).2 (pc' := 112) (by decide) (by decide) ?_
    refine own_lconst X70 at_112 (pc' := 113) rfl (v := (0 : Int64)) (by decide) ?_
    refine own_ladd X70 at_113 (pc' := 114) rfl ?_
    refine own_lstoreV X70 at_114 (pc' := 116) rfl (l' := fun v114 => #[.val (.int p0), .val (.int p1), .val (.int p2), .val (.int p3), .val (.int p4), .val (.int p5), .val (.int (3 : Int32)), .val (.int (2 : Int32)), .val (.int (0 : Int32)), .val (.ref b61), .val (.long v93), .second, .val (.long v114), .second, .unset, .unset, .unset, .unset, .unset, .unset]) (fun _ => rfl) ?_
    intro v114 hv114
    refine own_iload X70 at_116 (pc' := 118) rfl rfl ?_
    refine own_iload X70 at_118 (pc' := 120) rfl rfl ?_
    refine own_icY X70 at_120 (feq ((by decide : ¬ ((0 : Int32) = (2 : Int32))))).2 (pc' := 128) (by decide) (by decide) ?_
    refine own_lload X70 at_128 (pc' := 130) rfl rfl ?_
    refine own_lstore X70 at_130 (pc' := 132) rfl (l' := #[.val (.int p0), .val (.int p1), .val (.int p2), .val (.int p3), .val (.int p4), .val (.int p5), .val (.int (3 : Int32)), .val (.int (2 : Int32)), .val (.int (0 : Int32)), .val (.ref b61), .val (.long v93), .second, .val (.long v114), .second, .val (.long v93), .second, .unset, .unset, .unset, .unset]) rfl ?_
    refine own_aload X70 at_132 (pc' := 134) rfl rfl rfl ?_
    refine own_iload X70 at_134 (pc' := 136) rfl rfl ?_
    refine own_callV (a := b61) (argsL := [(.int (2 : Int32))]) X70 at_136 (y := (⟨"com/example/evenkeel/evenkeel/skew/CourseSums", "sum", "(I)D"⟩ : MethodName)) (by decide) (hw _ (List.mem_of_getElem? (i := 36) rfl)) (hw _ (List.mem_of_getElem? (i := 37) rfl)) (hw _ (List.mem_of_getElem? (i := 39) rfl)) (hw _ (List.mem_of_getElem? (i := 38) rfl)) (hw _ (List.mem_of_getElem? (i := 40) rfl)) (hw _ (List.mem_of_getElem? (i := 3) rfl)) A61_70 (own_rm5 l Z a0 hw b61 b_62 (3 : Int32) (2 : Int32) ([((0 : Int64) + (p4.toInt64)), (0 : Int64), ((0 : Int64) + (p2.toInt64)), ((0 : Int64) + (p5.toInt64)), (0 : Int64), ((0 : Int64) + (p3.toInt64))]) h70 n0 Z70 FF62q0_70 FF62q1_70 Vx70 (show (2 : Int32) < (6 : Int32) from by decide) (show (5 : Int32) < (6 : Int32) from by decide) (show ¬ ((8 : Int32) < (6 : Int32)) from by decide) (by decide) (Nat.le_of_ble_eq_true rfl) (by decide) (Nat.le_of_ble_eq_true rfl) (show B53 ((0 : Int64) + (p2.toInt64)) from own_Kb (own_Ka own_K0 (own_Ki _) (by decide)) (by decide)) (show B53 ((0 : Int64) + ((0 : Int64) + (p2.toInt64))) from own_Kb (own_Ka own_K0 (own_Ka own_K0 (own_Ki _) (by decide)) (by decide)) (by decide)) (show B53 ((0 : Int64) + (p3.toInt64)) from own_Kb (own_Ka own_K0 (own_Ki _) (by decide)) (by decide))) own_pd3 rfl (S := []) rfl (pc' := 139) rfl rfl (W := 0) (Nat.le_of_eq rfl) (by decide) (by decide) (by decide) (by decide) ?_
    intro T71 h71 v71_ X71 q71_
    obtain ⟨rfl, rfl⟩ := q71_
    obtain ⟨r71, hr71⟩ : ∃ z, z = (((0 : Int64) + ([((0 : Int64) + (p4.toInt64)), (0 : Int64), ((0 : Int64) + (p2.toInt64)), ((0 : Int64) + (p5.toInt64)), (0 : Int64), ((0 : Int64) + (p3.toInt64))].getD ((2 : Int32)).toNatClampNeg 0)) + ([((0 : Int64) + (p4.toInt64)), (0 : Int64), ((0 : Int64) + (p2.toInt64)), ((0 : Int64) + (p5.toInt64)), (0 : Int64), ((0 : Int64) + (p3.toInt64))].getD (((2 : Int32) + (3 : Int32))).toNatClampNeg 0)) := ⟨_, rfl⟩
    show OwnGo p e below (T71.setTop (mkF m 139 #[.val (.int p0), .val (.int p1), .val (.int p2), .val (.int p3), .val (.int p4), .val (.int p5), .val (.int (3 : Int32)), .val (.int (2 : Int32)), .val (.int (0 : Int32)), .val (.ref b61), .val (.long v93), .second, .val (.long v114), .second, .val (.long v93), .second, .unset, .unset, .unset, .unset] [(.double (FP.l2d (((0 : Int64) + ([((0 : Int64) + (p4.toInt64)), (0 : Int64), ((0 : Int64) + (p2.toInt64)), ((0 : Int64) + (p5.toInt64)), (0 : Int64), ((0 : Int64) + (p3.toInt64))].getD ((2 : Int32)).toNatClampNeg 0)) + ([((0 : Int64) + (p4.toInt64)), (0 : Int64), ((0 : Int64) + (p2.toInt64)), ((0 : Int64) + (p5.toInt64)), (0 : Int64), ((0 : Int64) + (p3.toInt64))].getD (((2 : Int32) + (3 : Int32))).toNatClampNeg 0))))])) RR
    rw [← hr71]
    replace hr71 : r71 = (((0 : Int64) + ((0 : Int64) + (p2.toInt64))) + ((0 : Int64) + (p3.toInt64))) := hr71
    refine own_dstore X71 at_139 (pc' := 141) rfl (l' := #[.val (.int p0), .val (.int p1), .val (.int p2), .val (.int p3), .val (.int p4), .val (.int p5), .val (.int (3 : Int32)), .val (.int (2 : Int32)), .val (.int (0 : Int32)), .val (.ref b61), .val (.long v93), .second, .val (.long v114), .second, .val (.long v93), .second, .val (.double (FP.l2d r71)), .second, .unset, .unset]) rfl ?_
    refine own_aload X71 at_141 (pc' := 143) rfl rfl rfl ?_
    refine own_iload X71 at_143 (pc' := 145) rfl rfl ?_
    refine own_callV (a := b61) (argsL := [(.int (0 : Int32))]) X71 at_145 (y := (⟨"com/example/evenkeel/evenkeel/skew/CourseSums", "sum", "(I)D"⟩ : MethodName)) (by decide) (hw _ (List.mem_of_getElem? (i := 36) rfl)) (hw _ (List.mem_of_getElem? (i := 37) rfl)) (hw _ (List.mem_of_getElem? (i := 39) rfl)) (hw _ (List.mem_of_getElem? (i := 38) rfl)) (hw _ (List.mem_of_getElem? (i := 40) rfl)) (hw _ (List.mem_of_getElem? (i := 3) rfl)) A61_70 (own_rm5 l Z a0 hw b61 b_62 (3 : Int32) (0 : Int32) ([((0 : Int64) + (p4.toInt64)), (0 : Int64), ((0 : Int64) + (p2.toInt64)), ((0 : Int64) + (p5.toInt64)), (0 : Int64), ((0 : Int64) + (p3.toInt64))]) h70 n0 Z70 FF62q0_70 FF62q1_70 Vx70 (show (0 : Int32) < (6 : Int32) from by decide) (show (3 : Int32) < (6 : Int32) from by decide) (show ¬ ((6 : Int32) < (6 : Int32)) from by decide) (by decide) (Nat.le_of_ble_eq_true rfl) (by decide) (Nat.le_of_ble_eq_true rfl) (show B53 ((0 : Int64) + (p4.toInt64)) from own_Kb (own_Ka own_K0 (own_Ki _) (by decide)) (by decide)) (show B53 ((0 : Int64) + ((0 : Int64) + (p4.toInt64))) from own_Kb (own_Ka own_K0 (own_Ka own_K0 (own_Ki _) (by decide)) (by decide)) (by decide)) (show B53 ((0 : Int64) + (p5.toInt64)) from own_Kb (own_Ka own_K0 (own_Ki _) (by decide)) (by decide))) own_pd3 rfl (S := []) rfl (pc' := 148) rfl rfl (W := 0) (Nat.le_of_eq rfl) (by decide) (by decide) (by decide) (by decide) ?_
    intro T72 h72 v72_ X72 q72_
    obtain ⟨rfl, rfl⟩ := q72_
    obtain ⟨r72, hr72⟩ : ∃ z, z = (((0 : Int64) + ([((0 : Int64) + (p4.toInt64)), (0 : Int64), ((0 : Int64) + (p2.toInt64)), ((0 : Int64) + (p5.toInt64)), (0 : Int64), ((0 : Int64) + (p3.toInt64))].getD ((0 : Int32)).toNatClampNeg 0)) + ([((0 : Int64) + (p4.toInt64)), (0 : Int64), ((0 : Int64) + (p2.toInt64)), ((0 : Int64) + (p5.toInt64)), (0 : Int64), ((0 : Int64) + (p3.toInt64))].getD (((0 : Int32) + (3 : Int32))).toNatClampNeg 0)) := ⟨_, rfl⟩
    show OwnGo p e below (T72.setTop (mkF m 148 #[.val (.int p0), .val (.int p1), .val (.int p2), .val (.int p3), .val (.int p4), .val (.int p5), .val (.int (3 : Int32)), .val (.int (2 : Int32)), .val (.int (0 : Int32)), .val (.ref b61), .val (.long v93), .second, .val (.long v114), .second, .val (.long v93), .second, .val (.double (FP.l2d r71)), .second, .unset, .unset] [(.double (FP.l2d (((0 : Int64) + ([((0 : Int64) + (p4.toInt64)), (0 : Int64), ((0 : Int64) + (p2.toInt64)), ((0 : Int64) + (p5.toInt64)), (0 : Int64), ((0 : Int64) + (p3.toInt64))].getD ((0 : Int32)).toNatClampNeg 0)) + ([((0 : Int64) + (p4.toInt64)), (0 : Int64), ((0 : Int64) + (p2.toInt64)), ((0 : Int64) + (p5.toInt64)), (0 : Int64), ((0 : Int64) + (p3.toInt64))].getD (((0 : Int32) + (3 : Int32))).toNatClampNeg 0))))])) RR
    rw [← hr72]
    replace hr72 : r72 = (((0 : Int64) + ((0 : Int64) + (p4.toInt64))) + ((0 : Int64) + (p5.toInt64))) := hr72
    refine own_dstore X72 at_148 (pc' := 150) rfl (l' := #[.val (.int p0), .val (.int p1), .val (.int p2), .val (.int p3), .val (.int p4), .val (.int p5), .val (.int (3 : Int32)), .val (.int (2 : Int32)), .val (.int (0 : Int32)), .val (.ref b61), .val (.long v93), .second, .val (.long v114), .second, .val (.long v93), .second, .val (.double (FP.l2d r71)), .second, .val (.double (FP.l2d r72)), .second]) rfl ?_
    refine own_dload X72 at_150 (pc' := 152) rfl rfl ?_
    refine own_lload X72 at_152 (pc' := 154) rfl rfl ?_
    refine own_l2d X72 at_154 (pc' := 155) rfl ?_
    refine own_djN X72 at_155 at_156 (by rw [hr71]; exact own_Kb (own_Ka (own_Ka own_K0 (own_Ka own_K0 (own_Ki _) (by decide)) (by decide)) (own_Ka own_K0 (own_Ki _) (by decide)) (by decide)) (by decide)) (by rw [hv114]; exact own_Kb (own_Ka (own_Ka (own_Ki _) (own_Ki _) (by decide)) own_K0 (by decide)) (by decide)) (own_teqL ((by rw [hr71, hv114]; simp only [Int64.zero_add, Int64.add_zero, Int64.add_assoc, Int64.add_comm, own_alc] : r71 = v114))).2 (pc' := 159) rfl ?_
    refine own_dload X72 at_159 (pc' := 161) rfl rfl ?_
    refine own_lload X72 at_161 (pc' := 163) rfl rfl ?_
    refine own_l2d X72 at_163 (pc' := 164) rfl ?_
    refine own_djN X72 at_164 at_165 (by rw [hr72]; exact own_Kb (own_Ka (own_Ka own_K0 (own_Ka own_K0 (own_Ki _) (by decide)) (by decide)) (own_Ka own_K0 (own_Ki _) (by decide)) (by decide)) (by decide)) (by rw [hv93]; exact own_Kb (own_Ka (own_Ki _) (own_Ki _) (by decide)) (by decide)) (own_teqL ((by rw [hr72, hv93]; simp only [Int64.zero_add, Int64.add_zero, Int64.add_assoc, Int64.add_comm, own_alc] : r72 = v93))).2 (pc' := 168) rfl ?_
    refine own_iconst X72 at_168 (pc' := 169) rfl (v := (1 : Int32)) (by decide) ?_
    refine own_goto X72 at_169 (pc' := 173) (by decide) (by decide) ?_
    exact own_retZ X72 at_173 (by decide) rfl (by decide) (by decide)
  · obtain rfl : v23 = (1 : Int32) := by rw [hv23]; decide
    refine own_new X0 at_25 (hw _ (List.mem_of_getElem? (i := 1) rfl)) (hw _ (List.mem_of_getElem? (i := 2) rfl)) (hw _ (List.mem_of_getElem? (i := 3) rfl)) (pc' := 28) rfl (by decide) (by decide) ?_
    intro T73 h73 b73 hb73 X73 E73 A73 D73
    have g_b73 : n0 ≤ b73 := Nat.le_trans Z0 (Nat.le_of_eq hb73.symm)
    have ne_d0_b73 : d0 ≠ b73 := Nat.ne_of_lt (Nat.lt_of_lt_of_le (V_d0).lt (Nat.le_of_eq hb73.symm))
    have ne_g0_b73 : g0 ≠ b73 := Nat.ne_of_lt (Nat.lt_of_lt_of_le (E_g0).lt (Nat.le_of_eq hb73.symm))
    have ne_g1_b73 : g1 ≠ b73 := Nat.ne_of_lt (Nat.lt_of_lt_of_le (E_g1).lt (Nat.le_of_eq hb73.symm))
    have S_COURSES_73 := (S_COURSES).ext E73
    have V_d0_73 := (V_d0).ext E73
    have S_SPREAD_73 := (S_SPREAD).ext E73
    have S_CLUSTERED_73 := (S_CLUSTERED).ext E73
    have E_g0_73 := (E_g0).ext E73
    have E_g1_73 := (E_g1).ext E73
    have F_ordinal_g0_73 := (F_ordinal_g0).ext E73
    have F_ordinal_g1_73 := (F_ordinal_g1).ext E73
    have Z73 : n0 ≤ h73.size := Nat.le_trans Z0 E73.1
    have F_slots_b73 : Fld Z h73 b73 "com/example/evenkeel/evenkeel/skew/CourseSums" "slots" "I" (.int (0 : Int32)) := D73 (Or.inr (hw _ (List.mem_of_getElem? (i := 11) rfl))) (ty := .int) (by decide)
    have F_sums_b73 : Fld Z h73 b73 "com/example/evenkeel/evenkeel/skew/CourseSums" "sums" "[D" .null := D73 (Or.inr (hw _ (List.mem_of_getElem? (i := 16) rfl))) (ty := (.array .double)) (by decide)
    refine own_dup X73 at_28 (pc' := 29) rfl rfl ?_
    refine own_iload X73 at_29 (pc' := 31) rfl rfl ?_
    refine own_callC (a := b73) (argsL := [(.int (4 : Int32))]) X73 at_31 (y := (⟨"com/example/evenkeel/evenkeel/skew/CourseSums", "<init>", "(I)V"⟩ : MethodName)) (by decide) (hw _ (List.mem_of_getElem? (i := 4) rfl)) (hw _ (List.mem_of_getElem? (i := 5) rfl)) (hw _ (List.mem_of_getElem? (i := 6) rfl)) (hw _ (List.mem_of_getElem? (i := 3) rfl)) (own_rm1_4 l Z a0 hw b73 d0 vs (0 : Int32) h73 n0 Z73 A73 F_slots_b73 F_sums_b73 S_COURSES_73 V_d0_73 g_b73 ne_d0_b73 hvs) own_pd1 rfl (S := [(.ref b73)]) rfl (pc' := 34) rfl rfl (W := 1) (Nat.le_of_eq rfl) (by decide) (by decide) (by decide) (by decide) ?_
    intro T74 h74 v74_ X74 q74_
    obtain ⟨b_74, rfl, KK74, FF74q0, FF74q1, FF74q2, FF74q3⟩ := q74_
    show OwnGo p e below (T74.setTop (mkF m 34 #[.val (.int p0), .val (.int p1), .val (.int p2), .val (.int p3), .val (.int p4), .val (.int p5), .val (.int (4 : Int32)), .val (.int (0 : Int32)), .val (.int (1 : Int32)), .unset, .unset, .unset, .unset, .unset, .unset, .unset, .unset, .unset, .unset, .unset] [(.ref b73)])) RR
    have Z74 : n0 ≤ h74.size := Nat.le_trans Z73 KK74.1
    have S_COURSES_74 := own_sta_keep S_COURSES_73 KK74 (own_plS (own_plE A73) own_pl0)
    have V_d0_74 := (V_d0_73).keep KK74 (ninS ne_d0_b73 nin0)
    have S_SPREAD_74 := own_sta_keep S_SPREAD_73 KK74 (own_plS (own_plE A73) own_pl0)
    have S_CLUSTERED_74 := own_sta_keep S_CLUSTERED_73 KK74 (own_plS (own_plE A73) own_pl0)
    have E_g0_74 := (E_g0_73).keep KK74
    have E_g1_74 := (E_g1_73).keep KK74
    have F_ordinal_g0_74 := (F_ordinal_g0_73).keep KK74 (ninS ne_g0_b73 nin0)
    have F_ordinal_g1_74 := (F_ordinal_g1_73).keep KK74 (ninS ne_g1_b73 nin0)
    have A73_74 := (A73).keep KK74
    have ne_d0_b_74 : d0 ≠ b_74 := Nat.ne_of_lt (Nat.lt_of_lt_of_le (V_d0_73).lt FF74q2)
    have ne_g0_b_74 : g0 ≠ b_74 := Nat.ne_of_lt (Nat.lt_of_lt_of_le (E_g0_73).lt FF74q2)
    have ne_g1_b_74 : g1 ≠ b_74 := Nat.ne_of_lt (Nat.lt_of_lt_of_le (E_g1_73).lt FF74q2)
    have ne_b73_b_74 : b73 ≠ b_74 := Nat.ne_of_lt (Nat.lt_of_lt_of_le (A73).lt FF74q2)
    have g_b_74 : n0 ≤ b_74 := Nat.le_trans Z73 FF74q2
    refine own_astore X74 at_34 (pc' := 36) rfl rfl (l' := #[.val (.int p0), .val (.int p1), .val (.int p2), .val (.int p3), .val (.int p4), .val (.int p5), .val (.int (4 : Int32)), .val (.int (0 : Int32)), .val (.int (1 : Int32)), .val (.ref b73), .unset, .unset, .unset, .unset, .unset, .unset, .unset, .unset, .unset, .unset]) rfl ?_
    refine own_aload X74 at_36 (pc' := 38) rfl rfl rfl ?_
    refine own_getS X74 at_38 (hw _ (List.mem_of_getElem? (i := 17) rfl)) Via.refl S_SPREAD_74 (pc' := 41) rfl ?_
    intro T75 X75
    refine own_iload X75 at_41 (pc' := 43) rfl rfl ?_
    refine own_iloadN X75 at_43 (pc' := 44) rfl rfl ?_
    refine own_i2d X75 at_44 (pc' := 45) rfl ?_
    refine own_callV (a := b73) (argsL := [(.ref g0), (.int (0 : Int32)), (.double (FP.l2d (p2.toInt64)))]) X75 at_45 (y := (⟨"com/example/evenkeel/evenkeel/skew/CourseSums", "add", "(Lcom/example/evenkeel/evenkeel/skew/GroupGrowth$Course;ID)V"⟩ : MethodName)) (by decide) (hw _ (List.mem_of_getElem? (i := 20) rfl)) (hw _ (List.mem_of_getElem? (i := 21) rfl)) (hw _ (List.mem_of_getElem? (i := 23) rfl)) (hw _ (List.mem_of_getElem? (i := 22) rfl)) (hw _ (List.mem_of_getElem? (i := 24) rfl)) (hw _ (List.mem_of_getElem? (i := 3) rfl)) A73_74 (own_rm3 l Z a0 hw b73 b_74 g0 (4 : Int32) (0 : Int32) (0 : Int32) ((p2.toInt64)) ([(0 : Int64), (0 : Int64), (0 : Int64), (0 : Int64), (0 : Int64), (0 : Int64), (0 : Int64), (0 : Int64)]) h74 n0 Z74 FF74q0 FF74q1 E_g0_74 F_ordinal_g0_74 FF74q3 g_b_74 (by decide) (Nat.le_of_ble_eq_true rfl) (show B53 (0 : Int64) from own_Kb own_K0 (by decide)) (own_Kb (own_Ki _) (by decide))) own_pd2 rfl (S := []) rfl (pc' := 48) rfl rfl (W := 0) (Nat.le_of_eq rfl) (by decide) (by decide) (by decide) (by decide) ?_
    intro T76 h76 v76_ X76 q76_
    obtain ⟨rfl, KK76, FF76q0⟩ := q76_
    show OwnGo p e below (T76.setTop (mkF m 48 #[.val (.int p0), .val (.int p1), .val (.int p2), .val (.int p3), .val (.int p4), .val (.int p5), .val (.int (4 : Int32)), .val (.int (0 : Int32)), .val (.int (1 : Int32)), .val (.ref b73), .unset, .unset, .unset, .unset, .unset, .unset, .unset, .unset, .unset, .unset] [])) RR
    have Z76 : n0 ≤ h76.size := Nat.le_trans Z74 KK76.1
    have S_COURSES_76 := own_sta_keep S_COURSES_74 KK76 (own_plS (own_plV FF74q3) own_pl0)
    have V_d0_76 := (V_d0_74).keep KK76 (ninS ne_d0_b_74 nin0)
    have S_SPREAD_76 := own_sta_keep S_SPREAD_74 KK76 (own_plS (own_plV FF74q3) own_pl0)
    have S_CLUSTERED_76 := own_sta_keep S_CLUSTERED_74 KK76 (own_plS (own_plV FF74q3) own_pl0)
    have E_g0_76 := (E_g0_74).keep KK76
    have E_g1_76 := (E_g1_74).keep KK76
    have F_ordinal_g0_76 := (F_ordinal_g0_74).keep KK76 (ninS ne_g0_b_74 nin0)
    have F_ordinal_g1_76 := (F_ordinal_g1_74).keep KK76 (ninS ne_g1_b_74 nin0)
    have A73_76 := (A73_74).keep KK76
    have FF74q0_76 := (FF74q0).keep KK76 (ninS ne_b73_b_74 nin0)
    have FF74q1_76 := (FF74q1).keep KK76 (ninS ne_b73_b_74 nin0)
    have Vx76 : OwnAr Z h76 b_74 .double ([((0 : Int64) + (p2.toInt64)), (0 : Int64), (0 : Int64), (0 : Int64), (0 : Int64), (0 : Int64), (0 : Int64), (0 : Int64)].map ownDv) := FF76q0
    refine own_aload X76 at_48 (pc' := 50) rfl rfl rfl ?_
    refine own_getS X76 at_50 (hw _ (List.mem_of_getElem? (i := 34) rfl)) Via.refl S_CLUSTERED_76 (pc' := 53) rfl ?_
    intro T77 X77
    refine own_iload X77 at_53 (pc' := 55) rfl rfl ?_
    refine own_iloadN X77 at_55 (pc' := 56) rfl rfl ?_
    refine own_i2d X77 at_56 (pc' := 57) rfl ?_
    refine own_callV (a := b73) (argsL := [(.ref g1), (.int (0 : Int32)), (.double (FP.l2d (p3.toInt64)))]) X77 at_57 (y := (⟨"com/example/evenkeel/evenkeel/skew/CourseSums", "add", "(Lcom/example/evenkeel/evenkeel/skew/GroupGrowth$Course;ID)V"⟩ : MethodName)) (by decide) (hw _ (List.mem_of_getElem? (i := 20) rfl)) (hw _ (List.mem_of_getElem? (i := 21) rfl)) (hw _ (List.mem_of_getElem? (i := 23) rfl)) (hw _ (List.mem_of_getElem? (i := 22) rfl)) (hw _ (List.mem_of_getElem? (i := 24) rfl)) (hw _ (List.mem_of_getElem? (i := 3) rfl)) A73_76 (own_rm3 l Z a0 hw b73 b_74 g1 (4 : Int32) (1 : Int32) (0 : Int32) ((p3.toInt64)) ([((0 : Int64) + (p2.toInt64)), (0 : Int64), (0 : Int64), (0 : Int64), (0 : Int64), (0 : Int64), (0 : Int64), (0 : Int64)]) h76 n0 Z76 FF74q0_76 FF74q1_76 E_g1_76 F_ordinal_g1_76 Vx76 g_b_74 (by decide) (Nat.le_of_ble_eq_true rfl) (show B53 (0 : Int64) from own_Kb own_K0 (by decide)) (own_Kb (own_Ki _) (by decide))) own_pd2 rfl (S := []) rfl (pc' := 60) rfl rfl (W := 0) (Nat.le_of_eq rfl) (by decide) (by decide) (by decide) (by decide) ?_
    intro T78 h78 v78_ X78 q78_
    obtain ⟨rfl, KK78, FF78q0⟩ := q78_
    show OwnGo p e below (T78.setTop (mkF m 60 #[.val (.int p0), .val (.int p1), .val (.int p2), .val (.int p3), .val (.int p4), .val (.int p5), .val (.int (4 : Int32)), .val (.int (0 : Int32)), .val (.int (1 : Int32)), .val (.ref b73), .unset, .unset, .unset, .unset, .unset, .unset, .unset, .unset, .unset, .unset] [])) RR
    have Z78 : n0 ≤ h78.size := Nat.le_trans Z76 KK78.1
    have S_COURSES_78 := own_sta_keep S_COURSES_76 KK78 (own_plS (own_plV Vx76) own_pl0)
    have V_d0_78 := (V_d0_76).keep KK78 (ninS ne_d0_b_74 nin0)
    have S_SPREAD_78 := own_sta_keep S_SPREAD_76 KK78 (own_plS (own_plV Vx76) own_pl0)
    have S_CLUSTERED_78 := own_sta_keep S_CLUSTERED_76 KK78 (own_plS (own_plV Vx76) own_pl0)
    have E_g0_78 := (E_g0_76).keep KK78
    have E_g1_78 := (E_g1_76).keep KK78
    have F_ordinal_g0_78 := (F_ordinal_g0_76).keep KK78 (ninS ne_g0_b_74 nin0)
    have F_ordinal_g1_78 := (F_ordinal_g1_76).keep KK78 (ninS ne_g1_b_74 nin0)
    have A73_78 := (A73_76).keep KK78
    have FF74q0_78 := (FF74q0_76).keep KK78 (ninS ne_b73_b_74 nin0)
    have FF74q1_78 := (FF74q1_76).keep KK78 (ninS ne_b73_b_74 nin0)
    have Vx78 : OwnAr Z h78 b_74 .double ([((0 : Int64) + (p2.toInt64)), (0 : Int64), (0 : Int64), (0 : Int64), ((0 : Int64) + (p3.toInt64)), (0 : Int64), (0 : Int64), (0 : Int64)].map ownDv) := FF78q0
    refine own_aload X78 at_60 (pc' := 62) rfl rfl rfl ?_
    refine own_getS X78 at_62 (hw _ (List.mem_of_getElem? (i := 17) rfl)) Via.refl S_SPREAD_78 (pc' := 65) rfl ?_
    intro T79 X79
    refine own_iload X79 at_65 (pc' := 67) rfl rfl ?_
    refine own_iload X79 at_67 (pc' := 69) rfl rfl ?_
    refine own_i2d X79 at_69 (pc' := 70) rfl ?_
    refine own_callV (a := b73) (argsL := [(.ref g0), (.int (1 : Int32)), (.double (FP.l2d (p4.toInt64)))]) X79 at_70 (y := (⟨"com/example/evenkeel/evenkeel/skew/CourseSums", "add", "(Lcom/example/evenkeel/evenkeel/skew/GroupGrowth$Course;ID)V"⟩ : MethodName)) (by decide) (hw _ (List.mem_of_getElem? (i := 20) rfl)) (hw _ (List.mem_of_getElem? (i := 21) rfl)) (hw _ (List.mem_of_getElem? (i := 23) rfl)) (hw _ (List.mem_of_getElem? (i := 22) rfl)) (hw _ (List.mem_of_getElem? (i := 24) rfl)) (hw _ (List.mem_of_getElem? (i := 3) rfl)) A73_78 (own_rm3 l Z a0 hw b73 b_74 g0 (4 : Int32) (0 : Int32) (1 : Int32) ((p4.toInt64)) ([((0 : Int64) + (p2.toInt64)), (0 : Int64), (0 : Int64), (0 : Int64), ((0 : Int64) + (p3.toInt64)), (0 : Int64), (0 : Int64), (0 : Int64)]) h78 n0 Z78 FF74q0_78 FF74q1_78 E_g0_78 F_ordinal_g0_78 Vx78 g_b_74 (by decide) (Nat.le_of_ble_eq_true rfl) (show B53 (0 : Int64) from own_Kb own_K0 (by decide)) (own_Kb (own_Ki _) (by decide))) own_pd2 rfl (S := []) rfl (pc' := 73) rfl rfl (W := 0) (Nat.le_of_eq rfl) (by decide) (by decide) (by decide) (by decide) ?_
    intro T80 h80 v80_ X80 q80_
    obtain ⟨rfl, KK80, FF80q0⟩ := q80_
    show OwnGo p e below (T80.setTop (mkF m 73 #[.val (.int p0), .val (.int p1), .val (.int p2), .val (.int p3), .val (.int p4), .val (.int p5), .val (.int (4 : Int32)), .val (.int (0 : Int32)), .val (.int (1 : Int32)), .val (.ref b73), .unset, .unset, .unset, .unset, .unset, .unset, .unset, .unset, .unset, .unset] [])) RR
    have Z80 : n0 ≤ h80.size := Nat.le_trans Z78 KK80.1
    have S_COURSES_80 := own_sta_keep S_COURSES_78 KK80 (own_plS (own_plV Vx78) own_pl0)
    have V_d0_80 := (V_d0_78).keep KK80 (ninS ne_d0_b_74 nin0)
    have S_SPREAD_80 := own_sta_keep S_SPREAD_78 KK80 (own_plS (own_plV Vx78) own_pl0)
    have S_CLUSTERED_80 := own_sta_keep S_CLUSTERED_78 KK80 (own_plS (own_plV Vx78) own_pl0)
    have E_g0_80 := (E_g0_78).keep KK80
    have E_g1_80 := (E_g1_78).keep KK80
    have F_ordinal_g0_80 := (F_ordinal_g0_78).keep KK80 (ninS ne_g0_b_74 nin0)
    have F_ordinal_g1_80 := (F_ordinal_g1_78).keep KK80 (ninS ne_g1_b_74 nin0)
    have A73_80 := (A73_78).keep KK80
    have FF74q0_80 := (FF74q0_78).keep KK80 (ninS ne_b73_b_74 nin0)
    have FF74q1_80 := (FF74q1_78).keep KK80 (ninS ne_b73_b_74 nin0)
    have Vx80 : OwnAr Z h80 b_74 .double ([((0 : Int64) + (p2.toInt64)), ((0 : Int64) + (p4.toInt64)), (0 : Int64), (0 : Int64), ((0 : Int64) + (p3.toInt64)), (0 : Int64), (0 : Int64), (0 : Int64)].map ownDv) := FF80q0
    refine own_aload X80 at_73 (pc' := 75) rfl rfl rfl ?_
    refine own_getS X80 at_75 (hw _ (List.mem_of_getElem? (i := 34) rfl)) Via.refl S_CLUSTERED_80 (pc' := 78) rfl ?_
    intro T81 X81
    refine own_iload X81 at_78 (pc' := 80) rfl rfl ?_
    refine own_iload X81 at_80 (pc' := 82) rfl rfl ?_
    refine own_i2d X81 at_82 (pc' := 83) rfl ?_
    refine own_callV (a := b73) (argsL := [(.ref g1), (.int (1 : Int32)), (.double (FP.l2d (p5.toInt64)))]) X81 at_83 (y := (⟨"com/example/evenkeel/evenkeel/skew/CourseSums", "add", "(Lcom/example/evenkeel/evenkeel/skew/GroupGrowth$Course;ID)V"⟩ : MethodName)) (by decide) (hw _ (List.mem_of_getElem? (i := 20) rfl)) (hw _ (List.mem_of_getElem? (i := 21) rfl)) (hw _ (List.mem_of_getElem? (i := 23) rfl)) (hw _ (List.mem_of_getElem? (i := 22) rfl)) (hw _ (List.mem_of_getElem? (i := 24) rfl)) (hw _ (List.mem_of_getElem? (i := 3) rfl)) A73_80 (own_rm3 l Z a0 hw b73 b_74 g1 (4 : Int32) (1 : Int32) (1 : Int32) ((p5.toInt64)) ([((0 : Int64) + (p2.toInt64)), ((0 : Int64) + (p4.toInt64)), (0 : Int64), (0 : Int64), ((0 : Int64) + (p3.toInt64)), (0 : Int64), (0 : Int64), (0 : Int64)]) h80 n0 Z80 FF74q0_80 FF74q1_80 E_g1_80 F_ordinal_g1_80 Vx80 g_b_74 (by decide) (Nat.le_of_ble_eq_true rfl) (show B53 (0 : Int64) from own_Kb own_K0 (by decide)) (own_Kb (own_Ki _) (by decide))) own_pd2 rfl (S := []) rfl (pc' := 86) rfl rfl (W := 0) (Nat.le_of_eq rfl) (by decide) (by decide) (by decide) (by decide) ?_
    intro T82 h82 v82_ X82 q82_
    obtain ⟨rfl, KK82, FF82q0⟩ := q82_
    show OwnGo p e below (T82.setTop (mkF m 86 #[.val (.int p0), .val (.int p1), .val (.int p2), .val (.int p3), .val (.int p4), .val (.int p5), .val (.int (4 : Int32)), .val (.int (0 : Int32)), .val (.int (1 : Int32)), .val (.ref b73), .unset, .unset, .unset, .unset, .unset, .unset, .unset, .unset, .unset, .unset] [])) RR
    have Z82 : n0 ≤ h82.size := Nat.le_trans Z80 KK82.1
    have S_COURSES_82 := own_sta_keep S_COURSES_80 KK82 (own_plS (own_plV Vx80) own_pl0)
    have V_d0_82 := (V_d0_80).keep KK82 (ninS ne_d0_b_74 nin0)
    have S_SPREAD_82 := own_sta_keep S_SPREAD_80 KK82 (own_plS (own_plV Vx80) own_pl0)
    have S_CLUSTERED_82 := own_sta_keep S_CLUSTERED_80 KK82 (own_plS (own_plV Vx80) own_pl0)
    have E_g0_82 := (E_g0_80).keep KK82
    have E_g1_82 := (E_g1_80).keep KK82
    have F_ordinal_g0_82 := (F_ordinal_g0_80).keep KK82 (ninS ne_g0_b_74 nin0)
    have F_ordinal_g1_82 := (F_ordinal_g1_80).keep KK82 (ninS ne_g1_b_74 nin0)
    have A73_82 := (A73_80).keep KK82
    have FF74q0_82 := (FF74q0_80).keep KK82 (ninS ne_b73_b_74 nin0)
    have FF74q1_82 := (FF74q1_80).keep KK82 (ninS ne_b73_b_74 nin0)
    have Vx82 : OwnAr Z h82 b_74 .double ([((0 : Int64) + (p2.toInt64)), ((0 : Int64) + (p4.toInt64)), (0 : Int64), (0 : Int64), ((0 : Int64) + (p3.toInt64)), ((0 : Int64) + (p5.toInt64)), (0 : Int64), (0 : Int64)].map ownDv) := FF82q0
    refine own_iload X82 at_86 (pc' := 88) rfl rfl ?_
    refine own_i2l X82 at_88 (pc' := 89) rfl ?_
    refine own_iload X82 at_89 (pc' := 91) rfl rfl ?_
    refine own_i2l X82 at_91 (pc' := 92) rfl ?_
    refine own_ladd X82 at_92 (pc' := 93) rfl ?_
    refine own_lstoreV X82 at_93 (pc' := 95) rfl (l' := fun v93 => #[.val (.int p0), .val (.int p1), .val (.int p2), .val (.int p3), .val (.int p4), .val (.int p5), .val (.int (4 : Int32)), .val (.int (0 : Int32)), .val (.int (1 : Int32)), .val (.ref b73), .val (.long v93), .second, .unset, .unset, .unset, .unset, .unset, .unset, .unset, .unset]) (fun _ => rfl) ?_
    intro v93 hv93
    refine own_iloadN X82 at_95 (pc' := 96) rfl rfl ?_
    refine own_i2l X82 at_96 (pc' := 97) rfl ?_
    refine own_iloadN X82 at_97 (pc' := 98) rfl rfl ?_
    refine own_i2l X82 at_98 (pc' := 99) rfl ?_
    refine own_ladd X82 at_99 (pc' := 100) rfl ?_
    refine own_iload X82 at_100 (pc' := 102) rfl rfl ?_
    refine own_iload X82 at_102 (pc' := 104) rfl rfl ?_
    refine own_icY X82 at_104 (feq ((by decide : ¬ ((1 : Int32) = (0 : Int32))))).2 (pc' := 112) (by decide) (by decide) ?_
    refine own_lconst X82 at_112 (pc' := 113) rfl (v := (0 : Int64)) (by decide) ?_
    refine own_ladd X82 at_113 (pc' := 114) rfl ?_
    refine own_lstoreV X82 at_114 (pc' := 116) rfl (l' := fun v114 => #[.val (.int p0), .val (.int p1), .val (.int p2), .val (.int p3), .val (.int p4), .val (.int p5), .val (.int (4 : Int32)), .val (.int (0 : Int32)), .val (.int (1 : Int32)), .val (.ref b73), .val (.long v93), .second, .val (.long v114), .second, .unset, .unset, .unset, .unset, .unset, .unset]) (fun _ => rfl) ?_
    intro v114 hv114
    refine own_iload X82 at_116 (pc' := 118) rfl rfl ?_
    refine own_iload X82 at_118 (pc' := 120) rfl rfl ?_
    refine own_icY X82 at_120 (feq ((by decide : ¬ ((1 : Int32) = (0 : Int32))))).2 (pc' := 128) (by decide) (by decide) ?_
    refine own_lload X82 at_128 (pc' := 130) rfl rfl ?_
    refine own_lstore X82 at_130 (pc' := 132) rfl (l' := #[.val (.int p0), .val (.int p1), .val (.int p2), .val (.int p3), .val (.int p4), .val (.int p5), .val (.int (4 : Int32)), .val (.int (0 : Int32)), .val (.int (1 : Int32)), .val (.ref b73), .val (.long v93), .second, .val (.long v114), .second, .val (.long v93), .second, .unset, .unset, .unset, .unset]) rfl ?_
    refine own_aload X82 at_132 (pc' := 134) rfl rfl rfl ?_
    refine own_iload X82 at_134 (pc' := 136) rfl rfl ?_
    refine own_callV (a := b73) (argsL := [(.int (0 : Int32))]) X82 at_136 (y := (⟨"com/example/evenkeel/evenkeel/skew/CourseSums", "sum", "(I)D"⟩ : MethodName)) (by decide) (hw _ (List.mem_of_getElem? (i := 36) rfl)) (hw _ (List.mem_of_getElem? (i := 37) rfl)) (hw _ (List.mem_of_getElem? (i := 39) rfl)) (hw _ (List.mem_of_getElem? (i := 38) rfl)) (hw _ (List.mem_of_getElem? (i := 40) rfl)) (hw _ (List.mem_of_getElem? (i := 3) rfl)) A73_82 (own_rm5 l Z a0 hw b73 b_74 (4 : Int32) (0 : Int32) ([((0 : Int64) + (p2.toInt64)), ((0 : Int64) + (p4.toInt64)), (0 : Int64), (0 : Int64), ((0 : Int64) + (p3.toInt64)), ((0 : Int64) + (p5.toInt64)), (0 : Int64), (0 : Int64)]) h82 n0 Z82 FF74q0_82 FF74q1_82 Vx82 (show (0 : Int32) < (8 : Int32) from by decide) (show (4 : Int32) < (8 : Int32) from by decide) (show ¬ ((8 : Int32) < (8 : Int32)) from by decide) (by decide) (Nat.le_of_ble_eq_true rfl) (by decide) (Nat.le_of_ble_eq_true rfl) (show B53 ((0 : Int64) + (p2.toInt64)) from own_Kb (own_Ka own_K0 (own_Ki _) (by decide)) (by decide)) (show B53 ((0 : Int64) + ((0 : Int64) + (p2.toInt64))) from own_Kb (own_Ka own_K0 (own_Ka own_K0 (own_Ki _) (by decide)) (by decide)) (by decide)) (show B53 ((0 : Int64) + (p3.toInt64)) from own_Kb (own_Ka own_K0 (own_Ki _) (by decide)) (by decide))) own_pd3 rfl (S := []) rfl (pc' := 139) rfl rfl (W := 0) (Nat.le_of_eq rfl) (by decide) (by decide) (by decide) (by decide) ?_
    intro T83 h83 v83_ X83 q83_
    obtain ⟨rfl, rfl⟩ := q83_
    obtain ⟨r83, hr83⟩ : ∃ z, z = (((0 : Int64) + ([((0 : Int64) + (p2.toInt64)), ((0 : Int64) + (p4.toInt64)), (0 : Int64), (0 : Int64), ((0 : Int64) + (p3.toInt64)), ((0 : Int64) + (p5.toInt64)), (0 : Int64), (0 : Int64)].getD ((0 : Int32)).toNatClampNeg 0)) + ([((0 : Int64) + (p2.toInt64)), ((0 : Int64) + (p4.toInt64)), (0 : Int64), (0 : Int64), ((0 : Int64) + (p3.toInt64)), ((0 : Int64) + (p5.toInt64)), (0 : Int64), (0 : Int64)].getD (((0 : Int32) + (4 : Int32))).toNatClampNeg 0)) := ⟨_, rfl⟩
    show OwnGo p e below (T83.setTop (mkF m 139 #[.val (.int p0), .val (.int p1), .val (.int p2), .val (.int p3), .val (.int p4), .val (.int p5), .val (.int (4 : Int32)), .val (.int (0 : Int32)), .val (.int (1 : Int32)), .val (.ref b73), .val (.long v93), .second, .val (.long v114), .second, .val (.long v93), .second, .unset, .unset, .unset, .unset] [(.double (FP.l2d (((0 : Int64) + ([((0 : Int64) + (p2.toInt64)), ((0 : Int64) + (p4.toInt64)), (0 : Int64), (0 : Int64), ((0 : Int64) + (p3.toInt64)), ((0 : Int64) + (p5.toInt64)), (0 : Int64), (0 : Int64)].getD ((0 : Int32)).toNatClampNeg 0)) + ([((0 : Int64) + (p2.toInt64)), ((0 : Int64) + (p4.toInt64)), (0 : Int64), (0 : Int64), ((0 : Int64) + (p3.toInt64)), ((0 : Int64) + (p5.toInt64)), (0 : Int64), (0 : Int64)].getD (((0 : Int32) + (4 : Int32))).toNatClampNeg 0))))])) RR
    rw [← hr83]
    replace hr83 : r83 = (((0 : Int64) + ((0 : Int64) + (p2.toInt64))) + ((0 : Int64) + (p3.toInt64))) := hr83
    refine own_dstore X83 at_139 (pc' := 141) rfl (l' := #[.val (.int p0), .val (.int p1), .val (.int p2), .val (.int p3), .val (.int p4), .val (.int p5), .val (.int (4 : Int32)), .val (.int (0 : Int32)), .val (.int (1 : Int32)), .val (.ref b73), .val (.long v93), .second, .val (.long v114), .second, .val (.long v93), .second, .val (.double (FP.l2d r83)), .second, .unset, .unset]) rfl ?_
    refine own_aload X83 at_141 (pc' := 143) rfl rfl rfl ?_
    refine own_iload X83 at_143 (pc' := 145) rfl rfl ?_
    refine own_callV (a := b73) (argsL := [(.int (1 : Int32))]) X83 at_145 (y := (⟨"com/example/evenkeel/evenkeel/skew/CourseSums", "sum", "(I)D"⟩ : MethodName)) (by decide) (hw _ (List.mem_of_getElem? (i := 36) rfl)) (hw _ (List.mem_of_getElem? (i := 37) rfl)) (hw _ (List.mem_of_getElem? (i := 39) rfl)) (hw _ (List.mem_of_getElem? (i := 38) rfl)) (hw _ (List.mem_of_getElem? (i := 40) rfl)) (hw _ (List.mem_of_getElem? (i := 3) rfl)) A73_82 (own_rm5 l Z a0 hw b73 b_74 (4 : Int32) (1 : Int32) ([((0 : Int64) + (p2.toInt64)), ((0 : Int64) + (p4.toInt64)), (0 : Int64), (0 : Int64), ((0 : Int64) + (p3.toInt64)), ((0 : Int64) + (p5.toInt64)), (0 : Int64), (0 : Int64)]) h82 n0 Z82 FF74q0_82 FF74q1_82 Vx82 (show (1 : Int32) < (8 : Int32) from by decide) (show (5 : Int32) < (8 : Int32) from by decide) (show ¬ ((9 : Int32) < (8 : Int32)) from by decide) (by decide) (Nat.le_of_ble_eq_true rfl) (by decide) (Nat.le_of_ble_eq_true rfl) (show B53 ((0 : Int64) + (p4.toInt64)) from own_Kb (own_Ka own_K0 (own_Ki _) (by decide)) (by decide)) (show B53 ((0 : Int64) + ((0 : Int64) + (p4.toInt64))) from own_Kb (own_Ka own_K0 (own_Ka own_K0 (own_Ki _) (by decide)) (by decide)) (by decide)) (show B53 ((0 : Int64) + (p5.toInt64)) from own_Kb (own_Ka own_K0 (own_Ki _) (by decide)) (by decide))) own_pd3 rfl (S := []) rfl (pc' := 148) rfl rfl (W := 0) (Nat.le_of_eq rfl) (by decide) (by decide) (by decide) (by decide) ?_
    intro T84 h84 v84_ X84 q84_
    obtain ⟨rfl, rfl⟩ := q84_
    obtain ⟨r84, hr84⟩ : ∃ z, z = (((0 : Int64) + ([((0 : Int64) + (p2.toInt64)), ((0 : Int64) + (p4.toInt64)), (0 : Int64), (0 : Int64), ((0 : Int64) + (p3.toInt64)), ((0 : Int64) + (p5.toInt64)), (0 : Int64), (0 : Int64)].getD ((1 : Int32)).toNatClampNeg 0)) + ([((0 : Int64) + (p2.toInt64)), ((0 : Int64) + (p4.toInt64)), (0 : Int64), (0 : Int64), ((0 : Int64) + (p3.toInt64)), ((0 : Int64) + (p5.toInt64)), (0 : Int64), (0 : Int64)].getD (((1 : Int32) + (4 : Int32))).toNatClampNeg 0)) := ⟨_, rfl⟩
    show OwnGo p e below (T84.setTop (mkF m 148 #[.val (.int p0), .val (.int p1), .val (.int p2), .val (.int p3), .val (.int p4), .val (.int p5), .val (.int (4 : Int32)), .val (.int (0 : Int32)), .val (.int (1 : Int32)), .val (.ref b73), .val (.long v93), .second, .val (.long v114), .second, .val (.long v93), .second, .val (.double (FP.l2d r83)), .second, .unset, .unset] [(.double (FP.l2d (((0 : Int64) + ([((0 : Int64) + (p2.toInt64)), ((0 : Int64) + (p4.toInt64)), (0 : Int64), (0 : Int64), ((0 : Int64) + (p3.toInt64)), ((0 : Int64) + (p5.toInt64)), (0 : Int64), (0 : Int64)].getD ((1 : Int32)).toNatClampNeg 0)) + ([((0 : Int64) + (p2.toInt64)), ((0 : Int64) + (p4.toInt64)), (0 : Int64), (0 : Int64), ((0 : Int64) + (p3.toInt64)), ((0 : Int64) + (p5.toInt64)), (0 : Int64), (0 : Int64)].getD (((1 : Int32) + (4 : Int32))).toNatClampNeg 0))))])) RR
    rw [← hr84]
    replace hr84 : r84 = (((0 : Int64) + ((0 : Int64) + (p4.toInt64))) + ((0 : Int64) + (p5.toInt64))) := hr84
    refine own_dstore X84 at_148 (pc' := 150) rfl (l' := #[.val (.int p0), .val (.int p1), .val (.int p2), .val (.int p3), .val (.int p4), .val (.int p5), .val (.int (4 : Int32)), .val (.int (0 : Int32)), .val (.int (1 : Int32)), .val (.ref b73), .val (.long v93), .second, .val (.long v114), .second, .val (.long v93), .second, .val (.double (FP.l2d r83)), .second, .val (.double (FP.l2d r84)), .second]) rfl ?_
    refine own_dload X84 at_150 (pc' := 152) rfl rfl ?_
    refine own_lload X84 at_152 (pc' := 154) rfl rfl ?_
    refine own_l2d X84 at_154 (pc' := 155) rfl ?_
    refine own_djN X84 at_155 at_156 (by rw [hr83]; exact own_Kb (own_Ka (own_Ka own_K0 (own_Ka own_K0 (own_Ki _) (by decide)) (by decide)) (own_Ka own_K0 (own_Ki _) (by decide)) (by decide)) (by decide)) (by rw [hv114]; exact own_Kb (own_Ka (own_Ka (own_Ki _) (own_Ki _) (by decide)) own_K0 (by decide)) (by decide)) (own_teqL ((by rw [hr83, hv114]; simp only [Int64.zero_add, Int64.add_zero, Int64.add_assoc, Int64.add_comm, own_alc] : r83 = v114))).2 (pc' := 159) rfl ?_
    refine own_dload X84 at_159 (pc' := 161) rfl rfl ?_
    refine own_lload X84 at_161 (pc' := 163) rfl rfl ?_
    refine own_l2d X84 at_163 (pc' := 164) rfl ?_
    refine own_djN X84 at_164 at_165 (by rw [hr84]; exact own_Kb (own_Ka (own_Ka own_K0 (own_Ka own_K0 (own_Ki _) (by decide)) (by decide)) (own_Ka own_K0 (own_Ki _) (by decide)) (by decide)) (by decide)) (by rw [hv93]; exact own_Kb (own_Ka (own_Ki _) (own_Ki _) (by decide)) (by decide)) (own_teqL ((by rw [hr84, hv93]; simp only [Int64.zero_add, Int64.add_zero, Int64.add_assoc, Int64.add_comm, own_alc] : r84 = v93))).2 (pc' := 168) rfl ?_
    refine own_iconst X84 at_168 (pc' := 169) rfl (v := (1 : Int32)) (by decide) ?_
    refine own_goto X84 at_169 (pc' := 173) (by decide) (by decide) ?_
    exact own_retZ X84 at_173 (by decide) rfl (by decide) (by decide)
  · obtain rfl : v23 = (2 : Int32) := by rw [hv23]; decide
    refine own_new X0 at_25 (hw _ (List.mem_of_getElem? (i := 1) rfl)) (hw _ (List.mem_of_getElem? (i := 2) rfl)) (hw _ (List.mem_of_getElem? (i := 3) rfl)) (pc' := 28) rfl (by decide) (by decide) ?_
    intro T85 h85 b85 hb85 X85 E85 A85 D85
    have g_b85 : n0 ≤ b85 := Nat.le_trans Z0 (Nat.le_of_eq hb85.symm)
    have ne_d0_b85 : d0 ≠ b85 := Nat.ne_of_lt (Nat.lt_of_lt_of_le (V_d0).lt (Nat.le_of_eq hb85.symm))
    have ne_g0_b85 : g0 ≠ b85 := Nat.ne_of_lt (Nat.lt_of_lt_of_le (E_g0).lt (Nat.le_of_eq hb85.symm))
    have ne_g1_b85 : g1 ≠ b85 := Nat.ne_of_lt (Nat.lt_of_lt_of_le (E_g1).lt (Nat.le_of_eq hb85.symm))
    have S_COURSES_85 := (S_COURSES).ext E85
    have V_d0_85 := (V_d0).ext E85
    have S_SPREAD_85 := (S_SPREAD).ext E85
    have S_CLUSTERED_85 := (S_CLUSTERED).ext E85
    have E_g0_85 := (E_g0).ext E85
    have E_g1_85 := (E_g1).ext E85
    have F_ordinal_g0_85 := (F_ordinal_g0).ext E85
    have F_ordinal_g1_85 := (F_ordinal_g1).ext E85
    have Z85 : n0 ≤ h85.size := Nat.le_trans Z0 E85.1
    have F_slots_b85 : Fld Z h85 b85 "com/example/evenkeel/evenkeel/skew/CourseSums" "slots" "I" (.int (0 : Int32)) := D85 (Or.inr (hw _ (List.mem_of_getElem? (i := 11) rfl))) (ty := .int) (by decide)
    have F_sums_b85 : Fld Z h85 b85 "com/example/evenkeel/evenkeel/skew/CourseSums" "sums" "[D" .null := D85 (Or.inr (hw _ (List.mem_of_getElem? (i := 16) rfl))) (ty := (.array .double)) (by decide)
    refine own_dup X85 at_28 (pc' := 29) rfl rfl ?_
    refine own_iload X85 at_29 (pc' := 31) rfl rfl ?_
    refine own_callC (a := b85) (argsL := [(.int (4 : Int32))]) X85 at_31 (y := (⟨"com/example/evenkeel/evenkeel/skew/CourseSums", "<init>", "(I)V"⟩ : MethodName)) (by decide) (hw _ (List.mem_of_getElem? (i := 4) rfl)) (hw _ (List.mem_of_getElem? (i := 5) rfl)) (hw _ (List.mem_of_getElem? (i := 6) rfl)) (hw _ (List.mem_of_getElem? (i := 3) rfl)) (own_rm1_4 l Z a0 hw b85 d0 vs (0 : Int32) h85 n0 Z85 A85 F_slots_b85 F_sums_b85 S_COURSES_85 V_d0_85 g_b85 ne_d0_b85 hvs) own_pd1 rfl (S := [(.ref b85)]) rfl (pc' := 34) rfl rfl (W := 1) (Nat.le_of_eq rfl) (by decide) (by decide) (by decide) (by decide) ?_
    intro T86 h86 v86_ X86 q86_
    obtain ⟨b_86, rfl, KK86, FF86q0, FF86q1, FF86q2, FF86q3⟩ := q86_
    show OwnGo p e below (T86.setTop (mkF m 34 #[.val (.int p0), .val (.int p1), .val (.int p2), .val (.int p3), .val (.int p4), .val (.int p5), .val (.int (4 : Int32)), .val (.int (1 : Int32)), .val (.int (2 : Int32)), .unset, .unset, .unset, .unset, .unset, .unset, .unset, .unset, .unset, .unset, .unset] [(.ref b85)])) RR
    have Z86 : n0 ≤ h86.size := Nat.le_trans Z85 KK86.1
    have S_COURSES_86 := own_sta_keep S_COURSES_85 KK86 (own_plS (own_plE A85) own_pl0)
    have V_d0_86 := (V_d0_85).keep KK86 (ninS ne_d0_b85 nin0)
    have S_SPREAD_86 := own_sta_keep S_SPREAD_85 KK86 (own_plS (own_plE A85) own_pl0)
    have S_CLUSTERED_86 := own_sta_keep S_CLUSTERED_85 KK86 (own_plS (own_plE A85) own_pl0)
    have E_g0_86 := (E_g0_85).keep KK86
    have E_g1_86 := (E_g1_85).keep KK86
    have F_ordinal_g0_86 := (F_ordinal_g0_85).keep KK86 (ninS ne_g0_b85 nin0)
    have F_ordinal_g1_86 := (F_ordinal_g1_85).keep KK86 (ninS ne_g1_b85 nin0)
    have A85_86 := (A85).keep KK86
    have ne_d0_b_86 : d0 ≠ b_86 := Nat.ne_of_lt (Nat.lt_of_lt_of_le (V_d0_85).lt FF86q2)
    have ne_g0_b_86 : g0 ≠ b_86 := Nat.ne_of_lt (Nat.lt_of_lt_of_le (E_g0_85).lt FF86q2)
    have ne_g1_b_86 : g1 ≠ b_86 := Nat.ne_of_lt (Nat.lt_of_lt_of_le (E_g1_85).lt FF86q2)
    have ne_b85_b_86 : b85 ≠ b_86 := Nat.ne_of_lt (Nat.lt_of_lt_of_le (A85).lt FF86q2)
    have g_b_86 : n0 ≤ b_86 := Nat.le_trans Z85 FF86q2
    refine own_astore X86 at_34 (pc' := 36) rfl rfl (l' := #[.val (.int p0), .val (.int p1), .val (.int p2), .val (.int p3), .val (.int p4), .val (.int p5), .val (.int (4 : Int32)), .val (.int (1 : Int32)), .val (.int (2 : Int32)), .val (.ref b85), .unset, .unset, .unset, .unset, .unset, .unset, .unset, .unset, .unset, .unset]) rfl ?_
    refine own_aload X86 at_36 (pc' := 38) rfl rfl rfl ?_
    refine own_getS X86 at_38 (hw _ (List.mem_of_getElem? (i := 17) rfl)) Via.refl S_SPREAD_86 (pc' := 41) rfl ?_
    intro T87 X87
    refine own_iload X87 at_41 (pc' := 43) rfl rfl ?_
    refine own_iloadN X87 at_43 (pc' := 44) rfl rfl ?_
    refine own_i2d X87 at_44 (pc' := 45) rfl ?_
    refine own_callV (a := b85) (argsL := [(.ref g0), (.int (1 : Int32)), (.double (FP.l2d (p2.toInt64)))]) X87 at_45 (y := (⟨"com/example/evenkeel/evenkeel/skew/CourseSums", "add", "(Lcom/example/evenkeel/evenkeel/skew/GroupGrowth$Course;ID)V"⟩ : MethodName)) (by decide) (hw _ (List.mem_of_getElem? (i := 20) rfl)) (hw _ (List.mem_of_getElem? (i := 21) rfl)) (hw _ (List.mem_of_getElem? (i := 23) rfl)) (hw _ (List.mem_of_getElem? (i := 22) rfl)) (hw _ (List.mem_of_getElem? (i := 24) rfl)) (hw _ (List.mem_of_getElem? (i := 3) rfl)) A85_86 (own_rm3 l Z a0 hw b85 b_86 g0 (4 : Int32) (0 : Int32) (1 : Int32) ((p2.toInt64)) ([(0 : Int64), (0 : Int64), (0 : Int64), (0 : Int64), (0 : Int64), (0 : Int64), (0 : Int64), (0 : Int64)]) h86 n0 Z86 FF86q0 FF86q1 E_g0_86 F_ordinal_g0_86 FF86q3 g_b_86 (by decide) (Nat.le_of_ble_eq_true rfl) (show B53 (0 : Int64) from own_Kb own_K0 (by decide)) (own_Kb (own_Ki _) (by decide))) own_pd2 rfl (S := []) rfl (pc' := 48) rfl rfl (W := 0) (Nat.le_of_eq rfl) (by decide) (by decide) (by decide) (by decide) ?_
    intro T88 h88 v88_ X88 q88_
    obtain ⟨rfl, KK88, FF88q0⟩ := q88_
    show OwnGo p e below (T88.setTop (mkF m 48 #[.val (.int p0), .val (.int p1), .val (.int p2), .val (.int p3), .val (.int p4), .val (.int p5), .val (.int (4 : Int32)), .val (.int (1 : Int32)), .val (.int (2 : Int32)), .val (.ref b85), .unset, .unset, .unset, .unset, .unset, .unset, .unset, .unset, .unset, .unset] [])) RR
    have Z88 : n0 ≤ h88.size := Nat.le_trans Z86 KK88.1
    have S_COURSES_88 := own_sta_keep S_COURSES_86 KK88 (own_plS (own_plV FF86q3) own_pl0)
    have V_d0_88 := (V_d0_86).keep KK88 (ninS ne_d0_b_86 nin0)
    have S_SPREAD_88 := own_sta_keep S_SPREAD_86 KK88 (own_plS (own_plV FF86q3) own_pl0)
    have S_CLUSTERED_88 := own_sta_keep S_CLUSTERED_86 KK88 (own_plS (own_plV FF86q3) own_pl0)
    have E_g0_88 := (E_g0_86).keep KK88
    have E_g1_88 := (E_g1_86).keep KK88
    have F_ordinal_g0_88 := (F_ordinal_g0_86).keep KK88 (ninS ne_g0_b_86 nin0)
    have F_ordinal_g1_88 := (F_ordinal_g1_86).keep KK88 (ninS ne_g1_b_86 nin0)
    have A85_88 := (A85_86).keep KK88
    have FF86q0_88 := (FF86q0).keep KK88 (ninS ne_b85_b_86 nin0)
    have FF86q1_88 := (FF86q1).keep KK88 (ninS ne_b85_b_86 nin0)
    have Vx88 : OwnAr Z h88 b_86 .double ([(0 : Int64), ((0 : Int64) + (p2.toInt64)), (0 : Int64), (0 : Int64), (0 : Int64), (0 : Int64), (0 : Int64), (0 : Int64)].map ownDv) := FF88q0
    refine own_aload X88 at_48 (pc' := 50) rfl rfl rfl ?_
    refine own_getS X88 at_50 (hw _ (List.mem_of_getElem? (i := 34) rfl)) Via.refl S_CLUSTERED_88 (pc' := 53) rfl ?_
    intro T89 X89
    refine own_iload X89 at_53 (pc' := 55) rfl rfl ?_
    refine own_iloadN X89 at_55 (pc' := 56) rfl rfl ?_
    refine own_i2d X89 at_56 (pc' := 57) rfl ?_
    refine own_callV (a := b85) (argsL := [(.ref g1), (.int (1 : Int32)), (.double (FP.l2d (p3.toInt64)))]) X89 at_57 (y := (⟨"com/example/evenkeel/evenkeel/skew/CourseSums", "add", "(Lcom/example/evenkeel/evenkeel/skew/GroupGrowth$Course;ID)V"⟩ : MethodName)) (by decide) (hw _ (List.mem_of_getElem? (i := 20) rfl)) (hw _ (List.mem_of_getElem? (i := 21) rfl)) (hw _ (List.mem_of_getElem? (i := 23) rfl)) (hw _ (List.mem_of_getElem? (i := 22) rfl)) (hw _ (List.mem_of_getElem? (i := 24) rfl)) (hw _ (List.mem_of_getElem? (i := 3) rfl)) A85_88 (own_rm3 l Z a0 hw b85 b_86 g1 (4 : Int32) (1 : Int32) (1 : Int32) ((p3.toInt64)) ([(0 : Int64), ((0 : Int64) + (p2.toInt64)), (0 : Int64), (0 : Int64), (0 : Int64), (0 : Int64), (0 : Int64), (0 : Int64)]) h88 n0 Z88 FF86q0_88 FF86q1_88 E_g1_88 F_ordinal_g1_88 Vx88 g_b_86 (by decide) (Nat.le_of_ble_eq_true rfl) (show B53 (0 : Int64) from own_Kb own_K0 (by decide)) (own_Kb (own_Ki _) (by decide))) own_pd2 rfl (S := []) rfl (pc' := 60) rfl rfl (W := 0) (Nat.le_of_eq rfl) (by decide) (by decide) (by decide) (by decide) ?_
    intro T90 h90 v90_ X90 q90_
    obtain ⟨rfl, KK90, FF90q0⟩ := q90_
    show OwnGo p e below (T90.setTop (mkF m 60 #[.val (.int p0), .val (.int p1), .val (.int p2), .val (.int p3), .val (.int p4), .val (.int p5), .val (.int (4 : Int32)), .val (.int (1 : Int32)), .val (.int (2 : Int32)), .val (.ref b85), .unset, .unset, .unset, .unset, .unset, .unset, .unset, .unset, .unset, .unset] [])) RR
    have Z90 : n0 ≤ h90.size := Nat.le_trans Z88 KK90.1
    have S_COURSES_90 := own_sta_keep S_COURSES_88 KK90 (own_plS (own_plV Vx88) own_pl0)
    have V_d0_90 := (V_d0_88).keep KK90 (ninS ne_d0_b_86 nin0)
    have S_SPREAD_90 := own_sta_keep S_SPREAD_88 KK90 (own_plS (own_plV Vx88) own_pl0)
    have S_CLUSTERED_90 := own_sta_keep S_CLUSTERED_88 KK90 (own_plS (own_plV Vx88) own_pl0)
    have E_g0_90 := (E_g0_88).keep KK90
    have E_g1_90 := (E_g1_88).keep KK90
    have F_ordinal_g0_90 := (F_ordinal_g0_88).keep KK90 (ninS ne_g0_b_86 nin0)
    have F_ordinal_g1_90 := (F_ordinal_g1_88).keep KK90 (ninS ne_g1_b_86 nin0)
    have A85_90 := (A85_88).keep KK90
    have FF86q0_90 := (FF86q0_88).keep KK90 (ninS ne_b85_b_86 nin0)
    have FF86q1_90 := (FF86q1_88).keep KK90 (ninS ne_b85_b_86 nin0)
    have Vx90 : OwnAr Z h90 b_86 .double ([(0 : Int64), ((0 : Int64) + (p2.toInt64)), (0 : Int64), (0 : Int64), (0 : Int64), ((0 : Int64) + (p3.toInt64)), (0 : Int64), (0 : Int64)].map ownDv) := FF90q0
    refine own_aload X90 at_60 (pc' := 62) rfl rfl rfl ?_
    refine own_getS X90 at_62 (hw _ (List.mem_of_getElem? (i := 17) rfl)) Via.refl S_SPREAD_90 (pc' := 65) rfl ?_
    intro T91 X91
    refine own_iload X91 at_65 (pc' := 67) rfl rfl ?_
    refine own_iload X91 at_67 (pc' := 69) rfl rfl ?_
    refine own_i2d X91 at_69 (pc' := 70) rfl ?_
    refine own_callV (a := b85) (argsL := [(.ref g0), (.int (2 : Int32)), (.double (FP.l2d (p4.toInt64)))]) X91 at_70 (y := (⟨"com/example/evenkeel/evenkeel/skew/CourseSums", "add", "(Lcom/example/evenkeel/evenkeel/skew/GroupGrowth$Course;ID)V"⟩ : MethodName)) (by decide) (hw _ (List.mem_of_getElem? (i := 20) rfl)) (hw _ (List.mem_of_getElem? (i := 21) rfl)) (hw _ (List.mem_of_getElem? (i := 23) rfl)) (hw _ (List.mem_of_getElem? (i := 22) rfl)) (hw _ (List.mem_of_getElem? (i := 24) rfl)) (hw _ (List.mem_of_getElem? (i := 3) rfl)) A85_90 (own_rm3 l Z a0 hw b85 b_86 g0 (4 : Int32) (0 : Int32) (2 : Int32) ((p4.toInt64)) ([(0 : Int64), ((0 : Int64) + (p2.toInt64)), (0 : Int64), (0 : Int64), (0 : Int64), ((0 : Int64) + (p3.toInt64)), (0 : Int64), (0 : Int64)]) h90 n0 Z90 FF86q0_90 FF86q1_90 E_g0_90 F_ordinal_g0_90 Vx90 g_b_86 (by decide) (Nat.le_of_ble_eq_true rfl) (show B53 (0 : Int64) from own_Kb own_K0 (by decide)) (own_Kb (own_Ki _) (by decide))) own_pd2 rfl (S := []) rfl (pc' := 73) rfl rfl (W := 0) (Nat.le_of_eq rfl) (by decide) (by decide) (by decide) (by decide) ?_
    intro T92 h92 v92_ X92 q92_
    obtain ⟨rfl, KK92, FF92q0⟩ := q92_
    show OwnGo p e below (T92.setTop (mkF m 73 #[.val (.int p0), .val (.int p1), .val (.int p2), .val (.int p3), .val (.int p4), .val (.int p5), .val (.int (4 : Int32)), .val (.int (1 : Int32)), .val (.int (2 : Int32)), .val (.ref b85), .unset, .unset, .unset, .unset, .unset, .unset, .unset, .unset, .unset, .unset] [])) RR
    have Z92 : n0 ≤ h92.size := Nat.le_trans Z90 KK92.1
    have S_COURSES_92 := own_sta_keep S_COURSES_90 KK92 (own_plS (own_plV Vx90) own_pl0)
    have V_d0_92 := (V_d0_90).keep KK92 (ninS ne_d0_b_86 nin0)
    have S_SPREAD_92 := own_sta_keep S_SPREAD_90 KK92 (own_plS (own_plV Vx90) own_pl0)
    have S_CLUSTERED_92 := own_sta_keep S_CLUSTERED_90 KK92 (own_plS (own_plV Vx90) own_pl0)
    have E_g0_92 := (E_g0_90).keep KK92
    have E_g1_92 := (E_g1_90).keep KK92
    have F_ordinal_g0_92 := (F_ordinal_g0_90).keep KK92 (ninS ne_g0_b_86 nin0)
    have F_ordinal_g1_92 := (F_ordinal_g1_90).keep KK92 (ninS ne_g1_b_86 nin0)
    have A85_92 := (A85_90).keep KK92
    have FF86q0_92 := (FF86q0_90).keep KK92 (ninS ne_b85_b_86 nin0)
    have FF86q1_92 := (FF86q1_90).keep KK92 (ninS ne_b85_b_86 nin0)
    have Vx92 : OwnAr Z h92 b_86 .double ([(0 : Int64), ((0 : Int64) + (p2.toInt64)), ((0 : Int64) + (p4.toInt64)), (0 : Int64), (0 : Int64), ((0 : Int64) + (p3.toInt64)), (0 : Int64), (0 : Int64)].map ownDv) := FF92q0
    refine own_aload X92 at_73 (pc' := 75) rfl rfl rfl ?_
    refine own_getS X92 at_75 (hw _ (List.mem_of_getElem? (i := 34) rfl)) Via.refl S_CLUSTERED_92 (pc' := 78) rfl ?_
    intro T93 X93
    refine own_iload X93 at_78 (pc' := 80) rfl rfl ?_
    refine own_iload X93 at_80 (pc' := 82) rfl rfl ?_
    refine own_i2d X93 at_82 (pc' := 83) rfl ?_
    refine own_callV (a := b85) (argsL := [(.ref g1), (.int (2 : Int32)), (.double (FP.l2d (p5.toInt64)))]) X93 at_83 (y := (⟨"com/example/evenkeel/evenkeel/skew/CourseSums", "add", "(Lcom/example/evenkeel/evenkeel/skew/GroupGrowth$Course;ID)V"⟩ : MethodName)) (by decide) (hw _ (List.mem_of_getElem? (i := 20) rfl)) (hw _ (List.mem_of_getElem? (i := 21) rfl)) (hw _ (List.mem_of_getElem? (i := 23) rfl)) (hw _ (List.mem_of_getElem? (i := 22) rfl)) (hw _ (List.mem_of_getElem? (i := 24) rfl)) (hw _ (List.mem_of_getElem? (i := 3) rfl)) A85_92 (own_rm3 l Z a0 hw b85 b_86 g1 (4 : Int32) (1 : Int32) (2 : Int32) ((p5.toInt64)) ([(0 : Int64), ((0 : Int64) + (p2.toInt64)), ((0 : Int64) + (p4.toInt64)), (0 : Int64), (0 : Int64), ((0 : Int64) + (p3.toInt64)), (0 : Int64), (0 : Int64)]) h92 n0 Z92 FF86q0_92 FF86q1_92 E_g1_92 F_ordinal_g1_92 Vx92 g_b_86 (by decide) (Nat.le_of_ble_eq_true rfl) (show B53 (0 : Int64) from own_Kb own_K0 (by decide)) (own_Kb (own_Ki _) (by decide))) own_pd2 rfl (S := []) rfl (pc' := 86) rfl rfl (W := 0) (Nat.le_of_eq rfl) (by decide) (by decide) (by decide) (by decide) ?_
    intro T94 h94 v94_ X94 q94_
    obtain ⟨rfl, KK94, FF94q0⟩ := q94_
    show OwnGo p e below (T94.setTop (mkF m 86 #[.val (.int p0), .val (.int p1), .val (.int p2), .val (.int p3), .val (.int p4), .val (.int p5), .val (.int (4 : Int32)), .val (.int (1 : Int32)), .val (.int (2 : Int32)), .val (.ref b85), .unset, .unset, .unset, .unset, .unset, .unset, .unset, .unset, .unset, .unset] [])) RR
    have Z94 : n0 ≤ h94.size := Nat.le_trans Z92 KK94.1
    have S_COURSES_94 := own_sta_keep S_COURSES_92 KK94 (own_plS (own_plV Vx92) own_pl0)
    have V_d0_94 := (V_d0_92).keep KK94 (ninS ne_d0_b_86 nin0)
    have S_SPREAD_94 := own_sta_keep S_SPREAD_92 KK94 (own_plS (own_plV Vx92) own_pl0)
    have S_CLUSTERED_94 := own_sta_keep S_CLUSTERED_92 KK94 (own_plS (own_plV Vx92) own_pl0)
    have E_g0_94 := (E_g0_92).keep KK94
    have E_g1_94 := (E_g1_92).keep KK94
    have F_ordinal_g0_94 := (F_ordinal_g0_92).keep KK94 (ninS ne_g0_b_86 nin0)
    have F_ordinal_g1_94 := (F_ordinal_g1_92).keep KK94 (ninS ne_g1_b_86 nin0)
    have A85_94 := (A85_92).keep KK94
    have FF86q0_94 := (FF86q0_92).keep KK94 (ninS ne_b85_b_86 nin0)
    have FF86q1_94 := (FF86q1_92).keep KK94 (ninS ne_b85_b_86 nin0)
    have Vx94 : OwnAr Z h94 b_86 .double ([(0 : Int64), ((0 : Int64) + (p2.toInt64)), ((0 : Int64) + (p4.toInt64)), (0 : Int64), (0 : Int64), ((0 : Int64) + (p3.toInt64)), ((0 : Int64) + (p5.toInt64)), (0 : Int64)].map ownDv) := FF94q0
    refine own_iload X94 at_86 (pc' := 88) rfl rfl ?_
    refine own_i2l X94 at_88 (pc' := 89) rfl ?_
    refine own_iload X94 at_89 (pc' := 91) rfl rfl ?_
    refine own_i2l X94 at_91 (pc' := 92) rfl ?_
    refine own_ladd X94 at_92 (pc' := 93) rfl ?_
    refine own_lstoreV X94 at_93 (pc' := 95) rfl (l' := fun v93 => #[.val (.int p0), .val (.int p1), .val (.int p2), .val (.int p3), .val (.int p4), .val (.int p5), .val (.int (4 : Int32)), .val (.int (1 : Int32)), .val (.int (2 : Int32)), .val (.ref b85), .val (.long v93), .second, .unset, .unset, .unset, .unset, .unset, .unset, .unset, .unset]) (fun _ => rfl) ?_
    intro v93 hv93
    refine own_iloadN X94 at_95 (pc' := 96) rfl rfl ?_
    refine own_i2l X94 at_96 (pc' := 97) rfl ?_
    refine own_iloadN X94 at_97 (pc' := 98) rfl rfl ?_
    refine own_i2l X94 at_98 (pc' := 99) rfl ?_
    refine own_ladd X94 at_99 (pc' := 100) rfl ?_
    refine own_iload X94 at_100 (pc' := 102) rfl rfl ?_
    refine own_iload X94 at_102 (pc' := 104) rfl rfl ?_
    refine own_icY X94 at_104 (feq ((by decide : ¬ ((2 : Int32) = (1 : Int32))))).2 (pc' := 112) (by decide) (by decide) ?_
    refine own_lconst X94 at_112 (pc' := 113) rfl (v := (0 : Int64)) (by decide) ?_
    refine own_ladd X94 at_113 (pc' := 114) rfl ?_
    refine own_lstoreV X94 at_114 (pc' := 116) rfl (l' := fun v114 => #[.val (.int p0), .val (.int p1), .val (.int p2), .val (.int p3), .val (.int p4), .val (.int p5), .val (.int (4 : Int32)), .val (.int (1 : Int32)), .val (.int (2 : Int32)), .val (.ref b85), .val (.long v93), .second, .val (.long v114), .second, .unset, .unset, .unset, .unset, .unset, .unset]) (fun _ => rfl) ?_
    intro v114 hv114
    refine own_iload X94 at_116 (pc' := 118) rfl rfl ?_
    refine own_iload X94 at_118 (pc' := 120) rfl rfl ?_
    refine own_icY X94 at_120 (feq ((by decide : ¬ ((2 : Int32) = (1 : Int32))))).2 (pc' := 128) (by decide) (by decide) ?_
    refine own_lload X94 at_128 (pc' := 130) rfl rfl ?_
    refine own_lstore X94 at_130 (pc' := 132) rfl (l' := #[.val (.int p0), .val (.int p1), .val (.int p2), .val (.int p3), .val (.int p4), .val (.int p5), .val (.int (4 : Int32)), .val (.int (1 : Int32)), .val (.int (2 : Int32)), .val (.ref b85), .val (.long v93), .second, .val (.long v114), .second, .val (.long v93), .second, .unset, .unset, .unset, .unset]) rfl ?_
    refine own_aload X94 at_132 (pc' := 134) rfl rfl rfl ?_
    refine own_iload X94 at_134 (pc' := 136) rfl rfl ?_
    refine own_callV (a := b85) (argsL := [(.int (1 : Int32))]) X94 at_136 (y := (⟨"com/example/evenkeel/evenkeel/skew/CourseSums", "sum", "(I)D"⟩ : MethodName)) (by decide) (hw _ (List.mem_of_getElem? (i := 36) rfl)) (hw _ (List.mem_of_getElem? (i := 37) rfl)) (hw _ (List.mem_of_getElem? (i := 39) rfl)) (hw _ (List.mem_of_getElem? (i := 38) rfl)) (hw _ (List.mem_of_getElem? (i := 40) rfl)) (hw _ (List.mem_of_getElem? (i := 3) rfl)) A85_94 (own_rm5 l Z a0 hw b85 b_86 (4 : Int32) (1 : Int32) ([(0 : Int64), ((0 : Int64) + (p2.toInt64)), ((0 : Int64) + (p4.toInt64)), (0 : Int64), (0 : Int64), ((0 : Int64) + (p3.toInt64)), ((0 : Int64) + (p5.toInt64)), (0 : Int64)]) h94 n0 Z94 FF86q0_94 FF86q1_94 Vx94 (show (1 : Int32) < (8 : Int32) from by decide) (show (5 : Int32) < (8 : Int32) from by decide) (show ¬ ((9 : Int32) < (8 : Int32)) from by decide) (by decide) (Nat.le_of_ble_eq_true rfl) (by decide) (Nat.le_of_ble_eq_true rfl) (show B53 ((0 : Int64) + (p2.toInt64)) from own_Kb (own_Ka own_K0 (own_Ki _) (by decide)) (by decide)) (show B53 ((0 : Int64) + ((0 : Int64) + (p2.toInt64))) from own_Kb (own_Ka own_K0 (own_Ka own_K0 (own_Ki _) (by decide)) (by decide)) (by decide)) (show B53 ((0 : Int64) + (p3.toInt64)) from own_Kb (own_Ka own_K0 (own_Ki _) (by decide)) (by decide))) own_pd3 rfl (S := []) rfl (pc' := 139) rfl rfl (W := 0) (Nat.le_of_eq rfl) (by decide) (by decide) (by decide) (by decide) ?_
    intro T95 h95 v95_ X95 q95_
    obtain ⟨rfl, rfl⟩ := q95_
    obtain ⟨r95, hr95⟩ : ∃ z, z = (((0 : Int64) + ([(0 : Int64), ((0 : Int64) + (p2.toInt64)), ((0 : Int64) + (p4.toInt64)), (0 : Int64), (0 : Int64), ((0 : Int64) + (p3.toInt64)), ((0 : Int64) + (p5.toInt64)), (0 : Int64)].getD ((1 : Int32)).toNatClampNeg 0)) + ([(0 : Int64), ((0 : Int64) + (p2.toInt64)), ((0 : Int64) + (p4.toInt64)), (0 : Int64), (0 : Int64), ((0 : Int64) + (p3.toInt64)), ((0 : Int64) + (p5.toInt64)), (0 : Int64)].getD (((1 : Int32) + (4 : Int32))).toNatClampNeg 0)) := ⟨_, rfl⟩
    show OwnGo p e below (T95.setTop (mkF m 139 #[.val (.int p0), .val (.int p1), .val (.int p2), .val (.int p3), .val (.int p4), .val (.int p5), .val (.int (4 : Int32)), .val (.int (1 : Int32)), .val (.int (2 : Int32)), .val (.ref b85), .val (.long v93), .second, .val (.long v114), .second, .val (.long v93), .second, .unset, .unset, .unset, .unset] [(.double (FP.l2d (((0 : Int64) + ([(0 : Int64), ((0 : Int64) + (p2.toInt64)), ((0 : Int64) + (p4.toInt64)), (0 : Int64), (0 : Int64), ((0 : Int64) + (p3.toInt64)), ((0 : Int64) + (p5.toInt64)), (0 : Int64)].getD ((1 : Int32)).toNatClampNeg 0)) + ([(0 : Int64), ((0 : Int64) + (p2.toInt64)), ((0 : Int64) + (p4.toInt64)), (0 : Int64), (0 : Int64), ((0 : Int64) + (p3.toInt64)), ((0 : Int64) + (p5.toInt64)), (0 : Int64)].getD (((1 : Int32) + (4 : Int32))).toNatClampNeg 0))))])) RR
    rw [← hr95]
    replace hr95 : r95 = (((0 : Int64) + ((0 : Int64) + (p2.toInt64))) + ((0 : Int64) + (p3.toInt64))) := hr95
    refine own_dstore X95 at_139 (pc' := 141) rfl (l' := #[.val (.int p0), .val (.int p1), .val (.int p2), .val (.int p3), .val (.int p4), .val (.int p5), .val (.int (4 : Int32)), .val (.int (1 : Int32)), .val (.int (2 : Int32)), .val (.ref b85), .val (.long v93), .second, .val (.long v114), .second, .val (.long v93), .second, .val (.double (FP.l2d r95)), .second, .unset, .unset]) rfl ?_
    refine own_aload X95 at_141 (pc' := 143) rfl rfl rfl ?_
    refine own_iload X95 at_143 (pc' := 145) rfl rfl ?_
    refine own_callV (a := b85) (argsL := [(.int (2 : Int32))]) X95 at_145 (y := (⟨"com/example/evenkeel/evenkeel/skew/CourseSums", "sum", "(I)D"⟩ : MethodName)) (by decide) (hw _ (List.mem_of_getElem? (i := 36) rfl)) (hw _ (List.mem_of_getElem? (i := 37) rfl)) (hw _ (List.mem_of_getElem? (i := 39) rfl)) (hw _ (List.mem_of_getElem? (i := 38) rfl)) (hw _ (List.mem_of_getElem? (i := 40) rfl)) (hw _ (List.mem_of_getElem? (i := 3) rfl)) A85_94 (own_rm5 l Z a0 hw b85 b_86 (4 : Int32) (2 : Int32) ([(0 : Int64), ((0 : Int64) + (p2.toInt64)), ((0 : Int64) + (p4.toInt64)), (0 : Int64), (0 : Int64), ((0 : Int64) + (p3.toInt64)), ((0 : Int64) + (p5.toInt64)), (0 : Int64)]) h94 n0 Z94 FF86q0_94 FF86q1_94 Vx94 (show (2 : Int32) < (8 : Int32) from by decide) (show (6 : Int32) < (8 : Int32) from by decide) (show ¬ ((10 : Int32) < (8 : Int32)) from by decide) (by decide) (Nat.le_of_ble_eq_true rfl) (by decide) (Nat.le_of_ble_eq_true rfl) (show B53 ((0 : Int64) + (p4.toInt64)) from own_Kb (own_Ka own_K0 (own_Ki _) (by decide)) (by decide)) (show B53 ((0 : Int64) + ((0 : Int64) + (p4.toInt64))) from own_Kb (own_Ka own_K0 (own_Ka own_K0 (own_Ki _) (by decide)) (by decide)) (by decide)) (show B53 ((0 : Int64) + (p5.toInt64)) from own_Kb (own_Ka own_K0 (own_Ki _) (by decide)) (by decide))) own_pd3 rfl (S := []) rfl (pc' := 148) rfl rfl (W := 0) (Nat.le_of_eq rfl) (by decide) (by decide) (by decide) (by decide) ?_
    intro T96 h96 v96_ X96 q96_
    obtain ⟨rfl, rfl⟩ := q96_
    obtain ⟨r96, hr96⟩ : ∃ z, z = (((0 : Int64) + ([(0 : Int64), ((0 : Int64) + (p2.toInt64)), ((0 : Int64) + (p4.toInt64)), (0 : Int64), (0 : Int64), ((0 : Int64) + (p3.toInt64)), ((0 : Int64) + (p5.toInt64)), (0 : Int64)].getD ((2 : Int32)).toNatClampNeg 0)) + ([(0 : Int64), ((0 : Int64) + (p2.toInt64)), ((0 : Int64) + (p4.toInt64)), (0 : Int64), (0 : Int64), ((0 : Int64) + (p3.toInt64)), ((0 : Int64) + (p5.toInt64)), (0 : Int64)].getD (((2 : Int32) + (4 : Int32))).toNatClampNeg 0)) := ⟨_, rfl⟩
    show OwnGo p e below (T96.setTop (mkF m 148 #[.val (.int p0), .val (.int p1), .val (.int p2), .val (.int p3), .val (.int p4), .val (.int p5), .val (.int (4 : Int32)), .val (.int (1 : Int32)), .val (.int (2 : Int32)), .val (.ref b85), .val (.long v93), .second, .val (.long v114), .second, .val (.long v93), .second, .val (.double (FP.l2d r95)), .second, .unset, .unset] [(.double (FP.l2d (((0 : Int64) + ([(0 : Int64), ((0 : Int64) + (p2.toInt64)), ((0 : Int64) + (p4.toInt64)), (0 : Int64), (0 : Int64), ((0 : Int64) + (p3.toInt64)), ((0 : Int64) + (p5.toInt64)), (0 : Int64)].getD ((2 : Int32)).toNatClampNeg 0)) + ([(0 : Int64), ((0 : Int64) + (p2.toInt64)), ((0 : Int64) + (p4.toInt64)), (0 : Int64), (0 : Int64), ((0 : Int64) + (p3.toInt64)), ((0 : Int64) + (p5.toInt64)), (0 : Int64)].getD (((2 : Int32) + (4 : Int32))).toNatClampNeg 0))))])) RR
    rw [← hr96]
    replace hr96 : r96 = (((0 : Int64) + ((0 : Int64) + (p4.toInt64))) + ((0 : Int64) + (p5.toInt64))) := hr96
    refine own_dstore X96 at_148 (pc' := 150) rfl (l' := #[.val (.int p0), .val (.int p1), .val (.int p2), .val (.int p3), .val (.int p4), .val (.int p5), .val (.int (4 : Int32)), .val (.int (1 : Int32)), .val (.int (2 : Int32)), .val (.ref b85), .val (.long v93), .second, .val (.long v114), .second, .val (.long v93), .second, .val (.double (FP.l2d r95)), .second, .val (.double (FP.l2d r96)), .second]) rfl ?_
    refine own_dload X96 at_150 (pc' := 152) rfl rfl ?_
    refine own_lload X96 at_152 (pc' := 154) rfl rfl ?_
    refine own_l2d X96 at_154 (pc' := 155) rfl ?_
    refine own_djN X96 at_155 at_156 (by rw [hr95]; exact own_Kb (own_Ka (own_Ka own_K0 (own_Ka own_K0 (own_Ki _) (by decide)) (by decide)) (own_Ka own_K0 (own_Ki _) (by decide)) (by decide)) (by decide)) (by rw [hv114]; exact own_Kb (own_Ka (own_Ka (own_Ki _) (own_Ki _) (by decide)) own_K0 (by decide)) (by decide)) (own_teqL ((by rw [hr95, hv114]; simp only [Int64.zero_add, Int64.add_zero, Int64.add_assoc, Int64.add_comm, own_alc] : r95 = v114))).2 (pc' := 159) rfl ?_
    refine own_dload X96 at_159 (pc' := 161) rfl rfl ?_
    refine own_lload X96 at_161 (pc' := 163) rfl rfl ?_
    refine own_l2d X96 at_163 (pc' := 164) rfl ?_
    refine own_djN X96 at_164 at_165 (by rw [hr96]; exact own_Kb (own_Ka (own_Ka own_K0 (own_Ka own_K0 (own_Ki _) (by decide)) (by decide)) (own_Ka own_K0 (own_Ki _) (by decide)) (by decide)) (by decide)) (by rw [hv93]; exact own_Kb (own_Ka (own_Ki _) (own_Ki _) (by decide)) (by decide)) (own_teqL ((by rw [hr96, hv93]; simp only [Int64.zero_add, Int64.add_zero, Int64.add_assoc, Int64.add_comm, own_alc] : r96 = v93))).2 (pc' := 168) rfl ?_
    refine own_iconst X96 at_168 (pc' := 169) rfl (v := (1 : Int32)) (by decide) ?_
    refine own_goto X96 at_169 (pc' := 173) (by decide) (by decide) ?_
    exact own_retZ X96 at_173 (by decide) rfl (by decide) (by decide)
  · obtain rfl : v23 = (3 : Int32) := by rw [hv23]; decide
    refine own_new X0 at_25 (hw _ (List.mem_of_getElem? (i := 1) rfl)) (hw _ (List.mem_of_getElem? (i := 2) rfl)) (hw _ (List.mem_of_getElem? (i := 3) rfl)) (pc' := 28) rfl (by decide) (by decide) ?_
    intro T97 h97 b97 hb97 X97 E97 A97 D97
    have g_b97 : n0 ≤ b97 := Nat.le_trans Z0 (Nat.le_of_eq hb97.symm)
    have ne_d0_b97 : d0 ≠ b97 := Nat.ne_of_lt (Nat.lt_of_lt_of_le (V_d0).lt (Nat.le_of_eq hb97.symm))
    have ne_g0_b97 : g0 ≠ b97 := Nat.ne_of_lt (Nat.lt_of_lt_of_le (E_g0).lt (Nat.le_of_eq hb97.symm))
    have ne_g1_b97 : g1 ≠ b97 := Nat.ne_of_lt (Nat.lt_of_lt_of_le (E_g1).lt (Nat.le_of_eq hb97.symm))
    have S_COURSES_97 := (S_COURSES).ext E97
    have V_d0_97 := (V_d0).ext E97
    have S_SPREAD_97 := (S_SPREAD).ext E97
    have S_CLUSTERED_97 := (S_CLUSTERED).ext E97
    have E_g0_97 := (E_g0).ext E97
    have E_g1_97 := (E_g1).ext E97
    have F_ordinal_g0_97 := (F_ordinal_g0).ext E97
    have F_ordinal_g1_97 := (F_ordinal_g1).ext E97
    have Z97 : n0 ≤ h97.size := Nat.le_trans Z0 E97.1
    have F_slots_b97 : Fld Z h97 b97 "com/example/evenkeel/evenkeel/skew/CourseSums" "slots" "I" (.int (0 : Int32)) := D97 (Or.inr (hw _ (List.mem_of_getElem? (i := 11) rfl))) (ty := .int) (by decide)
    have F_sums_b97 : Fld Z h97 b97 "com/example/evenkeel/evenkeel/skew/CourseSums" "sums" "[D" .null := D97 (Or.inr (hw _ (List.mem_of_getElem? (i := 16) rfl))) (ty := (.array .double)) (by decide)
    refine own_dup X97 at_28 (pc' := 29) rfl rfl ?_
    refine own_iload X97 at_29 (pc' := 31) rfl rfl ?_
    refine own_callC (a := b97) (argsL := [(.int (4 : Int32))]) X97 at_31 (y := (⟨"com/example/evenkeel/evenkeel/skew/CourseSums", "<init>", "(I)V"⟩ : MethodName)) (by decide) (hw _ (List.mem_of_getElem? (i := 4) rfl)) (hw _ (List.mem_of_getElem? (i := 5) rfl)) (hw _ (List.mem_of_getElem? (i := 6) rfl)) (hw _ (List.mem_of_getElem? (i := 3) rfl)) (own_rm1_4 l Z a0 hw b97 d0 vs (0 : Int32) h97 n0 Z97 A97 F_slots_b97 F_sums_b97 S_COURSES_97 V_d0_97 g_b97 ne_d0_b97 hvs) own_pd1 rfl (S := [(.ref b97)]) rfl (pc' := 34) rfl rfl (W := 1) (Nat.le_of_eq rfl) (by decide) (by decide) (by decide) (by decide) ?_
    intro T98 h98 v98_ X98 q98_
    obtain ⟨b_98, rfl, KK98, FF98q0, FF98q1, FF98q2, FF98q3⟩ := q98_
    show OwnGo p e below (T98.setTop (mkF m 34 #[.val (.int p0), .val (.int p1), .val (.int p2), .val (.int p3), .val (.int p4), .val (.int p5), .val (.int (4 : Int32)), .val (.int (2 : Int32)), .val (.int (3 : Int32)), .unset, .unset, .unset, .unset, .unset, .unset, .unset, .unset, .unset, .unset, .unset] [(.ref b97)])) RR
    have Z98 : n0 ≤ h98.size := Nat.le_trans Z97 KK98.1
    have S_COURSES_98 := own_sta_keep S_COURSES_97 KK98 (own_plS (own_plE A97) own_pl0)
    have V_d0_98 := (V_d0_97).keep KK98 (ninS ne_d0_b97 nin0)
    have S_SPREAD_98 := own_sta_keep S_SPREAD_97 KK98 (own_plS (own_plE A97) own_pl0)
    have S_CLUSTERED_98 := own_sta_keep S_CLUSTERED_97 KK98 (own_plS (own_plE A97) own_pl0)
    have E_g0_98 := (E_g0_97).keep KK98
    have E_g1_98 := (E_g1_97).keep KK98
    have F_ordinal_g0_98 := (F_ordinal_g0_97).keep KK98 (ninS ne_g0_b97 nin0)
    have F_ordinal_g1_98 := (F_ordinal_g1_97).keep KK98 (ninS ne_g1_b97 nin0)
    have A97_98 := (A97).keep KK98
    have ne_d0_b_98 : d0 ≠ b_98 := Nat.ne_of_lt (Nat.lt_of_lt_of_le (V_d0_97).lt FF98q2)
    have ne_g0_b_98 : g0 ≠ b_98 := Nat.ne_of_lt (Nat.lt_of_lt_of_le (E_g0_97).lt FF98q2)
    have ne_g1_b_98 : g1 ≠ b_98 := Nat.ne_of_lt (Nat.lt_of_lt_of_le (E_g1_97).lt FF98q2)
    have ne_b97_b_98 : b97 ≠ b_98 := Nat.ne_of_lt (Nat.lt_of_lt_of_le (A97).lt FF98q2)
    have g_b_98 : n0 ≤ b_98 := Nat.le_trans Z97 FF98q2
    refine own_astore X98 at_34 (pc' := 36) rfl rfl (l' := #[.val (.int p0), .val (.int p1), .val (.int p2), .val (.int p3), .val (.int p4), .val (.int p5), .val (.int (4 : Int32)), .val (.int (2 : Int32)), .val (.int (3 : Int32)), .val (.ref b97), .unset, .unset, .unset, .unset, .unset, .unset, .unset, .unset, .unset, .unset]) rfl ?_
    refine own_aload X98 at_36 (pc' := 38) rfl rfl rfl ?_
    refine own_getS X98 at_38 (hw _ (List.mem_of_getElem? (i := 17) rfl)) Via.refl S_SPREAD_98 (pc' := 41) rfl ?_
    intro T99 X99
    refine own_iload X99 at_41 (pc' := 43) rfl rfl ?_
    refine own_iloadN X99 at_43 (pc' := 44) rfl rfl ?_
    refine own_i2d X99 at_44 (pc' := 45) rfl ?_
    refine own_callV (a := b97) (argsL := [(.ref g0), (.int (2 : Int32)), (.double (FP.l2d (p2.toInt64)))]) X99 at_45 (y := (⟨"com/example/evenkeel/evenkeel/skew/CourseSums", "add", "(Lcom/example/evenkeel/evenkeel/skew/GroupGrowth$Course;ID)V"⟩ : MethodName)) (by decide) (hw _ (List.mem_of_getElem? (i := 20) rfl)) (hw _ (List.mem_of_getElem? (i := 21) rfl)) (hw _ (List.mem_of_getElem? (i := 23) rfl)) (hw _ (List.mem_of_getElem? (i := 22) rfl)) (hw _ (List.mem_of_getElem? (i := 24) rfl)) (hw _ (List.mem_of_getElem? (i := 3) rfl)) A97_98 (own_rm3 l Z a0 hw b97 b_98 g0 (4 : Int32) (0 : Int32) (2 : Int32) ((p2.toInt64)) ([(0 : Int64), (0 : Int64), (0 : Int64), (0 : Int64), (0 : Int64), (0 : Int64), (0 : Int64), (0 : Int64)]) h98 n0 Z98 FF98q0 FF98q1 E_g0_98 F_ordinal_g0_98 FF98q3 g_b_98 (by decide) (Nat.le_of_ble_eq_true rfl) (show B53 (0 : Int64) from own_Kb own_K0 (by decide)) (own_Kb (own_Ki _) (by decide))) own_pd2 rfl (S := []) rfl (pc' := 48) rfl rfl (W := 0) (Nat.le_of_eq rfl) (by decide) (by decide) (by decide) (by decide) ?_
    intro T100 h100 v100_ X100 q100_
    obtain ⟨rfl, KK100, FF100q0⟩ := q100_
    show OwnGo p e below (T100.setTop (mkF m 48 #[.val (.int p0), .val (.int p1), .val (.int p2), .val (.int p3), .val (.int p4), .val (.int p5), .val (.int (4 : Int32)), .val (.int (2 : Int32)), .val (.int (3 : Int32)), .val (.ref b97), .unset, .unset, .unset, .unset, .unset, .unset, .unset, .unset, .unset, .unset] [])) RR
    have Z100 : n0 ≤ h100.size := Nat.le_trans Z98 KK100.1
    have S_COURSES_100 := own_sta_keep S_COURSES_98 KK100 (own_plS (own_plV FF98q3) own_pl0)
    have V_d0_100 := (V_d0_98).keep KK100 (ninS ne_d0_b_98 nin0)
    have S_SPREAD_100 := own_sta_keep S_SPREAD_98 KK100 (own_plS (own_plV FF98q3) own_pl0)
    have S_CLUSTERED_100 := own_sta_keep S_CLUSTERED_98 KK100 (own_plS (own_plV FF98q3) own_pl0)
    have E_g0_100 := (E_g0_98).keep KK100
    have E_g1_100 := (E_g1_98).keep KK100
    have F_ordinal_g0_100 := (F_ordinal_g0_98).keep KK100 (ninS ne_g0_b_98 nin0)
    have F_ordinal_g1_100 := (F_ordinal_g1_98).keep KK100 (ninS ne_g1_b_98 nin0)
    have A97_100 := (A97_98).keep KK100
    have FF98q0_100 := (FF98q0).keep KK100 (ninS ne_b97_b_98 nin0)
    have FF98q1_100 := (FF98q1).keep KK100 (ninS ne_b97_b_98 nin0)
    have Vx100 : OwnAr Z h100 b_98 .double ([(0 : Int64), (0 : Int64), ((0 : Int64) + (p2.toInt64)), (0 : Int64), (0 : Int64), (0 : Int64), (0 : Int64), (0 : Int64)].map ownDv) := FF100q0
    refine own_aload X100 at_48 (pc' := 50) rfl rfl rfl ?_
    refine own_getS X100 at_50 (hw _ (List.mem_of_getElem? (i := 34) rfl)) Via.refl S_CLUSTERED_100 (pc' := 53) rfl ?_
    intro T101 X101
    refine own_iload X101 at_53 (pc' := 55) rfl rfl ?_
    refine own_iloadN X101 at_55 (pc' := 56) rfl rfl ?_
    refine own_i2d X101 at_56 (pc' := 57) rfl ?_
    refine own_callV (a := b97) (argsL := [(.ref g1), (.int (2 : Int32)), (.double (FP.l2d (p3.toInt64)))]) X101 at_57 (y := (⟨"com/example/evenkeel/evenkeel/skew/CourseSums", "add", "(Lcom/example/evenkeel/evenkeel/skew/GroupGrowth$Course;ID)V"⟩ : MethodName)) (by decide) (hw _ (List.mem_of_getElem? (i := 20) rfl)) (hw _ (List.mem_of_getElem? (i := 21) rfl)) (hw _ (List.mem_of_getElem? (i := 23) rfl)) (hw _ (List.mem_of_getElem? (i := 22) rfl)) (hw _ (List.mem_of_getElem? (i := 24) rfl)) (hw _ (List.mem_of_getElem? (i := 3) rfl)) A97_100 (own_rm3 l Z a0 hw b97 b_98 g1 (4 : Int32) (1 : Int32) (2 : Int32) ((p3.toInt64)) ([(0 : Int64), (0 : Int64), ((0 : Int64) + (p2.toInt64)), (0 : Int64), (0 : Int64), (0 : Int64), (0 : Int64), (0 : Int64)]) h100 n0 Z100 FF98q0_100 FF98q1_100 E_g1_100 F_ordinal_g1_100 Vx100 g_b_98 (by decide) (Nat.le_of_ble_eq_true rfl) (show B53 (0 : Int64) from own_Kb own_K0 (by decide)) (own_Kb (own_Ki _) (by decide))) own_pd2 rfl (S := []) rfl (pc' := 60) rfl rfl (W := 0) (Nat.le_of_eq rfl) (by decide) (by decide) (by decide) (by decide) ?_
    intro T102 h102 v102_ X102 q102_
    obtain ⟨rfl, KK102, FF102q0⟩ := q102_
    show OwnGo p e below (T102.setTop (mkF m 60 #[.val (.int p0), .val (.int p1), .val (.int p2), .val (.int p3), .val (.int p4), .val (.int p5), .val (.int (4 : Int32)), .val (.int (2 : Int32)), .val (.int (3 : Int32)), .val (.ref b97), .unset, .unset, .unset, .unset, .unset, .unset, .unset, .unset, .unset, .unset] [])) RR
    have Z102 : n0 ≤ h102.size := Nat.le_trans Z100 KK102.1
    have S_COURSES_102 := own_sta_keep S_COURSES_100 KK102 (own_plS (own_plV Vx100) own_pl0)
    have V_d0_102 := (V_d0_100).keep KK102 (ninS ne_d0_b_98 nin0)
    have S_SPREAD_102 := own_sta_keep S_SPREAD_100 KK102 (own_plS (own_plV Vx100) own_pl0)
    have S_CLUSTERED_102 := own_sta_keep S_CLUSTERED_100 KK102 (own_plS (own_plV Vx100) own_pl0)
    have E_g0_102 := (E_g0_100).keep KK102
    have E_g1_102 := (E_g1_100).keep KK102
    have F_ordinal_g0_102 := (F_ordinal_g0_100).keep KK102 (ninS ne_g0_b_98 nin0)
    have F_ordinal_g1_102 := (F_ordinal_g1_100).keep KK102 (ninS ne_g1_b_98 nin0)
    have A97_102 := (A97_100).keep KK102
    have FF98q0_102 := (FF98q0_100).keep KK102 (ninS ne_b97_b_98 nin0)
    have FF98q1_102 := (FF98q1_100).keep KK102 (ninS ne_b97_b_98 nin0)
    have Vx102 : OwnAr Z h102 b_98 .double ([(0 : Int64), (0 : Int64), ((0 : Int64) + (p2.toInt64)), (0 : Int64), (0 : Int64), (0 : Int64), ((0 : Int64) + (p3.toInt64)), (0 : Int64)].map ownDv) := FF102q0
    refine own_aload X102 at_60 (pc' := 62) rfl rfl rfl ?_
    refine own_getS X102 at_62 (hw _ (List.mem_of_getElem? (i := 17) rfl)) Via.refl S_SPREAD_102 (pc' := 65) rfl ?_
    intro T103 X103
    refine own_iload X103 at_65 (pc' := 67) rfl rfl ?_
    refine own_iload X103 at_67 (pc' := 69) rfl rfl ?_
    refine own_i2d X103 at_69 (pc' := 70) rfl ?_
    refine own_callV (a := b97) (argsL := [(.ref g0), (.int (3 : Int32)), (.double (FP.l2d (p4.toInt64)))]) X103 at_70 (y := (⟨"com/example/evenkeel/evenkeel/skew/CourseSums", "add", "(Lcom/example/evenkeel/evenkeel/skew/GroupGrowth$Course;ID)V"⟩ : MethodName)) (by decide) (hw _ (List.mem_of_getElem? (i := 20) rfl)) (hw _ (List.mem_of_getElem? (i := 21) rfl)) (hw _ (List.mem_of_getElem? (i := 23) rfl)) (hw _ (List.mem_of_getElem? (i := 22) rfl)) (hw _ (List.mem_of_getElem? (i := 24) rfl)) (hw _ (List.mem_of_getElem? (i := 3) rfl)) A97_102 (own_rm3 l Z a0 hw b97 b_98 g0 (4 : Int32) (0 : Int32) (3 : Int32) ((p4.toInt64)) ([(0 : Int64), (0 : Int64), ((0 : Int64) + (p2.toInt64)), (0 : Int64), (0 : Int64), (0 : Int64), ((0 : Int64) + (p3.toInt64)), (0 : Int64)]) h102 n0 Z102 FF98q0_102 FF98q1_102 E_g0_102 F_ordinal_g0_102 Vx102 g_b_98 (by decide) (Nat.le_of_ble_eq_true rfl) (show B53 (0 : Int64) from own_Kb own_K0 (by decide)) (own_Kb (own_Ki _) (by decide))) own_pd2 rfl (S := []) rfl (pc' := 73) rfl rfl (W := 0) (Nat.le_of_eq rfl) (by decide) (by decide) (by decide) (by decide) ?_
    intro T104 h104 v104_ X104 q104_
    obtain ⟨rfl, KK104, FF104q0⟩ := q104_
    show OwnGo p e below (T104.setTop (mkF m 73 #[.val (.int p0), .val (.int p1), .val (.int p2), .val (.int p3), .val (.int p4), .val (.int p5), .val (.int (4 : Int32)), .val (.int (2 : Int32)), .val (.int (3 : Int32)), .val (.ref b97), .unset, .unset, .unset, .unset, .unset, .unset, .unset, .unset, .unset, .unset] [])) RR
    have Z104 : n0 ≤ h104.size := Nat.le_trans Z102 KK104.1
    have S_COURSES_104 := own_sta_keep S_COURSES_102 KK104 (own_plS (own_plV Vx102) own_pl0)
    have V_d0_104 := (V_d0_102).keep KK104 (ninS ne_d0_b_98 nin0)
    have S_SPREAD_104 := own_sta_keep S_SPREAD_102 KK104 (own_plS (own_plV Vx102) own_pl0)
    have S_CLUSTERED_104 := own_sta_keep S_CLUSTERED_102 KK104 (own_plS (own_plV Vx102) own_pl0)
    have E_g0_104 := (E_g0_102).keep KK104
    have E_g1_104 := (E_g1_102).keep KK104
    have F_ordinal_g0_104 := (F_ordinal_g0_102).keep KK104 (ninS ne_g0_b_98 nin0)
    have F_ordinal_g1_104 := (F_ordinal_g1_102).keep KK104 (ninS ne_g1_b_98 nin0)
    have A97_104 := (A97_102).keep KK104
    have FF98q0_104 := (FF98q0_102).keep KK104 (ninS ne_b97_b_98 nin0)
    have FF98q1_104 := (FF98q1_102).keep KK104 (ninS ne_b97_b_98 nin0)
    have Vx104 : OwnAr Z h104 b_98 .double ([(0 : Int64), (0 : Int64), ((0 : Int64) + (p2.toInt64)), ((0 : Int64) + (p4.toInt64)), (0 : Int64), (0 : Int64), ((0 : Int64) + (p3.toInt64)), (0 : Int64)].map ownDv) := FF104q0
    refine own_aload X104 at_73 (pc' := 75) rfl rfl rfl ?_
    refine own_getS X104 at_75 (hw _ (List.mem_of_getElem? (i := 34) rfl)) Via.refl S_CLUSTERED_104 (pc' := 78) rfl ?_
    intro T105 X105
    refine own_iload X105 at_78 (pc' := 80) rfl rfl ?_
    refine own_iload X105 at_80 (pc' := 82) rfl rfl ?_
    refine own_i2d X105 at_82 (pc' := 83) rfl ?_
    refine own_callV (a := b97) (argsL := [(.ref g1), (.int (3 : Int32)), (.double (FP.l2d (p5.toInt64)))]) X105 at_83 (y := (⟨"com/example/evenkeel/evenkeel/skew/CourseSums", "add", "(Lcom/example/evenkeel/evenkeel/skew/GroupGrowth$Course;ID)V"⟩ : MethodName)) (by decide) (hw _ (List.mem_of_getElem? (i := 20) rfl)) (hw _ (List.mem_of_getElem? (i := 21) rfl)) (hw _ (List.mem_of_getElem? (i := 23) rfl)) (hw _ (List.mem_of_getElem? (i := 22) rfl)) (hw _ (List.mem_of_getElem? (i := 24) rfl)) (hw _ (List.mem_of_getElem? (i := 3) rfl)) A97_104 (own_rm3 l Z a0 hw b97 b_98 g1 (4 : Int32) (1 : Int32) (3 : Int32) ((p5.toInt64)) ([(0 : Int64), (0 : Int64), ((0 : Int64) + (p2.toInt64)), ((0 : Int64) + (p4.toInt64)), (0 : Int64), (0 : Int64), ((0 : Int64) + (p3.toInt64)), (0 : Int64)]) h104 n0 Z104 FF98q0_104 FF98q1_104 E_g1_104 F_ordinal_g1_104 Vx104 g_b_98 (by decide) (Nat.le_of_ble_eq_true rfl) (show B53 (0 : Int64) from own_Kb own_K0 (by decide)) (own_Kb (own_Ki _) (by decide))) own_pd2 rfl (S := []) rfl (pc' := 86) rfl rfl (W := 0) (Nat.le_of_eq rfl) (by decide) (by decide) (by decide) (by decide) ?_
    intro T106 h106 v106_ X106 q106_
    obtain ⟨rfl, KK106, FF106q0⟩ := q106_
    show OwnGo p e below (T106.setTop (mkF m 86 #[.val (.int p0), .val (.int p1), .val (.int p2), .val (.int p3), .val (.int p4), .val (.int p5), .val (.int (4 : Int32)), .val (.int (2 : Int32)), .val (.int (3 : Int32)), .val (.ref b97), .unset, .unset, .unset, .unset, .unset, .unset, .unset, .unset, .unset, .unset] [])) RR
    have Z106 : n0 ≤ h106.size := Nat.le_trans Z104 KK106.1
    have S_COURSES_106 := own_sta_keep S_COURSES_104 KK106 (own_plS (own_plV Vx104) own_pl0)
    have V_d0_106 := (V_d0_104).keep KK106 (ninS ne_d0_b_98 nin0)
    have S_SPREAD_106 := own_sta_keep S_SPREAD_104 KK106 (own_plS (own_plV Vx104) own_pl0)
    have S_CLUSTERED_106 := own_sta_keep S_CLUSTERED_104 KK106 (own_plS (own_plV Vx104) own_pl0)
    have E_g0_106 := (E_g0_104).keep KK106
    have E_g1_106 := (E_g1_104).keep KK106
    have F_ordinal_g0_106 := (F_ordinal_g0_104).keep KK106 (ninS ne_g0_b_98 nin0)
    have F_ordinal_g1_106 := (F_ordinal_g1_104).keep KK106 (ninS ne_g1_b_98 nin0)
    have A97_106 := (A97_104).keep KK106
    have FF98q0_106 := (FF98q0_104).keep KK106 (ninS ne_b97_b_98 nin0)
    have FF98q1_106 := (FF98q1_104).keep KK106 (ninS ne_b97_b_98 nin0)
    have Vx106 : OwnAr Z h106 b_98 .double ([(0 : Int64), (0 : Int64), ((0 : Int64) + (p2.toInt64)), ((0 : Int64) + (p4.toInt64)), (0 : Int64), (0 : Int64), ((0 : Int64) + (p3.toInt64)), ((0 : Int64) + (p5.toInt64))].map ownDv) := FF106q0
    refine own_iload X106 at_86 (pc' := 88) rfl rfl ?_
    refine own_i2l X106 at_88 (pc' := 89) rfl ?_
    refine own_iload X106 at_89 (pc' := 91) rfl rfl ?_
    refine own_i2l X106 at_91 (pc' := 92) rfl ?_
    refine own_ladd X106 at_92 (pc' := 93) rfl ?_
    refine own_lstoreV X106 at_93 (pc' := 95) rfl (l' := fun v93 => #[.val (.int p0), .val (.int p1), .val (.int p2), .val (.int p3), .val (.int p4), .val (.int p5), .val (.int (4 : Int32)), .val (.int (2 : Int32)), .val (.int (3 : Int32)), .val (.ref b97), .val (.long v93), .second, .unset, .unset, .unset, .unset, .unset, .unset, .unset, .unset]) (fun _ => rfl) ?_
    intro v93 hv93
    refine own_iloadN X106 at_95 (pc' := 96) rfl rfl ?_
    refine own_i2l X106 at_96 (pc' := 97) rfl ?_
    refine own_iloadN X106 at_97 (pc' := 98) rfl rfl ?_
    refine own_i2l X106 at_98 (pc' := 99) rfl ?_
    refine own_ladd X106 at_99 (pc' := 100) rfl ?_
    refine own_iload X106 at_100 (pc' := 102) rfl rfl ?_
    refine own_iload X106 at_102 (pc' := 104) rfl rfl ?_
    refine own_icY X106 at_104 (feq ((by decide : ¬ ((3 : Int32) = (2 : Int32))))).2 (pc' := 112) (by decide) (by decide) ?_
    refine own_lconst X106 at_112 (pc' := 113) rfl (v := (0 : Int64)) (by decide) ?_
    refine own_ladd X106 at_113 (pc' := 114) rfl ?_
    refine own_lstoreV X106 at_114 (pc' := 116) rfl (l' := fun v114 => #[.val (.int p0), .val (.int p1), .val (.int p2), .val (.int p3), .val (.int p4), .val (.int p5), .val (.int (4 : Int32)), .val (.int (2 : Int32)), .val (.int (3 : Int32)), .val (.ref b97), .val (.long v93), .second, .val (.long v114), .second, .unset, .unset, .unset, .unset, .unset, .unset]) (fun _ => rfl) ?_
    intro v114 hv114
    refine own_iload X106 at_116 (pc' := 118) rfl rfl ?_
    refine own_iload X106 at_118 (pc' := 120) rfl rfl ?_
    refine own_icY X106 at_120 (feq ((by decide : ¬ ((3 : Int32) = (2 : Int32))))).2 (pc' := 128) (by decide) (by decide) ?_
    refine own_lload X106 at_128 (pc' := 130) rfl rfl ?_
    refine own_lstore X106 at_130 (pc' := 132) rfl (l' := #[.val (.int p0), .val (.int p1), .val (.int p2), .val (.int p3), .val (.int p4), .val (.int p5), .val (.int (4 : Int32)), .val (.int (2 : Int32)), .val (.int (3 : Int32)), .val (.ref b97), .val (.long v93), .second, .val (.long v114), .second, .val (.long v93), .second, .unset, .unset, .unset, .unset]) rfl ?_
    refine own_aload X106 at_132 (pc' := 134) rfl rfl rfl ?_
    refine own_iload X106 at_134 (pc' := 136) rfl rfl ?_
    refine own_callV (a := b97) (argsL := [(.int (2 : Int32))]) X106 at_136 (y := (⟨"com/example/evenkeel/evenkeel/skew/CourseSums", "sum", "(I)D"⟩ : MethodName)) (by decide) (hw _ (List.mem_of_getElem? (i := 36) rfl)) (hw _ (List.mem_of_getElem? (i := 37) rfl)) (hw _ (List.mem_of_getElem? (i := 39) rfl)) (hw _ (List.mem_of_getElem? (i := 38) rfl)) (hw _ (List.mem_of_getElem? (i := 40) rfl)) (hw _ (List.mem_of_getElem? (i := 3) rfl)) A97_106 (own_rm5 l Z a0 hw b97 b_98 (4 : Int32) (2 : Int32) ([(0 : Int64), (0 : Int64), ((0 : Int64) + (p2.toInt64)), ((0 : Int64) + (p4.toInt64)), (0 : Int64), (0 : Int64), ((0 : Int64) + (p3.toInt64)), ((0 : Int64) + (p5.toInt64))]) h106 n0 Z106 FF98q0_106 FF98q1_106 Vx106 (show (2 : Int32) < (8 : Int32) from by decide) (show (6 : Int32) < (8 : Int32) from by decide) (show ¬ ((10 : Int32) < (8 : Int32)) from by decide) (by decide) (Nat.le_of_ble_eq_true rfl) (by decide) (Nat.le_of_ble_eq_true rfl) (show B53 ((0 : Int64) + (p2.toInt64)) from own_Kb (own_Ka own_K0 (own_Ki _) (by decide)) (by decide)) (show B53 ((0 : Int64) + ((0 : Int64) + (p2.toInt64))) from own_Kb (own_Ka own_K0 (own_Ka own_K0 (own_Ki _) (by decide)) (by decide)) (by decide)) (show B53 ((0 : Int64) + (p3.toInt64)) from own_Kb (own_Ka own_K0 (own_Ki _) (by decide)) (by decide))) own_pd3 rfl (S := []) rfl (pc' := 139) rfl rfl (W := 0) (Nat.le_of_eq rfl) (by decide) (by decide) (by decide) (by decide) ?_
    intro T107 h107 v107_ X107 q107_
    obtain ⟨rfl, rfl⟩ := q107_
    obtain ⟨r107, hr107⟩ : ∃ z, z = (((0 : Int64) + ([(0 : Int64), (0 : Int64), ((0 : Int64) + (p2.toInt64)), ((0 : Int64) + (p4.toInt64)), (0 : Int64), (0 : Int64), ((0 : Int64) + (p3.toInt64)), ((0 : Int64) + (p5.toInt64))].getD ((2 : Int32)).toNatClampNeg 0)) + ([(0 : Int64), (0 : Int64), ((0 : Int64) + (p2.toInt64)), ((0 : Int64) + (p4.toInt64)), (0 : Int64), (0 : Int64), ((0 : Int64) + (p3.toInt64)), ((0 : Int64) + (p5.toInt64))].getD (((2 : Int32) + (4 : Int32))).toNatClampNeg 0)) := ⟨_, rfl⟩
    show OwnGo p e below (T107.setTop (mkF m 139 #[.val (.int p0), .val (.int p1), .val (.int p2), .val (.int p3), .val (.int p4), .val (.int p5), .val (.int (4 : Int32)), .val (.int (2 : Int32)), .val (.int (3 : Int32)), .val (.ref b97), .val (.long v93), .second, .val (.long v114), .second, .val (.long v93), .second, .unset, .unset, .unset, .unset] [(.double (FP.l2d (((0 : Int64) + ([(0 : Int64), (0 : Int64), ((0 : Int64) + (p2.toInt64)), ((0 : Int64) + (p4.toInt64)), (0 : Int64), (0 : Int64), ((0 : Int64) + (p3.toInt64)), ((0 : Int64) + (p5.toInt64))].getD ((2 : Int32)).toNatClampNeg 0)) + ([(0 : Int64), (0 : Int64), ((0 : Int64) + (p2.toInt64)), ((0 : Int64) + (p4.toInt64)), (0 : Int64), (0 : Int64), ((0 : Int64) + (p3.toInt64)), ((0 : Int64) + (p5.toInt64))].getD (((2 : Int32) + (4 : Int32))).toNatClampNeg 0))))])) RR
    rw [← hr107]
    replace hr107 : r107 = (((0 : Int64) + ((0 : Int64) + (p2.toInt64))) + ((0 : Int64) + (p3.toInt64))) := hr107
    refine own_dstore X107 at_139 (pc' := 141) rfl (l' := #[.val (.int p0), .val (.int p1), .val (.int p2), .val (.int p3), .val (.int p4), .val (.int p5), .val (.int (4 : Int32)), .val (.int (2 : Int32)), .val (.int (3 : Int32)), .val (.ref b97), .val (.long v93), .second, .val (.long v114), .second, .val (.long v93), .second, .val (.double (FP.l2d r107)), .second, .unset, .unset]) rfl ?_
    refine own_aload X107 at_141 (pc' := 143) rfl rfl rfl ?_
    refine own_iload X107 at_143 (pc' := 145) rfl rfl ?_
    refine own_callV (a := b97) (argsL := [(.int (3 : Int32))]) X107 at_145 (y := (⟨"com/example/evenkeel/evenkeel/skew/CourseSums", "sum", "(I)D"⟩ : MethodName)) (by decide) (hw _ (List.mem_of_getElem? (i := 36) rfl)) (hw _ (List.mem_of_getElem? (i := 37) rfl)) (hw _ (List.mem_of_getElem? (i := 39) rfl)) (hw _ (List.mem_of_getElem? (i := 38) rfl)) (hw _ (List.mem_of_getElem? (i := 40) rfl)) (hw _ (List.mem_of_getElem? (i := 3) rfl)) A97_106 (own_rm5 l Z a0 hw b97 b_98 (4 : Int32) (3 : Int32) ([(0 : Int64), (0 : Int64), ((0 : Int64) + (p2.toInt64)), ((0 : Int64) + (p4.toInt64)), (0 : Int64), (0 : Int64), ((0 : Int64) + (p3.toInt64)), ((0 : Int64) + (p5.toInt64))]) h106 n0 Z106 FF98q0_106 FF98q1_106 Vx106 (show (3 : Int32) < (8 : Int32) from by decide) (show (7 : Int32) < (8 : Int32) from by decide) (show ¬ ((11 : Int32) < (8 : Int32)) from by decide) (by decide) (Nat.le_of_ble_eq_true rfl) (by decide) (Nat.le_of_ble_eq_true rfl) (show B53 ((0 : Int64) + (p4.toInt64)) from own_Kb (own_Ka own_K0 (own_Ki _) (by decide)) (by decide)) (show B53 ((0 : Int64) + ((0 : Int64) + (p4.toInt64))) from own_Kb (own_Ka own_K0 (own_Ka own_K0 (own_Ki _) (by decide)) (by decide)) (by decide)) (show B53 ((0 : Int64) + (p5.toInt64)) from own_Kb (own_Ka own_K0 (own_Ki _) (by decide)) (by decide))) own_pd3 rfl (S := []) rfl (pc' := 148) rfl rfl (W := 0) (Nat.le_of_eq rfl) (by decide) (by decide) (by decide) (by decide) ?_
    intro T108 h108 v108_ X108 q108_
    obtain ⟨rfl, rfl⟩ := q108_
    obtain ⟨r108, hr108⟩ : ∃ z, z = (((0 : Int64) + ([(0 : Int64), (0 : Int64), ((0 : Int64) + (p2.toInt64)), ((0 : Int64) + (p4.toInt64)), (0 : Int64), (0 : Int64), ((0 : Int64) + (p3.toInt64)), ((0 : Int64) + (p5.toInt64))].getD ((3 : Int32)).toNatClampNeg 0)) + ([(0 : Int64), (0 : Int64), ((0 : Int64) + (p2.toInt64)), ((0 : Int64) + (p4.toInt64)), (0 : Int64), (0 : Int64), ((0 : Int64) + (p3.toInt64)), ((0 : Int64) + (p5.toInt64))].getD (((3 : Int32) + (4 : Int32))).toNatClampNeg 0)) := ⟨_, rfl⟩
    show OwnGo p e below (T108.setTop (mkF m 148 #[.val (.int p0), .val (.int p1), .val (.int p2), .val (.int p3), .val (.int p4), .val (.int p5), .val (.int (4 : Int32)), .val (.int (2 : Int32)), .val (.int (3 : Int32)), .val (.ref b97), .val (.long v93), .second, .val (.long v114), .second, .val (.long v93), .second, .val (.double (FP.l2d r107)), .second, .unset, .unset] [(.double (FP.l2d (((0 : Int64) + ([(0 : Int64), (0 : Int64), ((0 : Int64) + (p2.toInt64)), ((0 : Int64) + (p4.toInt64)), (0 : Int64), (0 : Int64), ((0 : Int64) + (p3.toInt64)), ((0 : Int64) + (p5.toInt64))].getD ((3 : Int32)).toNatClampNeg 0)) + ([(0 : Int64), (0 : Int64), ((0 : Int64) + (p2.toInt64)), ((0 : Int64) + (p4.toInt64)), (0 : Int64), (0 : Int64), ((0 : Int64) + (p3.toInt64)), ((0 : Int64) + (p5.toInt64))].getD (((3 : Int32) + (4 : Int32))).toNatClampNeg 0))))])) RR
    rw [← hr108]
    replace hr108 : r108 = (((0 : Int64) + ((0 : Int64) + (p4.toInt64))) + ((0 : Int64) + (p5.toInt64))) := hr108
    refine own_dstore X108 at_148 (pc' := 150) rfl (l' := #[.val (.int p0), .val (.int p1), .val (.int p2), .val (.int p3), .val (.int p4), .val (.int p5), .val (.int (4 : Int32)), .val (.int (2 : Int32)), .val (.int (3 : Int32)), .val (.ref b97), .val (.long v93), .second, .val (.long v114), .second, .val (.long v93), .second, .val (.double (FP.l2d r107)), .second, .val (.double (FP.l2d r108)), .second]) rfl ?_
    refine own_dload X108 at_150 (pc' := 152) rfl rfl ?_
    refine own_lload X108 at_152 (pc' := 154) rfl rfl ?_
    refine own_l2d X108 at_154 (pc' := 155) rfl ?_
    refine own_djN X108 at_155 at_156 (by rw [hr107]; exact own_Kb (own_Ka (own_Ka own_K0 (own_Ka own_K0 (own_Ki _) (by decide)) (by decide)) (own_Ka own_K0 (own_Ki _) (by decide)) (by decide)) (by decide)) (by rw [hv114]; exact own_Kb (own_Ka (own_Ka (own_Ki _) (own_Ki _) (by decide)) own_K0 (by decide)) (by decide)) (own_teqL ((by rw [hr107, hv114]; simp only [Int64.zero_add, Int64.add_zero, Int64.add_assoc, Int64.add_comm, own_alc] : r107 = v114))).2 (pc' := 159) rfl ?_
    refine own_dload X108 at_159 (pc' := 161) rfl rfl ?_
    refine own_lload X108 at_161 (pc' := 163) rfl rfl ?_
    refine own_l2d X108 at_163 (pc' := 164) rfl ?_
    refine own_djN X108 at_164 at_165 (by rw [hr108]; exact own_Kb (own_Ka (own_Ka own_K0 (own_Ka own_K0 (own_Ki _) (by decide)) (by decide)) (own_Ka own_K0 (own_Ki _) (by decide)) (by decide)) (by decide)) (by rw [hv93]; exact own_Kb (own_Ka (own_Ki _) (own_Ki _) (by decide)) (by decide)) (own_teqL ((by rw [hr108, hv93]; simp only [Int64.zero_add, Int64.add_zero, Int64.add_assoc, Int64.add_comm, own_alc] : r108 = v93))).2 (pc' := 168) rfl ?_
    refine own_iconst X108 at_168 (pc' := 169) rfl (v := (1 : Int32)) (by decide) ?_
    refine own_goto X108 at_169 (pc' := 173) (by decide) (by decide) ?_
    exact own_retZ X108 at_173 (by decide) rfl (by decide) (by decide)
  · obtain rfl : v23 = (0 : Int32) := by rw [hv23]; decide
    refine own_new X0 at_25 (hw _ (List.mem_of_getElem? (i := 1) rfl)) (hw _ (List.mem_of_getElem? (i := 2) rfl)) (hw _ (List.mem_of_getElem? (i := 3) rfl)) (pc' := 28) rfl (by decide) (by decide) ?_
    intro T109 h109 b109 hb109 X109 E109 A109 D109
    have g_b109 : n0 ≤ b109 := Nat.le_trans Z0 (Nat.le_of_eq hb109.symm)
    have ne_d0_b109 : d0 ≠ b109 := Nat.ne_of_lt (Nat.lt_of_lt_of_le (V_d0).lt (Nat.le_of_eq hb109.symm))
    have ne_g0_b109 : g0 ≠ b109 := Nat.ne_of_lt (Nat.lt_of_lt_of_le (E_g0).lt (Nat.le_of_eq hb109.symm))
    have ne_g1_b109 : g1 ≠ b109 := Nat.ne_of_lt (Nat.lt_of_lt_of_le (E_g1).lt (Nat.le_of_eq hb109.symm))
    have S_COURSES_109 := (S_COURSES).ext E109
    have V_d0_109 := (V_d0).ext E109
    have S_SPREAD_109 := (S_SPREAD).ext E109
    have S_CLUSTERED_109 := (S_CLUSTERED).ext E109
    have E_g0_109 := (E_g0).ext E109
    have E_g1_109 := (E_g1).ext E109
    have F_ordinal_g0_109 := (F_ordinal_g0).ext E109
    have F_ordinal_g1_109 := (F_ordinal_g1).ext E109
    have Z109 : n0 ≤ h109.size := Nat.le_trans Z0 E109.1
    have F_slots_b109 : Fld Z h109 b109 "com/example/evenkeel/evenkeel/skew/CourseSums" "slots" "I" (.int (0 : Int32)) := D109 (Or.inr (hw _ (List.mem_of_getElem? (i := 11) rfl))) (ty := .int) (by decide)
    have F_sums_b109 : Fld Z h109 b109 "com/example/evenkeel/evenkeel/skew/CourseSums" "sums" "[D" .null := D109 (Or.inr (hw _ (List.mem_of_getElem? (i := 16) rfl))) (ty := (.array .double)) (by decide)
    refine own_dup X109 at_28 (pc' := 29) rfl rfl ?_
    refine own_iload X109 at_29 (pc' := 31) rfl rfl ?_
    refine own_callC (a := b109) (argsL := [(.int (4 : Int32))]) X109 at_31 (y := (⟨"com/example/evenkeel/evenkeel/skew/CourseSums", "<init>", "(I)V"⟩ : MethodName)) (by decide) (hw _ (List.mem_of_getElem? (i := 4) rfl)) (hw _ (List.mem_of_getElem? (i := 5) rfl)) (hw _ (List.mem_of_getElem? (i := 6) rfl)) (hw _ (List.mem_of_getElem? (i := 3) rfl)) (own_rm1_4 l Z a0 hw b109 d0 vs (0 : Int32) h109 n0 Z109 A109 F_slots_b109 F_sums_b109 S_COURSES_109 V_d0_109 g_b109 ne_d0_b109 hvs) own_pd1 rfl (S := [(.ref b109)]) rfl (pc' := 34) rfl rfl (W := 1) (Nat.le_of_eq rfl) (by decide) (by decide) (by decide) (by decide) ?_
    intro T110 h110 v110_ X110 q110_
    obtain ⟨b_110, rfl, KK110, FF110q0, FF110q1, FF110q2, FF110q3⟩ := q110_
    show OwnGo p e below (T110.setTop (mkF m 34 #[.val (.int p0), .val (.int p1), .val (.int p2), .val (.int p3), .val (.int p4), .val (.int p5), .val (.int (4 : Int32)), .val (.int (3 : Int32)), .val (.int (0 : Int32)), .unset, .unset, .unset, .unset, .unset, .unset, .unset, .unset, .unset, .unset, .unset] [(.ref b109)])) RR
    have Z110 : n0 ≤ h110.size := Nat.le_trans Z109 KK110.1
    have S_COURSES_110 := own_sta_keep S_COURSES_109 KK110 (own_plS (own_plE A109) own_pl0)
    have V_d0_110 := (V_d0_109).keep KK110 (ninS ne_d0_b109 nin0)
    have S_SPREAD_110 := own_sta_keep S_SPREAD_109 KK110 (own_plS (own_plE A109) own_pl0)
    have S_CLUSTERED_110 := own_sta_keep S_CLUSTERED_109 KK110 (own_plS (own_plE A109) own_pl0)
    have E_g0_110 := (E_g0_109).keep KK110
    have E_g1_110 := (E_g1_109).keep KK110
    have F_ordinal_g0_110 := (F_ordinal_g0_109).keep KK110 (ninS ne_g0_b109 nin0)
    have F_ordinal_g1_110 := (F_ordinal_g1_109).keep KK110 (ninS ne_g1_b109 nin0)
    have A109_110 := (A109).keep KK110
    have ne_d0_b_110 : d0 ≠ b_110 := Nat.ne_of_lt (Nat.lt_of_lt_of_le (V_d0_109).lt FF110q2)
    have ne_g0_b_110 : g0 ≠ b_110 := Nat.ne_of_lt (Nat.lt_of_lt_of_le (E_g0_109).lt FF110q2)
    have ne_g1_b_110 : g1 ≠ b_110 := Nat.ne_of_lt (Nat.lt_of_lt_of_le (E_g1_109).lt FF110q2)
    have ne_b109_b_110 : b109 ≠ b_110 := Nat.ne_of_lt (Nat.lt_of_lt_of_le (A109).lt FF110q2)
    have g_b_110 : n0 ≤ b_110 := Nat.le_trans Z109 FF110q2
    refine own_astore X110 at_34 (pc' := 36) rfl rfl (l' := #[.val (.int p0), .val (.int p1), .val (.int p2), .val (.int p3), .val (.int p4), .val (.int p5), .val (.int (4 : Int32)), .val (.int (3 : Int32)), .val (.int (0 : Int32)), .val (.ref b109), .unset, .unset, .unset, .unset, .unset, .unset, .unset, .unset, .unset, .unset]) rfl ?_
    refine own_aload X110 at_36 (pc' := 38) rfl rfl rfl ?_
    refine own_getS X110 at_38 (hw _ (List.mem_of_getElem? (i := 17) rfl)) Via.refl S_SPREAD_110 (pc' := 41) rfl ?_
    intro T111 X111
    refine own_iload X111 at_41 (pc' := 43) rfl rfl ?_
    refine own_iloadN X111 at_43 (pc' := 44) rfl rfl ?_
    refine own_i2d X111 at_44 (pc' := 45) rfl ?_
    refine own_callV (a := b109) (argsL := [(.ref g0), (.int (3 : Int32)), (.double (FP.l2d (p2.toInt64)))]) X111 at_45 (y := (⟨"com/example/evenkeel/evenkeel/skew/CourseSums", "add", "(Lcom/example/evenkeel/evenkeel/skew/GroupGrowth$Course;ID)V"⟩ : MethodName)) (by decide) (hw _ (List.mem_of_getElem? (i := 20) rfl)) (hw _ (List.mem_of_getElem? (i := 21) rfl)) (hw _ (List.mem_of_getElem? (i := 23) rfl)) (hw _ (List.mem_of_getElem? (i := 22) rfl)) (hw _ (List.mem_of_getElem? (i := 24) rfl)) (hw _ (List.mem_of_getElem? (i := 3) rfl)) A109_110 (own_rm3 l Z a0 hw b109 b_110 g0 (4 : Int32) (0 : Int32) (3 : Int32) ((p2.toInt64)) ([(0 : Int64), (0 : Int64), (0 : Int64), (0 : Int64), (0 : Int64), (0 : Int64), (0 : Int64), (0 : Int64)]) h110 n0 Z110 FF110q0 FF110q1 E_g0_110 F_ordinal_g0_110 FF110q3 g_b_110 (by decide) (Nat.le_of_ble_eq_true rfl) (show B53 (0 : Int64) from own_Kb own_K0 (by decide)) (own_Kb (own_Ki _) (by decide))) own_pd2 rfl (S := []) rfl (pc' := 48) rfl rfl (W := 0) (Nat.le_of_eq rfl) (by decide) (by decide) (by decide) (by decide) ?_
    intro T112 h112 v112_ X112 q112_
    obtain ⟨rfl, KK112, FF112q0⟩ := q112_
    show OwnGo p e below (T112.setTop (mkF m 48 #[.val (.int p0), .val (.int p1), .val (.int p2), .val (.int p3), .val (.int p4), .val (.int p5), .val (.int (4 : Int32)), .val (.int (3 : Int32)), .val (.int (0 : Int32)), .val (.ref b109), .unset, .unset, .unset, .unset, .unset, .unset, .unset, .unset, .unset, .unset] [])) RR
    have Z112 : n0 ≤ h112.size := Nat.le_trans Z110 KK112.1
    have S_COURSES_112 := own_sta_keep S_COURSES_110 KK112 (own_plS (own_plV FF110q3) own_pl0)
    have V_d0_112 := (V_d0_110).keep KK112 (ninS ne_d0_b_110 nin0)
    have S_SPREAD_112 := own_sta_keep S_SPREAD_110 KK112 (own_plS (own_plV FF110q3) own_pl0)
    have S_CLUSTERED_112 := own_sta_keep S_CLUSTERED_110 KK112 (own_plS (own_plV FF110q3) own_pl0)
    have E_g0_112 := (E_g0_110).keep KK112
    have E_g1_112 := (E_g1_110).keep KK112
    have F_ordinal_g0_112 := (F_ordinal_g0_110).keep KK112 (ninS ne_g0_b_110 nin0)
    have F_ordinal_g1_112 := (F_ordinal_g1_110).keep KK112 (ninS ne_g1_b_110 nin0)
    have A109_112 := (A109_110).keep KK112
    have FF110q0_112 := (FF110q0).keep KK112 (ninS ne_b109_b_110 nin0)
    have FF110q1_112 := (FF110q1).keep KK112 (ninS ne_b109_b_110 nin0)
    have Vx112 : OwnAr Z h112 b_110 .double ([(0 : Int64), (0 : Int64), (0 : Int64), ((0 : Int64) + (p2.toInt64)), (0 : Int64), (0 : Int64), (0 : Int64), (0 : Int64)].map ownDv) := FF112q0
    refine own_aload X112 at_48 (pc' := 50) rfl rfl rfl ?_
    refine own_getS X112 at_50 (hw _ (List.mem_of_getElem? (i := 34) rfl)) Via.refl S_CLUSTERED_112 (pc' := 53) rfl ?_
    intro T113 X113
    refine own_iload X113 at_53 (pc' := 55) rfl rfl ?_
    refine own_iloadN X113 at_55 (pc' := 56) rfl rfl ?_
    refine own_i2d X113 at_56 (pc' := 57) rfl ?_
    refine own_callV (a := b109) (argsL := [(.ref g1), (.int (3 : Int32)), (.double (FP.l2d (p3.toInt64)))]) X113 at_57 (y := (⟨"com/example/evenkeel/evenkeel/skew/CourseSums", "add", "(Lcom/example/evenkeel/evenkeel/skew/GroupGrowth$Course;ID)V"⟩ : MethodName)) (by decide) (hw _ (List.mem_of_getElem? (i := 20) rfl)) (hw _ (List.mem_of_getElem? (i := 21) rfl)) (hw _ (List.mem_of_getElem? (i := 23) rfl)) (hw _ (List.mem_of_getElem? (i := 22) rfl)) (hw _ (List.mem_of_getElem? (i := 24) rfl)) (hw _ (List.mem_of_getElem? (i := 3) rfl)) A109_112 (own_rm3 l Z a0 hw b109 b_110 g1 (4 : Int32) (1 : Int32) (3 : Int32) ((p3.toInt64)) ([(0 : Int64), (0 : Int64), (0 : Int64), ((0 : Int64) + (p2.toInt64)), (0 : Int64), (0 : Int64), (0 : Int64), (0 : Int64)]) h112 n0 Z112 FF110q0_112 FF110q1_112 E_g1_112 F_ordinal_g1_112 Vx112 g_b_110 (by decide) (Nat.le_of_ble_eq_true rfl) (show B53 (0 : Int64) from own_Kb own_K0 (by decide)) (own_Kb (own_Ki _) (by decide))) own_pd2 rfl (S := []) rfl (pc' := 60) rfl rfl (W := 0) (Nat.le_of_eq rfl) (by decide) (by decide) (by decide) (by decide) ?_
    intro T114 h114 v114_ X114 q114_
    obtain ⟨rfl, KK114, FF114q0⟩ := q114_
    show OwnGo p e below (T114.setTop (mkF m 60 #[.val (.int p0), .val (.int p1), .val (.int p2), .val (.int p3), .val (.int p4), .val (.int p5), .val (.int (4 : Int32)), .val (.int (3 : Int32)), .val (.int (0 : Int32)), .val (.ref b109), .unset, .unset, .unset, .unset, .unset, .unset, .unset, .unset, .unset, .unset] [])) RR
    have Z114 : n0 ≤ h114.size := Nat.le_trans Z112 KK114.1
    have S_COURSES_114 := own_sta_keep S_COURSES_112 KK114 (own_plS (own_plV Vx112) own_pl0)
    have V_d0_114 := (V_d0_112).keep KK114 (ninS ne_d0_b_110 nin0)
    have S_SPREAD_114 := own_sta_keep S_SPREAD_112 KK114 (own_plS (own_plV Vx112) own_pl0)
    have S_CLUSTERED_114 := own_sta_keep S_CLUSTERED_112 KK114 (own_plS (own_plV Vx112) own_pl0)
    have E_g0_114 := (E_g0_112).keep KK114
    have E_g1_114 := (E_g1_112).keep KK114
    have F_ordinal_g0_114 := (F_ordinal_g0_112).keep KK114 (ninS ne_g0_b_110 nin0)
    have F_ordinal_g1_114 := (F_ordinal_g1_112).keep KK114 (ninS ne_g1_b_110 nin0)
    have A109_114 := (A109_112).keep KK114
    have FF110q0_114 := (FF110q0_112).keep KK114 (ninS ne_b109_b_110 nin0)
    have FF110q1_114 := (FF110q1_112).keep KK114 (ninS ne_b109_b_110 nin0)
    have Vx114 : OwnAr Z h114 b_110 .double ([(0 : Int64), (0 : Int64), (0 : Int64), ((0 : Int64) + (p2.toInt64)), (0 : Int64), (0 : Int64), (0 : Int64), ((0 : Int64) + (p3.toInt64))].map ownDv) := FF114q0
    refine own_aload X114 at_60 (pc' := 62) rfl rfl rfl ?_
    refine own_getS X114 at_62 (hw _ (List.mem_of_getElem? (i := 17) rfl)) Via.refl S_SPREAD_114 (pc' := 65) rfl ?_
    intro T115 X115
    refine own_iload X115 at_65 (pc' := 67) rfl rfl ?_
    refine own_iload X115 at_67 (pc' := 69) rfl rfl ?_
    refine own_i2d X115 at_69 (pc' := 70) rfl ?_
    refine own_callV (a := b109) (argsL := [(.ref g0), (.int (0 : Int32)), (.double (FP.l2d (p4.toInt64)))]) X115 at_70 (y := (⟨"com/example/evenkeel/evenkeel/skew/CourseSums", "add", "(Lcom/example/evenkeel/evenkeel/skew/GroupGrowth$Course;ID)V"⟩ : MethodName)) (by decide) (hw _ (List.mem_of_getElem? (i := 20) rfl)) (hw _ (List.mem_of_getElem? (i := 21) rfl)) (hw _ (List.mem_of_getElem? (i := 23) rfl)) (hw _ (List.mem_of_getElem? (i := 22) rfl)) (hw _ (List.mem_of_getElem? (i := 24) rfl)) (hw _ (List.mem_of_getElem? (i := 3) rfl)) A109_114 (own_rm3 l Z a0 hw b109 b_110 g0 (4 : Int32) (0 : Int32) (0 : Int32) ((p4.toInt64)) ([(0 : Int64), (0 : Int64), (0 : Int64), ((0 : Int64) + (p2.toInt64)), (0 : Int64), (0 : Int64), (0 : Int64), ((0 : Int64) + (p3.toInt64))]) h114 n0 Z114 FF110q0_114 FF110q1_114 E_g0_114 F_ordinal_g0_114 Vx114 g_b_110 (by decide) (Nat.le_of_ble_eq_true rfl) (show B53 (0 : Int64) from own_Kb own_K0 (by decide)) (own_Kb (own_Ki _) (by decide))) own_pd2 rfl (S := []) rfl (pc' := 73) rfl rfl (W := 0) (Nat.le_of_eq rfl) (by decide) (by decide) (by decide) (by decide) ?_
    intro T116 h116 v116_ X116 q116_
    obtain ⟨rfl, KK116, FF116q0⟩ := q116_
    show OwnGo p e below (T116.setTop (mkF m 73 #[.val (.int p0), .val (.int p1), .val (.int p2), .val (.int p3), .val (.int p4), .val (.int p5), .val (.int (4 : Int32)), .val (.int (3 : Int32)), .val (.int (0 : Int32)), .val (.ref b109), .unset, .unset, .unset, .unset, .unset, .unset, .unset, .unset, .unset, .unset] [])) RR
    have Z116 : n0 ≤ h116.size := Nat.le_trans Z114 KK116.1
    have S_COURSES_116 := own_sta_keep S_COURSES_114 KK116 (own_plS (own_plV Vx114) own_pl0)
    have V_d0_116 := (V_d0_114).keep KK116 (ninS ne_d0_b_110 nin0)
    have S_SPREAD_116 := own_sta_keep S_SPREAD_114 KK116 (own_plS (own_plV Vx114) own_pl0)
    have S_CLUSTERED_116 := own_sta_keep S_CLUSTERED_114 KK116 (own_plS (own_plV Vx114) own_pl0)
    have E_g0_116 := (E_g0_114).keep KK116
    have E_g1_116 := (E_g1_114).keep KK116
    have F_ordinal_g0_116 := (F_ordinal_g0_114).keep KK116 (ninS ne_g0_b_110 nin0)
    have F_ordinal_g1_116 := (F_ordinal_g1_114).keep KK116 (ninS ne_g1_b_110 nin0)
    have A109_116 := (A109_114).keep KK116
    have FF110q0_116 := (FF110q0_114).keep KK116 (ninS ne_b109_b_110 nin0)
    have FF110q1_116 := (FF110q1_114).keep KK116 (ninS ne_b109_b_110 nin0)
    have Vx116 : OwnAr Z h116 b_110 .double ([((0 : Int64) + (p4.toInt64)), (0 : Int64), (0 : Int64), ((0 : Int64) + (p2.toInt64)), (0 : Int64), (0 : Int64), (0 : Int64), ((0 : Int64) + (p3.toInt64))].map ownDv) := FF116q0
    refine own_aload X116 at_73 (pc' := 75) rfl rfl rfl ?_
    refine own_getS X116 at_75 (hw _ (List.mem_of_getElem? (i := 34) rfl)) Via.refl S_CLUSTERED_116 (pc' := 78) rfl ?_
    intro T117 X117
    refine own_iload X117 at_78 (pc' := 80) rfl rfl ?_
    refine own_iload X117 at_80 (pc' := 82) rfl rfl ?_
    refine own_i2d X117 at_82 (pc' := 83) rfl ?_
    refine own_callV (a := b109) (argsL := [(.ref g1), (.int (0 : Int32)), (.double (FP.l2d (p5.toInt64)))]) X117 at_83 (y := (⟨"com/example/evenkeel/evenkeel/skew/CourseSums", "add", "(Lcom/example/evenkeel/evenkeel/skew/GroupGrowth$Course;ID)V"⟩ : MethodName)) (by decide) (hw _ (List.mem_of_getElem? (i := 20) rfl)) (hw _ (List.mem_of_getElem? (i := 21) rfl)) (hw _ (List.mem_of_getElem? (i := 23) rfl)) (hw _ (List.mem_of_getElem? (i := 22) rfl)) (hw _ (List.mem_of_getElem? (i := 24) rfl)) (hw _ (List.mem_of_getElem? (i := 3) rfl)) A109_116 (own_rm3 l Z a0 hw b109 b_110 g1 (4 : Int32) (1 : Int32) (0 : Int32) ((p5.toInt64)) ([((0 : Int64) + (p4.toInt64)), (0 : Int64), (0 : Int64), ((0 : Int64) + (p2.toInt64)), (0 : Int64), (0 : Int64), (0 : Int64), ((0 : Int64) + (p3.toInt64))]) h116 n0 Z116 FF110q0_116 FF110q1_116 E_g1_116 F_ordinal_g1_116 Vx116 g_b_110 (by decide) (Nat.le_of_ble_eq_true rfl) (show B53 (0 : Int64) from own_Kb own_K0 (by decide)) (own_Kb (own_Ki _) (by decide))) own_pd2 rfl (S := []) rfl (pc' := 86) rfl rfl (W := 0) (Nat.le_of_eq rfl) (by decide) (by decide) (by decide) (by decide) ?_
    intro T118 h118 v118_ X118 q118_
    obtain ⟨rfl, KK118, FF118q0⟩ := q118_
    show OwnGo p e below (T118.setTop (mkF m 86 #[.val (.int p0), .val (.int p1), .val (.int p2), .val (.int p3), .val (.int p4), .val (.int p5), .val (.int (4 : Int32)), .val (.int (3 : Int32)), .val (.int (0 : Int32)), .val (.ref b109), .unset, .unset, .unset, .unset, .unset, .unset, .unset, .unset, .unset, .unset] [])) RR
    have Z118 : n0 ≤ h118.size := Nat.le_trans Z116 KK118.1
    have S_COURSES_118 := own_sta_keep S_COURSES_116 KK118 (own_plS (own_plV Vx116) own_pl0)
    have V_d0_118 := (V_d0_116).keep KK118 (ninS ne_d0_b_110 nin0)
    have S_SPREAD_118 := own_sta_keep S_SPREAD_116 KK118 (own_plS (own_plV Vx116) own_pl0)
    have S_CLUSTERED_118 := own_sta_keep S_CLUSTERED_116 KK118 (own_plS (own_plV Vx116) own_pl0)
    have E_g0_118 := (E_g0_116).keep KK118
    have E_g1_118 := (E_g1_116).keep KK118
    have F_ordinal_g0_118 := (F_ordinal_g0_116).keep KK118 (ninS ne_g0_b_110 nin0)
    have F_ordinal_g1_118 := (F_ordinal_g1_116).keep KK118 (ninS ne_g1_b_110 nin0)
    have A109_118 := (A109_116).keep KK118
    have FF110q0_118 := (FF110q0_116).keep KK118 (ninS ne_b109_b_110 nin0)
    have FF110q1_118 := (FF110q1_116).keep KK118 (ninS ne_b109_b_110 nin0)
    have Vx118 : OwnAr Z h118 b_110 .double ([((0 : Int64) + (p4.toInt64)), (0 : Int64), (0 : Int64), ((0 : Int64) + (p2.toInt64)), ((0 : Int64) + (p5.toInt64)), (0 : Int64), (0 : Int64), ((0 : Int64) + (p3.toInt64))].map ownDv) := FF118q0
    refine own_iload X118 at_86 (pc' := 88) rfl rfl ?_
    refine own_i2l X118 at_88 (pc' := 89) rfl ?_
    refine own_iload X118 at_89 (pc' := 91) rfl rfl ?_
    refine own_i2l X118 at_91 (pc' := 92) rfl ?_
    refine own_ladd X118 at_92 (pc' := 93) rfl ?_
    refine own_lstoreV X118 at_93 (pc' := 95) rfl (l' := fun v93 => #[.val (.int p0), .val (.int p1), .val (.int p2), .val (.int p3), .val (.int p4), .val (.int p5), .val (.int (4 : Int32)), .val (.int (3 : Int32)), .val (.int (0 : Int32)), .val (.ref b109), .val (.long v93), .second, .unset, .unset, .unset, .unset, .unset, .unset, .unset, .unset]) (fun _ => rfl) ?_
    intro v93 hv93
    refine own_iloadN X118 at_95 (pc' := 96) rfl rfl ?_
    refine own_i2l X118 at_96 (pc' := 97) rfl ?_
    refine own_iloadN X118 at_97 (pc' := 98) rfl rfl ?_
    refine own_i2l X118 at_98 (pc' := 99) rfl ?_
    refine own_ladd X118 at_99 (pc' := 100) rfl ?_
    refine own_iload X118 at_100 (pc' := 102) rfl rfl ?_
    refine own_iload X118 at_102 (pc' := 104) rfl rfl ?_
    refine own_icY X118 at_104 (feq ((by decide : ¬ ((0 : Int32) = (3 : Int32))))).2 (pc' := 112) (by decide) (by decide) ?_
    refine own_lconst X118 at_112 (pc' := 113) rfl (v := (0 : Int64)) (by decide) ?_
    refine own_ladd X118 at_113 (pc' := 114) rfl ?_
    refine own_lstoreV X118 at_114 (pc' := 116) rfl (l' := fun v114 => #[.val (.int p0), .val (.int p1), .val (.int p2), .val (.int p3), .val (.int p4), .val (.int p5), .val (.int (4 : Int32)), .val (.int (3 : Int32)), .val (.int (0 : Int32)), .val (.ref b109), .val (.long v93), .second, .val (.long v114), .second, .unset, .unset, .unset, .unset, .unset, .unset]) (fun _ => rfl) ?_
    intro v114 hv114
    refine own_iload X118 at_116 (pc' := 118) rfl rfl ?_
    refine own_iload X118 at_118 (pc' := 120) rfl rfl ?_
    refine own_icY X118 at_120 (feq ((by decide : ¬ ((0 : Int32) = (3 : Int32))))).2 (pc' := 128) (by decide) (by decide) ?_
    refine own_lload X118 at_128 (pc' := 130) rfl rfl ?_
    refine own_lstore X118 at_130 (pc' := 132) rfl (l' := #[.val (.int p0), .val (.int p1), .val (.int p2), .val (.int p3), .val (.int p4), .val (.int p5), .val (.int (4 : Int32)), .val (.int (3 : Int32)), .val (.int (0 : Int32)), .val (.ref b109), .val (.long v93), .second, .val (.long v114), .second, .val (.long v93), .second, .unset, .unset, .unset, .unset]) rfl ?_
    refine own_aload X118 at_132 (pc' := 134) rfl rfl rfl ?_
    refine own_iload X118 at_134 (pc' := 136) rfl rfl ?_
    refine own_callV (a := b109) (argsL := [(.int (3 : Int32))]) X118 at_136 (y := (⟨"com/example/evenkeel/evenkeel/skew/CourseSums", "sum", "(I)D"⟩ : MethodName)) (by decide) (hw _ (List.mem_of_getElem? (i := 36) rfl)) (hw _ (List.mem_of_getElem? (i := 37) rfl)) (hw _ (List.mem_of_getElem? (i := 39) rfl)) (hw _ (List.mem_of_getElem? (i := 38) rfl)) (hw _ (List.mem_of_getElem? (i := 40) rfl)) (hw _ (List.mem_of_getElem? (i := 3) rfl)) A109_118 (own_rm5 l Z a0 hw b109 b_110 (4 : Int32) (3 : Int32) ([((0 : Int64) + (p4.toInt64)), (0 : Int64), (0 : Int64), ((0 : Int64) + (p2.toInt64)), ((0 : Int64) + (p5.toInt64)), (0 : Int64), (0 : Int64), ((0 : Int64) + (p3.toInt64))]) h118 n0 Z118 FF110q0_118 FF110q1_118 Vx118 (show (3 : Int32) < (8 : Int32) from by decide) (show (7 : Int32) < (8 : Int32) from by decide) (show ¬ ((11 : Int32) < (8 : Int32)) from by decide) (by decide) (Nat.le_of_ble_eq_true rfl) (by decide) (Nat.le_of_ble_eq_true rfl) (show B53 ((0 : Int64) + (p2.toInt64)) from own_Kb (own_Ka own_K0 (own_Ki _) (by decide)) (by decide)) (show B53 ((0 : Int64) + ((0 : Int64) + (p2.toInt64))) from own_Kb (own_Ka own_K0 (own_Ka own_K0 (own_Ki _) (by decide)) (by decide)) (by decide)) (show B53 ((0 : Int64) + (p3.toInt64)) from own_Kb (own_Ka own_K0 (own_Ki _) (by decide)) (by decide))) own_pd3 rfl (S := []) rfl (pc' := 139) rfl rfl (W := 0) (Nat.le_of_eq rfl) (by decide) (by decide) (by decide) (by decide) ?_
    intro T119 h119 v119_ X119 q119_
    obtain ⟨rfl, rfl⟩ := q119_
    obtain ⟨r119, hr119⟩ : ∃ z, z = (((0 : Int64) + ([((0 : Int64) + (p4.toInt64)), (0 : Int64), (0 : Int64), ((0 : Int64) + (p2.toInt64)), ((0 : Int64) + (p5.toInt64)), (0 : Int64), (0 : Int64), ((0 : Int64) + (p3.toInt64))].getD ((3 : Int32)).toNatClampNeg 0)) + ([((0 : Int64) + (p4.toInt64)), (0 : Int64), (0 : Int64), ((0 : Int64) + (p2.toInt64)), ((0 : Int64) + (p5.toInt64)), (0 : Int64), (0 : Int64), ((0 : Int64) + (p3.toInt64))].getD (((3 : Int32) + (4 : Int32))).toNatClampNeg 0)) := ⟨_, rfl⟩
    show OwnGo p e below (T119.setTop (mkF m 139 #[.val (.int p0), .val (.int p1), .val (.int p2), .val (.int p3), .val (.int p4), .val (.int p5), .val (.int (4 : Int32)), .val (.int (3 : Int32)), .val (.int (0 : Int32)), .val (.ref b109), .val (.long v93), .second, .val (.long v114), .second, .val (.long v93), .second, .unset, .unset, .unset, .unset] [(.double (FP.l2d (((0 : Int64) + ([((0 : Int64) + (p4.toInt64)), (0 : Int64), (0 : Int64), ((0 : Int64) + (p2.toInt64)), ((0 : Int64) + (p5.toInt64)), (0 : Int64), (0 : Int64), ((0 : Int64) + (p3.toInt64))].getD ((3 : Int32)).toNatClampNeg 0)) + ([((0 : Int64) + (p4.toInt64)), (0 : Int64), (0 : Int64), ((0 : Int64) + (p2.toInt64)), ((0 : Int64) + (p5.toInt64)), (0 : Int64), (0 : Int64), ((0 : Int64) + (p3.toInt64))].getD (((3 : Int32) + (4 : Int32))).toNatClampNeg 0))))])) RR
    rw [← hr119]
    replace hr119 : r119 = (((0 : Int64) + ((0 : Int64) + (p2.toInt64))) + ((0 : Int64) + (p3.toInt64))) := hr119
    refine own_dstore X119 at_139 (pc' := 141) rfl (l' := #[.val (.int p0), .val (.int p1), .val (.int p2), .val (.int p3), .val (.int p4), .val (.int p5), .val (.int (4 : Int32)), .val (.int (3 : Int32)), .val (.int (0 : Int32)), .val (.ref b109), .val (.long v93), .second, .val (.long v114), .second, .val (.long v93), .second, .val (.double (FP.l2d r119)), .second, .unset, .unset]) rfl ?_
    refine own_aload X119 at_141 (pc' := 143) rfl rfl rfl ?_
    refine own_iload X119 at_143 (pc' := 145) rfl rfl ?_
    refine own_callV (a := b109) (argsL := [(.int (0 : Int32))]) X119 at_145 (y := (⟨"com/example/evenkeel/evenkeel/skew/CourseSums", "sum", "(I)D"⟩ : MethodName)) (by decide) (hw _ (List.mem_of_getElem? (i := 36) rfl)) (hw _ (List.mem_of_getElem? (i := 37) rfl)) (hw _ (List.mem_of_getElem? (i := 39) rfl)) (hw _ (List.mem_of_getElem? (i := 38) rfl)) (hw _ (List.mem_of_getElem? (i := 40) rfl)) (hw _ (List.mem_of_getElem? (i := 3) rfl)) A109_118 (own_rm5 l Z a0 hw b109 b_110 (4 : Int32) (0 : Int32) ([((0 : Int64) + (p4.toInt64)), (0 : Int64), (0 : Int64), ((0 : Int64) + (p2.toInt64)), ((0 : Int64) + (p5.toInt64)), (0 : Int64), (0 : Int64), ((0 : Int64) + (p3.toInt64))]) h118 n0 Z118 FF110q0_118 FF110q1_118 Vx118 (show (0 : Int32) < (8 : Int32) from by decide) (show (4 : Int32) < (8 : Int32) from by decide) (show ¬ ((8 : Int32) < (8 : Int32)) from by decide) (by decide) (Nat.le_of_ble_eq_true rfl) (by decide) (Nat.le_of_ble_eq_true rfl) (show B53 ((0 : Int64) + (p4.toInt64)) from own_Kb (own_Ka own_K0 (own_Ki _) (by decide)) (by decide)) (show B53 ((0 : Int64) + ((0 : Int64) + (p4.toInt64))) from own_Kb (own_Ka own_K0 (own_Ka own_K0 (own_Ki _) (by decide)) (by decide)) (by decide)) (show B53 ((0 : Int64) + (p5.toInt64)) from own_Kb (own_Ka own_K0 (own_Ki _) (by decide)) (by decide))) own_pd3 rfl (S := []) rfl (pc' := 148) rfl rfl (W := 0) (Nat.le_of_eq rfl) (by decide) (by decide) (by decide) (by decide) ?_
    intro T120 h120 v120_ X120 q120_
    obtain ⟨rfl, rfl⟩ := q120_
    obtain ⟨r120, hr120⟩ : ∃ z, z = (((0 : Int64) + ([((0 : Int64) + (p4.toInt64)), (0 : Int64), (0 : Int64), ((0 : Int64) + (p2.toInt64)), ((0 : Int64) + (p5.toInt64)), (0 : Int64), (0 : Int64), ((0 : Int64) + (p3.toInt64))].getD ((0 : Int32)).toNatClampNeg 0)) + ([((0 : Int64) + (p4.toInt64)), (0 : Int64), (0 : Int64), ((0 : Int64) + (p2.toInt64)), ((0 : Int64) + (p5.toInt64)), (0 : Int64), (0 : Int64), ((0 : Int64) + (p3.toInt64))].getD (((0 : Int32) + (4 : Int32))).toNatClampNeg 0)) := ⟨_, rfl⟩
    show OwnGo p e below (T120.setTop (mkF m 148 #[.val (.int p0), .val (.int p1), .val (.int p2), .val (.int p3), .val (.int p4), .val (.int p5), .val (.int (4 : Int32)), .val (.int (3 : Int32)), .val (.int (0 : Int32)), .val (.ref b109), .val (.long v93), .second, .val (.long v114), .second, .val (.long v93), .second, .val (.double (FP.l2d r119)), .second, .unset, .unset] [(.double (FP.l2d (((0 : Int64) + ([((0 : Int64) + (p4.toInt64)), (0 : Int64), (0 : Int64), ((0 : Int64) + (p2.toInt64)), ((0 : Int64) + (p5.toInt64)), (0 : Int64), (0 : Int64), ((0 : Int64) + (p3.toInt64))].getD ((0 : Int32)).toNatClampNeg 0)) + ([((0 : Int64) + (p4.toInt64)), (0 : Int64), (0 : Int64), ((0 : Int64) + (p2.toInt64)), ((0 : Int64) + (p5.toInt64)), (0 : Int64), (0 : Int64), ((0 : Int64) + (p3.toInt64))].getD (((0 : Int32) + (4 : Int32))).toNatClampNeg 0))))])) RR
    rw [← hr120]
    replace hr120 : r120 = (((0 : Int64) + ((0 : Int64) + (p4.toInt64))) + ((0 : Int64) + (p5.toInt64))) := hr120
    refine own_dstore X120 at_148 (pc' := 150) rfl (l' := #[.val (.int p0), .val (.int p1), .val (.int p2), .val (.int p3), .val (.int p4), .val (.int p5), .val (.int (4 : Int32)), .val (.int (3 : Int32)), .val (.int (0 : Int32)), .val (.ref b109), .val (.long v93), .second, .val (.long v114), .second, .val (.long v93), .second, .val (.double (FP.l2d r119)), .second, .val (.double (FP.l2d r120)), .second]) rfl ?_
    refine own_dload X120 at_150 (pc' := 152) rfl rfl ?_
    refine own_lload X120 at_152 (pc' := 154) rfl rfl ?_
    refine own_l2d X120 at_154 (pc' := 155) rfl ?_
    refine own_djN X120 at_155 at_156 (by rw [hr119]; exact own_Kb (own_Ka (own_Ka own_K0 (own_Ka own_K0 (own_Ki _) (by decide)) (by decide)) (own_Ka own_K0 (own_Ki _) (by decide)) (by decide)) (by decide)) (by rw [hv114]; exact own_Kb (own_Ka (own_Ka (own_Ki _) (own_Ki _) (by decide)) own_K0 (by decide)) (by decide)) (own_teqL ((by rw [hr119, hv114]; simp only [Int64.zero_add, Int64.add_zero, Int64.add_assoc, Int64.add_comm, own_alc] : r119 = v114))).2 (pc' := 159) rfl ?_
    refine own_dload X120 at_159 (pc' := 161) rfl rfl ?_
    refine own_lload X120 at_161 (pc' := 163) rfl rfl ?_
    refine own_l2d X120 at_163 (pc' := 164) rfl ?_
    refine own_djN X120 at_164 at_165 (by rw [hr120]; exact own_Kb (own_Ka (own_Ka own_K0 (own_Ka own_K0 (own_Ki _) (by decide)) (by decide)) (own_Ka own_K0 (own_Ki _) (by decide)) (by decide)) (by decide)) (by rw [hv93]; exact own_Kb (own_Ka (own_Ki _) (own_Ki _) (by decide)) (by decide)) (own_teqL ((by rw [hr120, hv93]; simp only [Int64.zero_add, Int64.add_zero, Int64.add_assoc, Int64.add_comm, own_alc] : r120 = v93))).2 (pc' := 168) rfl ?_
    refine own_iconst X120 at_168 (pc' := 169) rfl (v := (1 : Int32)) (by decide) ?_
    refine own_goto X120 at_169 (pc' := 173) (by decide) (by decide) ?_
    exact own_retZ X120 at_173 (by decide) rfl (by decide) (by decide)
set_option maxRecDepth 65536 in
set_option maxHeartbeats 40000000 in
theorem own_comes {Post : Tables → Env → Array Value → State → Outcome → State → Prop} (hpost : ∀ tb e args s v u, (limb_1_1.after args s (.returned v) u = true ∧ limb_1_2.after args s (.returned v) u = true ∧ True) → FrameEnd s (.returned v) u (Jvm.fieldLocs frame_1_writes args s ++ Jvm.arrayLocs frame_1_arrays args s ++ Jvm.staticLocs frame_1_statics s) 16 128 → Post tb e args s (.returned v) u) :
    ArmFor flags0 classFile x code maxLocals ret World_1 tables_1 room_1 Calls_1 rest_1 Pre_1 Post := by
  intro l hfl _ _ p e ha hc hk s m args below hf hA hF happ hP
  obtain ⟨hcalls, hrest, hpre⟩ := hP
  obtain ⟨-, -, -, hnamed, -, -, -, hat⟩ := (Spec.applies_iff hf).mp happ
  obtain ⟨hg, hn⟩ := and_e (Cond.before_iff.mp (show (Jvm.Cond.and given_1 narrow_1).before args s = true from hpre))
  obtain ⟨gc, g0⟩ := and_e hg
  obtain ⟨w0_, g1⟩ := and_e g0
  obtain ⟨w1_, g2⟩ := and_e g1
  obtain ⟨w2_, g3⟩ := and_e g2
  obtain ⟨w3_, g4⟩ := and_e g3
  obtain ⟨w4_, g5⟩ := and_e g4
  obtain ⟨z0, z1, z2, z3, z4, z5, rfl⟩ : ∃ z0 z1 z2 z3 z4 z5 : Value, args = #[z0, z1, z2, z3, z4, z5] := by
    have hs : args.size = 6 := by simpa [Cond.value, given_1] using gc
    obtain ⟨L⟩ := args
    match L, hs with
    | [z0, z1, z2, z3, z4, z5], _ => exact ⟨z0, z1, z2, z3, z4, z5, rfl⟩
  have hw := fun d (hd : d ∈ tables_1) => atoms_spec (ws := Jvm.Cond.code x code maxLocals ret :: tables_1) hat d (List.mem_cons_of_mem _ hd)
  obtain ⟨i0, ei0⟩ := is_v w0_
  obtain rfl : z0 = (.int i0) := Option.some.inj ei0
  obtain ⟨i1, ei1⟩ := is_v w1_
  obtain rfl : z1 = (.int i1) := Option.some.inj ei1
  obtain ⟨i2, ei2⟩ := is_v w2_
  obtain rfl : z2 = (.int i2) := Option.some.inj ei2
  obtain ⟨i3, ei3⟩ := is_v w3_
  obtain rfl : z3 = (.int i3) := Option.some.inj ei3
  obtain ⟨i4, ei4⟩ := is_v w4_
  obtain rfl : z4 = (.int i4) := Option.some.inj ei4
  obtain ⟨i5, ei5⟩ := is_v g5
  obtain rfl : z5 = (.int i5) := Option.some.inj ei5
  obtain ⟨n0_, m0_⟩ := and_e hn
  obtain ⟨n1_, m1_⟩ := and_e m0_
  obtain ⟨n2_, m2_⟩ := and_e m1_
  obtain ⟨n3_, m3_⟩ := and_e m2_
  obtain ⟨n4_, n5_⟩ := and_e m3_
  obtain ⟨d0, e0⟩ := arr_v n0_
  obtain ⟨cl, A⟩ := Arr.start e0 n0_
  have hsz := own_len e0 A n1_
  obtain ⟨g0, eg0⟩ := exa_v n2_
  obtain ⟨g1, eg1⟩ := exa_v n4_
  have S0 := Sta.start e0 (Or.inr ⟨(hw _ (List.mem_of_getElem? (i := 3) rfl)), (hw _ (List.mem_of_getElem? (i := 13) rfl))⟩)
  have V0 : OwnAr s s.heap d0 (.object "com/example/evenkeel/evenkeel/skew/GroupGrowth$Course") cl.slots.toList := ⟨cl, A, by simp, by simpa using hsz.1⟩
  have hvs : cl.slots.toList.length = 2 := by have e := len_toInt hsz.1; rw [hsz.2] at e; have e2 : (2 : Int32).toInt = 2 := rfl; have e3 : cl.slots.toList.length = cl.slots.size := (by simp); omega
  obtain ⟨n, o, h1, h2, h3, _, L, rfl, ⟨⟨rfl, -⟩, N⟩, hq⟩ := own_rm0 l s _ hw i0 i1 i2 i3 i4 i5 d0 cl.slots.toList g0 g1 s.heap s.heap.size (Nat.le_refl _) S0 V0 (Sta.start eg0 (Or.inr ⟨(hw _ (List.mem_of_getElem? (i := 18) rfl)), (hw _ (List.mem_of_getElem? (i := 19) rfl))⟩)) (Sta.start eg1 (Or.inr ⟨(hw _ (List.mem_of_getElem? (i := 18) rfl)), (hw _ (List.mem_of_getElem? (i := 35) rfl))⟩)) (Exa.start eg0 n2_) (Exa.start eg1 n4_) (own_fldI eg0 n3_) (own_fldI eg1 n5_) hvs tables_1 p e ha hc hk s m _ below hf ((Spec.applies_iff_loose hf).mp happ).1 ⟨rfl, State.Warmed39.refl s, rfl⟩ trivial
  exact ⟨n, _, h1, h2, h3, hpost _ _ _ _ _ _ ⟨Cond.after_iff.mpr rfl, Cond.after_iff.mpr (eq_i res_at (Term.int_eval (1)) rfl), trivial⟩ ⟨hq.1, hq.2.1, (hq.2.2.sift fun y hy => Or.inr (N y hy)).mono (by decide) (by decide)⟩⟩
theorem main_1_1 : Claimed_1_1 := own_comes fun _ _ _ _ _ _ h hF => ⟨h.1, hF⟩
theorem main_1_2 : Claimed_1_2 := own_comes fun _ _ _ _ _ _ h hF => ⟨h.2.1, hF⟩
end Jvm.Pilot.@@N@@
namespace Jvm.Pilot.@@N@@
open Jvm Jvm.ClassFile Sem Op Lib Jvm.Free Jvm.Stand Jvm.Pilot.@@N@@.Jvm.D
/-! MADE BY PROGRAM (witnessworld.py) out of the Statement's table words and the real class files: 14 classes; the members and pool entries that the words name. The judged class is class 1, her method 1. -/
namespace start1
open Jvm.ClassFile
def u (s : String) : CpInfo := .utf8 (stringToUtf16 s)
/-- a pool by its gaps: so many unusable entries, then the entry; so many at the end -/
def gap : Nat → List CpInfo → List CpInfo
  | 0, r => r
  | n + 1, r => .unusable :: gap n r
def poolList (es : List (Nat × CpInfo)) (last : Nat) : List CpInfo := es.foldr (fun e r => gap e.1 (e.2 :: r)) (gap last [])
def pool (es : List (Nat × CpInfo)) (last : Nat) : Array CpInfo := ⟨poolList es last⟩
def fileOf (pool : Array CpInfo) (this : Nat) (attrs : Array Attribute := #[]) (ms : Array MethodInfo := #[]) (fl : Nat := 33) (sup : Nat := 0) (ifs : Array Nat := #[]) (fds : Array FieldInfo := #[]) : ClassFile where
  minorVersion := 0
  majorVersion := 65
  constantPool := pool
  accessFlags := fl
  thisClass := this
  superClass := sup
  interfaces := ifs
  fields := fds
  methods := ms
  attributes := attrs
def plain (name : String) (sup : Option ClassId) : Class where
  name := name
  kind := .ordinary
  loader := none
  accessFlags := 33
  super := sup
  interfaces := #[]
  cf := none
  fields := #[]
  methods := #[]
  instanceTypes := #[]
  staticTypes := #[]
  resolved := #[]
  callSites := []
  init := .initialized
  statics := none
  mirror := none

def pool0 : Array CpInfo := pool [(5, u "<init>"), (0, u "()V"), (1, .class_ 10), (1, u "java/lang/Object")] 113

def k0c0 : Code := { maxStack := 0, maxLocals := 1, code := object_method_1_code, exceptionTable := #[], attributes := #[] }
def k0m0 : Method := { name := "<init>", desc := "()V", sig := { parameters := [], returnType := none }, accessFlags := 1, code := some k0c0 }
/-- java/lang/Object -/
def k0 : Class := { plain "java/lang/Object" none with
  accessFlags := 33
  interfaces := #[]
  cf := some (fileOf pool0 8 #[] #[{ accessFlags := 1, nameIndex := 5, descriptorIndex := 6, attributes := #[] }] 33 0 #[] #[])
  fields := #[]
  methods := #[k0m0]
  instanceTypes := #[]
  staticTypes := #[]
  resolved := Array.replicate 124 none
  statics := none }

def pool1 : Array CpInfo := pool [(2, .class_ 4), (1, u "java/lang/Object"), (0, u "<init>"), (0, u "()V"), (0, .integer 2147483647), (0, .class_ 9), (0, u "com/example/evenkeel/evenkeel/skew/CourseSums"), (0, .methodref 8 11), (0, .nameAndType 5 12), (0, u "(I)V"), (0, .fieldref 14 15), (0, .class_ 16), (0, .nameAndType 17 18), (0, u "com/example/evenkeel/evenkeel/skew/GroupGrowth$Course"), (0, u "SPREAD"), (0, u "Lcom/example/evenkeel/evenkeel/skew/GroupGrowth$Course;"), (0, .methodref 8 20), (0, .nameAndType 21 22), (0, u "add"), (0, u "(Lcom/example/evenkeel/evenkeel/skew/GroupGrowth$Course;ID)V"), (0, .fieldref 14 24), (0, .nameAndType 25 18), (0, u "CLUSTERED"), (0, .methodref 8 27), (0, .nameAndType 28 29), (0, u "sum"), (0, u "(I)D"), (0, .class_ 31), (0, u "com/example/evenkeel/evenkeel/skew/CourseSumsSumPinLaw"), (2, u "law"), (0, u "(IIIIII)Z")] 7

def k1m0 : Method := { name := "<init>", desc := "()V", sig := { parameters := [], returnType := none }, accessFlags := 1, code := none }
def k1c1 : Code := { maxStack := 5, maxLocals := 20, code := code, exceptionTable := #[], attributes := #[] }
def k1m1 : Method := { name := "law", desc := "(IIIIII)Z", sig := { parameters := [.int, .int, .int, .int, .int, .int], returnType := some .boolean }, accessFlags := 9, code := some k1c1 }
/-- com/example/evenkeel/evenkeel/skew/CourseSumsSumPinLaw -/
def k1 : Class := { plain "com/example/evenkeel/evenkeel/skew/CourseSumsSumPinLaw" (some 0) with
  accessFlags := 49
  interfaces := #[]
  cf := some (fileOf pool1 30 #[] #[{ accessFlags := 1, nameIndex := 5, descriptorIndex := 6, attributes := #[] }, { accessFlags := 9, nameIndex := 34, descriptorIndex := 35, attributes := #[] }] 49 2 #[] #[])
  fields := #[]
  methods := #[k1m0, k1m1]
  instanceTypes := #[]
  staticTypes := #[]
  resolved := Array.replicate 43 none
  statics := none }

def pool2 : Array CpInfo := pool [(1, .methodref 2 3), (0, .class_ 4), (0, .nameAndType 5 6), (0, u "java/lang/Object"), (0, u "<init>"), (0, u "()V"), (0, .fieldref 8 9), (0, .class_ 10), (0, .nameAndType 11 12), (0, u "com/example/evenkeel/evenkeel/skew/CourseSums"), (0, u "slots"), (0, u "I"), (0, .fieldref 8 14), (0, .nameAndType 15 16), (0, u "COURSES"), (0, u "[Lcom/example/evenkeel/evenkeel/skew/GroupGrowth$Course;"), (0, .fieldref 8 18), (0, .nameAndType 19 20), (0, u "sums"), (0, u "[D"), (0, .methodref 22 23), (0, .class_ 24), (0, .nameAndType 25 26), (0, u "com/example/evenkeel/evenkeel/skew/GroupGrowth$Course"), (0, u "ordinal"), (0, u "()I"), (10, u "sum"), (0, u "(I)D"), (21, u "(I)V"), (2, u "add"), (0, u "(Lcom/example/evenkeel/evenkeel/skew/GroupGrowth$Course;ID)V")] 18

def k2c0 : Code := { maxStack := 3, maxLocals := 2, code := prog_92_method_1_code, exceptionTable := #[], attributes := #[] }
def k2m0 : Method := { name := "<init>", desc := "(I)V", sig := { parameters := [.int], returnType := none }, accessFlags := 0, code := some k2c0 }
def k2c1 : Code := { maxStack := 6, maxLocals := 5, code := prog_92_method_2_code, exceptionTable := #[], attributes := #[] }
def k2m1 : Method := { name := "add", desc := "(Lcom/example/evenkeel/evenkeel/skew/GroupGrowth$Course;ID)V", sig := { parameters := [(.object "com/example/evenkeel/evenkeel/skew/GroupGrowth$Course"), .int, .double], returnType := none }, accessFlags := 0, code := some k2c1 }
def k2c2 : Code := { maxStack := 4, maxLocals := 5, code := prog_92_method_3_code, exceptionTable := #[], attributes := #[] }
def k2m2 : Method := { name := "sum", desc := "(I)D", sig := { parameters := [.int], returnType := some .double }, accessFlags := 0, code := some k2c2 }
/-- com/example/evenkeel/evenkeel/skew/CourseSums -/
def k2 : Class := { plain "com/example/evenkeel/evenkeel/skew/CourseSums" (some 0) with
  accessFlags := 48
  interfaces := #[]
  cf := some (fileOf pool2 8 #[] #[{ accessFlags := 0, nameIndex := 5, descriptorIndex := 60, attributes := #[] }, { accessFlags := 0, nameIndex := 63, descriptorIndex := 64, attributes := #[] }, { accessFlags := 0, nameIndex := 37, descriptorIndex := 38, attributes := #[] }] 48 2 #[] #[{ accessFlags := 26, nameIndex := 15, descriptorIndex := 16, attributes := #[] }, { accessFlags := 18, nameIndex := 11, descriptorIndex := 12, attributes := #[] }, { accessFlags := 18, nameIndex := 19, descriptorIndex := 20, attributes := #[] }])
  fields := #[{ name := "COURSES", type := (.array (.object "com/example/evenkeel/evenkeel/skew/GroupGrowth$Course")), accessFlags := 26, slot := 0, constantValue := 0 }, { name := "slots", type := .int, accessFlags := 18, slot := 0, constantValue := 0 }, { name := "sums", type := (.array .double), accessFlags := 18, slot := 1, constantValue := 0 }]
  methods := #[k2m0, k2m1, k2m2]
  instanceTypes := #[.int, (.array .double)]
  staticTypes := #[(.array (.object "com/example/evenkeel/evenkeel/skew/GroupGrowth$Course"))]
  resolved := Array.replicate 83 none
  statics := some 0 }

def pool3 : Array CpInfo := pool [(1, .class_ 2), (0, u "java/lang/constant/Constable"), (0, .class_ 4), (0, u "java/lang/Object")] 6

/-- java/lang/constant/Constable -/
def k3 : Class := { plain "java/lang/constant/Constable" (some 0) with
  accessFlags := 1537
  interfaces := #[]
  cf := some (fileOf pool3 1 #[] #[] 1537 3 #[] #[])
  fields := #[]
  methods := #[]
  instanceTypes := #[]
  staticTypes := #[]
  resolved := Array.replicate 11 none
  statics := none }

def pool4 : Array CpInfo := pool [(1, .class_ 2), (0, u "java/lang/Comparable"), (0, .class_ 4), (0, u "java/lang/Object")] 7

/-- java/lang/Comparable -/
def k4 : Class := { plain "java/lang/Comparable" (some 0) with
  accessFlags := 1537
  interfaces := #[]
  cf := some (fileOf pool4 1 #[] #[] 1537 3 #[] #[])
  fields := #[]
  methods := #[]
  instanceTypes := #[]
  staticTypes := #[]
  resolved := Array.replicate 12 none
  statics := none }

def pool5 : Array CpInfo := pool [(1, .class_ 2), (0, u "java/io/Serializable"), (0, .class_ 4), (0, u "java/lang/Object")] 2

/-- java/io/Serializable -/
def k5 : Class := { plain "java/io/Serializable" (some 0) with
  accessFlags := 1537
  interfaces := #[]
  cf := some (fileOf pool5 1 #[] #[] 1537 3 #[] #[])
  fields := #[]
  methods := #[]
  instanceTypes := #[]
  staticTypes := #[]
  resolved := Array.replicate 7 none
  statics := none }

def pool6 : Array CpInfo := pool [(2, .class_ 4), (1, u "java/lang/Enum"), (0, u "name"), (0, u "Ljava/lang/String;"), (0, .fieldref 2 8), (0, .nameAndType 9 10), (0, u "ordinal"), (0, u "I"), (1, .class_ 14), (1, u "java/lang/Object"), (4, u "hash"), (86, .class_ 108), (1, u "java/lang/Enum$EnumDesc"), (2, .class_ 112), (0, u "java/lang/constant/Constable"), (0, .class_ 114), (0, u "java/lang/Comparable"), (0, .class_ 116), (0, u "java/io/Serializable"), (9, u "()I")] 77

def k6c0 : Code := { maxStack := 1, maxLocals := 1, code := jdk_37_method_2_code, exceptionTable := #[], attributes := #[] }
def k6m0 : Method := { name := "ordinal", desc := "()I", sig := { parameters := [], returnType := some .int }, accessFlags := 17, code := some k6c0 }
/-- java/lang/Enum -/
def k6 : Class := { plain "java/lang/Enum" (some 0) with
  accessFlags := 1057
  interfaces := #[3, 4, 5]
  cf := some (fileOf pool6 2 #[.nestMembers #[106]] #[{ accessFlags := 17, nameIndex := 9, descriptorIndex := 126, attributes := #[] }] 1057 12 #[111, 113, 115] #[{ accessFlags := 18, nameIndex := 5, descriptorIndex := 6, attributes := #[] }, { accessFlags := 18, nameIndex := 9, descriptorIndex := 10, attributes := #[] }, { accessFlags := 2, nameIndex := 19, descriptorIndex := 10, attributes := #[] }])
  fields := #[{ name := "name", type := (.object "java/lang/String"), accessFlags := 18, slot := 0, constantValue := 0 }, { name := "ordinal", type := .int, accessFlags := 18, slot := 1, constantValue := 0 }, { name := "hash", type := .int, accessFlags := 2, slot := 2, constantValue := 0 }]
  methods := #[k6m0]
  instanceTypes := #[(.object "java/lang/String"), .int, .int]
  staticTypes := #[]
  resolved := Array.replicate 204 none
  statics := none }

def pool7 : Array CpInfo := pool [(1, .class_ 2), (0, u "com/example/evenkeel/evenkeel/skew/GroupGrowth$Course"), (2, u "SPREAD"), (0, u "Lcom/example/evenkeel/evenkeel/skew/GroupGrowth$Course;"), (2, u "CLUSTERED"), (2, u "$VALUES"), (0, u "[Lcom/example/evenkeel/evenkeel/skew/GroupGrowth$Course;"), (6, .class_ 22), (1, u "java/lang/Enum"), (35, .class_ 59), (0, u "com/example/evenkeel/evenkeel/skew/GroupGrowth")] 2

/-- com/example/evenkeel/evenkeel/skew/GroupGrowth$Course -/
def k7 : Class := { plain "com/example/evenkeel/evenkeel/skew/GroupGrowth$Course" (some 6) with
  accessFlags := 16432
  interfaces := #[]
  cf := some (fileOf pool7 1 #[.nestHost 58] #[] 16432 20 #[] #[{ accessFlags := 16409, nameIndex := 5, descriptorIndex := 6, attributes := #[] }, { accessFlags := 16409, nameIndex := 9, descriptorIndex := 6, attributes := #[] }, { accessFlags := 4122, nameIndex := 12, descriptorIndex := 13, attributes := #[] }])
  fields := #[{ name := "SPREAD", type := (.object "com/example/evenkeel/evenkeel/skew/GroupGrowth$Course"), accessFlags := 16409, slot := 0, constantValue := 0 }, { name := "CLUSTERED", type := (.object "com/example/evenkeel/evenkeel/skew/GroupGrowth$Course"), accessFlags := 16409, slot := 1, constantValue := 0 }, { name := "$VALUES", type := (.array (.object "com/example/evenkeel/evenkeel/skew/GroupGrowth$Course")), accessFlags := 4122, slot := 2, constantValue := 0 }]
  methods := #[]
  instanceTypes := #[(.object "java/lang/String"), .int, .int]
  staticTypes := #[(.object "com/example/evenkeel/evenkeel/skew/GroupGrowth$Course"), (.object "com/example/evenkeel/evenkeel/skew/GroupGrowth$Course"), (.array (.object "com/example/evenkeel/evenkeel/skew/GroupGrowth$Course"))]
  resolved := Array.replicate 62 none
  statics := some 1 }

def pool8 : Array CpInfo := pool [(1, u "java/lang/Cloneable"), (0, .class_ 1), (0, u "java/lang/Object"), (0, .class_ 3)] 3

/-- java/lang/Cloneable -/
def k8 : Class := { plain "java/lang/Cloneable" (some 0) with
  accessFlags := 1537
  interfaces := #[]
  cf := some (fileOf pool8 2 #[] #[] 1537 4 #[] #[])
  fields := #[]
  methods := #[]
  instanceTypes := #[]
  staticTypes := #[]
  resolved := Array.replicate 8 none
  statics := none }

/-- the primitive byte -/
def k9 : Class := { plain "byte" none with kind := .primitive 'B', accessFlags := 0x411 }
/-- [B -/
def k10 : Class := { plain "[B" (some 0) with kind := .array 9 .byte, interfaces := #[8, 5], accessFlags := 1041 }

/-- the primitive int -/
def k11 : Class := { plain "int" none with kind := .primitive 'I', accessFlags := 0x411 }
/-- [I -/
def k12 : Class := { plain "[I" (some 0) with kind := .array 11 .int, interfaces := #[8, 5], accessFlags := 1041 }

/-- [Lcom/example/evenkeel/evenkeel/skew/GroupGrowth$Course; -/
def k13 : Class := { plain "[Lcom/example/evenkeel/evenkeel/skew/GroupGrowth$Course;" (some 0) with kind := .array 7 (.object "com/example/evenkeel/evenkeel/skew/GroupGrowth$Course"), interfaces := #[8, 5], accessFlags := 1041 }

def k14 : Class := { plain "double" none with kind := .primitive 'D', accessFlags := 0x411 }
def k15 : Class := { plain "[D" (some 0) with kind := .array 14 .double, interfaces := #[8, 5], accessFlags := 1041 }
def heap : Heap := #[{ cls := 2, slots := #[.ref 2], vm := .statics 2 },
  { cls := 7, slots := #[.ref 3, .ref 4, .null], vm := .statics 7 },
  { cls := 13, slots := #[.ref 3, .ref 4], vm := .none },
  { cls := 7, slots := #[.null, .int 0, .int 0], vm := .none },
  { cls := 7, slots := #[.null, .int 1, .int 0], vm := .none }]
def classes : Array Class := #[k0, k1, k2, k3, k4, k5, k6, k7, k8, k9, k10, k11, k12, k13, k14, k15]
def interned : List (Array UInt16 × Addr) := []
def slotsUsed : Nat := 12
def theMethod : MethodId := ⟨1, 1⟩
def args0 : Array Value := #[.int 5, .int 5, .int 5, .int 5, .int 5, .int 5]
def aboutOver (below : List Frame) : State where
  vm := { classes := classes, interned := interned.toArray }
  heap := heap
  slotsUsed := slotsUsed
  threads := #[{ frames := .invoking theMethod args0 :: below }]
def below0 : List Frame := [.native { method := ⟨0, 0⟩, args := #[] }]
def about1 : State := aboutOver below0
def p0 : Program := .bare "" "" ""
def e0 : Env := launch0.env 0 0 0
theorem w_frames : about1.frames = Frame.invoking theMethod args0 :: below0 := rfl
set_option maxRecDepth 65536 in
theorem w_args : argsFit about1.vm theMethod args0 = true := by decide +kernel
set_option maxRecDepth 65536 in
theorem w_heap : heapFits about1 = true := by decide +kernel
set_option maxRecDepth 65536 in
theorem w_runnable : about1.curStatus? = some .runnable := by decide +kernel
set_option maxRecDepth 65536 in
theorem w_alone : about1.alone = true := by decide +kernel
set_option maxRecDepth 65536 in
theorem w_named : about1.methodNamed? x = some theMethod := by decide +kernel
set_option maxRecDepth 65536 in
theorem w_hears : about1.hears theMethod below0 = true := by decide +kernel
set_option maxRecDepth 65536 in
theorem w_ripe : about1.ripe theMethod args0 below0 = true := by decide +kernel
theorem w_running : about1.status = .running := rfl
set_option maxRecDepth 65536 in
theorem w_room : about1.hasRoom e0.platform room_1 = true :=
  launch0.hasRoom_least _ room_1 (by decide +kernel) (by decide +kernel) (by decide +kernel) (by decide +kernel) (by decide +kernel) (by decide +kernel)
theorem allAtoms_all (ts : List Jvm.Cond) (a : Array Jvm.Value) (st : Jvm.State) : (allAtoms ts).before a st = ts.all (fun c => c.before a st) := by
  induction ts with
  | nil => rfl
  | cons c t ih =>
    show (Jvm.Cond.and c (allAtoms t)).before a st = _
    rw [Jvm.Cond.before_and, ih, List.all_cons]
def words1 : List Jvm.Cond := Jvm.Cond.code x code maxLocals ret :: tables_1
/-- a 'code' word, met by the world's own term for the bytes: nothing is compared byte by byte -/
theorem code_word {y : MethodName} {bytes : ByteArray} {mx : Nat} {rt : Option FieldType} {a : Array Value} {s : State} {m : MethodId} {meth : Method} {c : Code} (h1 : s.methodNamed? y = some m) (h2 : s.vm.method? m = some meth) (h3 : meth.code = some c) (h4 : c.code = bytes)
    (h5 : (c.maxLocals == mx && c.exceptionTable.isEmpty && decide (c.maxStack ≤ mostOperands) && decide (meth.sig.returnType = rt) && !meth.locks && decide (parseMethodDescriptor y.desc = some meth.sig)) = true) : (Jvm.Cond.code y bytes mx rt).before a s = true := by
  simp only [Bool.and_eq_true, beq_iff_eq, Bool.not_eq_true', decide_eq_true_eq] at h5
  obtain ⟨⟨⟨⟨⟨g1, g2⟩, g3⟩, g4⟩, g5⟩, g6⟩ := h5
  simp [Cond.before, Cond.holds, Cond.value, h1, h2, h3, h4, g1, g2, g3, g4, g5, g6]
def isCode : Jvm.Cond → Bool
  | .code _ _ _ _ => true
  | _ => false
theorem all_split {L : List Jvm.Cond} {P : Jvm.Cond → Bool} (h1 : L.all (fun c => isCode c || P c) = true) (h2 : ∀ c ∈ L.filter isCode, P c = true) : L.all P = true := by
  refine List.all_eq_true.mpr fun c hc => ?_
  have h := List.all_eq_true.mp h1 c hc
  rcases Bool.eq_false_or_eq_true (isCode c) with hi | hi
  · exact h2 c (List.mem_filter.mpr ⟨hc, hi⟩)
  · simpa [hi] using h
set_option maxRecDepth 65536 in
theorem w_c0 : (Jvm.Cond.code x code maxLocals ret).before args0 about1 = true := code_word (m := ⟨1, 1⟩) (meth := k1m1) (c := k1c1) (by decide +kernel) rfl rfl rfl (by decide +kernel)
set_option maxRecDepth 65536 in
theorem w_c1 : (Jvm.Cond.code ({ cls := "com/example/evenkeel/evenkeel/skew/CourseSums", name := "<init>", desc := "(I)V" } : Jvm.MethodName) prog_92_method_1_code (2 : Nat) (Option.none : Option Jvm.ClassFile.FieldType)).before args0 about1 = true := code_word (m := ⟨2, 0⟩) (meth := k2m0) (c := k2c0) (by decide +kernel) rfl rfl rfl (by decide +kernel)
set_option maxRecDepth 65536 in
theorem w_c2 : (Jvm.Cond.code ({ cls := "java/lang/Object", name := "<init>", desc := "()V" } : Jvm.MethodName) object_method_1_code (1 : Nat) (Option.none : Option Jvm.ClassFile.FieldType)).before args0 about1 = true := code_word (m := ⟨0, 0⟩) (meth := k0m0) (c := k0c0) (by decide +kernel) rfl rfl rfl (by decide +kernel)
set_option maxRecDepth 65536 in
theorem w_c3 : (Jvm.Cond.code ({ cls := "com/example/evenkeel/evenkeel/skew/CourseSums", name := "add", desc := "(Lcom/example/evenkeel/evenkeel/skew/GroupGrowth$Course;ID)V" } : Jvm.MethodName) prog_92_method_2_code (5 : Nat) (Option.none : Option Jvm.ClassFile.FieldType)).before args0 about1 = true := code_word (m := ⟨2, 1⟩) (meth := k2m1) (c := k2c1) (by decide +kernel) rfl rfl rfl (by decide +kernel)
set_option maxRecDepth 65536 in
theorem w_c4 : (Jvm.Cond.code ({ cls := "java/lang/Enum", name := "ordinal", desc := "()I" } : Jvm.MethodName) jdk_37_method_2_code (1 : Nat) (Option.some Jvm.ClassFile.FieldType.int)).before args0 about1 = true := code_word (m := ⟨6, 0⟩) (meth := k6m0) (c := k6c0) (by decide +kernel) rfl rfl rfl (by decide +kernel)
set_option maxRecDepth 65536 in
theorem w_c5 : (Jvm.Cond.code ({ cls := "com/example/evenkeel/evenkeel/skew/CourseSums", name := "sum", desc := "(I)D" } : Jvm.MethodName) prog_92_method_3_code (5 : Nat) (Option.some Jvm.ClassFile.FieldType.double)).before args0 about1 = true := code_word (m := ⟨2, 2⟩) (meth := k2m2) (c := k2c2) (by decide +kernel) rfl rfl rfl (by decide +kernel)
def codes1 : List Jvm.Cond := [Jvm.Cond.code x code maxLocals ret, Jvm.Cond.code ({ cls := "com/example/evenkeel/evenkeel/skew/CourseSums", name := "<init>", desc := "(I)V" } : Jvm.MethodName) prog_92_method_1_code (2 : Nat) (Option.none : Option Jvm.ClassFile.FieldType), Jvm.Cond.code ({ cls := "java/lang/Object", name := "<init>", desc := "()V" } : Jvm.MethodName) object_method_1_code (1 : Nat) (Option.none : Option Jvm.ClassFile.FieldType), Jvm.Cond.code ({ cls := "com/example/evenkeel/evenkeel/skew/CourseSums", name := "add", desc := "(Lcom/example/evenkeel/evenkeel/skew/GroupGrowth$Course;ID)V" } : Jvm.MethodName) prog_92_method_2_code (5 : Nat) (Option.none : Option Jvm.ClassFile.FieldType), Jvm.Cond.code ({ cls := "java/lang/Enum", name := "ordinal", desc := "()I" } : Jvm.MethodName) jdk_37_method_2_code (1 : Nat) (Option.some Jvm.ClassFile.FieldType.int), Jvm.Cond.code ({ cls := "com/example/evenkeel/evenkeel/skew/CourseSums", name := "sum", desc := "(I)D" } : Jvm.MethodName) prog_92_method_3_code (5 : Nat) (Option.some Jvm.ClassFile.FieldType.double)]
set_option maxRecDepth 65536 in
theorem codes_eq : words1.filter isCode = codes1 := rfl
theorem w_codes : ∀ c ∈ words1.filter isCode, c.before args0 about1 = true := by
  rw [codes_eq]
  intro c hc
  simp only [codes1, List.mem_cons, List.not_mem_nil, or_false] at hc
  rcases hc with rfl | rfl | rfl | rfl | rfl | rfl
  · exact w_c0
  · exact w_c1
  · exact w_c2
  · exact w_c3
  · exact w_c4
  · exact w_c5
set_option maxRecDepth 65536 in
theorem w_t1 : (words1.take 24).all (fun c => isCode c || c.before args0 about1) = true := by decide +kernel
set_option maxRecDepth 65536 in
theorem w_t2 : (words1.drop 24).all (fun c => isCode c || c.before args0 about1) = true := by decide +kernel
theorem w_tables : (allAtoms (Jvm.Cond.code x code maxLocals ret :: tables_1)).before args0 about1 = true := by
  rw [allAtoms_all]
  show words1.all (fun c => c.before args0 about1) = true
  refine all_split ?_ w_codes
  rw [← List.take_append_drop 24 words1, List.all_append, w_t1, w_t2]
  rfl
set_option maxRecDepth 65536 in
theorem w_case : (Jvm.Cond.and given_1 narrow_1).before args0 about1 = true := by decide +kernel
theorem w_applies : (headSpec (Jvm.Cond.code x code maxLocals ret :: tables_1) room_1).applies x e0.platform about1 = true :=
  (Spec.applies_iff w_frames).mpr ⟨w_running, w_runnable, w_alone, w_named, w_hears, w_ripe, w_room, w_tables⟩
theorem atStart : AtStart classFile x code maxLocals ret World_1 tables_1 room_1 Calls_1 rest_1 Pre_1 launch0 p0 e0 about1 theMethod args0 below0 :=
  ⟨lists_1, trivial, launch0.admits_env _ _ _, launch0.least_env, fairChoices_fair.cas, fairChoices_fair.clock, w_frames, w_args, w_heap, w_applies, trivial, trivial, w_case⟩
end start1
theorem witness_1 : WitnessClaimed_1 := ⟨start1.p0, start1.e0, start1.about1, start1.theMethod, start1.args0, start1.below0, start1.atStart⟩
end Jvm.Pilot.@@N@@
