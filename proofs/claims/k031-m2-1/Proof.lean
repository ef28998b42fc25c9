import JvmDerived
import JvmDerived.Pilot.@@N@@Statement
import JvmDerived.Pilot.@@N@@Code
set_option linter.unusedVariables false
set_option linter.unusedSimpArgs false
namespace Jvm.Pilot.@@N@@
open Jvm Jvm.ClassFile Sem Op Lib Jvm.Free Jvm.Stand Jvm.LawKit Jvm.RoadKit Bundle Jvm.Pilot.@@N@@.Jvm.D
/-! ## own kit: one walk of a body in continuation style; the library's step laws of one family behind it -/
section OwnKit
variable {p : Program} {l : Launch} {e : Env} {R : Room} {s : State} {m : MethodId} {args : Array Value} {below : List Frame} {meth : Method} {c : Code} {Z : State} {own : String} {bytes : ByteArray} {maxL : Nat} {ret : Option FieldType} {nm : String} {n0 km : Nat} {Q : Option Value → Heap → Prop} {RR : State → Outcome → Prop} {T : State} {h : Heap} {cells slots : Nat} {a0 : Array Value} {pc pc' : Nat} {Ls : Array Slot} {S : List Value}
def OwnGo (p : Program) (e : Env) (below : List Frame) (S : State) (RR : State → Outcome → Prop) : Prop :=
  ∃ s₂ o, Steps p.tables e below S s₂ ∧ s₂.status = .running ∧ Ended s₂ below o ∧ RR s₂ o
theorem own_step {S S' : State} (k : OwnGo p e below S' RR) (h : ∀ t, Steps p.tables e below S' t → Steps p.tables e below S t) : OwnGo p e below S RR := by
  obtain ⟨s₂, o, h1, h2⟩ := k
  exact ⟨s₂, o, h _ h1, h2⟩
/-- the context of one body: what holds all along its walk -/
def OwnCx (p : Program) (l : Launch) (e : Env) (R : Room) (s : State) (m : MethodId) (meth : Method) (c : Code) (Z : State) (own : String) (bytes : ByteArray) (maxL : Nat) (ret : Option FieldType) (nm : String) (n0 km : Nat) (Q : Option Value → Heap → Prop) (RR : State → Outcome → Prop) : Prop :=
  p.tables.exec = Jvm.exec ∧ c.code = bytes ∧ c.maxLocals = maxL ∧ Z.Warmed39 s.vm ∧ s.vm.findClass own = some m.cls ∧ meth.name = nm ∧ meth.sig.returnType = ret ∧ meth.locks = false ∧
  ∀ (U : State) (v : Option Value) (L : List Loc), Q v U.heap → km ≤ U.heap.size → Fr n0 L → s.WarmedH U.vm → s.sameButNew ({ U with vm := s.vm } : State) L R.cells R.slots → RR U (.returned v)
/-- where the walk stands: the state T, its heap h, so many cells and slots made -/
def OwnSt (p : Program) (l : Launch) (e : Env) (R : Room) (s : State) (m : MethodId) (args : Array Value) (below : List Frame) (meth : Method) (c : Code) (Z : State) (own : String) (bytes : ByteArray) (maxL : Nat) (ret : Option FieldType) (nm : String) (n0 km : Nat) (Q : Option Value → Heap → Prop) (RR : State → Outcome → Prop) (T : State) (h : Heap) (cells slots : Nat) : Prop :=
  OwnCx p l e R s m meth c Z own bytes maxL ret nm n0 km Q RR ∧ T.heap = h ∧ km ≤ h.size ∧ ∃ locs, Stand p l e R s m args below meth c T locs cells slots ∧ Fr n0 locs
/-- a body's contract: called with these arguments at the heap h it returns v and leaves a heap, with Q -/
def OwnMet (l : Launch) (Z : State) (y : MethodName) (bytes : ByteArray) (maxL : Nat) (ret : Option FieldType) (rm : Room) (as' : Array Value) (h : Heap) (n0 : Nat) (Q : Option Value → Heap → Prop) : Prop :=
  ∀ ws : List Jvm.Cond, MetFree l y (head1 (Jvm.Cond.code y bytes maxL ret :: ws) rm) (fun a U => a = as' ∧ Z.Warmed39 U.vm ∧ U.heap = h) (fun _ _ _ _ _ => True) (fun _ U o U' => ∃ v L, o = .returned v ∧ ((Q v U'.heap ∧ h.size ≤ U'.heap.size) ∧ Fr n0 L) ∧ FrameEnd U o U' L rm.cells rm.slots)
theorem own_body {y : MethodName} {rm : Room} {as' : Array Value} (hpl : plainFor y = true)
    (body : ∀ (p : Program) (e : Env) (s : State) (m : MethodId) (below : List Frame) (meth : Method) (c : Code) (s₁ : State) (RR : State → Outcome → Prop), OwnSt p l e rm s m as' below meth c Z y.cls bytes maxL ret y.name n0 0 Q RR s₁ h 0 0 → OwnGo p e below (s₁.setTop (entryFrame m as' maxL)) RR) :
    OwnMet l Z y bytes maxL ret rm as' h n0 Q := by
  intro ws
  refine MetFree.of_bodySF hpl hisR ?_
  intro p e s m args below meth c s₁ Bd hml0 hP hK
  obtain ⟨rfl, hZ, hh⟩ := hP
  refine body p e s m below meth c s₁ _ ⟨⟨Bd.exec, Bd.bytes, hml0, hZ, findClass_of_methodNamed Bd.named, (name_of_methodNamed Bd.named Bd.method).1, Bd.returns, Bd.notSynchronized, ?_⟩, by rw [← hh, Bd.state]; rfl, Nat.zero_le _, [], Stand.of_body Bd, Fr.nil n0⟩
  intro U v L hQ _ hN hW hs
  exact ⟨v, L, rfl, ⟨⟨hQ, by rw [← hh]; exact hs.2.1⟩, hN⟩, ⟨_, rfl⟩, hW, hs⟩
theorem own_enter {g g' : JFrame} (q : g = g') (k : OwnGo p e below (T.setTop g') RR) : OwnGo p e below (T.setTop g) RR := q ▸ k
theorem own_ret {v : Option Value} {g : State} (X : OwnSt p l e R s m args below meth c Z own bytes maxL ret nm n0 km Q RR T h cells slots) (hv : ret = none → v = none) (hQ : Q v h) (hc : cells ≤ R.cells) (hl : slots ≤ R.slots)
    (k : ∀ locs, Stand p l e R s m args below meth c T locs cells slots → ∀ fs, (∀ (f : JFrame) (acts : List Action), f.method = m → f.locked = none → f.entered = [] → (doReturn e (T.setTop f) acts v).1 = T.setFrames fs) → Steps p.tables e below g (T.setFrames fs)) : OwnGo p e below g RR := by
  obtain ⟨⟨hx, hby, hml, hZ, hown, hnm, hret, hlk, hR⟩, hh, hkm, locs, X0, N⟩ := X
  obtain ⟨fs, hr, hrun, hended, hW, hsame⟩ := X0.leave (v := v) (fun q => hv (hret ▸ q)) hlk
  exact ⟨_, _, k _ X0 fs hr, hrun, hended, hR _ _ _ (by show Q v T.heap; rw [hh]; exact hQ) (by show km ≤ T.heap.size; rw [hh]; exact hkm) N hW (hsame.mono hc hl)⟩
theorem own_retV (X : OwnSt p l e R s m args below meth c Z own bytes maxL none nm n0 km Q RR T h cells slots) (hd : decode bytes pc = .ok (.return_, 1)) (hQ : Q none h) (hc : cells ≤ R.cells) (hl : slots ≤ R.slots) : OwnGo p e below (T.setTop (mkF m pc Ls [])) RR := by
  refine own_ret X (fun _ => rfl) hQ hc hl fun locs X0 fs hr => ?_
  obtain ⟨⟨hx, hby, hml, hZ, hown, hnm, hret, hlk, hR⟩, hh, -⟩ := X
  exact X0.returnOut hx hret (hb hby hd) hr
theorem own_retI {z : Int32} {rest : List Value} (X : OwnSt p l e R s m args below meth c Z own bytes maxL (some .int) nm n0 km Q RR T h cells slots) (hd : decode bytes pc = .ok (.ireturn, 1)) (hQ : Q (some (.int z)) h) (hc : cells ≤ R.cells) (hl : slots ≤ R.slots) : OwnGo p e below (T.setTop (mkF m pc Ls (.int z :: rest))) RR := by
  refine own_ret X (fun q => nomatch q) hQ hc hl fun locs X0 fs hr => ?_
  obtain ⟨⟨hx, hby, hml, hZ, hown, hnm, hret, hlk, hR⟩, hh, -⟩ := X
  exact retOut X0 hx hret rfl (Or.inl ⟨rfl, Or.inl rfl, z, rfl⟩) (hb hby hd) hr
theorem own_retJ {z : Int64} {rest : List Value} (X : OwnSt p l e R s m args below meth c Z own bytes maxL (some .long) nm n0 km Q RR T h cells slots) (hd : decode bytes pc = .ok (.lreturn, 1)) (hQ : Q (some (.long z)) h) (hc : cells ≤ R.cells) (hl : slots ≤ R.slots) : OwnGo p e below (T.setTop (mkF m pc Ls (.long z :: rest))) RR := by
  refine own_ret X (fun q => nomatch q) hQ hc hl fun locs X0 fs hr => ?_
  obtain ⟨⟨hx, hby, hml, hZ, hown, hnm, hret, hlk, hR⟩, hh, -⟩ := X
  exact retOut X0 hx hret rfl (Or.inr (Or.inl ⟨rfl, rfl, z, rfl⟩)) (hb hby hd) hr
theorem own_retA {v : Value} {t : FieldType} {rest : List Value} (X : OwnSt p l e R s m args below meth c Z own bytes maxL (some t) nm n0 km Q RR T h cells slots) (ht : t.isReference = true) (hv : v.isRef = true) (hn : narrow t v = v) (hd : decode bytes pc = .ok (.areturn, 1)) (hQ : Q (some v) h) (hc : cells ≤ R.cells) (hl : slots ≤ R.slots) : OwnGo p e below (T.setTop (mkF m pc Ls (v :: rest))) RR := by
  refine own_ret X (fun q => nomatch q) hQ hc hl fun locs X0 fs hr => ?_
  obtain ⟨⟨hx, hby, hml, hZ, hown, hnm, hret, hlk, hR⟩, hh, -⟩ := X
  exact retOut X0 hx hret hn (Or.inr (Or.inr (Or.inr (Or.inr ⟨rfl, ht, hv⟩)))) (hb hby hd) hr
theorem own_retZ {z : Int32} {rest : List Value} (X : OwnSt p l e R s m args below meth c Z own bytes maxL (some .boolean) nm n0 km Q RR T h cells slots) (hd : decode bytes pc = .ok (.ireturn, 1)) (hz : z &&& 1 = z) (hQ : Q (some (.int z)) h) (hc : cells ≤ R.cells) (hl : slots ≤ R.slots) : OwnGo p e below (T.setTop (mkF m pc Ls (.int z :: rest))) RR := by
  refine own_ret X (fun q => nomatch q) hQ hc hl fun locs X0 fs hr => ?_
  obtain ⟨⟨hx, hby, hml, hZ, hown, hnm, hret, hlk, hR⟩, hh, -⟩ := X
  exact retOut X0 hx hret (by show Value.int (z &&& 1) = _; rw [hz]) (Or.inl ⟨rfl, Or.inr (Or.inl rfl), z, rfl⟩) (hb hby hd) hr
theorem OwnSt.here (X : OwnSt p l e R s m args below meth c Z own bytes maxL ret nm n0 km Q RR T h cells slots) : At T m c below := X.2.2.2.elim fun _ q => q.1.here
theorem OwnSt.hx (X : OwnSt p l e R s m args below meth c Z own bytes maxL ret nm n0 km Q RR T h cells slots) : p.tables.exec = Jvm.exec := X.1.1
theorem OwnSt.by' (X : OwnSt p l e R s m args below meth c Z own bytes maxL ret nm n0 km Q RR T h cells slots) : c.code = bytes := X.1.2.1
theorem OwnSt.hZ (X : OwnSt p l e R s m args below meth c Z own bytes maxL ret nm n0 km Q RR T h cells slots) : Z.Warmed39 s.vm := X.1.2.2.2.1
theorem own_aloadN {k : Fin 4} {v : Value} (X : OwnSt p l e R s m args below meth c Z own bytes maxL ret nm n0 km Q RR T h cells slots) (hd : decode bytes pc = .ok (.aload_n k, 1)) (hp : pc + 1 = pc') (hl : Ls[k.val]? = some (.val v)) (hv : v.isRef = true) (k : OwnGo p e below (T.setTop (mkF m pc' Ls (v :: S))) RR) : OwnGo p e below (T.setTop (mkF m pc Ls (S))) RR := by
  subst hp
  exact own_step k fun t k => XS.aloadN X.here X.hx rfl (hb X.by' hd) hl hv k
theorem own_aload {k : Nat} {v : Value} (X : OwnSt p l e R s m args below meth c Z own bytes maxL ret nm n0 km Q RR T h cells slots) (hd : decode bytes pc = .ok (.aload k, 2)) (hp : pc + 2 = pc') (hl : Ls[k]? = some (.val v)) (hv : v.isRef = true) (k : OwnGo p e below (T.setTop (mkF m pc' Ls (v :: S))) RR) : OwnGo p e below (T.setTop (mkF m pc Ls (S))) RR := by
  subst hp
  exact own_step k fun t k => XS.aload X.here X.hx rfl (hb X.by' hd) hl hv k
theorem own_iloadN {k : Fin 4} {v : Int32} (X : OwnSt p l e R s m args below meth c Z own bytes maxL ret nm n0 km Q RR T h cells slots) (hd : decode bytes pc = .ok (.iload_n k, 1)) (hp : pc + 1 = pc') (hl : Ls[k.val]? = some (.val (.int v))) (k : OwnGo p e below (T.setTop (mkF m pc' Ls (.int v :: S))) RR) : OwnGo p e below (T.setTop (mkF m pc Ls (S))) RR := by
  subst hp
  exact own_step k fun t k => XS.iloadN X.here X.hx rfl (hb X.by' hd) hl k
theorem own_iload {k : Nat} {v : Int32} (X : OwnSt p l e R s m args below meth c Z own bytes maxL ret nm n0 km Q RR T h cells slots) (hd : decode bytes pc = .ok (.iload k, 2)) (hp : pc + 2 = pc') (hl : Ls[k]? = some (.val (.int v))) (k : OwnGo p e below (T.setTop (mkF m pc' Ls (.int v :: S))) RR) : OwnGo p e below (T.setTop (mkF m pc Ls (S))) RR := by
  subst hp
  exact own_step k fun t k => XS.iload X.here X.hx rfl (hb X.by' hd) hl k
theorem own_lloadN {k : Fin 4} {v : Int64} (X : OwnSt p l e R s m args below meth c Z own bytes maxL ret nm n0 km Q RR T h cells slots) (hd : decode bytes pc = .ok (.lload_n k, 1)) (hp : pc + 1 = pc') (hl : Ls[k.val]? = some (.val (.long v))) (k : OwnGo p e below (T.setTop (mkF m pc' Ls (.long v :: S))) RR) : OwnGo p e below (T.setTop (mkF m pc Ls (S))) RR := by
  subst hp
  exact own_step k fun t k => XS.lloadN X.here X.hx rfl (hb X.by' hd) hl k
theorem own_lload {k : Nat} {v : Int64} (X : OwnSt p l e R s m args below meth c Z own bytes maxL ret nm n0 km Q RR T h cells slots) (hd : decode bytes pc = .ok (.lload k, 2)) (hp : pc + 2 = pc') (hl : Ls[k]? = some (.val (.long v))) (k : OwnGo p e below (T.setTop (mkF m pc' Ls (.long v :: S))) RR) : OwnGo p e below (T.setTop (mkF m pc Ls (S))) RR := by
  subst hp
  exact own_step k fun t k => XS.lload X.here X.hx rfl (hb X.by' hd) hl k
theorem own_iconst {i : Int} {v : Int32} (X : OwnSt p l e R s m args below meth c Z own bytes maxL ret nm n0 km Q RR T h cells slots) (hd : decode bytes pc = .ok (.iconst i, 1)) (hp : pc + 1 = pc') (hv : Int32.ofInt i = v) (k : OwnGo p e below (T.setTop (mkF m pc' Ls (.int v :: S))) RR) : OwnGo p e below (T.setTop (mkF m pc Ls (S))) RR := by
  subst hp
  subst hv
  exact own_step k fun t k => XS.iconst X.here X.hx rfl (hb X.by' hd) k
theorem own_bipush {i : Int} {v : Int32} (X : OwnSt p l e R s m args below meth c Z own bytes maxL ret nm n0 km Q RR T h cells slots) (hd : decode bytes pc = .ok (.bipush i, 2)) (hp : pc + 2 = pc') (hv : (Int8.ofInt i).toInt32 = v) (k : OwnGo p e below (T.setTop (mkF m pc' Ls (.int v :: S))) RR) : OwnGo p e below (T.setTop (mkF m pc Ls (S))) RR := by
  subst hp
  subst hv
  exact own_step k fun t k => XS.bipush X.here X.hx rfl (hb X.by' hd) k
theorem own_sipush {i : Int} {v : Int32} (X : OwnSt p l e R s m args below meth c Z own bytes maxL ret nm n0 km Q RR T h cells slots) (hd : decode bytes pc = .ok (.sipush i, 3)) (hp : pc + 3 = pc') (hv : (Int16.ofInt i).toInt32 = v) (k : OwnGo p e below (T.setTop (mkF m pc' Ls (.int v :: S))) RR) : OwnGo p e below (T.setTop (mkF m pc Ls (S))) RR := by
  subst hp
  subst hv
  exact own_step k fun t k => XS.sipush X.here X.hx rfl (hb X.by' hd) k
theorem own_lconst {i : Fin 2} {v : Int64} (X : OwnSt p l e R s m args below meth c Z own bytes maxL ret nm n0 km Q RR T h cells slots) (hd : decode bytes pc = .ok (.lconst i, 1)) (hp : pc + 1 = pc') (hv : Int64.ofNat i = v) (k : OwnGo p e below (T.setTop (mkF m pc' Ls (.long v :: S))) RR) : OwnGo p e below (T.setTop (mkF m pc Ls (S))) RR := by
  subst hp
  subst hv
  exact own_step k fun t k => XS.lconst X.here X.hx rfl (hb X.by' hd) k
theorem own_aconst_null  (X : OwnSt p l e R s m args below meth c Z own bytes maxL ret nm n0 km Q RR T h cells slots) (hd : decode bytes pc = .ok (.aconst_null, 1)) (hp : pc + 1 = pc')  (k : OwnGo p e below (T.setTop (mkF m pc' Ls (.null :: S))) RR) : OwnGo p e below (T.setTop (mkF m pc Ls (S))) RR := by
  subst hp
  exact own_step k fun t k => XS.aconstNull X.here X.hx rfl (hb X.by' hd) k
theorem own_iadd {x y : Int32} (X : OwnSt p l e R s m args below meth c Z own bytes maxL ret nm n0 km Q RR T h cells slots) (hd : decode bytes pc = .ok (.iadd, 1)) (hp : pc + 1 = pc')  (k : OwnGo p e below (T.setTop (mkF m pc' Ls (.int (x + y) :: S))) RR) : OwnGo p e below (T.setTop (mkF m pc Ls (.int y :: .int x :: S))) RR := by
  subst hp
  exact own_step k fun t k => XS.iadd X.here X.hx rfl (hb X.by' hd) rfl k
theorem own_isub {x y : Int32} (X : OwnSt p l e R s m args below meth c Z own bytes maxL ret nm n0 km Q RR T h cells slots) (hd : decode bytes pc = .ok (.isub, 1)) (hp : pc + 1 = pc')  (k : OwnGo p e below (T.setTop (mkF m pc' Ls (.int (x - y) :: S))) RR) : OwnGo p e below (T.setTop (mkF m pc Ls (.int y :: .int x :: S))) RR := by
  subst hp
  exact own_step k fun t k => XS.isub X.here X.hx rfl (hb X.by' hd) rfl k
theorem own_imul {x y : Int32} (X : OwnSt p l e R s m args below meth c Z own bytes maxL ret nm n0 km Q RR T h cells slots) (hd : decode bytes pc = .ok (.imul, 1)) (hp : pc + 1 = pc')  (k : OwnGo p e below (T.setTop (mkF m pc' Ls (.int (x * y) :: S))) RR) : OwnGo p e below (T.setTop (mkF m pc Ls (.int y :: .int x :: S))) RR := by
  subst hp
  exact own_step k fun t k => XS.imul X.here X.hx rfl (hb X.by' hd) rfl k
theorem own_iand {x y : Int32} (X : OwnSt p l e R s m args below meth c Z own bytes maxL ret nm n0 km Q RR T h cells slots) (hd : decode bytes pc = .ok (.iand, 1)) (hp : pc + 1 = pc')  (k : OwnGo p e below (T.setTop (mkF m pc' Ls (.int (x &&& y) :: S))) RR) : OwnGo p e below (T.setTop (mkF m pc Ls (.int y :: .int x :: S))) RR := by
  subst hp
  exact own_step k fun t k => XS.iand X.here X.hx rfl (hb X.by' hd) rfl k
theorem own_ior {x y : Int32} (X : OwnSt p l e R s m args below meth c Z own bytes maxL ret nm n0 km Q RR T h cells slots) (hd : decode bytes pc = .ok (.ior, 1)) (hp : pc + 1 = pc')  (k : OwnGo p e below (T.setTop (mkF m pc' Ls (.int (x ||| y) :: S))) RR) : OwnGo p e below (T.setTop (mkF m pc Ls (.int y :: .int x :: S))) RR := by
  subst hp
  exact own_step k fun t k => XS.ior X.here X.hx rfl (hb X.by' hd) rfl k
theorem own_ixor {x y : Int32} (X : OwnSt p l e R s m args below meth c Z own bytes maxL ret nm n0 km Q RR T h cells slots) (hd : decode bytes pc = .ok (.ixor, 1)) (hp : pc + 1 = pc')  (k : OwnGo p e below (T.setTop (mkF m pc' Ls (.int (x ^^^ y) :: S))) RR) : OwnGo p e below (T.setTop (mkF m pc Ls (.int y :: .int x :: S))) RR := by
  subst hp
  exact own_step k fun t k => XS.ixor X.here X.hx rfl (hb X.by' hd) rfl k
theorem own_ishl {x y : Int32} (X : OwnSt p l e R s m args below meth c Z own bytes maxL ret nm n0 km Q RR T h cells slots) (hd : decode bytes pc = .ok (.ishl, 1)) (hp : pc + 1 = pc')  (k : OwnGo p e below (T.setTop (mkF m pc' Ls (.int (x <<< (y &&& 31)) :: S))) RR) : OwnGo p e below (T.setTop (mkF m pc Ls (.int y :: .int x :: S))) RR := by
  subst hp
  exact own_step k fun t k => XS.ishl X.here X.hx rfl (hb X.by' hd) rfl k
theorem own_ishr {x y : Int32} (X : OwnSt p l e R s m args below meth c Z own bytes maxL ret nm n0 km Q RR T h cells slots) (hd : decode bytes pc = .ok (.ishr, 1)) (hp : pc + 1 = pc')  (k : OwnGo p e below (T.setTop (mkF m pc' Ls (.int (x >>> (y &&& 31)) :: S))) RR) : OwnGo p e below (T.setTop (mkF m pc Ls (.int y :: .int x :: S))) RR := by
  subst hp
  exact own_step k fun t k => XS.ishr X.here X.hx rfl (hb X.by' hd) rfl k
theorem own_iushr {x y : Int32} (X : OwnSt p l e R s m args below meth c Z own bytes maxL ret nm n0 km Q RR T h cells slots) (hd : decode bytes pc = .ok (.iushr, 1)) (hp : pc + 1 = pc')  (k : OwnGo p e below (T.setTop (mkF m pc' Ls (.int ((x.toUInt32 >>> (y &&& 31).toUInt32).toInt32) :: S))) RR) : OwnGo p e below (T.setTop (mkF m pc Ls (.int y :: .int x :: S))) RR := by
  subst hp
  exact own_step k fun t k => XS.iushr X.here X.hx rfl (hb X.by' hd) rfl k
theorem own_idiv {x y : Int32} (X : OwnSt p l e R s m args below meth c Z own bytes maxL ret nm n0 km Q RR T h cells slots) (hd : decode bytes pc = .ok (.idiv, 1)) (hp : pc + 1 = pc') (hy : y ≠ 0) (k : OwnGo p e below (T.setTop (mkF m pc' Ls (.int (x / y) :: S))) RR) : OwnGo p e below (T.setTop (mkF m pc Ls (.int y :: .int x :: S))) RR := by
  subst hp
  exact own_step k fun t k => XS.idiv X.here X.hx rfl (hb X.by' hd) rfl hy k
theorem own_irem {x y : Int32} (X : OwnSt p l e R s m args below meth c Z own bytes maxL ret nm n0 km Q RR T h cells slots) (hd : decode bytes pc = .ok (.irem, 1)) (hp : pc + 1 = pc') (hy : y ≠ 0) (k : OwnGo p e below (T.setTop (mkF m pc' Ls (.int (x % y) :: S))) RR) : OwnGo p e below (T.setTop (mkF m pc Ls (.int y :: .int x :: S))) RR := by
  subst hp
  exact own_step k fun t k => XS.irem X.here X.hx rfl (hb X.by' hd) rfl hy (by rw [irem_eq_mod]; exact k)
theorem own_ladd {x y : Int64} (X : OwnSt p l e R s m args below meth c Z own bytes maxL ret nm n0 km Q RR T h cells slots) (hd : decode bytes pc = .ok (.ladd, 1)) (hp : pc + 1 = pc')  (k : OwnGo p e below (T.setTop (mkF m pc' Ls (.long (x + y) :: S))) RR) : OwnGo p e below (T.setTop (mkF m pc Ls (.long y :: .long x :: S))) RR := by
  subst hp
  exact own_step k fun t k => XS.ladd X.here X.hx rfl (hb X.by' hd) rfl k
theorem own_lsub {x y : Int64} (X : OwnSt p l e R s m args below meth c Z own bytes maxL ret nm n0 km Q RR T h cells slots) (hd : decode bytes pc = .ok (.lsub, 1)) (hp : pc + 1 = pc')  (k : OwnGo p e below (T.setTop (mkF m pc' Ls (.long (x - y) :: S))) RR) : OwnGo p e below (T.setTop (mkF m pc Ls (.long y :: .long x :: S))) RR := by
  subst hp
  exact own_step k fun t k => XS.lsub X.here X.hx rfl (hb X.by' hd) rfl k
theorem own_lmul {x y : Int64} (X : OwnSt p l e R s m args below meth c Z own bytes maxL ret nm n0 km Q RR T h cells slots) (hd : decode bytes pc = .ok (.lmul, 1)) (hp : pc + 1 = pc')  (k : OwnGo p e below (T.setTop (mkF m pc' Ls (.long (x * y) :: S))) RR) : OwnGo p e below (T.setTop (mkF m pc Ls (.long y :: .long x :: S))) RR := by
  subst hp
  exact own_step k fun t k => XS.lmul X.here X.hx rfl (hb X.by' hd) rfl k
theorem own_land {x y : Int64} (X : OwnSt p l e R s m args below meth c Z own bytes maxL ret nm n0 km Q RR T h cells slots) (hd : decode bytes pc = .ok (.land, 1)) (hp : pc + 1 = pc')  (k : OwnGo p e below (T.setTop (mkF m pc' Ls (.long (x &&& y) :: S))) RR) : OwnGo p e below (T.setTop (mkF m pc Ls (.long y :: .long x :: S))) RR := by
  subst hp
  exact own_step k fun t k => XS.land X.here X.hx rfl (hb X.by' hd) rfl k
theorem own_lor {x y : Int64} (X : OwnSt p l e R s m args below meth c Z own bytes maxL ret nm n0 km Q RR T h cells slots) (hd : decode bytes pc = .ok (.lor, 1)) (hp : pc + 1 = pc')  (k : OwnGo p e below (T.setTop (mkF m pc' Ls (.long (x ||| y) :: S))) RR) : OwnGo p e below (T.setTop (mkF m pc Ls (.long y :: .long x :: S))) RR := by
  subst hp
  exact own_step k fun t k => XS.lor X.here X.hx rfl (hb X.by' hd) rfl k
theorem own_lxor {x y : Int64} (X : OwnSt p l e R s m args below meth c Z own bytes maxL ret nm n0 km Q RR T h cells slots) (hd : decode bytes pc = .ok (.lxor, 1)) (hp : pc + 1 = pc')  (k : OwnGo p e below (T.setTop (mkF m pc' Ls (.long (x ^^^ y) :: S))) RR) : OwnGo p e below (T.setTop (mkF m pc Ls (.long y :: .long x :: S))) RR := by
  subst hp
  exact own_step k fun t k => XS.lxor X.here X.hx rfl (hb X.by' hd) rfl k
theorem own_ldiv {x y : Int64} (X : OwnSt p l e R s m args below meth c Z own bytes maxL ret nm n0 km Q RR T h cells slots) (hd : decode bytes pc = .ok (.ldiv, 1)) (hp : pc + 1 = pc') (hy : y ≠ 0) (k : OwnGo p e below (T.setTop (mkF m pc' Ls (.long (x / y) :: S))) RR) : OwnGo p e below (T.setTop (mkF m pc Ls (.long y :: .long x :: S))) RR := by
  subst hp
  exact own_step k fun t k => XS.ldiv X.here X.hx rfl (hb X.by' hd) rfl hy k
theorem own_lrem {x y : Int64} (X : OwnSt p l e R s m args below meth c Z own bytes maxL ret nm n0 km Q RR T h cells slots) (hd : decode bytes pc = .ok (.lrem, 1)) (hp : pc + 1 = pc') (hy : y ≠ 0) (k : OwnGo p e below (T.setTop (mkF m pc' Ls (.long (x - (x / y) * y) :: S))) RR) : OwnGo p e below (T.setTop (mkF m pc Ls (.long y :: .long x :: S))) RR := by
  subst hp
  exact own_step k fun t k => XS.lrem X.here X.hx rfl (hb X.by' hd) rfl hy k
theorem own_lshl {x : Int64} {y : Int32} (X : OwnSt p l e R s m args below meth c Z own bytes maxL ret nm n0 km Q RR T h cells slots) (hd : decode bytes pc = .ok (.lshl, 1)) (hp : pc + 1 = pc')  (k : OwnGo p e below (T.setTop (mkF m pc' Ls (.long (x <<< (y &&& 0x3f).toInt64) :: S))) RR) : OwnGo p e below (T.setTop (mkF m pc Ls (.int y :: .long x :: S))) RR := by
  subst hp
  exact own_step k fun t k => XS.lshl X.here X.hx rfl (hb X.by' hd) rfl k
theorem own_lshr {x : Int64} {y : Int32} (X : OwnSt p l e R s m args below meth c Z own bytes maxL ret nm n0 km Q RR T h cells slots) (hd : decode bytes pc = .ok (.lshr, 1)) (hp : pc + 1 = pc')  (k : OwnGo p e below (T.setTop (mkF m pc' Ls (.long (x >>> (y &&& 0x3f).toInt64) :: S))) RR) : OwnGo p e below (T.setTop (mkF m pc Ls (.int y :: .long x :: S))) RR := by
  subst hp
  exact own_step k fun t k => XS.lshr X.here X.hx rfl (hb X.by' hd) rfl k
theorem own_lushr {x : Int64} {y : Int32} (X : OwnSt p l e R s m args below meth c Z own bytes maxL ret nm n0 km Q RR T h cells slots) (hd : decode bytes pc = .ok (.lushr, 1)) (hp : pc + 1 = pc')  (k : OwnGo p e below (T.setTop (mkF m pc' Ls (.long ((x.toUInt64 >>> (y &&& 0x3f).toInt64.toUInt64).toInt64) :: S))) RR) : OwnGo p e below (T.setTop (mkF m pc Ls (.int y :: .long x :: S))) RR := by
  subst hp
  exact own_step k fun t k => XS.lushr X.here X.hx rfl (hb X.by' hd) rfl k
theorem own_ineg {x : Int32} (X : OwnSt p l e R s m args below meth c Z own bytes maxL ret nm n0 km Q RR T h cells slots) (hd : decode bytes pc = .ok (.ineg, 1)) (hp : pc + 1 = pc')  (k : OwnGo p e below (T.setTop (mkF m pc' Ls (.int (-x) :: S))) RR) : OwnGo p e below (T.setTop (mkF m pc Ls (.int x :: S))) RR := by
  subst hp
  exact own_step k fun t k => XS.ineg X.here X.hx rfl (hb X.by' hd) rfl k
theorem own_lneg {x : Int64} (X : OwnSt p l e R s m args below meth c Z own bytes maxL ret nm n0 km Q RR T h cells slots) (hd : decode bytes pc = .ok (.lneg, 1)) (hp : pc + 1 = pc')  (k : OwnGo p e below (T.setTop (mkF m pc' Ls (.long (-x) :: S))) RR) : OwnGo p e below (T.setTop (mkF m pc Ls (.long x :: S))) RR := by
  subst hp
  exact own_step k fun t k => XS.lneg X.here X.hx rfl (hb X.by' hd) rfl k
theorem own_i2l {x : Int32} (X : OwnSt p l e R s m args below meth c Z own bytes maxL ret nm n0 km Q RR T h cells slots) (hd : decode bytes pc = .ok (.i2l, 1)) (hp : pc + 1 = pc')  (k : OwnGo p e below (T.setTop (mkF m pc' Ls (.long (x.toInt64) :: S))) RR) : OwnGo p e below (T.setTop (mkF m pc Ls (.int x :: S))) RR := by
  subst hp
  exact own_step k fun t k => XS.i2l X.here X.hx rfl (hb X.by' hd) rfl k
theorem own_l2i {x : Int64} (X : OwnSt p l e R s m args below meth c Z own bytes maxL ret nm n0 km Q RR T h cells slots) (hd : decode bytes pc = .ok (.l2i, 1)) (hp : pc + 1 = pc')  (k : OwnGo p e below (T.setTop (mkF m pc' Ls (.int (x.toInt32) :: S))) RR) : OwnGo p e below (T.setTop (mkF m pc Ls (.long x :: S))) RR := by
  subst hp
  exact own_step k fun t k => XS.l2i X.here X.hx rfl (hb X.by' hd) rfl k
theorem own_i2b {x : Int32} (X : OwnSt p l e R s m args below meth c Z own bytes maxL ret nm n0 km Q RR T h cells slots) (hd : decode bytes pc = .ok (.i2b, 1)) (hp : pc + 1 = pc')  (k : OwnGo p e below (T.setTop (mkF m pc' Ls (.int (x.toInt8.toInt32) :: S))) RR) : OwnGo p e below (T.setTop (mkF m pc Ls (.int x :: S))) RR := by
  subst hp
  exact own_step k fun t k => XS.i2b X.here X.hx rfl (hb X.by' hd) rfl k
theorem own_i2s {x : Int32} (X : OwnSt p l e R s m args below meth c Z own bytes maxL ret nm n0 km Q RR T h cells slots) (hd : decode bytes pc = .ok (.i2s, 1)) (hp : pc + 1 = pc')  (k : OwnGo p e below (T.setTop (mkF m pc' Ls (.int (x.toInt16.toInt32) :: S))) RR) : OwnGo p e below (T.setTop (mkF m pc Ls (.int x :: S))) RR := by
  subst hp
  exact own_step k fun t k => XS.i2s X.here X.hx rfl (hb X.by' hd) rfl k
theorem own_i2c {x : Int32} (X : OwnSt p l e R s m args below meth c Z own bytes maxL ret nm n0 km Q RR T h cells slots) (hd : decode bytes pc = .ok (.i2c, 1)) (hp : pc + 1 = pc')  (k : OwnGo p e below (T.setTop (mkF m pc' Ls (.int (x.toUInt32.toUInt16.toUInt32.toInt32) :: S))) RR) : OwnGo p e below (T.setTop (mkF m pc Ls (.int x :: S))) RR := by
  subst hp
  exact own_step k fun t k => XS.i2c X.here X.hx rfl (hb X.by' hd) rfl k
theorem own_dup {x : Value} (X : OwnSt p l e R s m args below meth c Z own bytes maxL ret nm n0 km Q RR T h cells slots) (hd : decode bytes pc = .ok (.dup, 1)) (hp : pc + 1 = pc') (hc : x.category = 1) (k : OwnGo p e below (T.setTop (mkF m pc' Ls (x :: x :: S))) RR) : OwnGo p e below (T.setTop (mkF m pc Ls (x :: S))) RR := by
  subst hp
  exact own_step k fun t k => XS.dup X.here X.hx rfl (hb X.by' hd) rfl hc k
theorem own_pop {x : Value} (X : OwnSt p l e R s m args below meth c Z own bytes maxL ret nm n0 km Q RR T h cells slots) (hd : decode bytes pc = .ok (.pop, 1)) (hp : pc + 1 = pc') (hc : x.category = 1) (k : OwnGo p e below (T.setTop (mkF m pc' Ls (S))) RR) : OwnGo p e below (T.setTop (mkF m pc Ls (x :: S))) RR := by
  subst hp
  exact own_step k fun t k => XS.pop X.here X.hx rfl (hb X.by' hd) rfl hc k
theorem own_dup_x1 {x y : Value} (X : OwnSt p l e R s m args below meth c Z own bytes maxL ret nm n0 km Q RR T h cells slots) (hd : decode bytes pc = .ok (.dup_x1, 1)) (hp : pc + 1 = pc') (hc : x.category = 1) (hc' : y.category = 1) (k : OwnGo p e below (T.setTop (mkF m pc' Ls (x :: y :: x :: S))) RR) : OwnGo p e below (T.setTop (mkF m pc Ls (x :: y :: S))) RR := by
  subst hp
  exact own_step k fun t k => XS.dupX1 X.here X.hx rfl (hb X.by' hd) rfl hc hc' k
theorem own_istoreN {k : Fin 4} {x : Int32} {l' : Array Slot} (X : OwnSt p l e R s m args below meth c Z own bytes maxL ret nm n0 km Q RR T h cells slots) (hd : decode bytes pc = .ok (.istore_n k, 1)) (hp : pc + 1 = pc') (hl : storeLocals Ls k.val (.int x) = some l') (k : OwnGo p e below (T.setTop (mkF m pc' l' (S))) RR) : OwnGo p e below (T.setTop (mkF m pc Ls (.int x :: S))) RR := by
  subst hp
  exact own_step k fun t k => XS.istoreN X.here X.hx rfl (hb X.by' hd) rfl hl k
theorem own_istoreNV {k : Fin 4} {x : Int32} {l' : Int32 → Array Slot} (X : OwnSt p l e R s m args below meth c Z own bytes maxL ret nm n0 km Q RR T h cells slots) (hd : decode bytes pc = .ok (.istore_n k, 1)) (hp : pc + 1 = pc') (hl : ∀ v, storeLocals Ls k.val (.int v) = some (l' v)) (k : ∀ v, v = x → OwnGo p e below (T.setTop (mkF m pc' (l' v) (S))) RR) : OwnGo p e below (T.setTop (mkF m pc Ls (.int x :: S))) RR := by
  subst hp
  exact own_step (k _ rfl) fun t k => XS.istoreN X.here X.hx rfl (hb X.by' hd) rfl (hl _) k
theorem own_istore {k : Nat} {x : Int32} {l' : Array Slot} (X : OwnSt p l e R s m args below meth c Z own bytes maxL ret nm n0 km Q RR T h cells slots) (hd : decode bytes pc = .ok (.istore k, 2)) (hp : pc + 2 = pc') (hl : storeLocals Ls k (.int x) = some l') (k : OwnGo p e below (T.setTop (mkF m pc' l' (S))) RR) : OwnGo p e below (T.setTop (mkF m pc Ls (.int x :: S))) RR := by
  subst hp
  exact own_step k fun t k => XS.istore X.here X.hx rfl (hb X.by' hd) rfl hl k
theorem own_istoreV {k : Nat} {x : Int32} {l' : Int32 → Array Slot} (X : OwnSt p l e R s m args below meth c Z own bytes maxL ret nm n0 km Q RR T h cells slots) (hd : decode bytes pc = .ok (.istore k, 2)) (hp : pc + 2 = pc') (hl : ∀ v, storeLocals Ls k (.int v) = some (l' v)) (k : ∀ v, v = x → OwnGo p e below (T.setTop (mkF m pc' (l' v) (S))) RR) : OwnGo p e below (T.setTop (mkF m pc Ls (.int x :: S))) RR := by
  subst hp
  exact own_step (k _ rfl) fun t k => XS.istore X.here X.hx rfl (hb X.by' hd) rfl (hl _) k
theorem own_lstoreN {k : Fin 4} {x : Int64} {l' : Array Slot} (X : OwnSt p l e R s m args below meth c Z own bytes maxL ret nm n0 km Q RR T h cells slots) (hd : decode bytes pc = .ok (.lstore_n k, 1)) (hp : pc + 1 = pc') (hl : storeLocals Ls k.val (.long x) = some l') (k : OwnGo p e below (T.setTop (mkF m pc' l' (S))) RR) : OwnGo p e below (T.setTop (mkF m pc Ls (.long x :: S))) RR := by
  subst hp
  exact own_step k fun t k => XS.lstoreN X.here X.hx rfl (hb X.by' hd) rfl hl k
theorem own_lstoreNV {k : Fin 4} {x : Int64} {l' : Int64 → Array Slot} (X : OwnSt p l e R s m args below meth c Z own bytes maxL ret nm n0 km Q RR T h cells slots) (hd : decode bytes pc = .ok (.lstore_n k, 1)) (hp : pc + 1 = pc') (hl : ∀ v, storeLocals Ls k.val (.long v) = some (l' v)) (k : ∀ v, v = x → OwnGo p e below (T.setTop (mkF m pc' (l' v) (S))) RR) : OwnGo p e below (T.setTop (mkF m pc Ls (.long x :: S))) RR := by
  subst hp
  exact own_step (k _ rfl) fun t k => XS.lstoreN X.here X.hx rfl (hb X.by' hd) rfl (hl _) k
theorem own_lstore {k : Nat} {x : Int64} {l' : Array Slot} (X : OwnSt p l e R s m args below meth c Z own bytes maxL ret nm n0 km Q RR T h cells slots) (hd : decode bytes pc = .ok (.lstore k, 2)) (hp : pc + 2 = pc') (hl : storeLocals Ls k (.long x) = some l') (k : OwnGo p e below (T.setTop (mkF m pc' l' (S))) RR) : OwnGo p e below (T.setTop (mkF m pc Ls (.long x :: S))) RR := by
  subst hp
  exact own_step k fun t k => XS.lstore X.here X.hx rfl (hb X.by' hd) rfl hl k
theorem own_lstoreV {k : Nat} {x : Int64} {l' : Int64 → Array Slot} (X : OwnSt p l e R s m args below meth c Z own bytes maxL ret nm n0 km Q RR T h cells slots) (hd : decode bytes pc = .ok (.lstore k, 2)) (hp : pc + 2 = pc') (hl : ∀ v, storeLocals Ls k (.long v) = some (l' v)) (k : ∀ v, v = x → OwnGo p e below (T.setTop (mkF m pc' (l' v) (S))) RR) : OwnGo p e below (T.setTop (mkF m pc Ls (.long x :: S))) RR := by
  subst hp
  exact own_step (k _ rfl) fun t k => XS.lstore X.here X.hx rfl (hb X.by' hd) rfl (hl _) k
theorem own_astoreN {k : Fin 4} {x : Value} {l' : Array Slot} (X : OwnSt p l e R s m args below meth c Z own bytes maxL ret nm n0 km Q RR T h cells slots) (hd : decode bytes pc = .ok (.astore_n k, 1)) (hp : pc + 1 = pc') (hv : x.isRef = true) (hl : storeLocals Ls k.val x = some l') (k : OwnGo p e below (T.setTop (mkF m pc' l' (S))) RR) : OwnGo p e below (T.setTop (mkF m pc Ls (x :: S))) RR := by
  subst hp
  exact own_step k fun t k => XS.astoreN X.here X.hx rfl (hb X.by' hd) rfl hv hl k
theorem own_astore {k : Nat} {x : Value} {l' : Array Slot} (X : OwnSt p l e R s m args below meth c Z own bytes maxL ret nm n0 km Q RR T h cells slots) (hd : decode bytes pc = .ok (.astore k, 2)) (hp : pc + 2 = pc') (hv : x.isRef = true) (hl : storeLocals Ls k x = some l') (k : OwnGo p e below (T.setTop (mkF m pc' l' (S))) RR) : OwnGo p e below (T.setTop (mkF m pc Ls (x :: S))) RR := by
  subst hp
  exact own_step k fun t k => XS.astore X.here X.hx rfl (hb X.by' hd) rfl hv hl k
theorem own_iinc {k : Nat} {d : Int} {x y : Int32} {l' : Array Slot} (X : OwnSt p l e R s m args below meth c Z own bytes maxL ret nm n0 km Q RR T h cells slots) (hd : decode bytes pc = .ok (.iinc k d, 3)) (hp : pc + 3 = pc') (hx' : Ls[k]? = some (.val (.int x))) (hy : x + Int32.ofInt d = y) (hl : storeLocals Ls k (.int y) = some l') (k : OwnGo p e below (T.setTop (mkF m pc' l' (S))) RR) : OwnGo p e below (T.setTop (mkF m pc Ls (S))) RR := by
  subst hp
  subst hy
  exact own_step k fun t k => XS.iinc X.here X.hx rfl (hb X.by' hd) hx' hl k
theorem own_ifnonnullN {o : Int} (X : OwnSt p l e R s m args below meth c Z own bytes maxL ret nm n0 km Q RR T h cells slots) (hd : decode bytes pc = .ok (.ifnonnull o, 3)) (hp : pc + 3 = pc')  (k : OwnGo p e below (T.setTop (mkF m pc' Ls (S))) RR) : OwnGo p e below (T.setTop (mkF m pc Ls (.null :: S))) RR := by
  subst hp
  exact own_step k fun t k => XS.ifnonnullNo X.here X.hx rfl (hb X.by' hd) rfl k
theorem own_ifnullN {o : Int} {b : Addr} (X : OwnSt p l e R s m args below meth c Z own bytes maxL ret nm n0 km Q RR T h cells slots) (hd : decode bytes pc = .ok (.ifnull o, 3)) (hp : pc + 3 = pc')  (k : OwnGo p e below (T.setTop (mkF m pc' Ls (S))) RR) : OwnGo p e below (T.setTop (mkF m pc Ls (.ref b :: S))) RR := by
  subst hp
  exact own_step k fun t k => XS.ifnullNo X.here X.hx rfl (hb X.by' hd) rfl k
theorem own_ifnonnullY {o : Int} {b : Addr} (X : OwnSt p l e R s m args below meth c Z own bytes maxL ret nm n0 km Q RR T h cells slots) (hd : decode bytes pc = .ok (.ifnonnull o, 3)) (hp : ((pc : Int) + o).toNat = pc') (ho : 0 ≤ (pc : Int) + o) (k : OwnGo p e below (T.setTop (mkF m pc' Ls S)) RR) : OwnGo p e below (T.setTop (mkF m pc Ls (.ref b :: S))) RR :=
  own_step k fun t k => XS.ifnonnullYes X.here X.hx rfl (pc0 := pc) rfl (hb X.by' hd) rfl ho hp k
theorem own_ifnullY {o : Int} (X : OwnSt p l e R s m args below meth c Z own bytes maxL ret nm n0 km Q RR T h cells slots) (hd : decode bytes pc = .ok (.ifnull o, 3)) (hp : ((pc : Int) + o).toNat = pc') (ho : 0 ≤ (pc : Int) + o) (k : OwnGo p e below (T.setTop (mkF m pc' Ls S)) RR) : OwnGo p e below (T.setTop (mkF m pc Ls (.null :: S))) RR :=
  own_step k fun t k => XS.ifnullYes X.here X.hx rfl (pc0 := pc) rfl (hb X.by' hd) rfl ho hp k
theorem own_ldcInt {i : Nat} {v : Int32} (X : OwnSt p l e R s m args below meth c Z own bytes maxL ret nm n0 km Q RR T h cells slots) (hd : decode bytes pc = .ok (.ldc i, 2)) (hp : pc + 2 = pc') (w : (Cond.constant own i v).before a0 Z = true) (k : OwnGo p e below (T.setTop (mkF m pc' Ls (.int v :: S))) RR) : OwnGo p e below (T.setTop (mkF m pc Ls S)) RR := by
  subst hp
  obtain ⟨C, hh, hkm, locs, X0, N⟩ := id X
  exact own_step k (X0.ldcInt X.hx C.2.2.2.2.1 (mvT X.hZ w) (g := mkF m pc Ls S) rfl (hb X.by' hd))
theorem own_ldc2Long {i : Nat} {v : Int64} (X : OwnSt p l e R s m args below meth c Z own bytes maxL ret nm n0 km Q RR T h cells slots) (hd : decode bytes pc = .ok (.ldc2_w i, 3)) (hp : pc + 3 = pc') (w : (Cond.constantLong own i v).before a0 Z = true) (k : OwnGo p e below (T.setTop (mkF m pc' Ls (.long v :: S))) RR) : OwnGo p e below (T.setTop (mkF m pc Ls S)) RR := by
  subst hp
  obtain ⟨C, hh, hkm, locs, X0, N⟩ := id X
  exact own_step k (X0.ldc2Long X.hx C.2.2.2.2.1 (mvT X.hZ w) (g := mkF m pc Ls S) rfl (hb X.by' hd))
/-! forks -/
theorem own_ifY {cd : ClassFile.Cond} {x : Int32} {o : Int} (X : OwnSt p l e R s m args below meth c Z own bytes maxL ret nm n0 km Q RR T h cells slots) (hd : decode bytes pc = .ok (.ifCond cd o, 3)) (hc : if_icmp.holds cd x 0 = true) (hp : ((pc : Int) + o).toNat = pc') (ho : 0 ≤ (pc : Int) + o) (k : OwnGo p e below (T.setTop (mkF m pc' Ls S)) RR) : OwnGo p e below (T.setTop (mkF m pc Ls (.int x :: S))) RR :=
  own_step k fun t k => XS.ifYes X.here X.hx rfl (pc0 := pc) rfl (hb X.by' hd) rfl ((if0 _ _).trans hc) ho hp k
theorem own_ifN {cd : ClassFile.Cond} {x : Int32} {o : Int} (X : OwnSt p l e R s m args below meth c Z own bytes maxL ret nm n0 km Q RR T h cells slots) (hd : decode bytes pc = .ok (.ifCond cd o, 3)) (hc : if_icmp.holds cd x 0 = false) (hp : pc + 3 = pc') (k : OwnGo p e below (T.setTop (mkF m pc' Ls S)) RR) : OwnGo p e below (T.setTop (mkF m pc Ls (.int x :: S))) RR := by
  subst hp
  exact own_step k fun t k => XS.ifNo X.here X.hx rfl (hb X.by' hd) rfl ((if0 _ _).trans hc) k
theorem own_icY {cd : ClassFile.Cond} {x y : Int32} {o : Int} (X : OwnSt p l e R s m args below meth c Z own bytes maxL ret nm n0 km Q RR T h cells slots) (hd : decode bytes pc = .ok (.if_icmp cd o, 3)) (hc : if_icmp.holds cd x y = true) (hp : ((pc : Int) + o).toNat = pc') (ho : 0 ≤ (pc : Int) + o) (k : OwnGo p e below (T.setTop (mkF m pc' Ls S)) RR) : OwnGo p e below (T.setTop (mkF m pc Ls (.int y :: .int x :: S))) RR :=
  own_step k fun t k => XS.icmpYes X.here X.hx rfl (pc0 := pc) rfl (hb X.by' hd) rfl hc ho hp k
theorem own_icN {cd : ClassFile.Cond} {x y : Int32} {o : Int} (X : OwnSt p l e R s m args below meth c Z own bytes maxL ret nm n0 km Q RR T h cells slots) (hd : decode bytes pc = .ok (.if_icmp cd o, 3)) (hc : if_icmp.holds cd x y = false) (hp : pc + 3 = pc') (k : OwnGo p e below (T.setTop (mkF m pc' Ls S)) RR) : OwnGo p e below (T.setTop (mkF m pc Ls (.int y :: .int x :: S))) RR := by
  subst hp
  exact own_step k fun t k => XS.icmpNo X.here X.hx rfl (hb X.by' hd) rfl hc k
def ownLc (cd : ClassFile.Cond) (x y : Int64) : Bool := match cd with
  | .eq => decide (x = y) | .ne => !decide (x = y) | .lt => decide (x < y) | .ge => !decide (x < y) | .gt => decide (y < x) | .le => !decide (y < x)
theorem own_lc (cd : ClassFile.Cond) (x y : Int64) : if_icmp.holds cd (lcmpW x y) 0 = ownLc cd x y := by
  rw [lcW]
  have h1 := lc_eq x y
  have h2 := lc_lt x y
  have h3 := lc_gt x y
  cases cd <;> simp only [ownLc]
  · by_cases q : x = y
    · rw [(teq (h1.mpr q)).1]; simp [q]
    · rw [(feq fun w => q (h1.mp w)).1]; simp [q]
  · by_cases q : x = y
    · rw [(teq (h1.mpr q)).2]; simp [q]
    · rw [(feq fun w => q (h1.mp w)).2]; simp [q]
  · by_cases q : x < y
    · rw [(tlt (h2.mpr q)).1]; simp [q]
    · rw [(flt fun w => q (h2.mp w)).1]; simp [q]
  · by_cases q : x < y
    · rw [(tlt (h2.mpr q)).2.1]; simp [q]
    · rw [(flt fun w => q (h2.mp w)).2.1]; simp [q]
  · by_cases q : y < x
    · rw [(tlt (h3.mpr q)).2.2.1]; simp [q]
    · rw [(flt fun w => q (h3.mp w)).2.2.1]; simp [q]
  · by_cases q : y < x
    · rw [(tlt (h3.mpr q)).2.2.2]; simp [q]
    · rw [(flt fun w => q (h3.mp w)).2.2.2]; simp [q]
theorem own_ljY {cd : ClassFile.Cond} {x y : Int64} {o : Int} (X : OwnSt p l e R s m args below meth c Z own bytes maxL ret nm n0 km Q RR T h cells slots) (hd : decode bytes pc = .ok (.lcmp, 1)) (hd2 : decode bytes (pc + 1) = .ok (.ifCond cd o, 3)) (hc : ownLc cd x y = true) (hp : (((pc + 1 : Nat) : Int) + o).toNat = pc') (ho : 0 ≤ ((pc + 1 : Nat) : Int) + o) (k : OwnGo p e below (T.setTop (mkF m pc' Ls S)) RR) : OwnGo p e below (T.setTop (mkF m pc Ls (.long y :: .long x :: S))) RR :=
  own_step (own_ifY (pc := pc + 1) (x := lcmpW x y) X hd2 ((own_lc cd x y).trans hc) hp ho k) fun t k => XS.lcmp X.here X.hx rfl (hb X.by' hd) rfl k
theorem own_ljN {cd : ClassFile.Cond} {x y : Int64} {o : Int} (X : OwnSt p l e R s m args below meth c Z own bytes maxL ret nm n0 km Q RR T h cells slots) (hd : decode bytes pc = .ok (.lcmp, 1)) (hd2 : decode bytes (pc + 1) = .ok (.ifCond cd o, 3)) (hc : ownLc cd x y = false) (hp : pc + 4 = pc') (k : OwnGo p e below (T.setTop (mkF m pc' Ls S)) RR) : OwnGo p e below (T.setTop (mkF m pc Ls (.long y :: .long x :: S))) RR :=
  own_step (own_ifN (pc := pc + 1) (x := lcmpW x y) X hd2 ((own_lc cd x y).trans hc) hp k) fun t k => XS.lcmp X.here X.hx rfl (hb X.by' hd) rfl k
theorem own_teqA {a b : Addr} (h : a = b) : if_acmp.holds .eq (some a) (some b) = true ∧ if_acmp.holds .ne (some a) (some b) = false := by simp [if_acmp.holds, h]
theorem own_feqA {a b : Addr} (h : ¬ a = b) : if_acmp.holds .eq (some a) (some b) = false ∧ if_acmp.holds .ne (some a) (some b) = true := by simp [if_acmp.holds, h]
theorem own_acY {cd : ClassFile.ACond} {a b : Addr} {o : Int} (X : OwnSt p l e R s m args below meth c Z own bytes maxL ret nm n0 km Q RR T h cells slots) (hd : decode bytes pc = .ok (.if_acmp cd o, 3)) (hc : if_acmp.holds cd (some a) (some b) = true) (hp : ((pc : Int) + o).toNat = pc') (ho : 0 ≤ (pc : Int) + o) (k : OwnGo p e below (T.setTop (mkF m pc' Ls S)) RR) : OwnGo p e below (T.setTop (mkF m pc Ls (.ref b :: .ref a :: S))) RR :=
  own_step k fun t k => XS.acmpYes X.here X.hx rfl (pc0 := pc) rfl (hb X.by' hd) rfl hc ho hp k
theorem own_acN {cd : ClassFile.ACond} {a b : Addr} {o : Int} (X : OwnSt p l e R s m args below meth c Z own bytes maxL ret nm n0 km Q RR T h cells slots) (hd : decode bytes pc = .ok (.if_acmp cd o, 3)) (hc : if_acmp.holds cd (some a) (some b) = false) (hp : pc + 3 = pc') (k : OwnGo p e below (T.setTop (mkF m pc' Ls S)) RR) : OwnGo p e below (T.setTop (mkF m pc Ls (.ref b :: .ref a :: S))) RR := by
  subst hp
  exact own_step k fun t k => XS.acmpNo X.here X.hx rfl (hb X.by' hd) rfl hc k
theorem own_goto {o : Int} (X : OwnSt p l e R s m args below meth c Z own bytes maxL ret nm n0 km Q RR T h cells slots) (hd : decode bytes pc = .ok (.goto o, 3)) (hp : ((pc : Int) + o).toNat = pc') (ho : 0 ≤ (pc : Int) + o) (k : OwnGo p e below (T.setTop (mkF m pc' Ls S)) RR) : OwnGo p e below (T.setTop (mkF m pc Ls S)) RR :=
  own_step k fun t k => XS.goto X.here X.hx rfl (pc0 := pc) rfl (hb X.by' hd) ho hp k
theorem own_tltL {x y : Int64} (h : x < y) : ownLc .lt x y = true ∧ ownLc .ge x y = false ∧ ownLc .gt y x = true ∧ ownLc .le y x = false := by simp [ownLc, h]
theorem own_fltL {x y : Int64} (h : ¬ x < y) : ownLc .lt x y = false ∧ ownLc .ge x y = true ∧ ownLc .gt y x = false ∧ ownLc .le y x = true := by simp [ownLc, h]
theorem own_teqL {x y : Int64} (h : x = y) : ownLc .eq x y = true ∧ ownLc .ne x y = false := by simp [ownLc, h]
theorem own_feqL {x y : Int64} (h : ¬ x = y) : ownLc .eq x y = false ∧ ownLc .ne x y = true := by simp [ownLc, h]
/-- the same stand at another state with the same heap; with another heap -/
abbrev OwnAt (X : OwnSt p l e R s m args below meth c Z own bytes maxL ret nm n0 km Q RR T h cells slots) (T' : State) : Prop := OwnSt p l e R s m args below meth c Z own bytes maxL ret nm n0 km Q RR T' h cells slots
abbrev OwnAtH (X : OwnSt p l e R s m args below meth c Z own bytes maxL ret nm n0 km Q RR T h cells slots) (T' : State) (h' : Heap) : Prop := OwnSt p l e R s m args below meth c Z own bytes maxL ret nm n0 km Q RR T' h' cells slots
/-! heap steps -/
theorem own_init {index : Nat} {a : Addr} (X : OwnSt p l e R s m args below meth c Z own bytes maxL ret nm n0 km Q RR T h cells slots) (hd : decode bytes pc = .ok (.invokespecial index, 3)) (w1 : (Cond.methodLink own index Lib.objectInit).before a0 Z = true) (w2 : (Cond.instanceMethod Lib.objectInit).before a0 Z = true) (w3 : (Cond.code Lib.objectInit ⟨#[0xb1]⟩ 1 none).before a0 Z = true)
    (hp : pc + 3 = pc') (hsz : Ls.size = maxL) (hf : 1 ≤ R.frames) {W : Nat} (hW : 0 + (S.map fun v => v.category).sum ≤ W) (hlo : W + 12 ≤ R.locals)
    (k : ∀ T', OwnSt p l e R s m args below meth c Z own bytes maxL ret nm n0 km Q RR T' h cells slots → OwnGo p e below (T'.setTop (mkF m pc' Ls S)) RR) : OwnGo p e below (T.setTop (mkF m pc Ls (.ref a :: S))) RR := by
  subst hp
  obtain ⟨C, hh, hkm, locs, X0, N⟩ := X
  obtain ⟨hx, hby, hml, hZ, hown, hnm, hret, hlk, hR⟩ := id C
  obtain ⟨T', X', e', st⟩ := initO X0 hx hZ hown w1 w2 w3 hh (g := mkF m pc Ls (.ref a :: S)) rfl (hsz.trans hml.symm) rfl (hb hby hd) hf hW hlo
  exact own_step (k T' ⟨C, e', hkm, locs, X', N⟩) st
theorem own_new {index n : Nat} {K : String} (X : OwnSt p l e R s m args below meth c Z own bytes maxL ret nm n0 km Q RR T h cells slots) (hd : decode bytes pc = .ok (.new index, 3)) (w1 : (Cond.classLink own index K).before a0 Z = true) (w2 : (Cond.instantiable K n).before a0 Z = true) (w3 : (Cond.initialized K).before a0 Z = true)
    (hp : pc + 3 = pc') (hc : cells + 1 ≤ R.cells) (hl : slots + n ≤ R.slots)
    (k : ∀ T' h' b, b = h.size → OwnSt p l e R s m args below meth c Z own bytes maxL ret nm n0 km Q RR T' h' (cells + 1) (slots + n) → Ext h h' → Exa Z h' b K → (∀ {O nm d : String} {ty : FieldType}, Laid Z a0 K O nm d → parseFieldDescriptor d = some ty → Fld Z h' b O nm d (defaultValue ty)) → OwnGo p e below (T'.setTop (mkF m pc' Ls (.ref b :: S))) RR) : OwnGo p e below (T.setTop (mkF m pc Ls S)) RR := by
  subst hp
  obtain ⟨C, hh, hkm, locs, X0, N⟩ := X
  obtain ⟨hx, hby, hml, hZ, hown, hnm, hret, hlk, hR⟩ := id C
  obtain ⟨T', h', X', e', E', A', D', -, st⟩ := newO X0 hx hZ hown w1 w2 w3 hh (g := mkF m pc Ls S) rfl (hb hby hd) hc hl
  exact own_step (k T' h' _ rfl ⟨C, e', Nat.le_trans hkm E'.1, locs, X', N⟩ E' A' D') st
theorem own_getF {index : Nat} {O n d R0 : String} {a : Addr} {v : Value} (X : OwnSt p l e R s m args below meth c Z own bytes maxL ret nm n0 km Q RR T h cells slots) (hd : decode bytes pc = .ok (.getfield index, 3)) (w : (Cond.fieldLink own index R0 n d).before a0 Z = true) (via : Via Z R0 O n d) (F : Fld Z h a O n d v) (hp : pc + 3 = pc')
    (k : ∀ T', OwnSt p l e R s m args below meth c Z own bytes maxL ret nm n0 km Q RR T' h cells slots → OwnGo p e below (T'.setTop (mkF m pc' Ls (v :: S))) RR) : OwnGo p e below (T.setTop (mkF m pc Ls (.ref a :: S))) RR := by
  subst hp
  obtain ⟨C, hh, hkm, locs, X0, N⟩ := X
  obtain ⟨hx, hby, hml, hZ, hown, hnm, hret, hlk, hR⟩ := id C
  obtain ⟨T', X', e', st⟩ := getF X0 hx hZ hown (host := "") (Or.inl w) via hh F (g := mkF m pc Ls (.ref a :: S)) rfl rfl (hb hby hd)
  exact own_step (k T' ⟨C, e', hkm, locs, X', N⟩) st
theorem own_getS {index : Nat} {O n d R0 : String} {v : Value} (X : OwnSt p l e R s m args below meth c Z own bytes maxL ret nm n0 km Q RR T h cells slots) (hd : decode bytes pc = .ok (.getstatic index, 3)) (w : (Cond.fieldLink own index R0 n d).before a0 Z = true) (via : Via Z R0 O n d) (F : Sta Z h O n d v) (hp : pc + 3 = pc')
    (k : ∀ T', OwnSt p l e R s m args below meth c Z own bytes maxL ret nm n0 km Q RR T' h cells slots → OwnGo p e below (T'.setTop (mkF m pc' Ls (v :: S))) RR) : OwnGo p e below (T.setTop (mkF m pc Ls S)) RR := by
  subst hp
  obtain ⟨C, hh, hkm, locs, X0, N⟩ := X
  obtain ⟨hx, hby, hml, hZ, hown, hnm, hret, hlk, hR⟩ := id C
  obtain ⟨T', X', e', st⟩ := getS X0 hx hZ (host := "") hown w via hh F (g := mkF m pc Ls S) rfl (hb hby hd)
  exact own_step (k T' ⟨C, e', hkm, locs, X', N⟩) st
theorem own_putF {index kk : Nat} {O n d R0 K : String} {a : Addr} {v v' old : Value} {ty : FieldType} (X : OwnSt p l e R s m args below meth c Z own bytes maxL ret nm n0 km Q RR T h cells slots) (hd : decode bytes pc = .ok (.putfield index, 3)) (w : (Cond.fieldLink own index R0 n d).before a0 Z = true) (via : Via Z R0 O n d) (F : Fld Z h a O n d old) (E : Exa Z h a K) (L : (Cond.lays K O n d).before a0 Z = true ∨ ((Cond.laysFinal K O n d).before a0 Z = true ∧ own = O ∧ nm = "<init>")) (wi : (Cond.instantiable K kk).before a0 Z = true)
    (hty : parseFieldDescriptor d = some ty) (hn : narrow ty v = v') (hf : fits ty v' = true) (hge : n0 ≤ a) (hp : pc + 3 = pc')
    (k : ∀ T' h', OwnSt p l e R s m args below meth c Z own bytes maxL ret nm n0 km Q RR T' h' cells slots → Wr h h' a (Jvm.RoadKit.slotOf Z O n d) v' → OwnGo p e below (T'.setTop (mkF m pc' Ls S)) RR) : OwnGo p e below (T.setTop (mkF m pc Ls (v :: .ref a :: S))) RR := by
  subst hp
  obtain ⟨C, hh, hkm, locs, X0, N⟩ := X
  obtain ⟨hx, hby, hml, hZ, hown, hnm, hret, hlk, hR⟩ := id C
  obtain ⟨T', h', X', e', W', st⟩ := putFN X0 hx hZ hown w via hh F E (L.imp id fun q => ⟨q.1, q.2.1, hnm.trans q.2.2⟩) wi hty hn hf (g := mkF m pc Ls (v :: .ref a :: S)) rfl rfl (hb hby hd)
  exact own_step (k T' h' ⟨C, e', Nat.le_trans hkm (Nat.le_of_eq W'.size.symm), _, X', Fr.snoc X' N hge⟩ W') st
/-! from the case's words to facts -/
theorem own_fldL {st : State} {as' : Array Value} {t : Term} {C n d : String} {x : Addr} {z : Int64} (ht : t.eval as' st none [] st = some (.ref x)) (h : (Cond.eq (.field t C n d) (.long z)).value as' st none st [] = some true) : Fld st st.heap x C n d (.long z) := by
  obtain ⟨a, b, e1, e2, k1, k2⟩ := cmp_v (Or.inl h)
  cases (long_at z).symm.trans e2
  obtain ⟨w, rfl⟩ := k2
  have q := gotT (eq_L e1 e2) h
  subst q
  exact Fld.start ((fld_at ht).symm.trans e1)
theorem own_fldI {st : State} {as' : Array Value} {t : Term} {C n d : String} {x : Addr} {z : Int32} (ht : t.eval as' st none [] st = some (.ref x)) (h : (Cond.eq (.field t C n d) (.int z)).value as' st none st [] = some true) : Fld st st.heap x C n d (.int z) := by
  obtain ⟨a, b, e1, e2, k1, k2⟩ := cmp_v (Or.inl h)
  cases (Term.int_eval z).symm.trans e2
  obtain ⟨w, rfl⟩ := k2
  have q : w = z := by simpa [Cond.value, e1, e2] using h
  subst q
  exact Fld.start ((fld_at ht).symm.trans e1)
/-! calls by contract -/
theorem own_callC {index : Nat} {y : MethodName} {bytes' : ByteArray} {maxL' : Nat} {rm : Room} {a : Addr} {argsL : List Value} {Q' : Option Value → Heap → Prop} {ps : List FieldType} {W : Nat}
    (X : OwnSt p l e R s m args below meth c Z own bytes maxL ret nm n0 km Q RR T h cells slots) (hd : decode bytes pc = .ok (.invokespecial index, 3)) (hy : y.name = "<init>" ∧ y.cls ≠ "java/lang/invoke/MethodHandle" ∧ y.cls ≠ "java/lang/invoke/VarHandle")
    (w1 : (Cond.methodLink own index y).before a0 Z = true) (w2 : (Cond.instanceMethod y).before a0 Z = true) (w3 : (Cond.code y bytes' maxL' none).before a0 Z = true) (w4 : (Cond.initialized y.cls).before a0 Z = true)
    (M : OwnMet l Z y bytes' maxL' none rm (.ref a :: argsL).toArray h n0 Q') (hpd : parseMethodDescriptor y.desc = some ⟨ps, none⟩) (hlen : argsL.length = ps.length) {st : List Value} (hst : st = argsL.reverse ++ .ref a :: S) (hp : pc + 3 = pc') (hsz : Ls.size = maxL)
    (hW : 0 + (S.map fun v => v.category).sum ≤ W) (hf : rm.frames + 1 ≤ R.frames) (hlo : W + (maxL' + 11) + rm.locals ≤ R.locals) (hc : cells + rm.cells ≤ R.cells) (hl : slots + rm.slots ≤ R.slots)
    (k : ∀ T' h' v, OwnSt p l e R s m args below meth c Z own bytes maxL ret nm n0 km Q RR T' h' (cells + rm.cells) (slots + rm.slots) → Q' v h' → OwnGo p e below (T'.setTop (mkF m pc' Ls (v.toList ++ S))) RR) : OwnGo p e below (T.setTop (mkF m pc Ls st)) RR := by
  subst hp hst
  obtain ⟨C, hh, hkm, locs, X0, N⟩ := X
  obtain ⟨hx, hby, hml, hZ, hown, hnm, hret, hlk, hR⟩ := id C
  obtain ⟨v, _, ⟨T', L', c', s'⟩, -, X', ⟨Lc, hQ, e1, e2, e3⟩, st⟩ := X0.specialBack hx hy.1 hown (mvT hZ w1) (mvT hZ w2) (mvT hZ w3) hy.2 (backOf (W := W) (Q := fun v h' L => (Q' v h' ∧ h.size ≤ h'.size) ∧ Fr n0 L) (M []) hZ w3 w4 hf hlo) (g := mkF m pc Ls (argsL.reverse ++ .ref a :: S)) rfl (hsz.trans hml.symm) (Steps.refl _) (a := a) (argsL := argsL) (rest := S) (lenOf hpd hlen) rfl hW (hb hby hd) (fun _ _ => ⟨rfl, hh, hc, hl⟩)
  dsimp only [Pt.U, Pt.locs, Pt.cells, Pt.slots] at X' e1 e2 e3 st hQ
  subst e1 e2 e3
  exact own_step (k T' _ v ⟨C, rfl, Nat.le_trans hkm hQ.1.2, _, X', Fr.app N hQ.2⟩ hQ.1.1) fun t q => st.trans q
theorem own_callV {index : Nat} {y : MethodName} {K : String} {bytes' : ByteArray} {maxL' : Nat} {ret' : Option FieldType} {rm : Room} {a : Addr} {argsL : List Value} {Q' : Option Value → Heap → Prop} {ps : List FieldType} {W : Nat}
    (X : OwnSt p l e R s m args below meth c Z own bytes maxL ret nm n0 km Q RR T h cells slots) (hd : decode bytes pc = .ok (.invokevirtual index, 3)) (hy : y.cls ≠ "java/lang/invoke/MethodHandle" ∧ y.cls ≠ "java/lang/invoke/VarHandle")
    (w1 : (Cond.methodLink own index y).before a0 Z = true) (w2 : (Cond.declares y).before a0 Z = true) (w3 : (Cond.selects K y y).before a0 Z = true) (w4 : (Cond.instanceMethod y).before a0 Z = true) (w5 : (Cond.code y bytes' maxL' ret').before a0 Z = true) (w6 : (Cond.initialized y.cls).before a0 Z = true) (E : Exa Z h a K)
    (M : OwnMet l Z y bytes' maxL' ret' rm (.ref a :: argsL).toArray h n0 Q') {rt : Option FieldType} (hpd : parseMethodDescriptor y.desc = some ⟨ps, rt⟩) (hlen : argsL.length = ps.length) {st : List Value} (hst : st = argsL.reverse ++ .ref a :: S) (hp : pc + 3 = pc') (hsz : Ls.size = maxL)
    (hW : 0 + (S.map fun v => v.category).sum ≤ W) (hf : rm.frames + 1 ≤ R.frames) (hlo : W + (maxL' + 11) + rm.locals ≤ R.locals) (hc : cells + rm.cells ≤ R.cells) (hl : slots + rm.slots ≤ R.slots)
    (k : ∀ T' h' v, OwnSt p l e R s m args below meth c Z own bytes maxL ret nm n0 km Q RR T' h' (cells + rm.cells) (slots + rm.slots) → Q' v h' → OwnGo p e below (T'.setTop (mkF m pc' Ls (v.toList ++ S))) RR) : OwnGo p e below (T.setTop (mkF m pc Ls st)) RR := by
  subst hp hst
  obtain ⟨C, hh, hkm, locs, X0, N⟩ := X
  obtain ⟨hx, hby, hml, hZ, hown, hnm, hret, hlk, hR⟩ := id C
  obtain ⟨cq, kq, qa, qb, qc⟩ := isOf hZ hh E
  obtain ⟨v, _, ⟨T', L', c', s'⟩, -, X', ⟨Lc, hQ, e1, e2, e3⟩, st⟩ := X0.virtualBack hx (y := y) (z := y) hown (mvT hZ w1) (mvT hZ w2) (notFace_of_selects (args := #[]) (mvT hZ w3)) (mvT hZ w3) (mvT hZ w4) hy (backOf (W := W) (Q := fun v h' L => (Q' v h' ∧ h.size ≤ h'.size) ∧ Fr n0 L) (M []) hZ w5 w6 hf hlo) qa qc (g := mkF m pc Ls (argsL.reverse ++ .ref a :: S)) rfl (hsz.trans hml.symm) (Steps.refl _) (argsL := argsL) (rest := S) (lenOf hpd hlen) rfl hW (hb hby hd) (fun _ _ => ⟨rfl, hh, hc, hl⟩)
  dsimp only [Pt.U, Pt.locs, Pt.cells, Pt.slots] at X' e1 e2 e3 st hQ
  subst e1 e2 e3
  exact own_step (k T' _ v ⟨C, rfl, Nat.le_trans hkm hQ.1.2, _, X', Fr.app N hQ.2⟩ hQ.1.1) fun t q => st.trans q
theorem own_callP {index kk : Nat} {y : MethodName} {K : String} {bytes' : ByteArray} {maxL' : Nat} {ret' : Option FieldType} {rm : Room} {a : Addr} {argsL : List Value} {Q' : Option Value → Heap → Prop} {ps : List FieldType} {W : Nat}
    (X : OwnSt p l e R s m args below meth c Z own bytes maxL ret nm n0 km Q RR T h cells slots) (hd : decode bytes pc = .ok (.invokevirtual index, 3)) (hy : y.cls ≠ "java/lang/invoke/MethodHandle" ∧ y.cls ≠ "java/lang/invoke/VarHandle")
    (w1 : (Cond.methodLink own index y).before a0 Z = true) (w2 : (Cond.privateMethod y).before a0 Z = true) (w3 : (Cond.instantiable y.cls kk).before a0 Z = true) (w4 : (Cond.instanceMethod y).before a0 Z = true) (w5 : (Cond.code y bytes' maxL' ret').before a0 Z = true) (w6 : (Cond.initialized y.cls).before a0 Z = true) (E : Exa Z h a K)
    (M : OwnMet l Z y bytes' maxL' ret' rm (.ref a :: argsL).toArray h n0 Q') {rt : Option FieldType} (hpd : parseMethodDescriptor y.desc = some ⟨ps, rt⟩) (hlen : argsL.length = ps.length) {st : List Value} (hst : st = argsL.reverse ++ .ref a :: S) (hp : pc + 3 = pc') (hsz : Ls.size = maxL)
    (hW : 0 + (S.map fun v => v.category).sum ≤ W) (hf : rm.frames + 1 ≤ R.frames) (hlo : W + (maxL' + 11) + rm.locals ≤ R.locals) (hc : cells + rm.cells ≤ R.cells) (hl : slots + rm.slots ≤ R.slots)
    (k : ∀ T' h' v, OwnSt p l e R s m args below meth c Z own bytes maxL ret nm n0 km Q RR T' h' (cells + rm.cells) (slots + rm.slots) → Q' v h' → OwnGo p e below (T'.setTop (mkF m pc' Ls (v.toList ++ S))) RR) : OwnGo p e below (T.setTop (mkF m pc Ls st)) RR := by
  subst hp hst
  obtain ⟨C, hh, hkm, locs, X0, N⟩ := X
  obtain ⟨hx, hby, hml, hZ, hown, hnm, hret, hlk, hR⟩ := id C
  obtain ⟨cl, q, q'⟩ := E.cell
  have hpriv : s.PrivateAt y := Cond.privateMethod_at (mvP hZ w2 (args := #[]))
  have wi : (Cond.instantiable y.cls kk).before args s = true := mvT hZ w3
  obtain ⟨c2, k2, i1, i2, i3, i4, -⟩ := Cond.instantiable_spec wi
  have i5 : k2.isInterface = false := by
    cases hq : k2.isInterface
    · rfl
    · rw [hq] at i4; cases i4
  have hsel : (Cond.selects y.cls y y).before args s = true := selects_self_of_private i1 i2 i5 hpriv (mvT hZ w4) hy
  obtain ⟨v, _, ⟨T', L', c', s'⟩, -, X', ⟨Lc, hQ, e1, e2, e3⟩, st⟩ := X0.privateBack hx (y := y) hown (mvT hZ w1) (mvT hZ w4) hsel hpriv (mvT hZ w5) hy (backOf (W := W) (Q := fun v h' L => (Q' v h' ∧ h.size ≤ h'.size) ∧ Fr n0 L) (M []) hZ w5 w6 hf hlo) (g := mkF m pc Ls (argsL.reverse ++ .ref a :: S)) rfl (hsz.trans hml.symm) (Steps.refl _) (a := a) (by rw [hh]; exact q) q' (argsL := argsL) (rest := S) (lenOf hpd hlen) rfl hW (hb hby hd) (fun _ _ => ⟨rfl, hh, hc, hl⟩)
  dsimp only [Pt.U, Pt.locs, Pt.cells, Pt.slots] at X' e1 e2 e3 st hQ
  subst e1 e2 e3
  exact own_step (k T' _ v ⟨C, rfl, Nat.le_trans hkm hQ.1.2, _, X', Fr.app N hQ.2⟩ hQ.1.1) fun t q => st.trans q
theorem own_callS {index : Nat} {y : MethodName} {bytes' : ByteArray} {maxL' : Nat} {ret' : Option FieldType} {rm : Room} {argsL : List Value} {Q' : Option Value → Heap → Prop} {ps : List FieldType} {W : Nat}
    (X : OwnSt p l e R s m args below meth c Z own bytes maxL ret nm n0 km Q RR T h cells slots) (hd : decode bytes pc = .ok (.invokestatic index, 3)) (hy : y.cls ≠ "java/lang/invoke/MethodHandle" ∧ y.cls ≠ "java/lang/invoke/VarHandle")
    (w1 : (Cond.methodLink own index y).before a0 Z = true) (w2 : (Cond.static y).before a0 Z = true) (w5 : (Cond.code y bytes' maxL' ret').before a0 Z = true) (w6 : (Cond.initialized y.cls).before a0 Z = true)
    (M : OwnMet l Z y bytes' maxL' ret' rm argsL.toArray h n0 Q') {rt : Option FieldType} (hpd : parseMethodDescriptor y.desc = some ⟨ps, rt⟩) (hlen : argsL.length = ps.length) {st : List Value} (hst : st = argsL.reverse ++ S) (hp : pc + 3 = pc') (hsz : Ls.size = maxL)
    (hW : 0 + (S.map fun v => v.category).sum ≤ W) (hf : rm.frames + 1 ≤ R.frames) (hlo : W + (maxL' + 11) + rm.locals ≤ R.locals) (hc : cells + rm.cells ≤ R.cells) (hl : slots + rm.slots ≤ R.slots)
    (k : ∀ T' h' v, OwnSt p l e R s m args below meth c Z own bytes maxL ret nm n0 km Q RR T' h' (cells + rm.cells) (slots + rm.slots) → Q' v h' → OwnGo p e below (T'.setTop (mkF m pc' Ls (v.toList ++ S))) RR) : OwnGo p e below (T.setTop (mkF m pc Ls st)) RR := by
  subst hp hst
  obtain ⟨C, hh, hkm, locs, X0, N⟩ := X
  obtain ⟨hx, hby, hml, hZ, hown, hnm, hret, hlk, hR⟩ := id C
  obtain ⟨v, _, ⟨T', L', c', s'⟩, -, X', ⟨Lc, hQ, e1, e2, e3⟩, st⟩ := Jvm.LawKit.callS X0 hx (y := y) hown (mvT hZ w1) (mvT hZ w2) (mvT hZ w6) (mvT hZ w5) hy (backOf (W := W) (Q := fun v h' L => (Q' v h' ∧ h.size ≤ h'.size) ∧ Fr n0 L) (M []) hZ w5 w6 hf hlo) (g := mkF m pc Ls (argsL.reverse ++ S)) rfl (hsz.trans hml.symm) (argsL := argsL) (rest := S) (lenOf hpd hlen) rfl hW (hb hby hd) (fun _ _ => ⟨rfl, hh, hc, hl⟩)
  dsimp only [Pt.U, Pt.locs, Pt.cells, Pt.slots] at X' e1 e2 e3 st hQ
  subst e1 e2 e3
  exact own_step (k T' _ v ⟨C, rfl, Nat.le_trans hkm hQ.1.2, _, X', Fr.app N hQ.2⟩ hQ.1.1) st
end OwnKit
/-! ## own kit, arrays: the whole list of what lies in them -/
section OwnArr
variable {p : Program} {l : Launch} {e : Env} {R : Room} {s : State} {m : MethodId} {args : Array Value} {below : List Frame} {meth : Method} {c : Code} {Z : State} {own : String} {bytes : ByteArray} {maxL : Nat} {ret : Option FieldType} {nm : String} {n0 km : Nat} {Q : Option Value → Heap → Prop} {RR : State → Outcome → Prop} {T : State} {h h' : Heap} {cells slots : Nat} {a0 : Array Value} {pc pc' : Nat} {Ls : Array Slot} {S : List Value} {a b : Addr} {ty : FieldType} {vs : List Value} {sl : Nat} {v : Value} {ws : List Addr}
def OwnAr (Z : State) (h : Heap) (a : Addr) (ty : FieldType) (vs : List Value) : Prop := ∃ c : Cell, Arr Z h a c ty ∧ c.slots = vs.toArray ∧ vs.length < 2 ^ 31
theorem OwnAr.lt (F : OwnAr Z h a ty vs) : a < h.size := F.elim fun _ q => q.1.lt
theorem OwnAr.ext (F : OwnAr Z h a ty vs) (E : Ext h h') : OwnAr Z h' a ty vs := by obtain ⟨c, A, r⟩ := F; exact ⟨c, A.ext E, r⟩
theorem OwnAr.other (F : OwnAr Z h b ty vs) (W : Wr h h' a sl v) (q : b ≠ a) : OwnAr Z h' b ty vs := by obtain ⟨c, A, r⟩ := F; exact ⟨c, A.other W q, r⟩
theorem OwnAr.keep (F : OwnAr Z h a ty vs) (K : Keep h h' ws) (q : a ∉ ws) : OwnAr Z h' a ty vs := by obtain ⟨c, A, r⟩ := F; exact ⟨c, ⟨K.2.1 a c A.1 q, A.2⟩, r⟩
theorem OwnAr.same (F : OwnAr Z h a ty vs) (W : Wr h h' a sl v) : OwnAr Z h' a ty (vs.set sl v) := by
  obtain ⟨c, A, r1, r2⟩ := F
  exact ⟨_, A.same W, by simp [Cell.setSlot, r1], by simpa using r2⟩
theorem OwnAr.in (F : OwnAr Z h a ty vs) {j : Int32} (h1 : ¬ j < 0) (h2 : j.toNatClampNeg < vs.length) {c : Cell} (r1 : c.slots = vs.toArray) : ¬ (j < 0 ∨ c.slots.size ≤ j.toNatClampNeg) := by
  rintro (q | q)
  · exact h1 q
  · rw [r1, List.size_toArray] at q; omega
theorem own_lt_of_get {i : Nat} {x : Value} (q : vs[i]? = some x) : i < vs.length := (List.getElem?_eq_some_iff.mp q).1
theorem own_getI {xs : List Int32} {i : Nat} (q : i < xs.length) : (xs.map Value.int)[i]? = some (.int (xs.getD i 0)) := by
  rw [List.getElem?_map, List.getElem?_eq_getElem q, List.getD_eq_getElem?_getD, List.getElem?_eq_getElem q]; rfl
theorem own_getJ {xs : List Int64} {i : Nat} (q : i < xs.length) : (xs.map Value.long)[i]? = some (.long (xs.getD i 0)) := by
  rw [List.getElem?_map, List.getElem?_eq_getElem q, List.getD_eq_getElem?_getD, List.getElem?_eq_getElem q]; rfl
theorem own_newarr {aty : ArrayType} {n : Int32} {cap : Nat} (X : OwnSt p l e R s m args below meth c Z own bytes maxL ret nm n0 km Q RR T h cells slots) (hd : decode bytes pc = .ok (.newarray aty, 2)) (w : (Cond.arrayClass (newarray.typeOf aty)).before a0 Z = true) (hp : pc + 2 = pc') (hn : ¬ n < 0) (hcap : n.toNatClampNeg ≤ cap) (hbig : cap * 8 ≤ 536870912) (hc : cells + 1 ≤ R.cells) (hl : slots + cap ≤ R.slots)
    (k : ∀ T' h' b, b = h.size → OwnSt p l e R s m args below meth c Z own bytes maxL ret nm n0 km Q RR T' h' (cells + 1) (slots + cap) → Ext h h' → OwnAr Z h' b (newarray.typeOf aty) (List.replicate n.toNatClampNeg (defaultValue (newarray.typeOf aty))) → OwnGo p e below (T'.setTop (mkF m pc' Ls (.ref b :: S))) RR) : OwnGo p e below (T.setTop (mkF m pc Ls (.int n :: S))) RR := by
  subst hp
  obtain ⟨C, hh, hkm, locs, X0, N⟩ := X
  obtain ⟨hx, hby, hml, hZ, hown, hnm, hret, hlk, hR⟩ := id C
  obtain ⟨T', h', cA, X', e', E', A', st⟩ := newP X0 hx hZ w hh (g := mkF m pc Ls (.int n :: S)) rfl (hb hby hd) rfl hn hcap hbig hc hl
  exact own_step (k T' h' _ rfl ⟨C, e', Nat.le_trans hkm E'.1, locs, X', N⟩ E' ⟨_, A', by simp [newA], by simp only [List.length_replicate]; omega⟩) st
theorem own_arraylength (X : OwnSt p l e R s m args below meth c Z own bytes maxL ret nm n0 km Q RR T h cells slots) (hd : decode bytes pc = .ok (.arraylength, 1)) (A : OwnAr Z h a ty vs) {n : Int32} (hn : vs.length.toInt32 = n) (hp : pc + 1 = pc') (k : OwnGo p e below (T.setTop (mkF m pc' Ls (.int n :: S))) RR) : OwnGo p e below (T.setTop (mkF m pc Ls (.ref a :: S))) RR := by
  subst hp hn
  obtain ⟨C, hh, hkm, locs, X0, N⟩ := id X
  obtain ⟨cl, A0, r1, r2⟩ := A
  refine own_step k fun t q => ?_
  refine X0.arraylength X.hx (by rw [hh]; exact A0.1) (State.isArrayOf_alike X.hZ.alike A0.2.1) (g := mkF m pc Ls (.ref a :: S)) rfl rfl (hb X.by' hd) _ ?_
  rw [r1, List.size_toArray]; exact q
theorem own_iaload {j : Int32} (X : OwnSt p l e R s m args below meth c Z own bytes maxL ret nm n0 km Q RR T h cells slots) (hd : decode bytes pc = .ok (.iaload, 1)) (A : OwnAr Z h a .int vs) (hj : ¬ j < 0) (hv : vs[j.toNatClampNeg]? = some v) (hp : pc + 1 = pc') (k : OwnGo p e below (T.setTop (mkF m pc' Ls (v :: S))) RR) : OwnGo p e below (T.setTop (mkF m pc Ls (.int j :: .ref a :: S))) RR := by
  subst hp
  obtain ⟨C, hh, hkm, locs, X0, N⟩ := id X
  obtain ⟨cl, A0, r1, r2⟩ := id A
  exact own_step k fun t q => X0.iaload X.hx (by rw [hh]; exact A0.1) (State.isArrayOf_alike X.hZ.alike A0.2.1) A0.2.2 (A.in hj (own_lt_of_get hv) r1) (by rw [r1, List.getElem?_toArray]; exact hv) (g := mkF m pc Ls (.int j :: .ref a :: S)) rfl rfl (hb X.by' hd) _ q
theorem own_laload {j : Int32} (X : OwnSt p l e R s m args below meth c Z own bytes maxL ret nm n0 km Q RR T h cells slots) (hd : decode bytes pc = .ok (.laload, 1)) (A : OwnAr Z h a .long vs) (hj : ¬ j < 0) (hv : vs[j.toNatClampNeg]? = some v) (hp : pc + 1 = pc') (k : OwnGo p e below (T.setTop (mkF m pc' Ls (v :: S))) RR) : OwnGo p e below (T.setTop (mkF m pc Ls (.int j :: .ref a :: S))) RR := by
  subst hp
  obtain ⟨C, hh, hkm, locs, X0, N⟩ := id X
  obtain ⟨cl, A0, r1, r2⟩ := id A
  exact own_step k fun t q => X0.laload X.hx (by rw [hh]; exact A0.1) (State.isArrayOf_alike X.hZ.alike A0.2.1) A0.2.2 (A.in hj (own_lt_of_get hv) r1) (by rw [r1, List.getElem?_toArray]; exact hv) (g := mkF m pc Ls (.int j :: .ref a :: S)) rfl rfl (hb X.by' hd) _ q
theorem own_caload {j : Int32} (X : OwnSt p l e R s m args below meth c Z own bytes maxL ret nm n0 km Q RR T h cells slots) (hd : decode bytes pc = .ok (.caload, 1)) (A : OwnAr Z h a .char vs) (hj : ¬ j < 0) (hv : vs[j.toNatClampNeg]? = some v) (hp : pc + 1 = pc') (k : OwnGo p e below (T.setTop (mkF m pc' Ls (v :: S))) RR) : OwnGo p e below (T.setTop (mkF m pc Ls (.int j :: .ref a :: S))) RR := by
  subst hp
  obtain ⟨C, hh, hkm, locs, X0, N⟩ := id X
  obtain ⟨cl, A0, r1, r2⟩ := id A
  exact own_step k fun t q => X0.caload X.hx (by rw [hh]; exact A0.1) (State.isArrayOf_alike X.hZ.alike A0.2.1) A0.2.2 (A.in hj (own_lt_of_get hv) r1) (by rw [r1, List.getElem?_toArray]; exact hv) (g := mkF m pc Ls (.int j :: .ref a :: S)) rfl rfl (hb X.by' hd) _ q
theorem own_baload {j : Int32} (X : OwnSt p l e R s m args below meth c Z own bytes maxL ret nm n0 km Q RR T h cells slots) (hd : decode bytes pc = .ok (.baload, 1)) (A : OwnAr Z h a .byte vs) (hj : ¬ j < 0) (hv : vs[j.toNatClampNeg]? = some v) (hp : pc + 1 = pc') (k : OwnGo p e below (T.setTop (mkF m pc' Ls (v :: S))) RR) : OwnGo p e below (T.setTop (mkF m pc Ls (.int j :: .ref a :: S))) RR := by
  subst hp
  obtain ⟨C, hh, hkm, locs, X0, N⟩ := id X
  obtain ⟨cl, A0, r1, r2⟩ := id A
  exact own_step k fun t q => X0.baloadBytes X.hx (by rw [hh]; exact A0.1) (State.isArrayOf_alike X.hZ.alike A0.2.1) A0.2.2 (A.in hj (own_lt_of_get hv) r1) (by rw [r1, List.getElem?_toArray]; exact hv) (g := mkF m pc Ls (.int j :: .ref a :: S)) rfl rfl (hb X.by' hd) _ q
theorem own_aaload {j : Int32} (X : OwnSt p l e R s m args below meth c Z own bytes maxL ret nm n0 km Q RR T h cells slots) (hd : decode bytes pc = .ok (.aaload, 1)) (A : OwnAr Z h a ty vs) (hty : ty.isReference = true) (hj : ¬ j < 0) (hv : vs[j.toNatClampNeg]? = some v) (hp : pc + 1 = pc') (k : OwnGo p e below (T.setTop (mkF m pc' Ls (v :: S))) RR) : OwnGo p e below (T.setTop (mkF m pc Ls (.int j :: .ref a :: S))) RR := by
  subst hp
  obtain ⟨C, hh, hkm, locs, X0, N⟩ := id X
  obtain ⟨cl, A0, r1, r2⟩ := id A
  exact own_step k fun t q => X0.aaload X.hx (by rw [hh]; exact A0.1) (State.isArrayOf_alike X.hZ.alike A0.2.1) hty A0.2.2 (A.in hj (own_lt_of_get hv) r1) (by rw [r1, List.getElem?_toArray]; exact hv) (g := mkF m pc Ls (.int j :: .ref a :: S)) rfl rfl (hb X.by' hd) _ q
theorem own_iastore {j : Int32} {x : Int32} (X : OwnSt p l e R s m args below meth c Z own bytes maxL ret nm n0 km Q RR T h cells slots) (hd : decode bytes pc = .ok (.iastore, 1)) (A : OwnAr Z h a .int vs) (hj : ¬ j < 0) (hj2 : j.toNatClampNeg < vs.length) (hge : n0 ≤ a) (hp : pc + 1 = pc') (k : ∀ T' h', OwnSt p l e R s m args below meth c Z own bytes maxL ret nm n0 km Q RR T' h' cells slots → Wr h h' a j.toNatClampNeg (.int x) → OwnAr Z h' a .int (vs.set j.toNatClampNeg (.int x)) → OwnGo p e below (T'.setTop (mkF m pc' Ls S)) RR) : OwnGo p e below (T.setTop (mkF m pc Ls (.int x :: .int j :: .ref a :: S))) RR := by
  subst hp
  obtain ⟨C, hh, hkm, locs, X0, N⟩ := id X
  obtain ⟨cl, A0, r1, r2⟩ := id A
  obtain ⟨T', h', X', e', W', st⟩ := stI X0 X.hx X.hZ hh A0 (A.in hj hj2 r1) (g := mkF m pc Ls (.int x :: .int j :: .ref a :: S)) rfl rfl (hb X.by' hd)
  exact own_step (k T' h' ⟨C, e', Nat.le_trans hkm (Nat.le_of_eq W'.size.symm), _, X', Fr.snoc X' N hge⟩ W' (A.same W')) st
theorem own_lastore {j : Int32} {x : Int64} (X : OwnSt p l e R s m args below meth c Z own bytes maxL ret nm n0 km Q RR T h cells slots) (hd : decode bytes pc = .ok (.lastore, 1)) (A : OwnAr Z h a .long vs) (hj : ¬ j < 0) (hj2 : j.toNatClampNeg < vs.length) (hge : n0 ≤ a) (hp : pc + 1 = pc') (k : ∀ T' h', OwnSt p l e R s m args below meth c Z own bytes maxL ret nm n0 km Q RR T' h' cells slots → Wr h h' a j.toNatClampNeg (.long x) → OwnAr Z h' a .long (vs.set j.toNatClampNeg (.long x)) → OwnGo p e below (T'.setTop (mkF m pc' Ls S)) RR) : OwnGo p e below (T.setTop (mkF m pc Ls (.long x :: .int j :: .ref a :: S))) RR := by
  subst hp
  obtain ⟨C, hh, hkm, locs, X0, N⟩ := id X
  obtain ⟨cl, A0, r1, r2⟩ := id A
  obtain ⟨T', h', X', e', W', st⟩ := stJ X0 X.hx X.hZ hh A0 (A.in hj hj2 r1) (g := mkF m pc Ls (.long x :: .int j :: .ref a :: S)) rfl rfl (hb X.by' hd)
  exact own_step (k T' h' ⟨C, e', Nat.le_trans hkm (Nat.le_of_eq W'.size.symm), _, X', Fr.snoc X' N hge⟩ W' (A.same W')) st
theorem own_castore {j : Int32} {x : Int32} (X : OwnSt p l e R s m args below meth c Z own bytes maxL ret nm n0 km Q RR T h cells slots) (hd : decode bytes pc = .ok (.castore, 1)) (A : OwnAr Z h a .char vs) (hj : ¬ j < 0) (hj2 : j.toNatClampNeg < vs.length) (hge : n0 ≤ a) (hp : pc + 1 = pc') (k : ∀ T' h', OwnSt p l e R s m args below meth c Z own bytes maxL ret nm n0 km Q RR T' h' cells slots → Wr h h' a j.toNatClampNeg (.int (x.toUInt32.toUInt16.toUInt32.toInt32)) → OwnAr Z h' a .char (vs.set j.toNatClampNeg (.int (x.toUInt32.toUInt16.toUInt32.toInt32))) → OwnGo p e below (T'.setTop (mkF m pc' Ls S)) RR) : OwnGo p e below (T.setTop (mkF m pc Ls (.int x :: .int j :: .ref a :: S))) RR := by
  subst hp
  obtain ⟨C, hh, hkm, locs, X0, N⟩ := id X
  obtain ⟨cl, A0, r1, r2⟩ := id A
  obtain ⟨T', h', X', e', W', st⟩ := stC X0 X.hx X.hZ hh A0 (A.in hj hj2 r1) (g := mkF m pc Ls (.int x :: .int j :: .ref a :: S)) rfl rfl (hb X.by' hd)
  exact own_step (k T' h' ⟨C, e', Nat.le_trans hkm (Nat.le_of_eq W'.size.symm), _, X', Fr.snoc X' N hge⟩ W' (A.same W')) st
end OwnArr
/-! ## own kit, arrays: their class, a copy of one, a cast, a pair doubled -/
section OwnArr2
variable {p : Program} {l : Launch} {e : Env} {R : Room} {s : State} {m : MethodId} {args : Array Value} {below : List Frame} {meth : Method} {c : Code} {Z : State} {own : String} {bytes : ByteArray} {maxL : Nat} {ret : Option FieldType} {nm : String} {n0 km : Nat} {Q : Option Value → Heap → Prop} {RR : State → Outcome → Prop} {T : State} {h h' : Heap} {cells slots : Nat} {a0 : Array Value} {pc pc' : Nat} {Ls : Array Slot} {S : List Value} {a b : Addr} {ty : FieldType} {vs : List Value} {sl : Nat} {v : Value} {ws : List Addr}
theorem own_newarrE {aty : ArrayType} {n : Int32} {cap : Nat} {K : String} (X : OwnSt p l e R s m args below meth c Z own bytes maxL ret nm n0 km Q RR T h cells slots) (hd : decode bytes pc = .ok (.newarray aty, 2)) (w : (Cond.arrayClass (newarray.typeOf aty)).before a0 Z = true) (hK : "[" ++ (newarray.typeOf aty).toString = K) (hp : pc + 2 = pc') (hn : ¬ n < 0) (hcap : n.toNatClampNeg ≤ cap) (hbig : cap * 8 ≤ 536870912) (hc : cells + 1 ≤ R.cells) (hl : slots + cap ≤ R.slots)
    (k : ∀ T' h' b, b = h.size → OwnSt p l e R s m args below meth c Z own bytes maxL ret nm n0 km Q RR T' h' (cells + 1) (slots + cap) → Ext h h' → OwnAr Z h' b (newarray.typeOf aty) (List.replicate n.toNatClampNeg (defaultValue (newarray.typeOf aty))) → Exa Z h' b K → OwnGo p e below (T'.setTop (mkF m pc' Ls (.ref b :: S))) RR) : OwnGo p e below (T.setTop (mkF m pc Ls (.int n :: S))) RR := by
  subst hp hK
  obtain ⟨C, hh, hkm, locs, X0, N⟩ := X
  obtain ⟨hx, hby, hml, hZ, hown, hnm, hret, hlk, hR⟩ := id C
  have hcb : componentBytes (newarray.typeOf aty) ≤ 8 := by cases aty <;> decide
  obtain ⟨cA, kA, comp, h1, h2, h3, X', st⟩ := X0.newarrayPrim hx (mvA hZ w) (g := mkF m pc Ls (.int n :: S)) rfl (hb hby hd) rfl hn (Nat.le_trans (Nat.mul_le_mul hcap hcb) hbig) hc (by omega)
  subst hh
  rw [hZ.alike.findClass] at h1
  obtain ⟨kZ, z1, -⟩ := Vm.findClass_spec h1
  obtain ⟨k', z2, z3⟩ := hZ.alike.2.2 _ _ z1
  cases h2.symm.trans z2
  have z4 : kZ.kind = .array comp (newarray.typeOf aty) := by rw [← h3, z3]
  have E : Ext T.heap (T.heap.push { cls := cA, slots := Array.replicate n.toNatClampNeg (defaultValue (newarray.typeOf aty)), vm := .none }) := ext_of fun a q => Array.getElem?_push_lt q |>.trans (Array.getElem?_eq_getElem q).symm
  have hN : (T.heap.push { cls := cA, slots := Array.replicate n.toNatClampNeg (defaultValue (newarray.typeOf aty)), vm := .none })[T.heap.size]? = some ({ cls := cA, slots := Array.replicate n.toNatClampNeg (defaultValue (newarray.typeOf aty)), vm := .none } : Cell) := by simp
  refine own_step (k _ _ _ rfl ⟨C, rfl, Nat.le_trans hkm E.1, locs, X'.more (Nat.le_refl _) (by omega), N⟩ E ⟨_, ⟨hN, ⟨fun _ z => (by cases z), kZ, z1, comp, z4⟩, fun z => (by cases z)⟩, by simp, by simp only [List.length_replicate]; omega⟩ ⟨_, kZ, hN, h1, z1, rfl, fun q => by rw [z4] at q; cases q⟩) st
theorem own_clone {index cap : Nat} {ad : String} {W : Nat} (X : OwnSt p l e R s m args below meth c Z own bytes maxL ret nm n0 km Q RR T h cells slots) (hd : decode bytes pc = .ok (.invokevirtual index, 3))
    (w1 : (Cond.methodLink own index ⟨ad, "clone", "()Ljava/lang/Object;"⟩).before a0 Z = true) (w2 : (Cond.sameMethod ad "java/lang/Object" "clone" "()Ljava/lang/Object;").before a0 Z = true) (w3 : (Cond.native ⟨"java/lang/Object", "clone", "()Ljava/lang/Object;"⟩).before a0 Z = true)
    (w4 : (Cond.instanceMethod ⟨"java/lang/Object", "clone", "()Ljava/lang/Object;"⟩).before a0 Z = true) (w5 : (Cond.selects ad ⟨ad, "clone", "()Ljava/lang/Object;"⟩ ⟨"java/lang/Object", "clone", "()Ljava/lang/Object;"⟩).before a0 Z = true) (w6 : (Cond.castable ad "java/lang/Cloneable").before a0 Z = true)
    (A : OwnAr Z h a ty vs) (E : Exa Z h a ad) (hfit : ∀ v ∈ vs, fits ty v = true) (hp : pc + 3 = pc') (hsz : Ls.size = maxL) (hf : 1 ≤ R.frames) (hW : 0 + (S.map fun v => v.category).sum ≤ W) (hlo : W + 14 ≤ R.locals) (hcap : vs.length ≤ cap) (hc : cells + 1 ≤ R.cells) (hl : slots + cap ≤ R.slots)
    (k : ∀ T' h' b, b = h.size → OwnSt p l e R s m args below meth c Z own bytes maxL ret nm n0 km Q RR T' h' (cells + 1) (slots + cap) → Ext h h' → OwnAr Z h' b ty vs → Exa Z h' b ad → OwnGo p e below (T'.setTop (mkF m pc' Ls (.ref b :: S))) RR) : OwnGo p e below (T.setTop (mkF m pc Ls (.ref a :: S))) RR := by
  subst hp
  obtain ⟨C, hh, hkm, locs, X0, N⟩ := X
  obtain ⟨hx, hby, hml, hZ, hown, hnm, hret, hlk, hR⟩ := id C
  obtain ⟨cl, A0, r1, r2⟩ := A
  have F : FitC Z cl := fun i v hv => by
    obtain ⟨hs, kk, hk, comp, hkind⟩ := A0.2.1
    rw [r1, List.getElem?_toArray] at hv
    have q := hfit v (List.mem_of_getElem? hv)
    simp [State.fitsSlot, State.slotType?, hk, hkind, q]
  obtain ⟨T', h', X', e', E', A', Ex', st⟩ := cloneA X0 hx hZ hown w1 w2 w3 w4 w5 w6 hh A0 E F (g := mkF m pc Ls (.ref a :: S)) rfl (hsz.trans hml.symm) rfl (hb hby hd) hf hW hlo (by rw [r1, List.size_toArray]; exact hcap) hc hl
  exact own_step (k T' h' _ rfl ⟨C, e', Nat.le_trans hkm E'.1, locs, X', N⟩ E' ⟨_, A', r1, r2⟩ Ex') st
theorem own_cast {index : Nat} {K : String} (X : OwnSt p l e R s m args below meth c Z own bytes maxL ret nm n0 km Q RR T h cells slots) (hd : decode bytes pc = .ok (.checkcast index, 3)) (w : (Cond.classLink own index K).before a0 Z = true) (F : Ins Z h a K true) (hp : pc + 3 = pc')
    (k : ∀ T', OwnSt p l e R s m args below meth c Z own bytes maxL ret nm n0 km Q RR T' h cells slots → OwnGo p e below (T'.setTop (mkF m pc' Ls (.ref a :: S))) RR) : OwnGo p e below (T.setTop (mkF m pc Ls (.ref a :: S))) RR := by
  subst hp
  obtain ⟨C, hh, hkm, locs, X0, N⟩ := X
  obtain ⟨hx, hby, hml, hZ, hown, hnm, hret, hlk, hR⟩ := id C
  obtain ⟨T', X', e', st⟩ := castY X0 hx hZ hown w hh F (g := mkF m pc Ls (.ref a :: S)) rfl rfl (hb hby hd)
  exact own_step (k T' ⟨C, e', hkm, locs, X', N⟩) st
theorem own_dup2 {x y : Value} (X : OwnSt p l e R s m args below meth c Z own bytes maxL ret nm n0 km Q RR T h cells slots) (hd : decode bytes pc = .ok (.dup2, 1)) (hp : pc + 1 = pc') (hc : x.category = 1) (hc' : y.category = 1) (k : OwnGo p e below (T.setTop (mkF m pc' Ls (x :: y :: x :: y :: S))) RR) : OwnGo p e below (T.setTop (mkF m pc Ls (x :: y :: S))) RR := by
  subst hp
  exact own_step k fun t k => Jvm.Free.XT.dup2 X.here X.hx rfl (hb X.by' hd) rfl hc hc' k
end OwnArr2
/-! ## own kit: arrays of references, a switch, a call through a subclass's name -/
section OwnRef
variable {p : Program} {l : Launch} {e : Env} {R : Room} {s : State} {m : MethodId} {args : Array Value} {below : List Frame} {meth : Method} {c : Code} {Z : State} {own : String} {bytes : ByteArray} {maxL : Nat} {ret : Option FieldType} {nm : String} {n0 km : Nat} {Q : Option Value → Heap → Prop} {RR : State → Outcome → Prop} {T : State} {h h' : Heap} {cells slots : Nat} {a0 : Array Value} {pc pc' : Nat} {Ls : Array Slot} {S : List Value} {a b : Addr} {C : String} {vs : List Value} {sl : Nat} {v : Value} {ws : List Addr}
def OwnArR (Z : State) (h : Heap) (a : Addr) (C : String) (vs : List Value) : Prop := ∃ c : Cell, Arr Z h a c (.object C) ∧ c.slots = vs.toArray ∧ vs.length < 2 ^ 31 ∧ Ovr Z c.cls C
theorem OwnArR.lt (F : OwnArR Z h a C vs) : a < h.size := F.elim fun _ q => q.1.lt
theorem OwnArR.ar (F : OwnArR Z h a C vs) : OwnAr Z h a (.object C) vs := F.elim fun c q => ⟨c, q.1, q.2.1, q.2.2.1⟩
theorem OwnArR.ext (F : OwnArR Z h a C vs) (E : Ext h h') : OwnArR Z h' a C vs := by obtain ⟨c, A, r⟩ := F; exact ⟨c, A.ext E, r⟩
theorem OwnArR.other (F : OwnArR Z h b C vs) (W : Wr h h' a sl v) (q : b ≠ a) : OwnArR Z h' b C vs := by obtain ⟨c, A, r⟩ := F; exact ⟨c, A.other W q, r⟩
theorem OwnArR.keep (F : OwnArR Z h a C vs) (K : Keep h h' ws) (q : a ∉ ws) : OwnArR Z h' a C vs := by obtain ⟨c, A, r⟩ := F; exact ⟨c, ⟨K.2.1 a c A.1 q, A.2⟩, r⟩
theorem OwnArR.same (F : OwnArR Z h a C vs) (W : Wr h h' a sl v) : OwnArR Z h' a C (vs.set sl v) := by
  obtain ⟨c, A, r1, r2, r3⟩ := F
  exact ⟨_, A.same W, by simp [Cell.setSlot, r1], by simpa using r2, r3⟩
theorem own_anew {index : Nat} {n : Int32} {cap : Nat} (X : OwnSt p l e R s m args below meth c Z own bytes maxL ret nm n0 km Q RR T h cells slots) (hd : decode bytes pc = .ok (.anewarray index, 3)) (w1 : (Cond.classLink own index C).before a0 Z = true) (w2 : (Cond.arrayOver (.object C)).before a0 Z = true) (hp : pc + 3 = pc') (hn : ¬ n < 0) (hcap : n.toNatClampNeg ≤ cap) (hbig : cap * 8 ≤ 536870912) (hc : cells + 1 ≤ R.cells) (hl : slots + cap ≤ R.slots)
    (k : ∀ T' h' b, b = h.size → OwnSt p l e R s m args below meth c Z own bytes maxL ret nm n0 km Q RR T' h' (cells + 1) (slots + cap) → Ext h h' → OwnArR Z h' b C (List.replicate n.toNatClampNeg .null) → OwnGo p e below (T'.setTop (mkF m pc' Ls (.ref b :: S))) RR) : OwnGo p e below (T.setTop (mkF m pc Ls (.int n :: S))) RR := by
  subst hp
  obtain ⟨C0, hh, hkm, locs, X0, N⟩ := X
  obtain ⟨hx, hby, hml, hZ, hown, hnm, hret, hlk, hR⟩ := id C0
  obtain ⟨T', h', cA, X', e', E', A', O', st⟩ := newR X0 hx hZ hown w1 w2 hh (g := mkF m pc Ls (.int n :: S)) rfl (hb hby hd) rfl hn hcap hbig hc hl
  exact own_step (k T' h' _ rfl ⟨C0, e', Nat.le_trans hkm E'.1, locs, X', N⟩ E' ⟨_, A', by simp [newA, defaultValue], by simp only [List.length_replicate]; omega, O'⟩) st
theorem own_aastore {j : Int32} {y : Addr} (X : OwnSt p l e R s m args below meth c Z own bytes maxL ret nm n0 km Q RR T h cells slots) (hd : decode bytes pc = .ok (.aastore, 1)) (A : OwnArR Z h a C vs) (I : Ins Z h y C true) (hj : ¬ j < 0) (hj2 : j.toNatClampNeg < vs.length) (hge : n0 ≤ a) (hp : pc + 1 = pc')
    (k : ∀ T' h', OwnSt p l e R s m args below meth c Z own bytes maxL ret nm n0 km Q RR T' h' cells slots → Wr h h' a j.toNatClampNeg (.ref y) → OwnArR Z h' a C (vs.set j.toNatClampNeg (.ref y)) → OwnGo p e below (T'.setTop (mkF m pc' Ls S)) RR) : OwnGo p e below (T.setTop (mkF m pc Ls (.ref y :: .int j :: .ref a :: S))) RR := by
  subst hp
  obtain ⟨C0, hh, hkm, locs, X0, N⟩ := id X
  obtain ⟨cl, A0, r1, r2, r3⟩ := id A
  obtain ⟨T', h', X', e', W', st⟩ := stR X0 X.hx X.hZ hh A0 (A.ar.in hj hj2 r1) rfl (Sto.of A0 r3 I) (g := mkF m pc Ls (.ref y :: .int j :: .ref a :: S)) rfl rfl (hb X.by' hd)
  exact own_step (k T' h' ⟨C0, e', Nat.le_trans hkm (Nat.le_of_eq W'.size.symm), _, X', Fr.snoc X' N hge⟩ W' (A.same W')) st
theorem own_tsw {dflt low high : Int} {offs : Array Int} {len : Nat} {o : Int} {i : Int32} (X : OwnSt p l e R s m args below meth c Z own bytes maxL ret nm n0 km Q RR T h cells slots) (hd : decode bytes pc = .ok (.tableswitch dflt low high offs, len)) (hin : ¬ (i.toInt < low ∨ i.toInt > high)) (hoff : offs[(i.toInt - low).toNat]? = some o) (hp : ((pc : Int) + o).toNat = pc') (ho : 0 ≤ (pc : Int) + o) (k : OwnGo p e below (T.setTop (mkF m pc' Ls S)) RR) : OwnGo p e below (T.setTop (mkF m pc Ls (.int i :: S))) RR :=
  own_step k fun t k => XS.tswIn X.here X.hx rfl (pc0 := pc) rfl (hb X.by' hd) rfl hin hoff ho hp k
theorem own_callU {index : Nat} {y z : MethodName} {K owner : String} {bytes' : ByteArray} {maxL' : Nat} {ret' : Option FieldType} {rm : Room} {a : Addr} {argsL : List Value} {Q' : Option Value → Heap → Prop} {ps : List FieldType} {W : Nat}
    (X : OwnSt p l e R s m args below meth c Z own bytes maxL ret nm n0 km Q RR T h cells slots) (hd : decode bytes pc = .ok (.invokevirtual index, 3)) (hy : owner ≠ "java/lang/invoke/MethodHandle" ∧ owner ≠ "java/lang/invoke/VarHandle")
    (w1 : (Cond.methodLink own index y).before a0 Z = true) (w2 : (Cond.sameMethod y.cls owner y.name y.desc).before a0 Z = true) (w2' : (Cond.declares ⟨owner, y.name, y.desc⟩).before a0 Z = true) (w3 : (Cond.selects K y z).before a0 Z = true) (w4 : (Cond.instanceMethod z).before a0 Z = true) (w5 : (Cond.code z bytes' maxL' ret').before a0 Z = true) (w6 : (Cond.initialized z.cls).before a0 Z = true) (E : Exa Z h a K)
    (M : OwnMet l Z z bytes' maxL' ret' rm (.ref a :: argsL).toArray h n0 Q') {rt : Option FieldType} (hpd : parseMethodDescriptor y.desc = some ⟨ps, rt⟩) (hlen : argsL.length = ps.length) {st : List Value} (hst : st = argsL.reverse ++ .ref a :: S) (hp : pc + 3 = pc') (hsz : Ls.size = maxL)
    (hW : 0 + (S.map fun v => v.category).sum ≤ W) (hf : rm.frames + 1 ≤ R.frames) (hlo : W + (maxL' + 11) + rm.locals ≤ R.locals) (hc : cells + rm.cells ≤ R.cells) (hl : slots + rm.slots ≤ R.slots)
    (k : ∀ T' h' v, OwnSt p l e R s m args below meth c Z own bytes maxL ret nm n0 km Q RR T' h' (cells + rm.cells) (slots + rm.slots) → Q' v h' → OwnGo p e below (T'.setTop (mkF m pc' Ls (v.toList ++ S))) RR) : OwnGo p e below (T.setTop (mkF m pc Ls st)) RR := by
  subst hp hst
  obtain ⟨C0, hh, hkm, locs, X0, N⟩ := X
  obtain ⟨hx, hby, hml, hZ, hown, hnm, hret, hlk, hR⟩ := id C0
  obtain ⟨cq, kq, qa, qb, qc⟩ := isOf hZ hh E
  obtain ⟨v, _, ⟨T', L', c', s'⟩, -, X', ⟨Lc, hQ, e1, e2, e3⟩, st⟩ := X0.virtualBackUp hx (x := y) (y := z) hown (mvT hZ w1) (mvT hZ w2) (mvT hZ w2') hy (mvT hZ w3) (mvT hZ w4) (backOf (W := W) (Q := fun v h' L => (Q' v h' ∧ h.size ≤ h'.size) ∧ Fr n0 L) (M []) hZ w5 w6 hf hlo) qa qc (g := mkF m pc Ls (argsL.reverse ++ .ref a :: S)) rfl (hsz.trans hml.symm) (Steps.refl _) (argsL := argsL) (rest := S) (lenOf hpd hlen) rfl hW (hb hby hd) (fun _ _ => ⟨rfl, hh, hc, hl⟩)
  dsimp only [Pt.U, Pt.locs, Pt.cells, Pt.slots] at X' e1 e2 e3 st hQ
  subst e1 e2 e3
  exact own_step (k T' _ v ⟨C0, rfl, Nat.le_trans hkm hQ.1.2, _, X', Fr.app N hQ.2⟩ hQ.1.1) fun t q => st.trans q
end OwnRef
/-! ## own kit: a call through an interface -/
section OwnIfc
variable {p : Program} {l : Launch} {e : Env} {R : Room} {s : State} {m : MethodId} {args : Array Value} {below : List Frame} {meth : Method} {c : Code} {Z : State} {own : String} {bytes : ByteArray} {maxL : Nat} {ret : Option FieldType} {nm : String} {n0 km : Nat} {Q : Option Value → Heap → Prop} {RR : State → Outcome → Prop} {T : State} {h h' : Heap} {cells slots : Nat} {a0 : Array Value} {pc pc' : Nat} {Ls : Array Slot} {S : List Value} {a b : Addr} {C : String} {vs : List Value} {sl : Nat} {v : Value} {ws : List Addr}
theorem own_callI {index count : Nat} {y z : MethodName} {K : String} {bytes' : ByteArray} {maxL' : Nat} {ret' : Option FieldType} {rm : Room} {a : Addr} {argsL : List Value} {Q' : Option Value → Heap → Prop} {ps : List FieldType} {W : Nat}
    (X : OwnSt p l e R s m args below meth c Z own bytes maxL ret nm n0 km Q RR T h cells slots) (hd : decode bytes pc = .ok (.invokeinterface index count, 5)) (hy : y.cls ≠ "java/lang/invoke/MethodHandle" ∧ y.cls ≠ "java/lang/invoke/VarHandle")
    (w1 : (Cond.methodLink own index y).before a0 Z = true) (w2 : (Cond.declares y).before a0 Z = true) (w2' : (Cond.interfaceMethod y.cls y.cls y.name y.desc).before a0 Z = true) (w3 : (Cond.selects K y z).before a0 Z = true) (w4 : (Cond.instanceMethod z).before a0 Z = true) (w7 : (Cond.publicMethod z).before a0 Z = true) (w8 : (Cond.unhidden K y.name y.desc).before a0 Z = true) (w9 : (Cond.castable K y.cls).before a0 Z = true) (w5 : (Cond.code z bytes' maxL' ret').before a0 Z = true) (w6 : (Cond.initialized z.cls).before a0 Z = true) (E : Exa Z h a K)
    (M : OwnMet l Z z bytes' maxL' ret' rm (.ref a :: argsL).toArray h n0 Q') {rt : Option FieldType} (hpd : parseMethodDescriptor y.desc = some ⟨ps, rt⟩) (hlen : argsL.length = ps.length) {st : List Value} (hst : st = argsL.reverse ++ .ref a :: S) (hp : pc + 5 = pc') (hsz : Ls.size = maxL)
    (hW : 0 + (S.map fun v => v.category).sum ≤ W) (hf : rm.frames + 1 ≤ R.frames) (hlo : W + (maxL' + 11) + rm.locals ≤ R.locals) (hc : cells + rm.cells ≤ R.cells) (hl : slots + rm.slots ≤ R.slots)
    (k : ∀ T' h' v, OwnSt p l e R s m args below meth c Z own bytes maxL ret nm n0 km Q RR T' h' (cells + rm.cells) (slots + rm.slots) → Q' v h' → OwnGo p e below (T'.setTop (mkF m pc' Ls (v.toList ++ S))) RR) : OwnGo p e below (T.setTop (mkF m pc Ls st)) RR := by
  subst hp hst
  obtain ⟨C0, hh, hkm, locs, X0, N⟩ := X
  obtain ⟨hx, hby, hml, hZ, hown, hnm, hret, hlk, hR⟩ := id C0
  obtain ⟨cq, kq, qa, qb, qc⟩ := isOf hZ hh E
  obtain ⟨v, _, ⟨T', L', c', s'⟩, -, X', ⟨Lc, hQ, e1, e2, e3⟩, st⟩ := X0.interfaceBack hx (xi := y) (y := z) hown (mvT hZ w1) (mvT hZ w2) (mvT hZ w2' (by simp [Cond.onTables, Cond.keepsFace, Cond.keeps, Cond.steady, Cond.faceAtom, hy.1, hy.2])) (mvT hZ w3) (mvT hZ w4) (mvT hZ w7) (mvT hZ w8) (mvT hZ w9) hy (backOf (W := W) (Q := fun v h' L => (Q' v h' ∧ h.size ≤ h'.size) ∧ Fr n0 L) (M []) hZ w5 w6 hf hlo) qa qb qc (g := mkF m pc Ls (argsL.reverse ++ .ref a :: S)) rfl (hsz.trans hml.symm) (Steps.refl _) (argsL := argsL) (rest := S) (lenOf hpd hlen) rfl hW (hb hby hd) (fun _ _ => ⟨rfl, hh, hc, hl⟩)
  dsimp only [Pt.U, Pt.locs, Pt.cells, Pt.slots] at X' e1 e2 e3 st hQ
  subst e1 e2 e3
  exact own_step (k T' _ v ⟨C0, rfl, Nat.le_trans hkm hQ.1.2, _, X', Fr.app N hQ.2⟩ hQ.1.1) fun t q => st.trans q
end OwnIfc
/-! ## own kit: a body that loads string literals (its tables may intern: the wide end) -/
section OwnW
variable {p : Program} {l : Launch} {e : Env} {R : Room} {s : State} {m : MethodId} {args : Array Value} {below : List Frame} {meth : Method} {c : Code} {Z : State} {own : String} {bytes : ByteArray} {maxL : Nat} {ret : Option FieldType} {nm : String} {n0 km : Nat} {Q : Option Value → Heap → Prop} {RR : State → Outcome → Prop} {T : State} {h : Heap} {cells slots : Nat} {a0 : Array Value} {pc pc' : Nat} {Ls : Array Slot} {S : List Value} {vm0 : Vm}
/-- how a wide walk may end -/
def OwnRW (s : State) (R : Room) (n0 : Nat) (Q : Option Value → Heap → Prop) (RR : State → Outcome → Prop) : Prop :=
  ∀ (U : State) (v : Option Value) (L : List Loc), Q v U.heap → Fr n0 L → ReturnedEndW s (.returned v) U L R.cells R.slots → RR U (.returned v)
def OwnMetW (l : Launch) (Z : State) (y : MethodName) (bytes : ByteArray) (maxL : Nat) (ret : Option FieldType) (rm : Room) (as' : Array Value) (h : Heap) (n0 : Nat) (Q : Option Value → Heap → Prop) : Prop :=
  ∀ ws : List Jvm.Cond, MetFree l y (head1 (Jvm.Cond.code y bytes maxL ret :: ws) rm) (fun a U => a = as' ∧ Z.Warmed39 U.vm ∧ U.heap = h) (fun _ _ _ _ _ => True) (fun _ U o U' => ∃ v L, o = .returned v ∧ ((Q v U'.heap ∧ h.size ≤ U'.heap.size) ∧ Fr n0 L) ∧ ReturnedEndW U o U' L rm.cells rm.slots)
theorem own_close (hS : s.Since vm0 km) (hRW : OwnRW s R n0 Q RR) (U : State) (v : Option Value) (L : List Loc) (hQ : Q v U.heap) (hk : km ≤ U.heap.size) (hN : Fr n0 L) (hW : (s.setVm vm0).WarmedH U.vm) (hs : (s.setVm vm0).sameButNew ({ U with vm := (s.setVm vm0).vm } : State) L R.cells R.slots) : RR U (.returned v) := by
  obtain ⟨a, b, c'⟩ := hS.ended (U := U) hW hk hs
  exact hRW U v L hQ hN ⟨⟨v, rfl⟩, a, b, c'⟩
theorem own_bodyW {y : MethodName} {rm : Room} {as' : Array Value} (hpl : plainFor y = true)
    (body : ∀ (p : Program) (e : Env) (s : State) (m : MethodId) (below : List Frame) (meth : Method) (c : Code) (s₁ : State) (RR : State → Outcome → Prop), OwnRW s rm n0 Q RR → s.Since s.vm h.size → OwnSt p l e rm (s.setVm s.vm) m as' below meth c Z y.cls bytes maxL ret y.name n0 h.size Q RR s₁ h 0 0 → OwnGo p e below (s₁.setTop (entryFrame m as' maxL)) RR) :
    OwnMetW l Z y bytes maxL ret rm as' h n0 Q := by
  intro ws
  refine MetFree.of_bodySF hpl hisR ?_
  intro p e s m args below meth c s₁ Bd hml0 hP hK
  obtain ⟨rfl, hZ, hh⟩ := hP
  have hS : s.Since s.vm h.size := (State.WarmedH.refl s).since _
  have hRW : OwnRW s rm n0 Q (fun s₂ o => ∃ v L, o = .returned v ∧ ((Q v s₂.heap ∧ h.size ≤ s₂.heap.size) ∧ Fr n0 L) ∧ ReturnedEndW s o s₂ L rm.cells rm.slots) := fun U v L hQ hN hE => ⟨v, L, rfl, ⟨⟨hQ, by rw [← hh]; exact hE.2.2.2.2.1⟩, hN⟩, hE⟩
  exact body p e s m below meth c s₁ _ hRW hS ⟨⟨Bd.exec, Bd.bytes, hml0, hZ, findClass_of_methodNamed Bd.named, (name_of_methodNamed Bd.named Bd.method).1, Bd.returns, Bd.notSynchronized, own_close hS hRW⟩, by rw [← hh, Bd.state]; rfl, Nat.le_refl _, [], Stand.of_body Bd, Fr.nil n0⟩
theorem own_ldcS {index n : Nat} {text : String} (X : OwnSt p l e R (s.setVm vm0) m args below meth c Z own bytes maxL ret nm n0 km Q RR T h cells slots) (hS : s.Since vm0 km) (hRW : OwnRW s R n0 Q RR) (hd : decode bytes pc = .ok (.ldc index, 2)) (w : (Cond.stringLink own index text).before a0 Z = true) (wS : ∀ a ∈ Bundle.stringAtoms, a.before a0 Z = true) (hp : pc + 2 = pc') (hn : 4 * text.toList.length ≤ n) (hbig : n ≤ 536870912) (hc : cells + 2 ≤ R.cells) (hl : slots + (n + 4) ≤ R.slots)
    (k : ∀ a T' h' k1, OwnSt p l e R (s.setVm T'.vm) m args below meth c Z own bytes maxL ret nm n0 k1 Q RR T' h' (cells + 2) (slots + (n + 4)) → s.Since T'.vm k1 → Ext h h' → OwnGo p e below (T'.setTop (mkF m pc' Ls (.ref a :: S))) RR) : OwnGo p e below (T.setTop (mkF m pc Ls S)) RR := by
  subst hp
  obtain ⟨C, hh, hkm, locs, X0, N⟩ := X
  obtain ⟨hx, hby, hml, hZ, hown, hnm, hret, hlk, hR⟩ := id C
  obtain ⟨a, T', h', k1, X', e', E', hS', hk', hZ', hown', st⟩ := ldcS X0 hx hZ hown w wS hh hS hkm (g := mkF m pc Ls S) rfl (hb hby hd) hn hbig hc hl
  exact own_step (k a T' h' k1 ⟨⟨hx, hby, hml, hZ', hown', hnm, hret, hlk, own_close hS' hRW⟩, e', hk', locs, X', N⟩ hS' E') st
end OwnW
theorem own_plE {Z : State} {h : Heap} {a : Addr} {C : String} (F : Exa Z h a C) : ∃ c : Cell, h[a]? = some c ∧ c.vm.isStatics = false := by obtain ⟨c, k, h1, _, _, h4, _⟩ := F; exact ⟨c, h1, h4⟩
theorem own_plF {Z : State} {h : Heap} {a : Addr} {C n d : String} {v : Value} (F : Fld Z h a C n d v) : ∃ c : Cell, h[a]? = some c ∧ c.vm.isStatics = false := by obtain ⟨c, _, _, _, _, h1, _, _, _, h4, _⟩ := F; exact ⟨c, h1, h4⟩
theorem own_plV {Z : State} {h : Heap} {a : Addr} {ty : FieldType} {vs : List Value} (F : OwnAr Z h a ty vs) : ∃ c : Cell, h[a]? = some c ∧ c.vm.isStatics = false := by obtain ⟨c, A, _⟩ := F; exact ⟨c, A.1, A.plain⟩
theorem own_pl0 {h : Heap} : ∀ a ∈ ([] : List Addr), ∃ c : Cell, h[a]? = some c ∧ c.vm.isStatics = false := by intro a q; cases q
theorem own_plS {h : Heap} {b : Addr} {ws : List Addr} (p : ∃ c : Cell, h[b]? = some c ∧ c.vm.isStatics = false) (q : ∀ a ∈ ws, ∃ c : Cell, h[a]? = some c ∧ c.vm.isStatics = false) : ∀ a ∈ b :: ws, ∃ c : Cell, h[a]? = some c ∧ c.vm.isStatics = false := by
  intro a r
  rcases List.mem_cons.mp r with e | e
  · rw [e]; exact p
  · exact q a e
theorem own_sta_keep {Z : State} {h h' : Heap} {C n d : String} {v : Value} {ws : List Addr} (F : Sta Z h C n d v) (K : Keep h h' ws) (q : ∀ a ∈ ws, ∃ c : Cell, h[a]? = some c ∧ c.vm.isStatics = false) : Sta Z h' C n d v := by
  obtain ⟨cf, i, k, f, st, cell, h1, h2, h3, h4, h5, h6, h7⟩ := F
  refine ⟨cf, i, k, f, st, cell, h1, h2, h3, h4, K.2.1 _ _ h5 ?_, h6, h7⟩
  intro m
  obtain ⟨c, e1, e2⟩ := q st m
  rw [h5] at e1
  cases e1
  rw [h6] at e2
  cases e2
/-! ## own kit: an array of ints that a case pins whole -/
theorem own_len {st : State} {as' : Array Value} {t : Term} {x : Addr} {z : Int32} {c : Cell} {ty : FieldType} (ht : t.eval as' st none [] st = some (.ref x)) (A : Arr st st.heap x c ty) (h : (Cond.eq (.length t) (.int z)).value as' st none st [] = some true) : c.slots.size < 2 ^ 31 ∧ c.slots.size.toInt32 = z := by
  have ha : st.arrayAt? x = some c := A.fin (Vm.Alike.refl _)
  obtain ⟨a, b, e1, e2, k1, k2⟩ := cmp_v (Or.inl h)
  by_cases q : c.slots.size < 2 ^ 31
  · refine ⟨q, ?_⟩
    have e3 := len_f (args := as') (first := st) (o := none) (idx := []) ht ha q
    cases e3.symm.trans e1
    cases (Term.int_eval z).symm.trans e2
    simpa [Cond.value, e1, e2] using h
  · simp [Term.eval, ht, ha, q] at e1
theorem own_elI {st : State} {as' : Array Value} {t : Term} {x : Addr} {k z : Int32} {c : Cell} {ty : FieldType} (ht : t.eval as' st none [] st = some (.ref x)) (A : Arr st st.heap x c ty) (h : (Cond.eq (.elem t (.int k)) (.int z)).value as' st none st [] = some true) : c.slots[k.toNatClampNeg]? = some (.int z) := by
  obtain ⟨a, b, e1, e2, k1, k2⟩ := cmp_v (Or.inl h)
  cases (Term.int_eval z).symm.trans e2
  obtain ⟨w, rfl⟩ := k2
  have q : w = z := by simpa [Cond.value, e1, e2] using h
  subst q
  exact (elem_in e1 ht (Term.int_eval k) A.1).2
theorem own_arOf {st : State} {x : Addr} {c : Cell} {ty : FieldType} {vs : List Value} (A : Arr st st.heap x c ty) (h1 : c.slots.size = vs.length) (h2 : vs.length < 2 ^ 31) (H : HasL c 0 vs) : OwnAr st st.heap x ty vs := by
  refine ⟨c, A, ?_, h2⟩
  apply Array.ext_getElem?
  intro i
  by_cases q : i < vs.length
  · have := HasL.at (dv := .null) vs 0 H i q
    rw [Nat.zero_add] at this
    rw [this, List.getElem?_toArray, List.getD_eq_getElem?_getD, List.getElem?_eq_getElem q]; rfl
  · rw [Array.getElem?_eq_none (by omega), List.getElem?_toArray, List.getElem?_eq_none (by omega)]
theorem own_01 {P : Prop} [Decidable P] {x : Int32} (h : x = (if P then (1 : Int32) else (0 : Int32))) : (x = 1 ∧ P) ∨ (x = 0 ∧ ¬ P) := by
  by_cases q : P
  · exact Or.inl ⟨by rw [h, if_pos q], q⟩
  · exact Or.inr ⟨by rw [h, if_neg q], q⟩
theorem own_s0 {a b : Int64} (h : ¬ a < b) : ¬ ((a - (0 : Int64)) < b) := by rw [Int64.sub_zero]; exact h
theorem own_msk {a v : Int64} (h : v = (a &&& (9223372036854775807 : Int64))) : 0 ≤ v.toInt := by
  subst h
  show 0 ≤ (a &&& (9223372036854775807 : Int64)).toBitVec.toInt
  rw [Int64.toBitVec_and]
  have e : (a.toBitVec &&& (9223372036854775807 : Int64).toBitVec).msb = false := by
    rw [BitVec.msb_and]
    have : (9223372036854775807 : Int64).toBitVec.msb = false := by decide
    rw [this, Bool.and_false]
  rw [BitVec.toInt_eq_msb_cond, e]
  simp
theorem own_n0 {a : Int64} (h : 0 ≤ a.toInt) : ¬ a < (0 : Int64) := by
  rw [Int64.lt_iff_toInt_lt]
  have e0 : (0 : Int64).toInt = 0 := rfl
  omega
theorem own_side {H U C : Int64} (h1 : 0 ≤ H.toInt) (h2 : 0 ≤ C.toInt) (h3 : 0 ≤ U.toInt) (h4 : ¬ H < U) : (H - U) < C ↔ H < C ∨ (H - C) < U := by
  have b1 := H.toInt_lt
  have b2 := C.toInt_lt
  have b3 := U.toInt_lt
  rw [Int64.lt_iff_toInt_lt] at h4
  rw [Int64.lt_iff_toInt_lt, Int64.lt_iff_toInt_lt, Int64.lt_iff_toInt_lt, Int64.toInt_sub, Int64.toInt_sub, Int.bmod_eq_of_le (by omega) (by omega), Int.bmod_eq_of_le (by omega) (by omega)]
  omega
theorem own_fin {H G C D u t u' t' : Int64} {r f1 f2 f3 : Int32} (h1 : 0 ≤ H.toInt) (h2 : 0 ≤ G.toInt) (h3 : 0 ≤ C.toInt) (h4 : 0 ≤ D.toInt) (e1 : u = u') (e2 : t = t') (h5 : 0 ≤ u'.toInt) (h6 : 0 ≤ t'.toInt) (h7 : ¬ H < u') (h8 : ¬ G < t')
    (hr : r = (if (H - u) < C then (0 : Int32) else (if (G - t) < D then (0 : Int32) else (1 : Int32)))) (hf1 : f1 = (if H < C then (0 : Int32) else (if (H - C) < u' then (0 : Int32) else (1 : Int32)))) (hf2 : f2 = (if G < D then (0 : Int32) else (if (G - D) < t' then (0 : Int32) else (1 : Int32))))
    (hf3 : f3 = (if f1 = (0 : Int32) then (0 : Int32) else (if f2 = (0 : Int32) then (0 : Int32) else (1 : Int32)))) : r = f3 := by
  subst e1 e2
  have i1 := own_side h1 h3 h5 h7
  have i2 := own_side h2 h4 h6 h8
  subst hf3 hf1 hf2 hr
  by_cases a1 : H < C <;> by_cases a2 : (H - C) < u <;> by_cases a3 : G < D <;> by_cases a4 : (G - D) < t <;> simp [i1, i2, a1, a2, a3, a4]
theorem own_wS {a0 : Array Value} {Z : State} (hw : ∀ d ∈ tables_1, d.before a0 Z = true) : ∀ a ∈ Bundle.stringAtoms, a.before a0 Z = true := by
  intro a ha
  simp only [Bundle.stringAtoms, List.mem_cons, List.not_mem_nil, or_false] at ha
  rcases ha with rfl | rfl | rfl | rfl | rfl | rfl | rfl
  · exact hw _ (List.mem_of_getElem? (i := 31) rfl)
  · exact hw _ (List.mem_of_getElem? (i := 32) rfl)
  · exact hw _ (List.mem_of_getElem? (i := 33) rfl)
  · exact hw _ (List.mem_of_getElem? (i := 34) rfl)
  · exact hw _ (List.mem_of_getElem? (i := 35) rfl)
  · exact hw _ (List.mem_of_getElem? (i := 36) rfl)
  · exact hw _ (List.mem_of_getElem? (i := 37) rfl)
theorem own_d6_0 : decode jdk_30_method_1_code 0 = .ok (.aload_n 0, 1) := by decide +kernel
theorem own_d6_1 : decode jdk_30_method_1_code 1 = .ok (.invokespecial 1, 3) := by decide +kernel
theorem own_d6_4 : decode jdk_30_method_1_code 4 = .ok (.return_, 1) := by decide +kernel
theorem own_ef6 (m : MethodId) (x0 : Addr) : entryFrame m #[(.ref x0)] 1 = mkF m 0 #[.val (.ref x0)] [] := by first | (simp [entryFrame, mkF, argsToLocals, Value.category]; done) | rfl
theorem own_pn6 : plainFor (⟨"java/lang/Record", "<init>", "()V"⟩ : MethodName) = true := by first | exact plainFor_of_name (by first | (simp [plainName, overriddenIn]; done) | decide +kernel) | exact Jvm.Free.JP.mathPlain rfl (by decide +kernel)
set_option maxRecDepth 65536 in
set_option maxHeartbeats 40000000 in
theorem own_rm6 (l : Launch) (Z : State) (a0 : Array Value) (hw : ∀ d ∈ tables_1, d.before a0 Z = true) (a1 : Addr) (h0 : Heap) (n0 : Nat) (Z0 : n0 ≤ h0.size)  :
    OwnMet l Z (⟨"java/lang/Record", "<init>", "()V"⟩ : MethodName) jdk_30_method_1_code 1 none ({ frames := 1, cells := 0, slots := 0, locals := 12 } : Room) #[(.ref a1)] h0 n0 (fun v h => v = none ∧ h0 = h) := by
  refine own_body own_pn6 ?_
  intro p e s m below meth c s₁ RR X0
  refine own_enter (own_ef6 m a1) ?_
  refine own_aloadN X0 own_d6_0 (pc' := 1) rfl rfl rfl ?_
  refine own_init X0 own_d6_1 (hw _ (List.mem_of_getElem? (i := 46) rfl)) (hw _ (List.mem_of_getElem? (i := 20) rfl)) (hw _ (List.mem_of_getElem? (i := 21) rfl)) (pc' := 4) rfl rfl (by decide) (W := 0) (Nat.le_of_eq rfl) (by decide) ?_
  intro T1 X1
  exact own_retV X1 own_d6_4 ⟨rfl, rfl⟩ (by decide) (by decide)
theorem own_d3_0 : decode jdk_22_method_1_code 0 = .ok (.aload_n 0, 1) := by decide +kernel
theorem own_d3_1 : decode jdk_22_method_1_code 1 = .ok (.invokespecial 1, 3) := by decide +kernel
theorem own_d3_4 : decode jdk_22_method_1_code 4 = .ok (.return_, 1) := by decide +kernel
theorem own_ef3 (m : MethodId) (x0 : Addr) : entryFrame m #[(.ref x0)] 1 = mkF m 0 #[.val (.ref x0)] [] := by first | (simp [entryFrame, mkF, argsToLocals, Value.category]; done) | rfl
theorem own_pn3 : plainFor (⟨"java/util/AbstractCollection", "<init>", "()V"⟩ : MethodName) = true := by first | exact plainFor_of_name (by first | (simp [plainName, overriddenIn]; done) | decide +kernel) | exact Jvm.Free.JP.mathPlain rfl (by decide +kernel)
set_option maxRecDepth 65536 in
set_option maxHeartbeats 40000000 in
theorem own_rm3 (l : Launch) (Z : State) (a0 : Array Value) (hw : ∀ d ∈ tables_1, d.before a0 Z = true) (a1 : Addr) (h0 : Heap) (n0 : Nat) (Z0 : n0 ≤ h0.size)  :
    OwnMet l Z (⟨"java/util/AbstractCollection", "<init>", "()V"⟩ : MethodName) jdk_22_method_1_code 1 none ({ frames := 1, cells := 0, slots := 0, locals := 12 } : Room) #[(.ref a1)] h0 n0 (fun v h => v = none ∧ h0 = h) := by
  refine own_body own_pn3 ?_
  intro p e s m below meth c s₁ RR X0
  refine own_enter (own_ef3 m a1) ?_
  refine own_aloadN X0 own_d3_0 (pc' := 1) rfl rfl rfl ?_
  refine own_init X0 own_d3_1 (hw _ (List.mem_of_getElem? (i := 19) rfl)) (hw _ (List.mem_of_getElem? (i := 20) rfl)) (hw _ (List.mem_of_getElem? (i := 21) rfl)) (pc' := 4) rfl rfl (by decide) (W := 0) (Nat.le_of_eq rfl) (by decide) ?_
  intro T1 X1
  exact own_retV X1 own_d3_4 ⟨rfl, rfl⟩ (by decide) (by decide)
theorem own_pd0 : parseMethodDescriptor "()V" = some ⟨[], none⟩ := by decide +kernel
theorem own_d2_0 : decode jdk_39_method_1_code 0 = .ok (.aload_n 0, 1) := by decide +kernel
theorem own_d2_1 : decode jdk_39_method_1_code 1 = .ok (.invokespecial 1, 3) := by decide +kernel
theorem own_d2_4 : decode jdk_39_method_1_code 4 = .ok (.aload_n 0, 1) := by decide +kernel
theorem own_d2_5 : decode jdk_39_method_1_code 5 = .ok (.iconst 0, 1) := by decide +kernel
theorem own_d2_6 : decode jdk_39_method_1_code 6 = .ok (.putfield 7, 3) := by decide +kernel
theorem own_d2_9 : decode jdk_39_method_1_code 9 = .ok (.return_, 1) := by decide +kernel
theorem own_ef2 (m : MethodId) (x0 : Addr) : entryFrame m #[(.ref x0)] 1 = mkF m 0 #[.val (.ref x0)] [] := by first | (simp [entryFrame, mkF, argsToLocals, Value.category]; done) | rfl
theorem own_pn2 : plainFor (⟨"java/util/AbstractList", "<init>", "()V"⟩ : MethodName) = true := by first | exact plainFor_of_name (by first | (simp [plainName, overriddenIn]; done) | decide +kernel) | exact Jvm.Free.JP.mathPlain rfl (by decide +kernel)
set_option maxRecDepth 65536 in
set_option maxHeartbeats 40000000 in
theorem own_rm2 (l : Launch) (Z : State) (a0 : Array Value) (hw : ∀ d ∈ tables_1, d.before a0 Z = true) (a1 : Addr) (h0 : Heap) (n0 : Nat) (Z0 : n0 ≤ h0.size) (E_a1 : Exa Z h0 a1 "java/util/ArrayList") (F_elementData_a1 : Fld Z h0 a1 "java/util/ArrayList" "elementData" "[Ljava/lang/Object;" .null) (F_size_a1 : Fld Z h0 a1 "java/util/ArrayList" "size" "I" (.int (0 : Int32))) (F_modCount_a1 : Fld Z h0 a1 "java/util/AbstractList" "modCount" "I" (.int (0 : Int32))) (g_a1 : n0 ≤ a1) :
    OwnMet l Z (⟨"java/util/AbstractList", "<init>", "()V"⟩ : MethodName) jdk_39_method_1_code 1 none ({ frames := 2, cells := 0, slots := 0, locals := 24 } : Room) #[(.ref a1)] h0 n0 (fun v h => v = none ∧ Keep h0 h [a1] ∧ Fld Z h a1 "java/util/ArrayList" "elementData" "[Ljava/lang/Object;" .null ∧ Fld Z h a1 "java/util/ArrayList" "size" "I" (.int (0 : Int32)) ∧ Fld Z h a1 "java/util/AbstractList" "modCount" "I" (.int (0 : Int32))) := by
  refine own_body own_pn2 ?_
  intro p e s m below meth c s₁ RR X0
  refine own_enter (own_ef2 m a1) ?_
  refine own_aloadN X0 own_d2_0 (pc' := 1) rfl rfl rfl ?_
  refine own_callC (a := a1) (argsL := []) X0 own_d2_1 (y := (⟨"java/util/AbstractCollection", "<init>", "()V"⟩ : MethodName)) (by decide) (hw _ (List.mem_of_getElem? (i := 13) rfl)) (hw _ (List.mem_of_getElem? (i := 14) rfl)) (hw _ (List.mem_of_getElem? (i := 18) rfl)) (hw _ (List.mem_of_getElem? (i := 17) rfl)) (own_rm3 l Z a0 hw a1 h0 n0 Z0 ) own_pd0 rfl (S := []) rfl (pc' := 4) rfl rfl (W := 0) (Nat.le_of_eq rfl) (by decide) (by decide) (by decide) (by decide) ?_
  intro T1 h1 v1_ X1 q1_
  obtain ⟨rfl, rfl⟩ := q1_
  show OwnGo p e below (T1.setTop (mkF m 4 #[.val (.ref a1)] [])) RR
  refine own_aloadN X1 own_d2_4 (pc' := 5) rfl rfl rfl ?_
  refine own_iconst X1 own_d2_5 (pc' := 6) rfl (v := (0 : Int32)) (by decide) ?_
  refine own_putF X1 own_d2_6 (hw _ (List.mem_of_getElem? (i := 22) rfl)) Via.refl F_modCount_a1 E_a1 (Or.inl (hw _ (List.mem_of_getElem? (i := 23) rfl))) (hw _ (List.mem_of_getElem? (i := 2) rfl)) (ty := .int) (v' := (.int (0 : Int32))) (by decide) rfl rfl g_a1 (pc' := 9) rfl ?_
  intro T2 h2 X2 W2
  have E_a1_2 := (E_a1).wr W2
  have F_elementData_a1_2 := (F_elementData_a1).other W2 (Or.inr (slot_ne (Or.inl (hw _ (List.mem_of_getElem? (i := 26) rfl))) (Or.inl (hw _ (List.mem_of_getElem? (i := 23) rfl))) (by decide) (t := (.array (.object "java/lang/Object"))) (t' := .int) (by decide) (by decide)))
  have F_size_a1_2 := (F_size_a1).other W2 (Or.inr (slot_ne (Or.inl (hw _ (List.mem_of_getElem? (i := 61) rfl))) (Or.inl (hw _ (List.mem_of_getElem? (i := 23) rfl))) (by decide) (t := .int) (t' := .int) (by decide) (by decide)))
  have F_modCount_a1_2 := (F_modCount_a1).same W2
  have Z2 : n0 ≤ h2.size := Nat.le_trans Z0 (Nat.le_of_eq W2.size.symm)
  have K2 := ((Keep.refl h0 [a1])).wr W2 (Or.inl (List.mem_of_getElem? (i := 0) rfl))
  exact own_retV X2 own_d2_9 ⟨rfl, K2, F_elementData_a1_2, F_size_a1_2, F_modCount_a1_2⟩ (by decide) (by decide)
theorem own_d1_0 : decode jdk_38_method_2_code 0 = .ok (.aload_n 0, 1) := by decide +kernel
theorem own_d1_1 : decode jdk_38_method_2_code 1 = .ok (.invokespecial 1, 3) := by decide +kernel
theorem own_d1_4 : decode jdk_38_method_2_code 4 = .ok (.aload_n 0, 1) := by decide +kernel
theorem own_d1_5 : decode jdk_38_method_2_code 5 = .ok (.getstatic 39, 3) := by decide +kernel
theorem own_d1_8 : decode jdk_38_method_2_code 8 = .ok (.putfield 9, 3) := by decide +kernel
theorem own_d1_11 : decode jdk_38_method_2_code 11 = .ok (.return_, 1) := by decide +kernel
theorem own_ef1 (m : MethodId) (x0 : Addr) : entryFrame m #[(.ref x0)] 1 = mkF m 0 #[.val (.ref x0)] [] := by first | (simp [entryFrame, mkF, argsToLocals, Value.category]; done) | rfl
theorem own_pn1 : plainFor (⟨"java/util/ArrayList", "<init>", "()V"⟩ : MethodName) = true := by first | exact plainFor_of_name (by first | (simp [plainName, overriddenIn]; done) | decide +kernel) | exact Jvm.Free.JP.mathPlain rfl (by decide +kernel)
set_option maxRecDepth 65536 in
set_option maxHeartbeats 40000000 in
theorem own_rm1 (l : Launch) (Z : State) (a0 : Array Value) (hw : ∀ d ∈ tables_1, d.before a0 Z = true) (a1 : Addr) (d0 : Addr) (h0 : Heap) (n0 : Nat) (Z0 : n0 ≤ h0.size) (E_a1 : Exa Z h0 a1 "java/util/ArrayList") (F_elementData_a1 : Fld Z h0 a1 "java/util/ArrayList" "elementData" "[Ljava/lang/Object;" .null) (F_size_a1 : Fld Z h0 a1 "java/util/ArrayList" "size" "I" (.int (0 : Int32))) (F_modCount_a1 : Fld Z h0 a1 "java/util/AbstractList" "modCount" "I" (.int (0 : Int32))) (g_a1 : n0 ≤ a1) (S_DEFAULTCAPACITY_EMPTY_ELEMENTDATA : Sta Z h0 "java/util/ArrayList" "DEFAULTCAPACITY_EMPTY_ELEMENTDATA" "[Ljava/lang/Object;" (.ref d0)) :
    OwnMet l Z (⟨"java/util/ArrayList", "<init>", "()V"⟩ : MethodName) jdk_38_method_2_code 1 none ({ frames := 3, cells := 0, slots := 0, locals := 36 } : Room) #[(.ref a1)] h0 n0 (fun v h => v = none ∧ Keep h0 h [a1] ∧ Fld Z h a1 "java/util/ArrayList" "elementData" "[Ljava/lang/Object;" (.ref d0) ∧ Fld Z h a1 "java/util/ArrayList" "size" "I" (.int (0 : Int32)) ∧ Fld Z h a1 "java/util/AbstractList" "modCount" "I" (.int (0 : Int32))) := by
  refine own_body own_pn1 ?_
  intro p e s m below meth c s₁ RR X0
  refine own_enter (own_ef1 m a1) ?_
  refine own_aloadN X0 own_d1_0 (pc' := 1) rfl rfl rfl ?_
  refine own_callC (a := a1) (argsL := []) X0 own_d1_1 (y := (⟨"java/util/AbstractList", "<init>", "()V"⟩ : MethodName)) (by decide) (hw _ (List.mem_of_getElem? (i := 7) rfl)) (hw _ (List.mem_of_getElem? (i := 8) rfl)) (hw _ (List.mem_of_getElem? (i := 12) rfl)) (hw _ (List.mem_of_getElem? (i := 11) rfl)) (own_rm2 l Z a0 hw a1 h0 n0 Z0 E_a1 F_elementData_a1 F_size_a1 F_modCount_a1 g_a1) own_pd0 rfl (S := []) rfl (pc' := 4) rfl rfl (W := 0) (Nat.le_of_eq rfl) (by decide) (by decide) (by decide) (by decide) ?_
  intro T1 h1 v1_ X1 q1_
  obtain ⟨rfl, KK1, FF1q0, FF1q1, FF1q2⟩ := q1_
  show OwnGo p e below (T1.setTop (mkF m 4 #[.val (.ref a1)] [])) RR
  have Z1 : n0 ≤ h1.size := Nat.le_trans Z0 KK1.1
  have E_a1_1 := (E_a1).keep KK1
  have S_DEFAULTCAPACITY_EMPTY_ELEMENTDATA_1 := own_sta_keep S_DEFAULTCAPACITY_EMPTY_ELEMENTDATA KK1 (own_plS (own_plE E_a1) own_pl0)
  have K1 := ((Keep.refl h0 [a1])).trans KK1 (allS (Or.inl (List.mem_of_getElem? (i := 0) rfl)) all0)
  refine own_aloadN X1 own_d1_4 (pc' := 5) rfl rfl rfl ?_
  refine own_getS X1 own_d1_5 (hw _ (List.mem_of_getElem? (i := 24) rfl)) Via.refl S_DEFAULTCAPACITY_EMPTY_ELEMENTDATA_1 (pc' := 8) rfl ?_
  intro T2 X2
  refine own_putF X2 own_d1_8 (hw _ (List.mem_of_getElem? (i := 25) rfl)) Via.refl FF1q0 E_a1_1 (Or.inl (hw _ (List.mem_of_getElem? (i := 26) rfl))) (hw _ (List.mem_of_getElem? (i := 2) rfl)) (ty := (.array (.object "java/lang/Object"))) (v' := (.ref d0)) (by decide) rfl rfl g_a1 (pc' := 11) rfl ?_
  intro T3 h3 X3 W3
  have E_a1_3 := (E_a1_1).wr W3
  have S_DEFAULTCAPACITY_EMPTY_ELEMENTDATA_3 := (S_DEFAULTCAPACITY_EMPTY_ELEMENTDATA_1).wr W3
  have FF1q0_3 := (FF1q0).same W3
  have FF1q1_3 := (FF1q1).other W3 (Or.inr (slot_ne (Or.inl (hw _ (List.mem_of_getElem? (i := 61) rfl))) (Or.inl (hw _ (List.mem_of_getElem? (i := 26) rfl))) (by decide) (t := .int) (t' := (.array (.object "java/lang/Object"))) (by decide) (by decide)))
  have FF1q2_3 := (FF1q2).other W3 (Or.inr (slot_ne (Or.inl (hw _ (List.mem_of_getElem? (i := 23) rfl))) (Or.inl (hw _ (List.mem_of_getElem? (i := 26) rfl))) (by decide) (t := .int) (t' := (.array (.object "java/lang/Object"))) (by decide) (by decide)))
  have Z3 : n0 ≤ h3.size := Nat.le_trans Z1 (Nat.le_of_eq W3.size.symm)
  have K3 := (K1).wr W3 (Or.inl (List.mem_of_getElem? (i := 0) rfl))
  exact own_retV X3 own_d1_11 ⟨rfl, K3, FF1q0_3, FF1q1_3, FF1q2_3⟩ (by decide) (by decide)
theorem own_d5_0 : decode prog_37_method_1_code 0 = .ok (.aload_n 0, 1) := by decide +kernel
theorem own_d5_1 : decode prog_37_method_1_code 1 = .ok (.invokespecial 1, 3) := by decide +kernel
theorem own_d5_4 : decode prog_37_method_1_code 4 = .ok (.aload_n 0, 1) := by decide +kernel
theorem own_d5_5 : decode prog_37_method_1_code 5 = .ok (.aload_n 1, 1) := by decide +kernel
theorem own_d5_6 : decode prog_37_method_1_code 6 = .ok (.putfield 7, 3) := by decide +kernel
theorem own_d5_9 : decode prog_37_method_1_code 9 = .ok (.aload_n 0, 1) := by decide +kernel
theorem own_d5_10 : decode prog_37_method_1_code 10 = .ok (.lload_n 2, 1) := by decide +kernel
theorem own_d5_11 : decode prog_37_method_1_code 11 = .ok (.putfield 13, 3) := by decide +kernel
theorem own_d5_14 : decode prog_37_method_1_code 14 = .ok (.aload_n 0, 1) := by decide +kernel
theorem own_d5_15 : decode prog_37_method_1_code 15 = .ok (.lload 4, 2) := by decide +kernel
theorem own_d5_17 : decode prog_37_method_1_code 17 = .ok (.putfield 17, 3) := by decide +kernel
theorem own_d5_20 : decode prog_37_method_1_code 20 = .ok (.return_, 1) := by decide +kernel
theorem own_ef5 (m : MethodId) (x0 : Addr) (x1 : Addr) (x2 : Int64) (x3 : Int64) : entryFrame m #[(.ref x0), (.ref x1), (.long x2), (.long x3)] 6 = mkF m 0 #[.val (.ref x0), .val (.ref x1), .val (.long x2), .second, .val (.long x3), .second] [] := by first | (simp [entryFrame, mkF, argsToLocals, Value.category]; done) | rfl
theorem own_pn5 : plainFor (⟨"com/example/packhouse/packhouse/Vm", "<init>", "(Ljava/lang/String;JJ)V"⟩ : MethodName) = true := by first | exact plainFor_of_name (by first | (simp [plainName, overriddenIn]; done) | decide +kernel) | exact Jvm.Free.JP.mathPlain rfl (by decide +kernel)
set_option maxRecDepth 65536 in
set_option maxHeartbeats 40000000 in
theorem own_rm5 (l : Launch) (Z : State) (a0 : Array Value) (hw : ∀ d ∈ tables_1, d.before a0 Z = true) (a1 : Addr) (p0 : Addr) (p1 : Int64) (p2 : Int64) (u1 : Int64) (u2 : Int64) (h0 : Heap) (n0 : Nat) (Z0 : n0 ≤ h0.size) (E_a1 : Exa Z h0 a1 "com/example/packhouse/packhouse/Vm") (F_id_a1 : Fld Z h0 a1 "com/example/packhouse/packhouse/Vm" "id" "Ljava/lang/String;" .null) (F_cpu_a1 : Fld Z h0 a1 "com/example/packhouse/packhouse/Vm" "cpu" "J" (.long u1)) (F_mem_a1 : Fld Z h0 a1 "com/example/packhouse/packhouse/Vm" "mem" "J" (.long u2)) (g_a1 : n0 ≤ a1) :
    OwnMet l Z (⟨"com/example/packhouse/packhouse/Vm", "<init>", "(Ljava/lang/String;JJ)V"⟩ : MethodName) prog_37_method_1_code 6 none ({ frames := 2, cells := 0, slots := 0, locals := 24 } : Room) #[(.ref a1), (.ref p0), (.long p1), (.long p2)] h0 n0 (fun v h => v = none ∧ Keep h0 h [a1] ∧ Fld Z h a1 "com/example/packhouse/packhouse/Vm" "id" "Ljava/lang/String;" (.ref p0) ∧ Fld Z h a1 "com/example/packhouse/packhouse/Vm" "cpu" "J" (.long p1) ∧ Fld Z h a1 "com/example/packhouse/packhouse/Vm" "mem" "J" (.long p2)) := by
  refine own_body own_pn5 ?_
  intro p e s m below meth c s₁ RR X0
  refine own_enter (own_ef5 m a1 p0 p1 p2) ?_
  refine own_aloadN X0 own_d5_0 (pc' := 1) rfl rfl rfl ?_
  refine own_callC (a := a1) (argsL := []) X0 own_d5_1 (y := (⟨"java/lang/Record", "<init>", "()V"⟩ : MethodName)) (by decide) (hw _ (List.mem_of_getElem? (i := 41) rfl)) (hw _ (List.mem_of_getElem? (i := 42) rfl)) (hw _ (List.mem_of_getElem? (i := 45) rfl)) (hw _ (List.mem_of_getElem? (i := 44) rfl)) (own_rm6 l Z a0 hw a1 h0 n0 Z0 ) own_pd0 rfl (S := []) rfl (pc' := 4) rfl rfl (W := 0) (Nat.le_of_eq rfl) (by decide) (by decide) (by decide) (by decide) ?_
  intro T1 h1 v1_ X1 q1_
  obtain ⟨rfl, rfl⟩ := q1_
  show OwnGo p e below (T1.setTop (mkF m 4 #[.val (.ref a1), .val (.ref p0), .val (.long p1), .second, .val (.long p2), .second] [])) RR
  refine own_aloadN X1 own_d5_4 (pc' := 5) rfl rfl rfl ?_
  refine own_aloadN X1 own_d5_5 (pc' := 6) rfl rfl rfl ?_
  refine own_putF X1 own_d5_6 (hw _ (List.mem_of_getElem? (i := 47) rfl)) Via.refl F_id_a1 E_a1 (Or.inr ⟨(hw _ (List.mem_of_getElem? (i := 48) rfl)), rfl, rfl⟩) (hw _ (List.mem_of_getElem? (i := 28) rfl)) (ty := (.object "java/lang/String")) (v' := (.ref p0)) (by decide) rfl rfl g_a1 (pc' := 9) rfl ?_
  intro T2 h2 X2 W2
  have E_a1_2 := (E_a1).wr W2
  have F_id_a1_2 := (F_id_a1).same W2
  have F_cpu_a1_2 := (F_cpu_a1).other W2 (Or.inr (slot_ne (Or.inr (hw _ (List.mem_of_getElem? (i := 50) rfl))) (Or.inr (hw _ (List.mem_of_getElem? (i := 48) rfl))) (by decide) (t := .long) (t' := (.object "java/lang/String")) (by decide) (by decide)))
  have F_mem_a1_2 := (F_mem_a1).other W2 (Or.inr (slot_ne (Or.inr (hw _ (List.mem_of_getElem? (i := 52) rfl))) (Or.inr (hw _ (List.mem_of_getElem? (i := 48) rfl))) (by decide) (t := .long) (t' := (.object "java/lang/String")) (by decide) (by decide)))
  have Z2 : n0 ≤ h2.size := Nat.le_trans Z0 (Nat.le_of_eq W2.size.symm)
  have K2 := ((Keep.refl h0 [a1])).wr W2 (Or.inl (List.mem_of_getElem? (i := 0) rfl))
  refine own_aloadN X2 own_d5_9 (pc' := 10) rfl rfl rfl ?_
  refine own_lloadN X2 own_d5_10 (pc' := 11) rfl rfl ?_
  refine own_putF X2 own_d5_11 (hw _ (List.mem_of_getElem? (i := 49) rfl)) Via.refl F_cpu_a1_2 E_a1_2 (Or.inr ⟨(hw _ (List.mem_of_getElem? (i := 50) rfl)), rfl, rfl⟩) (hw _ (List.mem_of_getElem? (i := 28) rfl)) (ty := .long) (v' := (.long p1)) (by decide) rfl rfl g_a1 (pc' := 14) rfl ?_
  intro T3 h3 X3 W3
  have E_a1_3 := (E_a1_2).wr W3
  have F_id_a1_3 := (F_id_a1_2).other W3 (Or.inr (slot_ne (Or.inr (hw _ (List.mem_of_getElem? (i := 48) rfl))) (Or.inr (hw _ (List.mem_of_getElem? (i := 50) rfl))) (by decide) (t := (.object "java/lang/String")) (t' := .long) (by decide) (by decide)))
  have F_cpu_a1_3 := (F_cpu_a1_2).same W3
  have F_mem_a1_3 := (F_mem_a1_2).other W3 (Or.inr (slot_ne (Or.inr (hw _ (List.mem_of_getElem? (i := 52) rfl))) (Or.inr (hw _ (List.mem_of_getElem? (i := 50) rfl))) (by decide) (t := .long) (t' := .long) (by decide) (by decide)))
  have Z3 : n0 ≤ h3.size := Nat.le_trans Z2 (Nat.le_of_eq W3.size.symm)
  have K3 := (K2).wr W3 (Or.inl (List.mem_of_getElem? (i := 0) rfl))
  refine own_aloadN X3 own_d5_14 (pc' := 15) rfl rfl rfl ?_
  refine own_lload X3 own_d5_15 (pc' := 17) rfl rfl ?_
  refine own_putF X3 own_d5_17 (hw _ (List.mem_of_getElem? (i := 51) rfl)) Via.refl F_mem_a1_3 E_a1_3 (Or.inr ⟨(hw _ (List.mem_of_getElem? (i := 52) rfl)), rfl, rfl⟩) (hw _ (List.mem_of_getElem? (i := 28) rfl)) (ty := .long) (v' := (.long p2)) (by decide) rfl rfl g_a1 (pc' := 20) rfl ?_
  intro T4 h4 X4 W4
  have E_a1_4 := (E_a1_3).wr W4
  have F_id_a1_4 := (F_id_a1_3).other W4 (Or.inr (slot_ne (Or.inr (hw _ (List.mem_of_getElem? (i := 48) rfl))) (Or.inr (hw _ (List.mem_of_getElem? (i := 52) rfl))) (by decide) (t := (.object "java/lang/String")) (t' := .long) (by decide) (by decide)))
  have F_cpu_a1_4 := (F_cpu_a1_3).other W4 (Or.inr (slot_ne (Or.inr (hw _ (List.mem_of_getElem? (i := 50) rfl))) (Or.inr (hw _ (List.mem_of_getElem? (i := 52) rfl))) (by decide) (t := .long) (t' := .long) (by decide) (by decide)))
  have F_mem_a1_4 := (F_mem_a1_3).same W4
  have Z4 : n0 ≤ h4.size := Nat.le_trans Z3 (Nat.le_of_eq W4.size.symm)
  have K4 := (K3).wr W4 (Or.inl (List.mem_of_getElem? (i := 0) rfl))
  exact own_retV X4 own_d5_20 ⟨rfl, K4, F_id_a1_4, F_cpu_a1_4, F_mem_a1_4⟩ (by decide) (by decide)
theorem own_d22_0 : decode prog_37_method_7_code 0 = .ok (.aload_n 0, 1) := by decide +kernel
theorem own_d22_1 : decode prog_37_method_7_code 1 = .ok (.getfield 13, 3) := by decide +kernel
theorem own_d22_4 : decode prog_37_method_7_code 4 = .ok (.lreturn, 1) := by decide +kernel
theorem own_ef22 (m : MethodId) (x0 : Addr) : entryFrame m #[(.ref x0)] 1 = mkF m 0 #[.val (.ref x0)] [] := by first | (simp [entryFrame, mkF, argsToLocals, Value.category]; done) | rfl
theorem own_pn22 : plainFor (⟨"com/example/packhouse/packhouse/Vm", "cpu", "()J"⟩ : MethodName) = true := by first | exact plainFor_of_name (by first | (simp [plainName, overriddenIn]; done) | decide +kernel) | exact Jvm.Free.JP.mathPlain rfl (by decide +kernel)
set_option maxRecDepth 65536 in
set_option maxHeartbeats 40000000 in
theorem own_rm22 (l : Launch) (Z : State) (a0 : Array Value) (hw : ∀ d ∈ tables_1, d.before a0 Z = true) (a1 : Addr) (w1 : Int64) (h0 : Heap) (n0 : Nat) (Z0 : n0 ≤ h0.size) (F_cpu_a1 : Fld Z h0 a1 "com/example/packhouse/packhouse/Vm" "cpu" "J" (.long w1)) :
    OwnMet l Z (⟨"com/example/packhouse/packhouse/Vm", "cpu", "()J"⟩ : MethodName) prog_37_method_7_code 1 (some .long) ({ frames := 0, cells := 0, slots := 0, locals := 0 } : Room) #[(.ref a1)] h0 n0 (fun v h => v = some (.long w1) ∧ h0 = h) := by
  refine own_body own_pn22 ?_
  intro p e s m below meth c s₁ RR X0
  refine own_enter (own_ef22 m a1) ?_
  refine own_aloadN X0 own_d22_0 (pc' := 1) rfl rfl rfl ?_
  refine own_getF X0 own_d22_1 (hw _ (List.mem_of_getElem? (i := 49) rfl)) Via.refl F_cpu_a1 (pc' := 4) rfl ?_
  intro T1 X1
  exact own_retJ X1 own_d22_4 ⟨rfl, rfl⟩ (by decide) (by decide)
theorem own_d23_0 : decode prog_37_method_8_code 0 = .ok (.aload_n 0, 1) := by decide +kernel
theorem own_d23_1 : decode prog_37_method_8_code 1 = .ok (.getfield 17, 3) := by decide +kernel
theorem own_d23_4 : decode prog_37_method_8_code 4 = .ok (.lreturn, 1) := by decide +kernel
theorem own_ef23 (m : MethodId) (x0 : Addr) : entryFrame m #[(.ref x0)] 1 = mkF m 0 #[.val (.ref x0)] [] := by first | (simp [entryFrame, mkF, argsToLocals, Value.category]; done) | rfl
theorem own_pn23 : plainFor (⟨"com/example/packhouse/packhouse/Vm", "mem", "()J"⟩ : MethodName) = true := by first | exact plainFor_of_name (by first | (simp [plainName, overriddenIn]; done) | decide +kernel) | exact Jvm.Free.JP.mathPlain rfl (by decide +kernel)
set_option maxRecDepth 65536 in
set_option maxHeartbeats 40000000 in
theorem own_rm23 (l : Launch) (Z : State) (a0 : Array Value) (hw : ∀ d ∈ tables_1, d.before a0 Z = true) (a1 : Addr) (w1 : Int64) (h0 : Heap) (n0 : Nat) (Z0 : n0 ≤ h0.size) (F_mem_a1 : Fld Z h0 a1 "com/example/packhouse/packhouse/Vm" "mem" "J" (.long w1)) :
    OwnMet l Z (⟨"com/example/packhouse/packhouse/Vm", "mem", "()J"⟩ : MethodName) prog_37_method_8_code 1 (some .long) ({ frames := 0, cells := 0, slots := 0, locals := 0 } : Room) #[(.ref a1)] h0 n0 (fun v h => v = some (.long w1) ∧ h0 = h) := by
  refine own_body own_pn23 ?_
  intro p e s m below meth c s₁ RR X0
  refine own_enter (own_ef23 m a1) ?_
  refine own_aloadN X0 own_d23_0 (pc' := 1) rfl rfl rfl ?_
  refine own_getF X0 own_d23_1 (hw _ (List.mem_of_getElem? (i := 51) rfl)) Via.refl F_mem_a1 (pc' := 4) rfl ?_
  intro T1 X1
  exact own_retJ X1 own_d23_4 ⟨rfl, rfl⟩ (by decide) (by decide)
theorem own_d11_0 : decode jdk_29_method_65_code 0 = .ok (.iload_n 0, 1) := by decide +kernel
theorem own_d11_1 : decode jdk_29_method_65_code 1 = .ok (.iload_n 1, 1) := by decide +kernel
theorem own_d11_2 : decode jdk_29_method_65_code 2 = .ok (.if_icmp .lt 7, 3) := by decide +kernel
theorem own_d11_5 : decode jdk_29_method_65_code 5 = .ok (.iload_n 0, 1) := by decide +kernel
theorem own_d11_6 : decode jdk_29_method_65_code 6 = .ok (.goto 4, 3) := by decide +kernel
theorem own_d11_9 : decode jdk_29_method_65_code 9 = .ok (.iload_n 1, 1) := by decide +kernel
theorem own_d11_10 : decode jdk_29_method_65_code 10 = .ok (.ireturn, 1) := by decide +kernel
theorem own_ef11 (m : MethodId) (x0 : Int32) (x1 : Int32) : entryFrame m #[(.int x0), (.int x1)] 2 = mkF m 0 #[.val (.int x0), .val (.int x1)] [] := by first | (simp [entryFrame, mkF, argsToLocals, Value.category]; done) | rfl
theorem own_pn11 : plainFor (⟨"java/lang/Math", "max", "(II)I"⟩ : MethodName) = true := by first | exact plainFor_of_name (by first | (simp [plainName, overriddenIn]; done) | decide +kernel) | exact Jvm.Free.JP.mathPlain rfl (by decide +kernel)
set_option maxRecDepth 65536 in
set_option maxHeartbeats 40000000 in
theorem own_rm11 (l : Launch) (Z : State) (a0 : Array Value) (hw : ∀ d ∈ tables_1, d.before a0 Z = true)  (h0 : Heap) (n0 : Nat) (Z0 : n0 ≤ h0.size)  :
    OwnMet l Z (⟨"java/lang/Math", "max", "(II)I"⟩ : MethodName) jdk_29_method_65_code 2 (some .int) ({ frames := 0, cells := 0, slots := 0, locals := 0 } : Room) #[(.int (10 : Int32)), (.int (1 : Int32))] h0 n0 (fun v h => v = some (.int (10 : Int32)) ∧ h0 = h) := by
  refine own_body own_pn11 ?_
  intro p e s m below meth c s₁ RR X0
  refine own_enter (own_ef11 m (10 : Int32) (1 : Int32)) ?_
  refine own_iloadN X0 own_d11_0 (pc' := 1) rfl rfl ?_
  refine own_iloadN X0 own_d11_1 (pc' := 2) rfl rfl ?_
  refine own_icN X0 own_d11_2 (flt ((by decide : ¬ ((10 : Int32) < (1 : Int32))))).1 (pc' := 5) rfl ?_
  refine own_iloadN X0 own_d11_5 (pc' := 6) rfl rfl ?_
  refine own_goto X0 own_d11_6 (pc' := 10) (by decide) (by decide) ?_
  exact own_retI X0 own_d11_10 ⟨rfl, rfl⟩ (by decide) (by decide)
theorem own_pd1 : parseMethodDescriptor "(II)I" = some ⟨[.int, .int], some .int⟩ := by decide +kernel
theorem own_d10_0 : decode jdk_38_method_6_code 0 = .ok (.aload_n 0, 1) := by decide +kernel
theorem own_d10_1 : decode jdk_38_method_6_code 1 = .ok (.getfield 9, 3) := by decide +kernel
theorem own_d10_4 : decode jdk_38_method_6_code 4 = .ok (.arraylength, 1) := by decide +kernel
theorem own_d10_5 : decode jdk_38_method_6_code 5 = .ok (.istore_n 2, 1) := by decide +kernel
theorem own_d10_6 : decode jdk_38_method_6_code 6 = .ok (.iload_n 2, 1) := by decide +kernel
theorem own_d10_7 : decode jdk_38_method_6_code 7 = .ok (.ifCond .gt 13, 3) := by decide +kernel
theorem own_d10_10 : decode jdk_38_method_6_code 10 = .ok (.aload_n 0, 1) := by decide +kernel
theorem own_d10_11 : decode jdk_38_method_6_code 11 = .ok (.getfield 9, 3) := by decide +kernel
theorem own_d10_14 : decode jdk_38_method_6_code 14 = .ok (.getstatic 39, 3) := by decide +kernel
theorem own_d10_17 : decode jdk_38_method_6_code 17 = .ok (.if_acmp .eq 28, 3) := by decide +kernel
theorem own_d10_20 : decode jdk_38_method_6_code 20 = .ok (.iload_n 2, 1) := by decide +kernel
theorem own_d10_21 : decode jdk_38_method_6_code 21 = .ok (.iload_n 1, 1) := by decide +kernel
theorem own_d10_22 : decode jdk_38_method_6_code 22 = .ok (.iload_n 2, 1) := by decide +kernel
theorem own_d10_23 : decode jdk_38_method_6_code 23 = .ok (.isub, 1) := by decide +kernel
theorem own_d10_24 : decode jdk_38_method_6_code 24 = .ok (.iload_n 2, 1) := by decide +kernel
theorem own_d10_25 : decode jdk_38_method_6_code 25 = .ok (.iconst 1, 1) := by decide +kernel
theorem own_d10_26 : decode jdk_38_method_6_code 26 = .ok (.ishr, 1) := by decide +kernel
theorem own_d10_27 : decode jdk_38_method_6_code 27 = .ok (.invokestatic 73, 3) := by decide +kernel
theorem own_d10_30 : decode jdk_38_method_6_code 30 = .ok (.istore_n 3, 1) := by decide +kernel
theorem own_d10_31 : decode jdk_38_method_6_code 31 = .ok (.aload_n 0, 1) := by decide +kernel
theorem own_d10_32 : decode jdk_38_method_6_code 32 = .ok (.aload_n 0, 1) := by decide +kernel
theorem own_d10_33 : decode jdk_38_method_6_code 33 = .ok (.getfield 9, 3) := by decide +kernel
theorem own_d10_36 : decode jdk_38_method_6_code 36 = .ok (.iload_n 3, 1) := by decide +kernel
theorem own_d10_37 : decode jdk_38_method_6_code 37 = .ok (.invokestatic 66, 3) := by decide +kernel
theorem own_d10_40 : decode jdk_38_method_6_code 40 = .ok (.dup_x1, 1) := by decide +kernel
theorem own_d10_41 : decode jdk_38_method_6_code 41 = .ok (.putfield 9, 3) := by decide +kernel
theorem own_d10_44 : decode jdk_38_method_6_code 44 = .ok (.areturn, 1) := by decide +kernel
theorem own_d10_45 : decode jdk_38_method_6_code 45 = .ok (.aload_n 0, 1) := by decide +kernel
theorem own_d10_46 : decode jdk_38_method_6_code 46 = .ok (.bipush 10, 2) := by decide +kernel
theorem own_d10_48 : decode jdk_38_method_6_code 48 = .ok (.iload_n 1, 1) := by decide +kernel
theorem own_d10_49 : decode jdk_38_method_6_code 49 = .ok (.invokestatic 79, 3) := by decide +kernel
theorem own_d10_52 : decode jdk_38_method_6_code 52 = .ok (.anewarray 7, 3) := by decide +kernel
theorem own_d10_55 : decode jdk_38_method_6_code 55 = .ok (.dup_x1, 1) := by decide +kernel
theorem own_d10_56 : decode jdk_38_method_6_code 56 = .ok (.putfield 9, 3) := by decide +kernel
theorem own_d10_59 : decode jdk_38_method_6_code 59 = .ok (.areturn, 1) := by decide +kernel
theorem own_ef10 (m : MethodId) (x0 : Addr) (x1 : Int32) : entryFrame m #[(.ref x0), (.int x1)] 4 = mkF m 0 #[.val (.ref x0), .val (.int x1), .unset, .unset] [] := by first | (simp [entryFrame, mkF, argsToLocals, Value.category]; done) | rfl
theorem own_pn10 : plainFor (⟨"java/util/ArrayList", "grow", "(I)[Ljava/lang/Object;"⟩ : MethodName) = true := by first | exact plainFor_of_name (by first | (simp [plainName, overriddenIn]; done) | decide +kernel) | exact Jvm.Free.JP.mathPlain rfl (by decide +kernel)
set_option maxRecDepth 65536 in
set_option maxHeartbeats 40000000 in
theorem own_rm10 (l : Launch) (Z : State) (a0 : Array Value) (hw : ∀ d ∈ tables_1, d.before a0 Z = true) (a1 : Addr) (d0 : Addr) (h0 : Heap) (n0 : Nat) (Z0 : n0 ≤ h0.size) (E_a1 : Exa Z h0 a1 "java/util/ArrayList") (F_elementData_a1 : Fld Z h0 a1 "java/util/ArrayList" "elementData" "[Ljava/lang/Object;" (.ref d0)) (F_size_a1 : Fld Z h0 a1 "java/util/ArrayList" "size" "I" (.int (0 : Int32))) (F_modCount_a1 : Fld Z h0 a1 "java/util/AbstractList" "modCount" "I" (.int (1 : Int32))) (g_a1 : n0 ≤ a1) (S_DEFAULTCAPACITY_EMPTY_ELEMENTDATA : Sta Z h0 "java/util/ArrayList" "DEFAULTCAPACITY_EMPTY_ELEMENTDATA" "[Ljava/lang/Object;" (.ref d0)) (V_d0 : OwnAr Z h0 d0 (.object "java/lang/Object") []) :
    OwnMet l Z (⟨"java/util/ArrayList", "grow", "(I)[Ljava/lang/Object;"⟩ : MethodName) jdk_38_method_6_code 4 (some (.array (.object "java/lang/Object"))) ({ frames := 1, cells := 1, slots := 10, locals := 14 } : Room) #[(.ref a1), (.int (1 : Int32))] h0 n0 (fun v h => ∃ (b : Addr), v = some (.ref b) ∧ Keep h0 h [a1] ∧ Fld Z h a1 "java/util/ArrayList" "elementData" "[Ljava/lang/Object;" (.ref b) ∧ Fld Z h a1 "java/util/ArrayList" "size" "I" (.int (0 : Int32)) ∧ Fld Z h a1 "java/util/AbstractList" "modCount" "I" (.int (1 : Int32)) ∧ h0.size ≤ b ∧ OwnArR Z h b "java/lang/Object" [.null, .null, .null, .null, .null, .null, .null, .null, .null, .null]) := by
  refine own_body own_pn10 ?_
  intro p e s m below meth c s₁ RR X0
  refine own_enter (own_ef10 m a1 (1 : Int32)) ?_
  refine own_aloadN X0 own_d10_0 (pc' := 1) rfl rfl rfl ?_
  refine own_getF X0 own_d10_1 (hw _ (List.mem_of_getElem? (i := 25) rfl)) Via.refl F_elementData_a1 (pc' := 4) rfl ?_
  intro T1 X1
  refine own_arraylength X1 own_d10_4 V_d0 (n := (0 : Int32)) rfl (pc' := 5) rfl ?_
  refine own_istoreN X1 own_d10_5 (pc' := 6) rfl (l' := #[.val (.ref a1), .val (.int (1 : Int32)), .val (.int (0 : Int32)), .unset]) rfl ?_
  refine own_iloadN X1 own_d10_6 (pc' := 7) rfl rfl ?_
  refine own_ifN X1 own_d10_7 (flt ((by decide : ¬ ((0 : Int32) < (0 : Int32))))).2.2.1 (pc' := 10) rfl ?_
  refine own_aloadN X1 own_d10_10 (pc' := 11) rfl rfl rfl ?_
  refine own_getF X1 own_d10_11 (hw _ (List.mem_of_getElem? (i := 25) rfl)) Via.refl F_elementData_a1 (pc' := 14) rfl ?_
  intro T2 X2
  refine own_getS X2 own_d10_14 (hw _ (List.mem_of_getElem? (i := 24) rfl)) Via.refl S_DEFAULTCAPACITY_EMPTY_ELEMENTDATA (pc' := 17) rfl ?_
  intro T3 X3
  refine own_acY X3 own_d10_17 (own_teqA ((rfl : d0 = d0))).1 (pc' := 45) (by decide) (by decide) ?_
  refine own_aloadN X3 own_d10_45 (pc' := 46) rfl rfl rfl ?_
  refine own_bipush X3 own_d10_46 (pc' := 48) rfl (v := (10 : Int32)) (by decide) ?_
  refine own_iloadN X3 own_d10_48 (pc' := 49) rfl rfl ?_
  refine own_callS (argsL := [(.int (10 : Int32)), (.int (1 : Int32))]) X3 own_d10_49 (y := (⟨"java/lang/Math", "max", "(II)I"⟩ : MethodName)) (by decide) (hw _ (List.mem_of_getElem? (i := 77) rfl)) (hw _ (List.mem_of_getElem? (i := 78) rfl)) (hw _ (List.mem_of_getElem? (i := 80) rfl)) (hw _ (List.mem_of_getElem? (i := 79) rfl)) (own_rm11 l Z a0 hw  h0 n0 Z0 ) own_pd1 rfl (S := [(.ref a1)]) rfl (pc' := 52) rfl rfl (W := 1) (Nat.le_of_eq rfl) (by decide) (by decide) (by decide) (by decide) ?_
  intro T4 h4 v4_ X4 q4_
  obtain ⟨rfl, rfl⟩ := q4_
  show OwnGo p e below (T4.setTop (mkF m 52 #[.val (.ref a1), .val (.int (1 : Int32)), .val (.int (0 : Int32)), .unset] [(.int (10 : Int32)), (.ref a1)])) RR
  refine own_anew X4 own_d10_52 (hw _ (List.mem_of_getElem? (i := 81) rfl)) (hw _ (List.mem_of_getElem? (i := 82) rfl)) (pc' := 55) rfl (by decide) (cap := 10) (by decide) (by decide) (by decide) (by decide) ?_
  intro T5 h5 b5 hb5 X5 E5 B5
  have g_b5 : n0 ≤ b5 := Nat.le_trans Z0 (Nat.le_of_eq hb5.symm)
  have ne_a1_b5 : a1 ≠ b5 := Nat.ne_of_lt (Nat.lt_of_lt_of_le (E_a1).lt (Nat.le_of_eq hb5.symm))
  have ne_d0_b5 : d0 ≠ b5 := Nat.ne_of_lt (Nat.lt_of_lt_of_le (V_d0).lt (Nat.le_of_eq hb5.symm))
  have E_a1_5 := (E_a1).ext E5
  have F_elementData_a1_5 := (F_elementData_a1).ext E5
  have F_size_a1_5 := (F_size_a1).ext E5
  have F_modCount_a1_5 := (F_modCount_a1).ext E5
  have S_DEFAULTCAPACITY_EMPTY_ELEMENTDATA_5 := (S_DEFAULTCAPACITY_EMPTY_ELEMENTDATA).ext E5
  have V_d0_5 := (V_d0).ext E5
  have Z5 : n0 ≤ h5.size := Nat.le_trans Z0 E5.1
  have sz_b5 : h0.size ≤ b5 := Nat.le_trans ((Keep.refl h0 [a1])).1 (Nat.le_of_eq hb5.symm)
  have K5 := ((Keep.refl h0 [a1])).ext E5
  have V_b5 : OwnArR Z h5 b5 "java/lang/Object" [.null, .null, .null, .null, .null, .null, .null, .null, .null, .null] := B5
  refine own_dup_x1 X5 own_d10_55 (pc' := 56) rfl rfl rfl ?_
  refine own_putF X5 own_d10_56 (hw _ (List.mem_of_getElem? (i := 25) rfl)) Via.refl F_elementData_a1_5 E_a1_5 (Or.inl (hw _ (List.mem_of_getElem? (i := 26) rfl))) (hw _ (List.mem_of_getElem? (i := 2) rfl)) (ty := (.array (.object "java/lang/Object"))) (v' := (.ref b5)) (by decide) rfl rfl g_a1 (pc' := 59) rfl ?_
  intro T6 h6 X6 W6
  have E_a1_6 := (E_a1_5).wr W6
  have F_elementData_a1_6 := (F_elementData_a1_5).same W6
  have F_size_a1_6 := (F_size_a1_5).other W6 (Or.inr (slot_ne (Or.inl (hw _ (List.mem_of_getElem? (i := 61) rfl))) (Or.inl (hw _ (List.mem_of_getElem? (i := 26) rfl))) (by decide) (t := .int) (t' := (.array (.object "java/lang/Object"))) (by decide) (by decide)))
  have F_modCount_a1_6 := (F_modCount_a1_5).other W6 (Or.inr (slot_ne (Or.inl (hw _ (List.mem_of_getElem? (i := 23) rfl))) (Or.inl (hw _ (List.mem_of_getElem? (i := 26) rfl))) (by decide) (t := .int) (t' := (.array (.object "java/lang/Object"))) (by decide) (by decide)))
  have S_DEFAULTCAPACITY_EMPTY_ELEMENTDATA_6 := (S_DEFAULTCAPACITY_EMPTY_ELEMENTDATA_5).wr W6
  have V_b5_6 := (V_b5).other W6 ne_a1_b5.symm
  have Z6 : n0 ≤ h6.size := Nat.le_trans Z5 (Nat.le_of_eq W6.size.symm)
  have K6 := (K5).wr W6 (Or.inl (List.mem_of_getElem? (i := 0) rfl))
  exact own_retA X6 rfl rfl rfl own_d10_59 ⟨b5, rfl, K6, F_elementData_a1_6, F_size_a1_6, F_modCount_a1_6, sz_b5, V_b5_6⟩ (by decide) (by decide)
theorem own_pd2 : parseMethodDescriptor "(I)[Ljava/lang/Object;" = some ⟨[.int], some (.array (.object "java/lang/Object"))⟩ := by decide +kernel
theorem own_d9_0 : decode jdk_38_method_7_code 0 = .ok (.aload_n 0, 1) := by decide +kernel
theorem own_d9_1 : decode jdk_38_method_7_code 1 = .ok (.aload_n 0, 1) := by decide +kernel
theorem own_d9_2 : decode jdk_38_method_7_code 2 = .ok (.getfield 48, 3) := by decide +kernel
theorem own_d9_5 : decode jdk_38_method_7_code 5 = .ok (.iconst 1, 1) := by decide +kernel
theorem own_d9_6 : decode jdk_38_method_7_code 6 = .ok (.iadd, 1) := by decide +kernel
theorem own_d9_7 : decode jdk_38_method_7_code 7 = .ok (.invokevirtual 69, 3) := by decide +kernel
theorem own_d9_10 : decode jdk_38_method_7_code 10 = .ok (.areturn, 1) := by decide +kernel
theorem own_ef9 (m : MethodId) (x0 : Addr) : entryFrame m #[(.ref x0)] 1 = mkF m 0 #[.val (.ref x0)] [] := by first | (simp [entryFrame, mkF, argsToLocals, Value.category]; done) | rfl
theorem own_pn9 : plainFor (⟨"java/util/ArrayList", "grow", "()[Ljava/lang/Object;"⟩ : MethodName) = true := by first | exact plainFor_of_name (by first | (simp [plainName, overriddenIn]; done) | decide +kernel) | exact Jvm.Free.JP.mathPlain rfl (by decide +kernel)
set_option maxRecDepth 65536 in
set_option maxHeartbeats 40000000 in
theorem own_rm9 (l : Launch) (Z : State) (a0 : Array Value) (hw : ∀ d ∈ tables_1, d.before a0 Z = true) (a1 : Addr) (d0 : Addr) (h0 : Heap) (n0 : Nat) (Z0 : n0 ≤ h0.size) (E_a1 : Exa Z h0 a1 "java/util/ArrayList") (F_elementData_a1 : Fld Z h0 a1 "java/util/ArrayList" "elementData" "[Ljava/lang/Object;" (.ref d0)) (F_size_a1 : Fld Z h0 a1 "java/util/ArrayList" "size" "I" (.int (0 : Int32))) (F_modCount_a1 : Fld Z h0 a1 "java/util/AbstractList" "modCount" "I" (.int (1 : Int32))) (g_a1 : n0 ≤ a1) (S_DEFAULTCAPACITY_EMPTY_ELEMENTDATA : Sta Z h0 "java/util/ArrayList" "DEFAULTCAPACITY_EMPTY_ELEMENTDATA" "[Ljava/lang/Object;" (.ref d0)) (V_d0 : OwnAr Z h0 d0 (.object "java/lang/Object") []) :
    OwnMet l Z (⟨"java/util/ArrayList", "grow", "()[Ljava/lang/Object;"⟩ : MethodName) jdk_38_method_7_code 1 (some (.array (.object "java/lang/Object"))) ({ frames := 2, cells := 1, slots := 10, locals := 29 } : Room) #[(.ref a1)] h0 n0 (fun v h => ∃ (b : Addr), v = some (.ref b) ∧ Keep h0 h [a1] ∧ Fld Z h a1 "java/util/ArrayList" "elementData" "[Ljava/lang/Object;" (.ref b) ∧ Fld Z h a1 "java/util/ArrayList" "size" "I" (.int (0 : Int32)) ∧ Fld Z h a1 "java/util/AbstractList" "modCount" "I" (.int (1 : Int32)) ∧ h0.size ≤ b ∧ OwnArR Z h b "java/lang/Object" [.null, .null, .null, .null, .null, .null, .null, .null, .null, .null]) := by
  refine own_body own_pn9 ?_
  intro p e s m below meth c s₁ RR X0
  refine own_enter (own_ef9 m a1) ?_
  refine own_aloadN X0 own_d9_0 (pc' := 1) rfl rfl rfl ?_
  refine own_aloadN X0 own_d9_1 (pc' := 2) rfl rfl rfl ?_
  refine own_getF X0 own_d9_2 (hw _ (List.mem_of_getElem? (i := 60) rfl)) Via.refl F_size_a1 (pc' := 5) rfl ?_
  intro T1 X1
  refine own_iconst X1 own_d9_5 (pc' := 6) rfl (v := (1 : Int32)) (by decide) ?_
  refine own_iadd X1 own_d9_6 (pc' := 7) rfl ?_
  show OwnGo p e below (T1.setTop (mkF m 7 #[.val (.ref a1)] [(.int (1 : Int32)), (.ref a1)])) RR
  refine own_callP (a := a1) (argsL := [(.int (1 : Int32))]) X1 own_d9_7 (y := (⟨"java/util/ArrayList", "grow", "(I)[Ljava/lang/Object;"⟩ : MethodName)) (by decide) (hw _ (List.mem_of_getElem? (i := 72) rfl)) (hw _ (List.mem_of_getElem? (i := 74) rfl)) (hw _ (List.mem_of_getElem? (i := 2) rfl)) (hw _ (List.mem_of_getElem? (i := 73) rfl)) (hw _ (List.mem_of_getElem? (i := 76) rfl)) (hw _ (List.mem_of_getElem? (i := 3) rfl)) E_a1 (own_rm10 l Z a0 hw a1 d0 h0 n0 Z0 E_a1 F_elementData_a1 F_size_a1 F_modCount_a1 g_a1 S_DEFAULTCAPACITY_EMPTY_ELEMENTDATA V_d0) own_pd2 rfl (S := []) rfl (pc' := 10) rfl rfl (W := 0) (Nat.le_of_eq rfl) (by decide) (by decide) (by decide) (by decide) ?_
  intro T2 h2 v2_ X2 q2_
  obtain ⟨b_2, rfl, KK2, FF2q0, FF2q1, FF2q2, FF2q3, FF2q4⟩ := q2_
  show OwnGo p e below (T2.setTop (mkF m 10 #[.val (.ref a1)] [(.ref b_2)])) RR
  have Z2 : n0 ≤ h2.size := Nat.le_trans Z0 KK2.1
  have E_a1_2 := (E_a1).keep KK2
  have S_DEFAULTCAPACITY_EMPTY_ELEMENTDATA_2 := own_sta_keep S_DEFAULTCAPACITY_EMPTY_ELEMENTDATA KK2 (own_plS (own_plE E_a1) own_pl0)
  have ne_a1_b_2 : a1 ≠ b_2 := Nat.ne_of_lt (Nat.lt_of_lt_of_le (E_a1).lt FF2q3)
  have ne_d0_b_2 : d0 ≠ b_2 := Nat.ne_of_lt (Nat.lt_of_lt_of_le (V_d0).lt FF2q3)
  have g_b_2 : n0 ≤ b_2 := Nat.le_trans Z0 FF2q3
  have sz_b_2 : h0.size ≤ b_2 := Nat.le_trans ((Keep.refl h0 [a1])).1 FF2q3
  have K2 := ((Keep.refl h0 [a1])).trans KK2 (allS (Or.inl (List.mem_of_getElem? (i := 0) rfl)) all0)
  exact own_retA X2 rfl rfl rfl own_d9_10 ⟨b_2, rfl, K2, FF2q0, FF2q1, FF2q2, sz_b_2, FF2q4⟩ (by decide) (by decide)
theorem own_pd3 : parseMethodDescriptor "()[Ljava/lang/Object;" = some ⟨[], some (.array (.object "java/lang/Object"))⟩ := by decide +kernel
theorem own_d8_0 : decode jdk_38_method_24_code 0 = .ok (.iload_n 3, 1) := by decide +kernel
theorem own_d8_1 : decode jdk_38_method_24_code 1 = .ok (.aload_n 2, 1) := by decide +kernel
theorem own_d8_2 : decode jdk_38_method_24_code 2 = .ok (.arraylength, 1) := by decide +kernel
theorem own_d8_3 : decode jdk_38_method_24_code 3 = .ok (.if_icmp .ne 8, 3) := by decide +kernel
theorem own_d8_6 : decode jdk_38_method_24_code 6 = .ok (.aload_n 0, 1) := by decide +kernel
theorem own_d8_7 : decode jdk_38_method_24_code 7 = .ok (.invokevirtual 129, 3) := by decide +kernel
theorem own_d8_10 : decode jdk_38_method_24_code 10 = .ok (.astore_n 2, 1) := by decide +kernel
theorem own_d8_11 : decode jdk_38_method_24_code 11 = .ok (.aload_n 2, 1) := by decide +kernel
theorem own_d8_12 : decode jdk_38_method_24_code 12 = .ok (.iload_n 3, 1) := by decide +kernel
theorem own_d8_13 : decode jdk_38_method_24_code 13 = .ok (.aload_n 1, 1) := by decide +kernel
theorem own_d8_14 : decode jdk_38_method_24_code 14 = .ok (.aastore, 1) := by decide +kernel
theorem own_d8_15 : decode jdk_38_method_24_code 15 = .ok (.aload_n 0, 1) := by decide +kernel
theorem own_d8_16 : decode jdk_38_method_24_code 16 = .ok (.iload_n 3, 1) := by decide +kernel
theorem own_d8_17 : decode jdk_38_method_24_code 17 = .ok (.iconst 1, 1) := by decide +kernel
theorem own_d8_18 : decode jdk_38_method_24_code 18 = .ok (.iadd, 1) := by decide +kernel
theorem own_d8_19 : decode jdk_38_method_24_code 19 = .ok (.putfield 48, 3) := by decide +kernel
theorem own_d8_22 : decode jdk_38_method_24_code 22 = .ok (.return_, 1) := by decide +kernel
theorem own_ef8 (m : MethodId) (x0 : Addr) (x1 : Addr) (x2 : Addr) (x3 : Int32) : entryFrame m #[(.ref x0), (.ref x1), (.ref x2), (.int x3)] 4 = mkF m 0 #[.val (.ref x0), .val (.ref x1), .val (.ref x2), .val (.int x3)] [] := by first | (simp [entryFrame, mkF, argsToLocals, Value.category]; done) | rfl
theorem own_pn8 : plainFor (⟨"java/util/ArrayList", "add", "(Ljava/lang/Object;[Ljava/lang/Object;I)V"⟩ : MethodName) = true := by first | exact plainFor_of_name (by first | (simp [plainName, overriddenIn]; done) | decide +kernel) | exact Jvm.Free.JP.mathPlain rfl (by decide +kernel)
set_option maxRecDepth 65536 in
set_option maxHeartbeats 40000000 in
theorem own_rm8 (l : Launch) (Z : State) (a0 : Array Value) (hw : ∀ d ∈ tables_1, d.before a0 Z = true) (a1 : Addr) (v1 : Addr) (d0 : Addr) (h0 : Heap) (n0 : Nat) (Z0 : n0 ≤ h0.size) (E_a1 : Exa Z h0 a1 "java/util/ArrayList") (F_elementData_a1 : Fld Z h0 a1 "java/util/ArrayList" "elementData" "[Ljava/lang/Object;" (.ref d0)) (F_size_a1 : Fld Z h0 a1 "java/util/ArrayList" "size" "I" (.int (0 : Int32))) (F_modCount_a1 : Fld Z h0 a1 "java/util/AbstractList" "modCount" "I" (.int (1 : Int32))) (g_a1 : n0 ≤ a1) (S_DEFAULTCAPACITY_EMPTY_ELEMENTDATA : Sta Z h0 "java/util/ArrayList" "DEFAULTCAPACITY_EMPTY_ELEMENTDATA" "[Ljava/lang/Object;" (.ref d0)) (V_d0 : OwnAr Z h0 d0 (.object "java/lang/Object") []) (E_v1 : Exa Z h0 v1 "com/example/packhouse/packhouse/Vm") :
    OwnMet l Z (⟨"java/util/ArrayList", "add", "(Ljava/lang/Object;[Ljava/lang/Object;I)V"⟩ : MethodName) jdk_38_method_24_code 4 none ({ frames := 3, cells := 1, slots := 10, locals := 41 } : Room) #[(.ref a1), (.ref v1), (.ref d0), (.int (0 : Int32))] h0 n0 (fun v h => ∃ (b : Addr), v = none ∧ Keep h0 h [a1] ∧ Fld Z h a1 "java/util/ArrayList" "elementData" "[Ljava/lang/Object;" (.ref b) ∧ Fld Z h a1 "java/util/ArrayList" "size" "I" (.int (1 : Int32)) ∧ Fld Z h a1 "java/util/AbstractList" "modCount" "I" (.int (1 : Int32)) ∧ h0.size ≤ b ∧ OwnAr Z h b (.object "java/lang/Object") [(.ref v1), .null, .null, .null, .null, .null, .null, .null, .null, .null]) := by
  refine own_body own_pn8 ?_
  intro p e s m below meth c s₁ RR X0
  refine own_enter (own_ef8 m a1 v1 d0 (0 : Int32)) ?_
  refine own_iloadN X0 own_d8_0 (pc' := 1) rfl rfl ?_
  refine own_aloadN X0 own_d8_1 (pc' := 2) rfl rfl rfl ?_
  refine own_arraylength X0 own_d8_2 V_d0 (n := (0 : Int32)) rfl (pc' := 3) rfl ?_
  refine own_icN X0 own_d8_3 (teq ((rfl : (0 : Int32) = (0 : Int32)))).2 (pc' := 6) rfl ?_
  refine own_aloadN X0 own_d8_6 (pc' := 7) rfl rfl rfl ?_
  refine own_callP (a := a1) (argsL := []) X0 own_d8_7 (y := (⟨"java/util/ArrayList", "grow", "()[Ljava/lang/Object;"⟩ : MethodName)) (by decide) (hw _ (List.mem_of_getElem? (i := 67) rfl)) (hw _ (List.mem_of_getElem? (i := 69) rfl)) (hw _ (List.mem_of_getElem? (i := 2) rfl)) (hw _ (List.mem_of_getElem? (i := 68) rfl)) (hw _ (List.mem_of_getElem? (i := 71) rfl)) (hw _ (List.mem_of_getElem? (i := 3) rfl)) E_a1 (own_rm9 l Z a0 hw a1 d0 h0 n0 Z0 E_a1 F_elementData_a1 F_size_a1 F_modCount_a1 g_a1 S_DEFAULTCAPACITY_EMPTY_ELEMENTDATA V_d0) own_pd3 rfl (S := []) rfl (pc' := 10) rfl rfl (W := 0) (Nat.le_of_eq rfl) (by decide) (by decide) (by decide) (by decide) ?_
  intro T1 h1 v1_ X1 q1_
  obtain ⟨b_1, rfl, KK1, FF1q0, FF1q1, FF1q2, FF1q3, FF1q4⟩ := q1_
  show OwnGo p e below (T1.setTop (mkF m 10 #[.val (.ref a1), .val (.ref v1), .val (.ref d0), .val (.int (0 : Int32))] [(.ref b_1)])) RR
  have Z1 : n0 ≤ h1.size := Nat.le_trans Z0 KK1.1
  have E_a1_1 := (E_a1).keep KK1
  have S_DEFAULTCAPACITY_EMPTY_ELEMENTDATA_1 := own_sta_keep S_DEFAULTCAPACITY_EMPTY_ELEMENTDATA KK1 (own_plS (own_plE E_a1) own_pl0)
  have E_v1_1 := (E_v1).keep KK1
  have ne_a1_b_1 : a1 ≠ b_1 := Nat.ne_of_lt (Nat.lt_of_lt_of_le (E_a1).lt FF1q3)
  have ne_d0_b_1 : d0 ≠ b_1 := Nat.ne_of_lt (Nat.lt_of_lt_of_le (V_d0).lt FF1q3)
  have ne_v1_b_1 : v1 ≠ b_1 := Nat.ne_of_lt (Nat.lt_of_lt_of_le (E_v1).lt FF1q3)
  have g_b_1 : n0 ≤ b_1 := Nat.le_trans Z0 FF1q3
  have sz_b_1 : h0.size ≤ b_1 := Nat.le_trans ((Keep.refl h0 [a1])).1 FF1q3
  have K1 := ((Keep.refl h0 [a1])).trans KK1 (allS (Or.inl (List.mem_of_getElem? (i := 0) rfl)) all0)
  refine own_astoreN X1 own_d8_10 (pc' := 11) rfl rfl (l' := #[.val (.ref a1), .val (.ref v1), .val (.ref b_1), .val (.int (0 : Int32))]) rfl ?_
  refine own_aloadN X1 own_d8_11 (pc' := 12) rfl rfl rfl ?_
  refine own_iloadN X1 own_d8_12 (pc' := 13) rfl rfl ?_
  refine own_aloadN X1 own_d8_13 (pc' := 14) rfl rfl rfl ?_
  refine own_aastore X1 own_d8_14 FF1q4 (Ins.of_exa E_v1_1 (hw _ (List.mem_of_getElem? (i := 83) rfl))) (by decide) (Nat.le_of_ble_eq_true rfl) g_b_1 (pc' := 15) rfl ?_
  intro T2 h2 X2 W2 B2
  have E_a1_2 := (E_a1_1).wr W2
  have S_DEFAULTCAPACITY_EMPTY_ELEMENTDATA_2 := (S_DEFAULTCAPACITY_EMPTY_ELEMENTDATA_1).wr W2
  have E_v1_2 := (E_v1_1).wr W2
  have FF1q0_2 := (FF1q0).other W2 (Or.inl ne_a1_b_1)
  have FF1q1_2 := (FF1q1).other W2 (Or.inl ne_a1_b_1)
  have FF1q2_2 := (FF1q2).other W2 (Or.inl ne_a1_b_1)
  have Z2 : n0 ≤ h2.size := Nat.le_trans Z1 (Nat.le_of_eq W2.size.symm)
  have V_b_1_2 : OwnArR Z h2 b_1 "java/lang/Object" [(.ref v1), .null, .null, .null, .null, .null, .null, .null, .null, .null] := B2
  have K2 := (K1).wr W2 (Or.inr sz_b_1)
  refine own_aloadN X2 own_d8_15 (pc' := 16) rfl rfl rfl ?_
  refine own_iloadN X2 own_d8_16 (pc' := 17) rfl rfl ?_
  refine own_iconst X2 own_d8_17 (pc' := 18) rfl (v := (1 : Int32)) (by decide) ?_
  refine own_iadd X2 own_d8_18 (pc' := 19) rfl ?_
  show OwnGo p e below (T2.setTop (mkF m 19 #[.val (.ref a1), .val (.ref v1), .val (.ref b_1), .val (.int (0 : Int32))] [(.int (1 : Int32)), (.ref a1)])) RR
  refine own_putF X2 own_d8_19 (hw _ (List.mem_of_getElem? (i := 60) rfl)) Via.refl FF1q1_2 E_a1_2 (Or.inl (hw _ (List.mem_of_getElem? (i := 61) rfl))) (hw _ (List.mem_of_getElem? (i := 2) rfl)) (ty := .int) (v' := (.int (1 : Int32))) (by decide) rfl rfl g_a1 (pc' := 22) rfl ?_
  intro T3 h3 X3 W3
  have E_a1_3 := (E_a1_2).wr W3
  have S_DEFAULTCAPACITY_EMPTY_ELEMENTDATA_3 := (S_DEFAULTCAPACITY_EMPTY_ELEMENTDATA_2).wr W3
  have E_v1_3 := (E_v1_2).wr W3
  have FF1q0_3 := (FF1q0_2).other W3 (Or.inr (slot_ne (Or.inl (hw _ (List.mem_of_getElem? (i := 26) rfl))) (Or.inl (hw _ (List.mem_of_getElem? (i := 61) rfl))) (by decide) (t := (.array (.object "java/lang/Object"))) (t' := .int) (by decide) (by decide)))
  have FF1q1_3 := (FF1q1_2).same W3
  have FF1q2_3 := (FF1q2_2).other W3 (Or.inr (slot_ne (Or.inl (hw _ (List.mem_of_getElem? (i := 23) rfl))) (Or.inl (hw _ (List.mem_of_getElem? (i := 61) rfl))) (by decide) (t := .int) (t' := .int) (by decide) (by decide)))
  have V_b_1_3 := (V_b_1_2).other W3 ne_a1_b_1.symm
  have Z3 : n0 ≤ h3.size := Nat.le_trans Z2 (Nat.le_of_eq W3.size.symm)
  have K3 := (K2).wr W3 (Or.inl (List.mem_of_getElem? (i := 0) rfl))
  exact own_retV X3 own_d8_22 ⟨b_1, rfl, K3, FF1q0_3, FF1q1_3, FF1q2_3, sz_b_1, V_b_1_3.ar⟩ (by decide) (by decide)
theorem own_pd4 : parseMethodDescriptor "(Ljava/lang/Object;[Ljava/lang/Object;I)V" = some ⟨[(.object "java/lang/Object"), (.array (.object "java/lang/Object")), .int], none⟩ := by decide +kernel
theorem own_d7_0 : decode jdk_38_method_25_code 0 = .ok (.aload_n 0, 1) := by decide +kernel
theorem own_d7_1 : decode jdk_38_method_25_code 1 = .ok (.dup, 1) := by decide +kernel
theorem own_d7_2 : decode jdk_38_method_25_code 2 = .ok (.getfield 63, 3) := by decide +kernel
theorem own_d7_5 : decode jdk_38_method_25_code 5 = .ok (.iconst 1, 1) := by decide +kernel
theorem own_d7_6 : decode jdk_38_method_25_code 6 = .ok (.iadd, 1) := by decide +kernel
theorem own_d7_7 : decode jdk_38_method_25_code 7 = .ok (.putfield 63, 3) := by decide +kernel
theorem own_d7_10 : decode jdk_38_method_25_code 10 = .ok (.aload_n 0, 1) := by decide +kernel
theorem own_d7_11 : decode jdk_38_method_25_code 11 = .ok (.aload_n 1, 1) := by decide +kernel
theorem own_d7_12 : decode jdk_38_method_25_code 12 = .ok (.aload_n 0, 1) := by decide +kernel
theorem own_d7_13 : decode jdk_38_method_25_code 13 = .ok (.getfield 9, 3) := by decide +kernel
theorem own_d7_16 : decode jdk_38_method_25_code 16 = .ok (.aload_n 0, 1) := by decide +kernel
theorem own_d7_17 : decode jdk_38_method_25_code 17 = .ok (.getfield 48, 3) := by decide +kernel
theorem own_d7_20 : decode jdk_38_method_25_code 20 = .ok (.invokevirtual 131, 3) := by decide +kernel
theorem own_d7_23 : decode jdk_38_method_25_code 23 = .ok (.iconst 1, 1) := by decide +kernel
theorem own_d7_24 : decode jdk_38_method_25_code 24 = .ok (.ireturn, 1) := by decide +kernel
theorem own_ef7 (m : MethodId) (x0 : Addr) (x1 : Addr) : entryFrame m #[(.ref x0), (.ref x1)] 2 = mkF m 0 #[.val (.ref x0), .val (.ref x1)] [] := by first | (simp [entryFrame, mkF, argsToLocals, Value.category]; done) | rfl
theorem own_pn7 : plainFor (⟨"java/util/ArrayList", "add", "(Ljava/lang/Object;)Z"⟩ : MethodName) = true := by first | exact plainFor_of_name (by first | (simp [plainName, overriddenIn]; done) | decide +kernel) | exact Jvm.Free.JP.mathPlain rfl (by decide +kernel)
set_option maxRecDepth 65536 in
set_option maxHeartbeats 40000000 in
theorem own_rm7 (l : Launch) (Z : State) (a0 : Array Value) (hw : ∀ d ∈ tables_1, d.before a0 Z = true) (a1 : Addr) (v1 : Addr) (d0 : Addr) (h0 : Heap) (n0 : Nat) (Z0 : n0 ≤ h0.size) (E_a1 : Exa Z h0 a1 "java/util/ArrayList") (F_elementData_a1 : Fld Z h0 a1 "java/util/ArrayList" "elementData" "[Ljava/lang/Object;" (.ref d0)) (F_size_a1 : Fld Z h0 a1 "java/util/ArrayList" "size" "I" (.int (0 : Int32))) (F_modCount_a1 : Fld Z h0 a1 "java/util/AbstractList" "modCount" "I" (.int (0 : Int32))) (g_a1 : n0 ≤ a1) (S_DEFAULTCAPACITY_EMPTY_ELEMENTDATA : Sta Z h0 "java/util/ArrayList" "DEFAULTCAPACITY_EMPTY_ELEMENTDATA" "[Ljava/lang/Object;" (.ref d0)) (V_d0 : OwnAr Z h0 d0 (.object "java/lang/Object") []) (ne_d0_a1 : d0 ≠ a1) (E_v1 : Exa Z h0 v1 "com/example/packhouse/packhouse/Vm") :
    OwnMet l Z (⟨"java/util/ArrayList", "add", "(Ljava/lang/Object;)Z"⟩ : MethodName) jdk_38_method_25_code 2 (some .boolean) ({ frames := 4, cells := 1, slots := 10, locals := 56 } : Room) #[(.ref a1), (.ref v1)] h0 n0 (fun v h => ∃ (b : Addr), v = some (.int (1 : Int32)) ∧ Keep h0 h [a1] ∧ Fld Z h a1 "java/util/ArrayList" "elementData" "[Ljava/lang/Object;" (.ref b) ∧ Fld Z h a1 "java/util/ArrayList" "size" "I" (.int (1 : Int32)) ∧ Fld Z h a1 "java/util/AbstractList" "modCount" "I" (.int (1 : Int32)) ∧ h0.size ≤ b ∧ OwnAr Z h b (.object "java/lang/Object") [(.ref v1), .null, .null, .null, .null, .null, .null, .null, .null, .null]) := by
  refine own_body own_pn7 ?_
  intro p e s m below meth c s₁ RR X0
  refine own_enter (own_ef7 m a1 v1) ?_
  refine own_aloadN X0 own_d7_0 (pc' := 1) rfl rfl rfl ?_
  refine own_dup X0 own_d7_1 (pc' := 2) rfl rfl ?_
  refine own_getF X0 own_d7_2 (hw _ (List.mem_of_getElem? (i := 58) rfl)) (Via.of (hw _ (List.mem_of_getElem? (i := 59) rfl))) F_modCount_a1 (pc' := 5) rfl ?_
  intro T1 X1
  refine own_iconst X1 own_d7_5 (pc' := 6) rfl (v := (1 : Int32)) (by decide) ?_
  refine own_iadd X1 own_d7_6 (pc' := 7) rfl ?_
  show OwnGo p e below (T1.setTop (mkF m 7 #[.val (.ref a1), .val (.ref v1)] [(.int (1 : Int32)), (.ref a1)])) RR
  refine own_putF X1 own_d7_7 (hw _ (List.mem_of_getElem? (i := 58) rfl)) (Via.of (hw _ (List.mem_of_getElem? (i := 59) rfl))) F_modCount_a1 E_a1 (Or.inl (hw _ (List.mem_of_getElem? (i := 23) rfl))) (hw _ (List.mem_of_getElem? (i := 2) rfl)) (ty := .int) (v' := (.int (1 : Int32))) (by decide) rfl rfl g_a1 (pc' := 10) rfl ?_
  intro T2 h2 X2 W2
  have E_a1_2 := (E_a1).wr W2
  have F_elementData_a1_2 := (F_elementData_a1).other W2 (Or.inr (slot_ne (Or.inl (hw _ (List.mem_of_getElem? (i := 26) rfl))) (Or.inl (hw _ (List.mem_of_getElem? (i := 23) rfl))) (by decide) (t := (.array (.object "java/lang/Object"))) (t' := .int) (by decide) (by decide)))
  have F_size_a1_2 := (F_size_a1).other W2 (Or.inr (slot_ne (Or.inl (hw _ (List.mem_of_getElem? (i := 61) rfl))) (Or.inl (hw _ (List.mem_of_getElem? (i := 23) rfl))) (by decide) (t := .int) (t' := .int) (by decide) (by decide)))
  have F_modCount_a1_2 := (F_modCount_a1).same W2
  have S_DEFAULTCAPACITY_EMPTY_ELEMENTDATA_2 := (S_DEFAULTCAPACITY_EMPTY_ELEMENTDATA).wr W2
  have V_d0_2 := (V_d0).other W2 ne_d0_a1
  have E_v1_2 := (E_v1).wr W2
  have Z2 : n0 ≤ h2.size := Nat.le_trans Z0 (Nat.le_of_eq W2.size.symm)
  have K2 := ((Keep.refl h0 [a1])).wr W2 (Or.inl (List.mem_of_getElem? (i := 0) rfl))
  refine own_aloadN X2 own_d7_10 (pc' := 11) rfl rfl rfl ?_
  refine own_aloadN X2 own_d7_11 (pc' := 12) rfl rfl rfl ?_
  refine own_aloadN X2 own_d7_12 (pc' := 13) rfl rfl rfl ?_
  refine own_getF X2 own_d7_13 (hw _ (List.mem_of_getElem? (i := 25) rfl)) Via.refl F_elementData_a1_2 (pc' := 16) rfl ?_
  intro T3 X3
  refine own_aloadN X3 own_d7_16 (pc' := 17) rfl rfl rfl ?_
  refine own_getF X3 own_d7_17 (hw _ (List.mem_of_getElem? (i := 60) rfl)) Via.refl F_size_a1_2 (pc' := 20) rfl ?_
  intro T4 X4
  refine own_callP (a := a1) (argsL := [(.ref v1), (.ref d0), (.int (0 : Int32))]) X4 own_d7_20 (y := (⟨"java/util/ArrayList", "add", "(Ljava/lang/Object;[Ljava/lang/Object;I)V"⟩ : MethodName)) (by decide) (hw _ (List.mem_of_getElem? (i := 62) rfl)) (hw _ (List.mem_of_getElem? (i := 64) rfl)) (hw _ (List.mem_of_getElem? (i := 2) rfl)) (hw _ (List.mem_of_getElem? (i := 63) rfl)) (hw _ (List.mem_of_getElem? (i := 66) rfl)) (hw _ (List.mem_of_getElem? (i := 3) rfl)) E_a1_2 (own_rm8 l Z a0 hw a1 v1 d0 h2 n0 Z2 E_a1_2 F_elementData_a1_2 F_size_a1_2 F_modCount_a1_2 g_a1 S_DEFAULTCAPACITY_EMPTY_ELEMENTDATA_2 V_d0_2 E_v1_2) own_pd4 rfl (S := []) rfl (pc' := 23) rfl rfl (W := 0) (Nat.le_of_eq rfl) (by decide) (by decide) (by decide) (by decide) ?_
  intro T5 h5 v5_ X5 q5_
  obtain ⟨b_5, rfl, KK5, FF5q0, FF5q1, FF5q2, FF5q3, FF5q4⟩ := q5_
  show OwnGo p e below (T5.setTop (mkF m 23 #[.val (.ref a1), .val (.ref v1)] [])) RR
  have Z5 : n0 ≤ h5.size := Nat.le_trans Z2 KK5.1
  have E_a1_5 := (E_a1_2).keep KK5
  have S_DEFAULTCAPACITY_EMPTY_ELEMENTDATA_5 := own_sta_keep S_DEFAULTCAPACITY_EMPTY_ELEMENTDATA_2 KK5 (own_plS (own_plE E_a1_2) own_pl0)
  have V_d0_5 := (V_d0_2).keep KK5 (ninS ne_d0_a1 nin0)
  have E_v1_5 := (E_v1_2).keep KK5
  have ne_a1_b_5 : a1 ≠ b_5 := Nat.ne_of_lt (Nat.lt_of_lt_of_le (E_a1_2).lt FF5q3)
  have ne_d0_b_5 : d0 ≠ b_5 := Nat.ne_of_lt (Nat.lt_of_lt_of_le (V_d0_2).lt FF5q3)
  have ne_v1_b_5 : v1 ≠ b_5 := Nat.ne_of_lt (Nat.lt_of_lt_of_le (E_v1_2).lt FF5q3)
  have g_b_5 : n0 ≤ b_5 := Nat.le_trans Z2 FF5q3
  have sz_b_5 : h0.size ≤ b_5 := Nat.le_trans (K2).1 FF5q3
  have K5 := (K2).trans KK5 (allS (Or.inl (List.mem_of_getElem? (i := 0) rfl)) all0)
  refine own_iconst X5 own_d7_23 (pc' := 24) rfl (v := (1 : Int32)) (by decide) ?_
  exact own_retZ X5 own_d7_24 (by decide) ⟨b_5, rfl, K5, FF5q0, FF5q1, FF5q2, sz_b_5, FF5q4⟩ (by decide) (by decide)
theorem own_d13_0 : decode jdk_38_method_8_code 0 = .ok (.aload_n 0, 1) := by decide +kernel
theorem own_d13_1 : decode jdk_38_method_8_code 1 = .ok (.getfield 48, 3) := by decide +kernel
theorem own_d13_4 : decode jdk_38_method_8_code 4 = .ok (.ireturn, 1) := by decide +kernel
theorem own_ef13 (m : MethodId) (x0 : Addr) : entryFrame m #[(.ref x0)] 1 = mkF m 0 #[.val (.ref x0)] [] := by first | (simp [entryFrame, mkF, argsToLocals, Value.category]; done) | rfl
theorem own_pn13 : plainFor (⟨"java/util/ArrayList", "size", "()I"⟩ : MethodName) = true := by first | exact plainFor_of_name (by first | (simp [plainName, overriddenIn]; done) | decide +kernel) | exact Jvm.Free.JP.mathPlain rfl (by decide +kernel)
set_option maxRecDepth 65536 in
set_option maxHeartbeats 40000000 in
theorem own_rm13 (l : Launch) (Z : State) (a0 : Array Value) (hw : ∀ d ∈ tables_1, d.before a0 Z = true) (a1 : Addr) (w1 : Int32) (h0 : Heap) (n0 : Nat) (Z0 : n0 ≤ h0.size) (F_size_a1 : Fld Z h0 a1 "java/util/ArrayList" "size" "I" (.int w1)) :
    OwnMet l Z (⟨"java/util/ArrayList", "size", "()I"⟩ : MethodName) jdk_38_method_8_code 1 (some .int) ({ frames := 0, cells := 0, slots := 0, locals := 0 } : Room) #[(.ref a1)] h0 n0 (fun v h => v = some (.int w1) ∧ h0 = h) := by
  refine own_body own_pn13 ?_
  intro p e s m below meth c s₁ RR X0
  refine own_enter (own_ef13 m a1) ?_
  refine own_aloadN X0 own_d13_0 (pc' := 1) rfl rfl rfl ?_
  refine own_getF X0 own_d13_1 (hw _ (List.mem_of_getElem? (i := 60) rfl)) Via.refl F_size_a1 (pc' := 4) rfl ?_
  intro T1 X1
  exact own_retI X1 own_d13_4 ⟨rfl, rfl⟩ (by decide) (by decide)
theorem own_d20_0 : decode jdk_41_method_11_code 0 = .ok (.iload_n 0, 1) := by decide +kernel
theorem own_d20_1 : decode jdk_41_method_11_code 1 = .ok (.ifCond .lt 8, 3) := by decide +kernel
theorem own_d20_4 : decode jdk_41_method_11_code 4 = .ok (.iload_n 0, 1) := by decide +kernel
theorem own_d20_5 : decode jdk_41_method_11_code 5 = .ok (.iload_n 1, 1) := by decide +kernel
theorem own_d20_6 : decode jdk_41_method_11_code 6 = .ok (.if_icmp .lt 10, 3) := by decide +kernel
theorem own_d20_9 : decode jdk_41_method_11_code 9 = .ok (.aload_n 2, 1) := by decide +kernel
theorem own_d20_10 : decode jdk_41_method_11_code 10 = .ok (.iload_n 0, 1) := by decide +kernel
theorem own_d20_11 : decode jdk_41_method_11_code 11 = .ok (.iload_n 1, 1) := by decide +kernel
theorem own_d20_12 : decode jdk_41_method_11_code 12 = .ok (.invokestatic 95, 3) := by decide +kernel
theorem own_d20_15 : decode jdk_41_method_11_code 15 = .ok (.athrow, 1) := by decide +kernel
theorem own_d20_16 : decode jdk_41_method_11_code 16 = .ok (.iload_n 0, 1) := by decide +kernel
theorem own_d20_17 : decode jdk_41_method_11_code 17 = .ok (.ireturn, 1) := by decide +kernel
theorem own_ef20 (m : MethodId) (x0 : Int32) (x1 : Int32) : entryFrame m #[(.int x0), (.int x1), .null] 3 = mkF m 0 #[.val (.int x0), .val (.int x1), .val .null] [] := by first | (simp [entryFrame, mkF, argsToLocals, Value.category]; done) | rfl
theorem own_pn20 : plainFor (⟨"jdk/internal/util/Preconditions", "checkIndex", "(IILjava/util/function/BiFunction;)I"⟩ : MethodName) = true := by first | exact plainFor_of_name (by first | (simp [plainName, overriddenIn]; done) | decide +kernel) | exact Jvm.Free.JP.mathPlain rfl (by decide +kernel)
set_option maxRecDepth 65536 in
set_option maxHeartbeats 40000000 in
theorem own_rm20 (l : Launch) (Z : State) (a0 : Array Value) (hw : ∀ d ∈ tables_1, d.before a0 Z = true)  (h0 : Heap) (n0 : Nat) (Z0 : n0 ≤ h0.size)  :
    OwnMet l Z (⟨"jdk/internal/util/Preconditions", "checkIndex", "(IILjava/util/function/BiFunction;)I"⟩ : MethodName) jdk_41_method_11_code 3 (some .int) ({ frames := 0, cells := 0, slots := 0, locals := 0 } : Room) #[(.int (0 : Int32)), (.int (1 : Int32)), .null] h0 n0 (fun v h => v = some (.int (0 : Int32)) ∧ h0 = h) := by
  refine own_body own_pn20 ?_
  intro p e s m below meth c s₁ RR X0
  refine own_enter (own_ef20 m (0 : Int32) (1 : Int32)) ?_
  refine own_iloadN X0 own_d20_0 (pc' := 1) rfl rfl ?_
  refine own_ifN X0 own_d20_1 (flt ((by decide : ¬ ((0 : Int32) < (0 : Int32))))).1 (pc' := 4) rfl ?_
  refine own_iloadN X0 own_d20_4 (pc' := 5) rfl rfl ?_
  refine own_iloadN X0 own_d20_5 (pc' := 6) rfl rfl ?_
  refine own_icY X0 own_d20_6 (tlt ((by decide : (0 : Int32) < (1 : Int32)))).1 (pc' := 16) (by decide) (by decide) ?_
  refine own_iloadN X0 own_d20_16 (pc' := 17) rfl rfl ?_
  exact own_retI X0 own_d20_17 ⟨rfl, rfl⟩ (by decide) (by decide)
theorem own_pd5 : parseMethodDescriptor "(IILjava/util/function/BiFunction;)I" = some ⟨[.int, .int, (.object "java/util/function/BiFunction")], some .int⟩ := by decide +kernel
theorem own_d19_0 : decode jdk_31_method_17_code 0 = .ok (.iload_n 0, 1) := by decide +kernel
theorem own_d19_1 : decode jdk_31_method_17_code 1 = .ok (.iload_n 1, 1) := by decide +kernel
theorem own_d19_2 : decode jdk_31_method_17_code 2 = .ok (.aconst_null, 1) := by decide +kernel
theorem own_d19_3 : decode jdk_31_method_17_code 3 = .ok (.invokestatic 105, 3) := by decide +kernel
theorem own_d19_6 : decode jdk_31_method_17_code 6 = .ok (.ireturn, 1) := by decide +kernel
theorem own_ef19 (m : MethodId) (x0 : Int32) (x1 : Int32) : entryFrame m #[(.int x0), (.int x1)] 2 = mkF m 0 #[.val (.int x0), .val (.int x1)] [] := by first | (simp [entryFrame, mkF, argsToLocals, Value.category]; done) | rfl
theorem own_pn19 : plainFor (⟨"java/util/Objects", "checkIndex", "(II)I"⟩ : MethodName) = true := by first | exact plainFor_of_name (by first | (simp [plainName, overriddenIn]; done) | decide +kernel) | exact Jvm.Free.JP.mathPlain rfl (by decide +kernel)
set_option maxRecDepth 65536 in
set_option maxHeartbeats 40000000 in
theorem own_rm19 (l : Launch) (Z : State) (a0 : Array Value) (hw : ∀ d ∈ tables_1, d.before a0 Z = true)  (h0 : Heap) (n0 : Nat) (Z0 : n0 ≤ h0.size)  :
    OwnMet l Z (⟨"java/util/Objects", "checkIndex", "(II)I"⟩ : MethodName) jdk_31_method_17_code 2 (some .int) ({ frames := 1, cells := 0, slots := 0, locals := 14 } : Room) #[(.int (0 : Int32)), (.int (1 : Int32))] h0 n0 (fun v h => v = some (.int (0 : Int32)) ∧ h0 = h) := by
  refine own_body own_pn19 ?_
  intro p e s m below meth c s₁ RR X0
  refine own_enter (own_ef19 m (0 : Int32) (1 : Int32)) ?_
  refine own_iloadN X0 own_d19_0 (pc' := 1) rfl rfl ?_
  refine own_iloadN X0 own_d19_1 (pc' := 2) rfl rfl ?_
  refine own_aconst_null X0 own_d19_2 (pc' := 3) rfl ?_
  refine own_callS (argsL := [(.int (0 : Int32)), (.int (1 : Int32)), .null]) X0 own_d19_3 (y := (⟨"jdk/internal/util/Preconditions", "checkIndex", "(IILjava/util/function/BiFunction;)I"⟩ : MethodName)) (by decide) (hw _ (List.mem_of_getElem? (i := 147) rfl)) (hw _ (List.mem_of_getElem? (i := 148) rfl)) (hw _ (List.mem_of_getElem? (i := 150) rfl)) (hw _ (List.mem_of_getElem? (i := 149) rfl)) (own_rm20 l Z a0 hw  h0 n0 Z0 ) own_pd5 rfl (S := []) rfl (pc' := 6) rfl rfl (W := 0) (Nat.le_of_eq rfl) (by decide) (by decide) (by decide) (by decide) ?_
  intro T1 h1 v1_ X1 q1_
  obtain ⟨rfl, rfl⟩ := q1_
  show OwnGo p e below (T1.setTop (mkF m 6 #[.val (.int (0 : Int32)), .val (.int (1 : Int32))] [(.int (0 : Int32))])) RR
  exact own_retI X1 own_d19_6 ⟨rfl, rfl⟩ (by decide) (by decide)
theorem own_d21_0 : decode jdk_38_method_18_code 0 = .ok (.aload_n 0, 1) := by decide +kernel
theorem own_d21_1 : decode jdk_38_method_18_code 1 = .ok (.getfield 9, 3) := by decide +kernel
theorem own_d21_4 : decode jdk_38_method_18_code 4 = .ok (.iload_n 1, 1) := by decide +kernel
theorem own_d21_5 : decode jdk_38_method_18_code 5 = .ok (.aaload, 1) := by decide +kernel
theorem own_d21_6 : decode jdk_38_method_18_code 6 = .ok (.areturn, 1) := by decide +kernel
theorem own_ef21 (m : MethodId) (x0 : Addr) (x1 : Int32) : entryFrame m #[(.ref x0), (.int x1)] 2 = mkF m 0 #[.val (.ref x0), .val (.int x1)] [] := by first | (simp [entryFrame, mkF, argsToLocals, Value.category]; done) | rfl
theorem own_pn21 : plainFor (⟨"java/util/ArrayList", "elementData", "(I)Ljava/lang/Object;"⟩ : MethodName) = true := by first | exact plainFor_of_name (by first | (simp [plainName, overriddenIn]; done) | decide +kernel) | exact Jvm.Free.JP.mathPlain rfl (by decide +kernel)
set_option maxRecDepth 65536 in
set_option maxHeartbeats 40000000 in
theorem own_rm21 (l : Launch) (Z : State) (a0 : Array Value) (hw : ∀ d ∈ tables_1, d.before a0 Z = true) (a1 : Addr) (e1 : Addr) (v1 : Addr) (h0 : Heap) (n0 : Nat) (Z0 : n0 ≤ h0.size) (F_elementData_a1 : Fld Z h0 a1 "java/util/ArrayList" "elementData" "[Ljava/lang/Object;" (.ref e1)) (V_e1 : OwnAr Z h0 e1 (.object "java/lang/Object") [(.ref v1), .null, .null, .null, .null, .null, .null, .null, .null, .null]) :
    OwnMet l Z (⟨"java/util/ArrayList", "elementData", "(I)Ljava/lang/Object;"⟩ : MethodName) jdk_38_method_18_code 2 (some (.object "java/lang/Object")) ({ frames := 0, cells := 0, slots := 0, locals := 0 } : Room) #[(.ref a1), (.int (0 : Int32))] h0 n0 (fun v h => v = some (.ref v1) ∧ h0 = h) := by
  refine own_body own_pn21 ?_
  intro p e s m below meth c s₁ RR X0
  refine own_enter (own_ef21 m a1 (0 : Int32)) ?_
  refine own_aloadN X0 own_d21_0 (pc' := 1) rfl rfl rfl ?_
  refine own_getF X0 own_d21_1 (hw _ (List.mem_of_getElem? (i := 25) rfl)) Via.refl F_elementData_a1 (pc' := 4) rfl ?_
  intro T1 X1
  refine own_iloadN X1 own_d21_4 (pc' := 5) rfl rfl ?_
  refine own_aaload X1 own_d21_5 V_e1 rfl (by decide) (v := (.ref v1)) rfl (pc' := 6) rfl ?_
  exact own_retA X1 rfl rfl rfl own_d21_6 ⟨rfl, rfl⟩ (by decide) (by decide)
theorem own_pd6 : parseMethodDescriptor "(I)Ljava/lang/Object;" = some ⟨[.int], some (.object "java/lang/Object")⟩ := by decide +kernel
theorem own_d18_0 : decode jdk_38_method_20_code 0 = .ok (.iload_n 1, 1) := by decide +kernel
theorem own_d18_1 : decode jdk_38_method_20_code 1 = .ok (.aload_n 0, 1) := by decide +kernel
theorem own_d18_2 : decode jdk_38_method_20_code 2 = .ok (.getfield 48, 3) := by decide +kernel
theorem own_d18_5 : decode jdk_38_method_20_code 5 = .ok (.invokestatic 118, 3) := by decide +kernel
theorem own_d18_8 : decode jdk_38_method_20_code 8 = .ok (.pop, 1) := by decide +kernel
theorem own_d18_9 : decode jdk_38_method_20_code 9 = .ok (.aload_n 0, 1) := by decide +kernel
theorem own_d18_10 : decode jdk_38_method_20_code 10 = .ok (.iload_n 1, 1) := by decide +kernel
theorem own_d18_11 : decode jdk_38_method_20_code 11 = .ok (.invokevirtual 123, 3) := by decide +kernel
theorem own_d18_14 : decode jdk_38_method_20_code 14 = .ok (.areturn, 1) := by decide +kernel
theorem own_ef18 (m : MethodId) (x0 : Addr) (x1 : Int32) : entryFrame m #[(.ref x0), (.int x1)] 2 = mkF m 0 #[.val (.ref x0), .val (.int x1)] [] := by first | (simp [entryFrame, mkF, argsToLocals, Value.category]; done) | rfl
theorem own_pn18 : plainFor (⟨"java/util/ArrayList", "get", "(I)Ljava/lang/Object;"⟩ : MethodName) = true := by first | exact plainFor_of_name (by first | (simp [plainName, overriddenIn]; done) | decide +kernel) | exact Jvm.Free.JP.mathPlain rfl (by decide +kernel)
set_option maxRecDepth 65536 in
set_option maxHeartbeats 40000000 in
theorem own_rm18 (l : Launch) (Z : State) (a0 : Array Value) (hw : ∀ d ∈ tables_1, d.before a0 Z = true) (a1 : Addr) (e1 : Addr) (v1 : Addr) (h0 : Heap) (n0 : Nat) (Z0 : n0 ≤ h0.size) (E_a1 : Exa Z h0 a1 "java/util/ArrayList") (F_size_a1 : Fld Z h0 a1 "java/util/ArrayList" "size" "I" (.int (1 : Int32))) (F_elementData_a1 : Fld Z h0 a1 "java/util/ArrayList" "elementData" "[Ljava/lang/Object;" (.ref e1)) (V_e1 : OwnAr Z h0 e1 (.object "java/lang/Object") [(.ref v1), .null, .null, .null, .null, .null, .null, .null, .null, .null]) :
    OwnMet l Z (⟨"java/util/ArrayList", "get", "(I)Ljava/lang/Object;"⟩ : MethodName) jdk_38_method_20_code 2 (some (.object "java/lang/Object")) ({ frames := 2, cells := 0, slots := 0, locals := 27 } : Room) #[(.ref a1), (.int (0 : Int32))] h0 n0 (fun v h => v = some (.ref v1) ∧ h0 = h) := by
  refine own_body own_pn18 ?_
  intro p e s m below meth c s₁ RR X0
  refine own_enter (own_ef18 m a1 (0 : Int32)) ?_
  refine own_iloadN X0 own_d18_0 (pc' := 1) rfl rfl ?_
  refine own_aloadN X0 own_d18_1 (pc' := 2) rfl rfl rfl ?_
  refine own_getF X0 own_d18_2 (hw _ (List.mem_of_getElem? (i := 60) rfl)) Via.refl F_size_a1 (pc' := 5) rfl ?_
  intro T1 X1
  refine own_callS (argsL := [(.int (0 : Int32)), (.int (1 : Int32))]) X1 own_d18_5 (y := (⟨"java/util/Objects", "checkIndex", "(II)I"⟩ : MethodName)) (by decide) (hw _ (List.mem_of_getElem? (i := 143) rfl)) (hw _ (List.mem_of_getElem? (i := 144) rfl)) (hw _ (List.mem_of_getElem? (i := 146) rfl)) (hw _ (List.mem_of_getElem? (i := 145) rfl)) (own_rm19 l Z a0 hw  h0 n0 Z0 ) own_pd1 rfl (S := []) rfl (pc' := 8) rfl rfl (W := 0) (Nat.le_of_eq rfl) (by decide) (by decide) (by decide) (by decide) ?_
  intro T2 h2 v2_ X2 q2_
  obtain ⟨rfl, rfl⟩ := q2_
  show OwnGo p e below (T2.setTop (mkF m 8 #[.val (.ref a1), .val (.int (0 : Int32))] [(.int (0 : Int32))])) RR
  refine own_pop X2 own_d18_8 (pc' := 9) rfl rfl ?_
  refine own_aloadN X2 own_d18_9 (pc' := 10) rfl rfl rfl ?_
  refine own_iloadN X2 own_d18_10 (pc' := 11) rfl rfl ?_
  refine own_callV (a := a1) (argsL := [(.int (0 : Int32))]) X2 own_d18_11 (y := (⟨"java/util/ArrayList", "elementData", "(I)Ljava/lang/Object;"⟩ : MethodName)) (by decide) (hw _ (List.mem_of_getElem? (i := 151) rfl)) (hw _ (List.mem_of_getElem? (i := 152) rfl)) (hw _ (List.mem_of_getElem? (i := 154) rfl)) (hw _ (List.mem_of_getElem? (i := 153) rfl)) (hw _ (List.mem_of_getElem? (i := 155) rfl)) (hw _ (List.mem_of_getElem? (i := 3) rfl)) E_a1 (own_rm21 l Z a0 hw a1 e1 v1 h0 n0 Z0 F_elementData_a1 V_e1) own_pd6 rfl (S := []) rfl (pc' := 14) rfl rfl (W := 0) (Nat.le_of_eq rfl) (by decide) (by decide) (by decide) (by decide) ?_
  intro T3 h3 v3_ X3 q3_
  obtain ⟨rfl, rfl⟩ := q3_
  show OwnGo p e below (T3.setTop (mkF m 14 #[.val (.ref a1), .val (.int (0 : Int32))] [(.ref v1)])) RR
  exact own_retA X3 rfl rfl rfl own_d18_14 ⟨rfl, rfl⟩ (by decide) (by decide)
theorem own_d14_0 : decode jdk_65_method_103_code 0 = .ok (.iconst 0, 1) := by decide +kernel
theorem own_d14_1 : decode jdk_65_method_103_code 1 = .ok (.istore_n 2, 1) := by decide +kernel
theorem own_d14_2 : decode jdk_65_method_103_code 2 = .ok (.aload_n 0, 1) := by decide +kernel
theorem own_d14_3 : decode jdk_65_method_103_code 3 = .ok (.arraylength, 1) := by decide +kernel
theorem own_d14_4 : decode jdk_65_method_103_code 4 = .ok (.istore_n 3, 1) := by decide +kernel
theorem own_d14_5 : decode jdk_65_method_103_code 5 = .ok (.iload_n 2, 1) := by decide +kernel
theorem own_d14_6 : decode jdk_65_method_103_code 6 = .ok (.iload_n 3, 1) := by decide +kernel
theorem own_d14_7 : decode jdk_65_method_103_code 7 = .ok (.if_icmp .ge 13, 3) := by decide +kernel
theorem own_d14_10 : decode jdk_65_method_103_code 10 = .ok (.aload_n 0, 1) := by decide +kernel
theorem own_d14_11 : decode jdk_65_method_103_code 11 = .ok (.iload_n 2, 1) := by decide +kernel
theorem own_d14_12 : decode jdk_65_method_103_code 12 = .ok (.iload_n 1, 1) := by decide +kernel
theorem own_d14_13 : decode jdk_65_method_103_code 13 = .ok (.iastore, 1) := by decide +kernel
theorem own_d14_14 : decode jdk_65_method_103_code 14 = .ok (.iinc 2 1, 3) := by decide +kernel
theorem own_d14_17 : decode jdk_65_method_103_code 17 = .ok (.goto (-12), 3) := by decide +kernel
theorem own_d14_20 : decode jdk_65_method_103_code 20 = .ok (.return_, 1) := by decide +kernel
theorem own_ef14 (m : MethodId) (x0 : Addr) (x1 : Int32) : entryFrame m #[(.ref x0), (.int x1)] 4 = mkF m 0 #[.val (.ref x0), .val (.int x1), .unset, .unset] [] := by first | (simp [entryFrame, mkF, argsToLocals, Value.category]; done) | rfl
theorem own_pn14 : plainFor (⟨"java/util/Arrays", "fill", "([II)V"⟩ : MethodName) = true := by first | exact plainFor_of_name (by first | (simp [plainName, overriddenIn]; done) | decide +kernel) | exact Jvm.Free.JP.mathPlain rfl (by decide +kernel)
set_option maxRecDepth 65536 in
set_option maxHeartbeats 40000000 in
theorem own_rm14 (l : Launch) (Z : State) (a0 : Array Value) (hw : ∀ d ∈ tables_1, d.before a0 Z = true) (b1 : Addr) (h0 : Heap) (n0 : Nat) (Z0 : n0 ≤ h0.size) (V_b1 : OwnAr Z h0 b1 .int [(.int (0 : Int32))]) (g_b1 : n0 ≤ b1) :
    OwnMet l Z (⟨"java/util/Arrays", "fill", "([II)V"⟩ : MethodName) jdk_65_method_103_code 4 none ({ frames := 0, cells := 0, slots := 0, locals := 0 } : Room) #[(.ref b1), (.int (-1 : Int32))] h0 n0 (fun v h => v = none ∧ Keep h0 h [b1] ∧ OwnAr Z h b1 .int [(.int (-1 : Int32))]) := by
  refine own_body own_pn14 ?_
  intro p e s m below meth c s₁ RR X0
  refine own_enter (own_ef14 m b1 (-1 : Int32)) ?_
  refine own_iconst X0 own_d14_0 (pc' := 1) rfl (v := (0 : Int32)) (by decide) ?_
  refine own_istoreN X0 own_d14_1 (pc' := 2) rfl (l' := #[.val (.ref b1), .val (.int (-1 : Int32)), .val (.int (0 : Int32)), .unset]) rfl ?_
  refine own_aloadN X0 own_d14_2 (pc' := 3) rfl rfl rfl ?_
  refine own_arraylength X0 own_d14_3 V_b1 (n := (1 : Int32)) rfl (pc' := 4) rfl ?_
  refine own_istoreN X0 own_d14_4 (pc' := 5) rfl (l' := #[.val (.ref b1), .val (.int (-1 : Int32)), .val (.int (0 : Int32)), .val (.int (1 : Int32))]) rfl ?_
  refine own_iloadN X0 own_d14_5 (pc' := 6) rfl rfl ?_
  refine own_iloadN X0 own_d14_6 (pc' := 7) rfl rfl ?_
  refine own_icN X0 own_d14_7 (tlt ((by decide : (0 : Int32) < (1 : Int32)))).2.1 (pc' := 10) rfl ?_
  refine own_aloadN X0 own_d14_10 (pc' := 11) rfl rfl rfl ?_
  refine own_iloadN X0 own_d14_11 (pc' := 12) rfl rfl ?_
  refine own_iloadN X0 own_d14_12 (pc' := 13) rfl rfl ?_
  refine own_iastore X0 own_d14_13 V_b1 (by decide) (Nat.le_of_ble_eq_true rfl) g_b1 (pc' := 14) rfl ?_
  intro T1 h1 X1 W1 B1
  have Z1 : n0 ≤ h1.size := Nat.le_trans Z0 (Nat.le_of_eq W1.size.symm)
  have V_b1_1 : OwnAr Z h1 b1 .int [(.int (-1 : Int32))] := B1
  have K1 := ((Keep.refl h0 [b1])).wr W1 (Or.inl (List.mem_of_getElem? (i := 0) rfl))
  refine own_iinc X1 own_d14_14 (pc' := 17) rfl rfl (y := (1 : Int32)) rfl (l' := #[.val (.ref b1), .val (.int (-1 : Int32)), .val (.int (1 : Int32)), .val (.int (1 : Int32))]) rfl ?_
  refine own_goto X1 own_d14_17 (pc' := 5) (by decide) (by decide) ?_
  refine own_iloadN X1 own_d14_5 (pc' := 6) rfl rfl ?_
  refine own_iloadN X1 own_d14_6 (pc' := 7) rfl rfl ?_
  refine own_icY X1 own_d14_7 (flt ((by decide : ¬ ((1 : Int32) < (1 : Int32))))).2.1 (pc' := 20) (by decide) (by decide) ?_
  exact own_retV X1 own_d14_20 ⟨rfl, K1, V_b1_1⟩ (by decide) (by decide)
theorem own_pd7 : parseMethodDescriptor "()I" = some ⟨[], some .int⟩ := by decide +kernel
theorem own_pd8 : parseMethodDescriptor "([II)V" = some ⟨[(.array .int), .int], none⟩ := by decide +kernel
theorem own_d12_0 : decode prog_11_method_1_code 0 = .ok (.aload_n 0, 1) := by decide +kernel
theorem own_d12_1 : decode prog_11_method_1_code 1 = .ok (.invokespecial 1, 3) := by decide +kernel
theorem own_d12_4 : decode prog_11_method_1_code 4 = .ok (.aload_n 0, 1) := by decide +kernel
theorem own_d12_5 : decode prog_11_method_1_code 5 = .ok (.bipush 16, 2) := by decide +kernel
theorem own_d12_7 : decode prog_11_method_1_code 7 = .ok (.newarray .long, 2) := by decide +kernel
theorem own_d12_9 : decode prog_11_method_1_code 9 = .ok (.putfield 9, 3) := by decide +kernel
theorem own_d12_12 : decode prog_11_method_1_code 12 = .ok (.aload_n 0, 1) := by decide +kernel
theorem own_d12_13 : decode prog_11_method_1_code 13 = .ok (.bipush 16, 2) := by decide +kernel
theorem own_d12_15 : decode prog_11_method_1_code 15 = .ok (.newarray .long, 2) := by decide +kernel
theorem own_d12_17 : decode prog_11_method_1_code 17 = .ok (.putfield 13, 3) := by decide +kernel
theorem own_d12_20 : decode prog_11_method_1_code 20 = .ok (.aload_n 0, 1) := by decide +kernel
theorem own_d12_21 : decode prog_11_method_1_code 21 = .ok (.lload_n 1, 1) := by decide +kernel
theorem own_d12_22 : decode prog_11_method_1_code 22 = .ok (.putfield 16, 3) := by decide +kernel
theorem own_d12_25 : decode prog_11_method_1_code 25 = .ok (.aload_n 0, 1) := by decide +kernel
theorem own_d12_26 : decode prog_11_method_1_code 26 = .ok (.lload_n 3, 1) := by decide +kernel
theorem own_d12_27 : decode prog_11_method_1_code 27 = .ok (.putfield 20, 3) := by decide +kernel
theorem own_d12_30 : decode prog_11_method_1_code 30 = .ok (.aload_n 0, 1) := by decide +kernel
theorem own_d12_31 : decode prog_11_method_1_code 31 = .ok (.aload 5, 2) := by decide +kernel
theorem own_d12_33 : decode prog_11_method_1_code 33 = .ok (.putfield 23, 3) := by decide +kernel
theorem own_d12_36 : decode prog_11_method_1_code 36 = .ok (.aload_n 0, 1) := by decide +kernel
theorem own_d12_37 : decode prog_11_method_1_code 37 = .ok (.aload 5, 2) := by decide +kernel
theorem own_d12_39 : decode prog_11_method_1_code 39 = .ok (.invokeinterface 27 1, 5) := by decide +kernel
theorem own_d12_44 : decode prog_11_method_1_code 44 = .ok (.newarray .int, 2) := by decide +kernel
theorem own_d12_46 : decode prog_11_method_1_code 46 = .ok (.putfield 33, 3) := by decide +kernel
theorem own_d12_49 : decode prog_11_method_1_code 49 = .ok (.aload_n 0, 1) := by decide +kernel
theorem own_d12_50 : decode prog_11_method_1_code 50 = .ok (.getfield 33, 3) := by decide +kernel
theorem own_d12_53 : decode prog_11_method_1_code 53 = .ok (.iconst (-1), 1) := by decide +kernel
theorem own_d12_54 : decode prog_11_method_1_code 54 = .ok (.invokestatic 37, 3) := by decide +kernel
theorem own_d12_57 : decode prog_11_method_1_code 57 = .ok (.return_, 1) := by decide +kernel
theorem own_ef12 (m : MethodId) (x0 : Addr) (x1 : Int64) (x2 : Int64) (x3 : Addr) : entryFrame m #[(.ref x0), (.long x1), (.long x2), (.ref x3)] 6 = mkF m 0 #[.val (.ref x0), .val (.long x1), .second, .val (.long x2), .second, .val (.ref x3)] [] := by first | (simp [entryFrame, mkF, argsToLocals, Value.category]; done) | rfl
theorem own_pn12 : plainFor (⟨"com/example/packhouse/packhouse/Hosts", "<init>", "(JJLjava/util/List;)V"⟩ : MethodName) = true := by first | exact plainFor_of_name (by first | (simp [plainName, overriddenIn]; done) | decide +kernel) | exact Jvm.Free.JP.mathPlain rfl (by decide +kernel)
set_option maxRecDepth 65536 in
set_option maxHeartbeats 40000000 in
theorem own_rm12 (l : Launch) (Z : State) (a0 : Array Value) (hw : ∀ d ∈ tables_1, d.before a0 Z = true) (a1 : Addr) (q1 : Int64) (q2 : Int64) (l1 : Addr) (h0 : Heap) (n0 : Nat) (Z0 : n0 ≤ h0.size) (E_a1 : Exa Z h0 a1 "com/example/packhouse/packhouse/Hosts") (F_hostCpu_a1 : Fld Z h0 a1 "com/example/packhouse/packhouse/Hosts" "hostCpu" "J" (.long (0 : Int64))) (F_hostMem_a1 : Fld Z h0 a1 "com/example/packhouse/packhouse/Hosts" "hostMem" "J" (.long (0 : Int64))) (F_vms_a1 : Fld Z h0 a1 "com/example/packhouse/packhouse/Hosts" "vms" "Ljava/util/List;" .null) (F_hostOf_a1 : Fld Z h0 a1 "com/example/packhouse/packhouse/Hosts" "hostOf" "[I" .null) (F_usedCpu_a1 : Fld Z h0 a1 "com/example/packhouse/packhouse/Hosts" "usedCpu" "[J" .null) (F_usedMem_a1 : Fld Z h0 a1 "com/example/packhouse/packhouse/Hosts" "usedMem" "[J" .null) (F_count_a1 : Fld Z h0 a1 "com/example/packhouse/packhouse/Hosts" "count" "I" (.int (0 : Int32))) (g_a1 : n0 ≤ a1) (E_l1 : Exa Z h0 l1 "java/util/ArrayList") (F_size_l1 : Fld Z h0 l1 "java/util/ArrayList" "size" "I" (.int (1 : Int32))) (ne_l1_a1 : l1 ≠ a1) :
    OwnMet l Z (⟨"com/example/packhouse/packhouse/Hosts", "<init>", "(JJLjava/util/List;)V"⟩ : MethodName) prog_11_method_1_code 6 none ({ frames := 1, cells := 3, slots := 33, locals := 15 } : Room) #[(.ref a1), (.long q1), (.long q2), (.ref l1)] h0 n0 (fun v h => ∃ (b1 : Addr), ∃ (b2 : Addr), ∃ (b3 : Addr), v = none ∧ Keep h0 h [a1] ∧ Fld Z h a1 "com/example/packhouse/packhouse/Hosts" "hostCpu" "J" (.long q1) ∧ Fld Z h a1 "com/example/packhouse/packhouse/Hosts" "hostMem" "J" (.long q2) ∧ Fld Z h a1 "com/example/packhouse/packhouse/Hosts" "vms" "Ljava/util/List;" (.ref l1) ∧ Fld Z h a1 "com/example/packhouse/packhouse/Hosts" "hostOf" "[I" (.ref b3) ∧ Fld Z h a1 "com/example/packhouse/packhouse/Hosts" "usedCpu" "[J" (.ref b1) ∧ Fld Z h a1 "com/example/packhouse/packhouse/Hosts" "usedMem" "[J" (.ref b2) ∧ Fld Z h a1 "com/example/packhouse/packhouse/Hosts" "count" "I" (.int (0 : Int32)) ∧ h0.size ≤ b1 ∧ h0.size ≤ b2 ∧ h0.size ≤ b3 ∧ b1 ≠ b2 ∧ b1 ≠ b3 ∧ b2 ≠ b3 ∧ OwnAr Z h b1 .long [(.long (0 : Int64)), (.long (0 : Int64)), (.long (0 : Int64)), (.long (0 : Int64)), (.long (0 : Int64)), (.long (0 : Int64)), (.long (0 : Int64)), (.long (0 : Int64)), (.long (0 : Int64)), (.long (0 : Int64)), (.long (0 : Int64)), (.long (0 : Int64)), (.long (0 : Int64)), (.long (0 : Int64)), (.long (0 : Int64)), (.long (0 : Int64))] ∧ OwnAr Z h b2 .long [(.long (0 : Int64)), (.long (0 : Int64)), (.long (0 : Int64)), (.long (0 : Int64)), (.long (0 : Int64)), (.long (0 : Int64)), (.long (0 : Int64)), (.long (0 : Int64)), (.long (0 : Int64)), (.long (0 : Int64)), (.long (0 : Int64)), (.long (0 : Int64)), (.long (0 : Int64)), (.long (0 : Int64)), (.long (0 : Int64)), (.long (0 : Int64))] ∧ OwnAr Z h b3 .int [(.int (-1 : Int32))]) := by
  refine own_body own_pn12 ?_
  intro p e s m below meth c s₁ RR X0
  refine own_enter (own_ef12 m a1 q1 q2 l1) ?_
  refine own_aloadN X0 own_d12_0 (pc' := 1) rfl rfl rfl ?_
  refine own_init X0 own_d12_1 (hw _ (List.mem_of_getElem? (i := 90) rfl)) (hw _ (List.mem_of_getElem? (i := 20) rfl)) (hw _ (List.mem_of_getElem? (i := 21) rfl)) (pc' := 4) rfl rfl (by decide) (W := 0) (Nat.le_of_eq rfl) (by decide) ?_
  intro T1 X1
  refine own_aloadN X1 own_d12_4 (pc' := 5) rfl rfl rfl ?_
  refine own_bipush X1 own_d12_5 (pc' := 7) rfl (v := (16 : Int32)) (by decide) ?_
  refine own_newarr X1 own_d12_7 (hw _ (List.mem_of_getElem? (i := 91) rfl)) (pc' := 9) rfl (by decide) (cap := 16) (by decide) (by decide) (by decide) (by decide) ?_
  intro T2 h2 b2 hb2 X2 E2 B2
  have g_b2 : n0 ≤ b2 := Nat.le_trans Z0 (Nat.le_of_eq hb2.symm)
  have ne_a1_b2 : a1 ≠ b2 := Nat.ne_of_lt (Nat.lt_of_lt_of_le (E_a1).lt (Nat.le_of_eq hb2.symm))
  have ne_l1_b2 : l1 ≠ b2 := Nat.ne_of_lt (Nat.lt_of_lt_of_le (E_l1).lt (Nat.le_of_eq hb2.symm))
  have E_a1_2 := (E_a1).ext E2
  have F_hostCpu_a1_2 := (F_hostCpu_a1).ext E2
  have F_hostMem_a1_2 := (F_hostMem_a1).ext E2
  have F_vms_a1_2 := (F_vms_a1).ext E2
  have F_hostOf_a1_2 := (F_hostOf_a1).ext E2
  have F_usedCpu_a1_2 := (F_usedCpu_a1).ext E2
  have F_usedMem_a1_2 := (F_usedMem_a1).ext E2
  have F_count_a1_2 := (F_count_a1).ext E2
  have E_l1_2 := (E_l1).ext E2
  have F_size_l1_2 := (F_size_l1).ext E2
  have Z2 : n0 ≤ h2.size := Nat.le_trans Z0 E2.1
  have sz_b2 : h0.size ≤ b2 := Nat.le_trans ((Keep.refl h0 [a1])).1 (Nat.le_of_eq hb2.symm)
  have K2 := ((Keep.refl h0 [a1])).ext E2
  have V_b2 : OwnAr Z h2 b2 .long [(.long (0 : Int64)), (.long (0 : Int64)), (.long (0 : Int64)), (.long (0 : Int64)), (.long (0 : Int64)), (.long (0 : Int64)), (.long (0 : Int64)), (.long (0 : Int64)), (.long (0 : Int64)), (.long (0 : Int64)), (.long (0 : Int64)), (.long (0 : Int64)), (.long (0 : Int64)), (.long (0 : Int64)), (.long (0 : Int64)), (.long (0 : Int64))] := B2
  refine own_putF X2 own_d12_9 (hw _ (List.mem_of_getElem? (i := 92) rfl)) Via.refl F_usedCpu_a1_2 E_a1_2 (Or.inl (hw _ (List.mem_of_getElem? (i := 93) rfl))) (hw _ (List.mem_of_getElem? (i := 85) rfl)) (ty := (.array .long)) (v' := (.ref b2)) (by decide) rfl rfl g_a1 (pc' := 12) rfl ?_
  intro T3 h3 X3 W3
  have E_a1_3 := (E_a1_2).wr W3
  have F_hostCpu_a1_3 := (F_hostCpu_a1_2).other W3 (Or.inr (slot_ne (Or.inr (hw _ (List.mem_of_getElem? (i := 97) rfl))) (Or.inl (hw _ (List.mem_of_getElem? (i := 93) rfl))) (by decide) (t := .long) (t' := (.array .long)) (by decide) (by decide)))
  have F_hostMem_a1_3 := (F_hostMem_a1_2).other W3 (Or.inr (slot_ne (Or.inr (hw _ (List.mem_of_getElem? (i := 99) rfl))) (Or.inl (hw _ (List.mem_of_getElem? (i := 93) rfl))) (by decide) (t := .long) (t' := (.array .long)) (by decide) (by decide)))
  have F_vms_a1_3 := (F_vms_a1_2).other W3 (Or.inr (slot_ne (Or.inr (hw _ (List.mem_of_getElem? (i := 101) rfl))) (Or.inl (hw _ (List.mem_of_getElem? (i := 93) rfl))) (by decide) (t := (.object "java/util/List")) (t' := (.array .long)) (by decide) (by decide)))
  have F_hostOf_a1_3 := (F_hostOf_a1_2).other W3 (Or.inr (slot_ne (Or.inr (hw _ (List.mem_of_getElem? (i := 113) rfl))) (Or.inl (hw _ (List.mem_of_getElem? (i := 93) rfl))) (by decide) (t := (.array .int)) (t' := (.array .long)) (by decide) (by decide)))
  have F_usedCpu_a1_3 := (F_usedCpu_a1_2).same W3
  have F_usedMem_a1_3 := (F_usedMem_a1_2).other W3 (Or.inr (slot_ne (Or.inl (hw _ (List.mem_of_getElem? (i := 95) rfl))) (Or.inl (hw _ (List.mem_of_getElem? (i := 93) rfl))) (by decide) (t := (.array .long)) (t' := (.array .long)) (by decide) (by decide)))
  have F_count_a1_3 := (F_count_a1_2).other W3 (Or.inr (slot_ne (Or.inl (hw _ (List.mem_of_getElem? (i := 124) rfl))) (Or.inl (hw _ (List.mem_of_getElem? (i := 93) rfl))) (by decide) (t := .int) (t' := (.array .long)) (by decide) (by decide)))
  have E_l1_3 := (E_l1_2).wr W3
  have F_size_l1_3 := (F_size_l1_2).other W3 (Or.inl ne_l1_a1)
  have V_b2_3 := (V_b2).other W3 ne_a1_b2.symm
  have Z3 : n0 ≤ h3.size := Nat.le_trans Z2 (Nat.le_of_eq W3.size.symm)
  have K3 := (K2).wr W3 (Or.inl (List.mem_of_getElem? (i := 0) rfl))
  refine own_aloadN X3 own_d12_12 (pc' := 13) rfl rfl rfl ?_
  refine own_bipush X3 own_d12_13 (pc' := 15) rfl (v := (16 : Int32)) (by decide) ?_
  refine own_newarr X3 own_d12_15 (hw _ (List.mem_of_getElem? (i := 91) rfl)) (pc' := 17) rfl (by decide) (cap := 16) (by decide) (by decide) (by decide) (by decide) ?_
  intro T4 h4 b4 hb4 X4 E4 B4
  have g_b4 : n0 ≤ b4 := Nat.le_trans Z3 (Nat.le_of_eq hb4.symm)
  have ne_a1_b4 : a1 ≠ b4 := Nat.ne_of_lt (Nat.lt_of_lt_of_le (E_a1_3).lt (Nat.le_of_eq hb4.symm))
  have ne_l1_b4 : l1 ≠ b4 := Nat.ne_of_lt (Nat.lt_of_lt_of_le (E_l1_3).lt (Nat.le_of_eq hb4.symm))
  have ne_b2_b4 : b2 ≠ b4 := Nat.ne_of_lt (Nat.lt_of_lt_of_le (V_b2_3).lt (Nat.le_of_eq hb4.symm))
  have E_a1_4 := (E_a1_3).ext E4
  have F_hostCpu_a1_4 := (F_hostCpu_a1_3).ext E4
  have F_hostMem_a1_4 := (F_hostMem_a1_3).ext E4
  have F_vms_a1_4 := (F_vms_a1_3).ext E4
  have F_hostOf_a1_4 := (F_hostOf_a1_3).ext E4
  have F_usedCpu_a1_4 := (F_usedCpu_a1_3).ext E4
  have F_usedMem_a1_4 := (F_usedMem_a1_3).ext E4
  have F_count_a1_4 := (F_count_a1_3).ext E4
  have E_l1_4 := (E_l1_3).ext E4
  have F_size_l1_4 := (F_size_l1_3).ext E4
  have V_b2_4 := (V_b2_3).ext E4
  have Z4 : n0 ≤ h4.size := Nat.le_trans Z3 E4.1
  have sz_b4 : h0.size ≤ b4 := Nat.le_trans (K3).1 (Nat.le_of_eq hb4.symm)
  have K4 := (K3).ext E4
  have V_b4 : OwnAr Z h4 b4 .long [(.long (0 : Int64)), (.long (0 : Int64)), (.long (0 : Int64)), (.long (0 : Int64)), (.long (0 : Int64)), (.long (0 : Int64)), (.long (0 : Int64)), (.long (0 : Int64)), (.long (0 : Int64)), (.long (0 : Int64)), (.long (0 : Int64)), (.long (0 : Int64)), (.long (0 : Int64)), (.long (0 : Int64)), (.long (0 : Int64)), (.long (0 : Int64))] := B4
  refine own_putF X4 own_d12_17 (hw _ (List.mem_of_getElem? (i := 94) rfl)) Via.refl F_usedMem_a1_4 E_a1_4 (Or.inl (hw _ (List.mem_of_getElem? (i := 95) rfl))) (hw _ (List.mem_of_getElem? (i := 85) rfl)) (ty := (.array .long)) (v' := (.ref b4)) (by decide) rfl rfl g_a1 (pc' := 20) rfl ?_
  intro T5 h5 X5 W5
  have E_a1_5 := (E_a1_4).wr W5
  have F_hostCpu_a1_5 := (F_hostCpu_a1_4).other W5 (Or.inr (slot_ne (Or.inr (hw _ (List.mem_of_getElem? (i := 97) rfl))) (Or.inl (hw _ (List.mem_of_getElem? (i := 95) rfl))) (by decide) (t := .long) (t' := (.array .long)) (by decide) (by decide)))
  have F_hostMem_a1_5 := (F_hostMem_a1_4).other W5 (Or.inr (slot_ne (Or.inr (hw _ (List.mem_of_getElem? (i := 99) rfl))) (Or.inl (hw _ (List.mem_of_getElem? (i := 95) rfl))) (by decide) (t := .long) (t' := (.array .long)) (by decide) (by decide)))
  have F_vms_a1_5 := (F_vms_a1_4).other W5 (Or.inr (slot_ne (Or.inr (hw _ (List.mem_of_getElem? (i := 101) rfl))) (Or.inl (hw _ (List.mem_of_getElem? (i := 95) rfl))) (by decide) (t := (.object "java/util/List")) (t' := (.array .long)) (by decide) (by decide)))
  have F_hostOf_a1_5 := (F_hostOf_a1_4).other W5 (Or.inr (slot_ne (Or.inr (hw _ (List.mem_of_getElem? (i := 113) rfl))) (Or.inl (hw _ (List.mem_of_getElem? (i := 95) rfl))) (by decide) (t := (.array .int)) (t' := (.array .long)) (by decide) (by decide)))
  have F_usedCpu_a1_5 := (F_usedCpu_a1_4).other W5 (Or.inr (slot_ne (Or.inl (hw _ (List.mem_of_getElem? (i := 93) rfl))) (Or.inl (hw _ (List.mem_of_getElem? (i := 95) rfl))) (by decide) (t := (.array .long)) (t' := (.array .long)) (by decide) (by decide)))
  have F_usedMem_a1_5 := (F_usedMem_a1_4).same W5
  have F_count_a1_5 := (F_count_a1_4).other W5 (Or.inr (slot_ne (Or.inl (hw _ (List.mem_of_getElem? (i := 124) rfl))) (Or.inl (hw _ (List.mem_of_getElem? (i := 95) rfl))) (by decide) (t := .int) (t' := (.array .long)) (by decide) (by decide)))
  have E_l1_5 := (E_l1_4).wr W5
  have F_size_l1_5 := (F_size_l1_4).other W5 (Or.inl ne_l1_a1)
  have V_b2_5 := (V_b2_4).other W5 ne_a1_b2.symm
  have V_b4_5 := (V_b4).other W5 ne_a1_b4.symm
  have Z5 : n0 ≤ h5.size := Nat.le_trans Z4 (Nat.le_of_eq W5.size.symm)
  have K5 := (K4).wr W5 (Or.inl (List.mem_of_getElem? (i := 0) rfl))
  refine own_aloadN X5 own_d12_20 (pc' := 21) rfl rfl rfl ?_
  refine own_lloadN X5 own_d12_21 (pc' := 22) rfl rfl ?_
  refine own_putF X5 own_d12_22 (hw _ (List.mem_of_getElem? (i := 96) rfl)) Via.refl F_hostCpu_a1_5 E_a1_5 (Or.inr ⟨(hw _ (List.mem_of_getElem? (i := 97) rfl)), rfl, rfl⟩) (hw _ (List.mem_of_getElem? (i := 85) rfl)) (ty := .long) (v' := (.long q1)) (by decide) rfl rfl g_a1 (pc' := 25) rfl ?_
  intro T6 h6 X6 W6
  have E_a1_6 := (E_a1_5).wr W6
  have F_hostCpu_a1_6 := (F_hostCpu_a1_5).same W6
  have F_hostMem_a1_6 := (F_hostMem_a1_5).other W6 (Or.inr (slot_ne (Or.inr (hw _ (List.mem_of_getElem? (i := 99) rfl))) (Or.inr (hw _ (List.mem_of_getElem? (i := 97) rfl))) (by decide) (t := .long) (t' := .long) (by decide) (by decide)))
  have F_vms_a1_6 := (F_vms_a1_5).other W6 (Or.inr (slot_ne (Or.inr (hw _ (List.mem_of_getElem? (i := 101) rfl))) (Or.inr (hw _ (List.mem_of_getElem? (i := 97) rfl))) (by decide) (t := (.object "java/util/List")) (t' := .long) (by decide) (by decide)))
  have F_hostOf_a1_6 := (F_hostOf_a1_5).other W6 (Or.inr (slot_ne (Or.inr (hw _ (List.mem_of_getElem? (i := 113) rfl))) (Or.inr (hw _ (List.mem_of_getElem? (i := 97) rfl))) (by decide) (t := (.array .int)) (t' := .long) (by decide) (by decide)))
  have F_usedCpu_a1_6 := (F_usedCpu_a1_5).other W6 (Or.inr (slot_ne (Or.inl (hw _ (List.mem_of_getElem? (i := 93) rfl))) (Or.inr (hw _ (List.mem_of_getElem? (i := 97) rfl))) (by decide) (t := (.array .long)) (t' := .long) (by decide) (by decide)))
  have F_usedMem_a1_6 := (F_usedMem_a1_5).other W6 (Or.inr (slot_ne (Or.inl (hw _ (List.mem_of_getElem? (i := 95) rfl))) (Or.inr (hw _ (List.mem_of_getElem? (i := 97) rfl))) (by decide) (t := (.array .long)) (t' := .long) (by decide) (by decide)))
  have F_count_a1_6 := (F_count_a1_5).other W6 (Or.inr (slot_ne (Or.inl (hw _ (List.mem_of_getElem? (i := 124) rfl))) (Or.inr (hw _ (List.mem_of_getElem? (i := 97) rfl))) (by decide) (t := .int) (t' := .long) (by decide) (by decide)))
  have E_l1_6 := (E_l1_5).wr W6
  have F_size_l1_6 := (F_size_l1_5).other W6 (Or.inl ne_l1_a1)
  have V_b2_6 := (V_b2_5).other W6 ne_a1_b2.symm
  have V_b4_6 := (V_b4_5).other W6 ne_a1_b4.symm
  have Z6 : n0 ≤ h6.size := Nat.le_trans Z5 (Nat.le_of_eq W6.size.symm)
  have K6 := (K5).wr W6 (Or.inl (List.mem_of_getElem? (i := 0) rfl))
  refine own_aloadN X6 own_d12_25 (pc' := 26) rfl rfl rfl ?_
  refine own_lloadN X6 own_d12_26 (pc' := 27) rfl rfl ?_
  refine own_putF X6 own_d12_27 (hw _ (List.mem_of_getElem? (i := 98) rfl)) Via.refl F_hostMem_a1_6 E_a1_6 (Or.inr ⟨(hw _ (List.mem_of_getElem? (i := 99) rfl)), rfl, rfl⟩) (hw _ (List.mem_of_getElem? (i := 85) rfl)) (ty := .long) (v' := (.long q2)) (by decide) rfl rfl g_a1 (pc' := 30) rfl ?_
  intro T7 h7 X7 W7
  have E_a1_7 := (E_a1_6).wr W7
  have F_hostCpu_a1_7 := (F_hostCpu_a1_6).other W7 (Or.inr (slot_ne (Or.inr (hw _ (List.mem_of_getElem? (i := 97) rfl))) (Or.inr (hw _ (List.mem_of_getElem? (i := 99) rfl))) (by decide) (t := .long) (t' := .long) (by decide) (by decide)))
  have F_hostMem_a1_7 := (F_hostMem_a1_6).same W7
  have F_vms_a1_7 := (F_vms_a1_6).other W7 (Or.inr (slot_ne (Or.inr (hw _ (List.mem_of_getElem? (i := 101) rfl))) (Or.inr (hw _ (List.mem_of_getElem? (i := 99) rfl))) (by decide) (t := (.object "java/util/List")) (t' := .long) (by decide) (by decide)))
  have F_hostOf_a1_7 := (F_hostOf_a1_6).other W7 (Or.inr (slot_ne (Or.inr (hw _ (List.mem_of_getElem? (i := 113) rfl))) (Or.inr (hw _ (List.mem_of_getElem? (i := 99) rfl))) (by decide) (t := (.array .int)) (t' := .long) (by decide) (by decide)))
  have F_usedCpu_a1_7 := (F_usedCpu_a1_6).other W7 (Or.inr (slot_ne (Or.inl (hw _ (List.mem_of_getElem? (i := 93) rfl))) (Or.inr (hw _ (List.mem_of_getElem? (i := 99) rfl))) (by decide) (t := (.array .long)) (t' := .long) (by decide) (by decide)))
  have F_usedMem_a1_7 := (F_usedMem_a1_6).other W7 (Or.inr (slot_ne (Or.inl (hw _ (List.mem_of_getElem? (i := 95) rfl))) (Or.inr (hw _ (List.mem_of_getElem? (i := 99) rfl))) (by decide) (t := (.array .long)) (t' := .long) (by decide) (by decide)))
  have F_count_a1_7 := (F_count_a1_6).other W7 (Or.inr (slot_ne (Or.inl (hw _ (List.mem_of_getElem? (i := 124) rfl))) (Or.inr (hw _ (List.mem_of_getElem? (i := 99) rfl))) (by decide) (t := .int) (t' := .long) (by decide) (by decide)))
  have E_l1_7 := (E_l1_6).wr W7
  have F_size_l1_7 := (F_size_l1_6).other W7 (Or.inl ne_l1_a1)
  have V_b2_7 := (V_b2_6).other W7 ne_a1_b2.symm
  have V_b4_7 := (V_b4_6).other W7 ne_a1_b4.symm
  have Z7 : n0 ≤ h7.size := Nat.le_trans Z6 (Nat.le_of_eq W7.size.symm)
  have K7 := (K6).wr W7 (Or.inl (List.mem_of_getElem? (i := 0) rfl))
  refine own_aloadN X7 own_d12_30 (pc' := 31) rfl rfl rfl ?_
  refine own_aload X7 own_d12_31 (pc' := 33) rfl rfl rfl ?_
  refine own_putF X7 own_d12_33 (hw _ (List.mem_of_getElem? (i := 100) rfl)) Via.refl F_vms_a1_7 E_a1_7 (Or.inr ⟨(hw _ (List.mem_of_getElem? (i := 101) rfl)), rfl, rfl⟩) (hw _ (List.mem_of_getElem? (i := 85) rfl)) (ty := (.object "java/util/List")) (v' := (.ref l1)) (by decide) rfl rfl g_a1 (pc' := 36) rfl ?_
  intro T8 h8 X8 W8
  have E_a1_8 := (E_a1_7).wr W8
  have F_hostCpu_a1_8 := (F_hostCpu_a1_7).other W8 (Or.inr (slot_ne (Or.inr (hw _ (List.mem_of_getElem? (i := 97) rfl))) (Or.inr (hw _ (List.mem_of_getElem? (i := 101) rfl))) (by decide) (t := .long) (t' := (.object "java/util/List")) (by decide) (by decide)))
  have F_hostMem_a1_8 := (F_hostMem_a1_7).other W8 (Or.inr (slot_ne (Or.inr (hw _ (List.mem_of_getElem? (i := 99) rfl))) (Or.inr (hw _ (List.mem_of_getElem? (i := 101) rfl))) (by decide) (t := .long) (t' := (.object "java/util/List")) (by decide) (by decide)))
  have F_vms_a1_8 := (F_vms_a1_7).same W8
  have F_hostOf_a1_8 := (F_hostOf_a1_7).other W8 (Or.inr (slot_ne (Or.inr (hw _ (List.mem_of_getElem? (i := 113) rfl))) (Or.inr (hw _ (List.mem_of_getElem? (i := 101) rfl))) (by decide) (t := (.array .int)) (t' := (.object "java/util/List")) (by decide) (by decide)))
  have F_usedCpu_a1_8 := (F_usedCpu_a1_7).other W8 (Or.inr (slot_ne (Or.inl (hw _ (List.mem_of_getElem? (i := 93) rfl))) (Or.inr (hw _ (List.mem_of_getElem? (i := 101) rfl))) (by decide) (t := (.array .long)) (t' := (.object "java/util/List")) (by decide) (by decide)))
  have F_usedMem_a1_8 := (F_usedMem_a1_7).other W8 (Or.inr (slot_ne (Or.inl (hw _ (List.mem_of_getElem? (i := 95) rfl))) (Or.inr (hw _ (List.mem_of_getElem? (i := 101) rfl))) (by decide) (t := (.array .long)) (t' := (.object "java/util/List")) (by decide) (by decide)))
  have F_count_a1_8 := (F_count_a1_7).other W8 (Or.inr (slot_ne (Or.inl (hw _ (List.mem_of_getElem? (i := 124) rfl))) (Or.inr (hw _ (List.mem_of_getElem? (i := 101) rfl))) (by decide) (t := .int) (t' := (.object "java/util/List")) (by decide) (by decide)))
  have E_l1_8 := (E_l1_7).wr W8
  have F_size_l1_8 := (F_size_l1_7).other W8 (Or.inl ne_l1_a1)
  have V_b2_8 := (V_b2_7).other W8 ne_a1_b2.symm
  have V_b4_8 := (V_b4_7).other W8 ne_a1_b4.symm
  have Z8 : n0 ≤ h8.size := Nat.le_trans Z7 (Nat.le_of_eq W8.size.symm)
  have K8 := (K7).wr W8 (Or.inl (List.mem_of_getElem? (i := 0) rfl))
  refine own_aloadN X8 own_d12_36 (pc' := 37) rfl rfl rfl ?_
  refine own_aload X8 own_d12_37 (pc' := 39) rfl rfl rfl ?_
  refine own_callI (a := l1) (argsL := []) X8 own_d12_39 (y := (⟨"java/util/List", "size", "()I"⟩ : MethodName)) (z := (⟨"java/util/ArrayList", "size", "()I"⟩ : MethodName)) (by decide) (hw _ (List.mem_of_getElem? (i := 102) rfl)) (hw _ (List.mem_of_getElem? (i := 103) rfl)) (hw _ (List.mem_of_getElem? (i := 104) rfl)) (hw _ (List.mem_of_getElem? (i := 105) rfl)) (hw _ (List.mem_of_getElem? (i := 106) rfl)) (hw _ (List.mem_of_getElem? (i := 107) rfl)) (hw _ (List.mem_of_getElem? (i := 108) rfl)) (hw _ (List.mem_of_getElem? (i := 109) rfl)) (hw _ (List.mem_of_getElem? (i := 110) rfl)) (hw _ (List.mem_of_getElem? (i := 3) rfl)) E_l1_8 (own_rm13 l Z a0 hw l1 (1 : Int32) h8 n0 Z8 F_size_l1_8) own_pd7 rfl (S := [(.ref a1)]) rfl (pc' := 44) rfl rfl (W := 1) (Nat.le_of_eq rfl) (by decide) (by decide) (by decide) (by decide) ?_
  intro T9 h9 v9_ X9 q9_
  obtain ⟨rfl, rfl⟩ := q9_
  show OwnGo p e below (T9.setTop (mkF m 44 #[.val (.ref a1), .val (.long q1), .second, .val (.long q2), .second, .val (.ref l1)] [(.int (1 : Int32)), (.ref a1)])) RR
  refine own_newarr X9 own_d12_44 (hw _ (List.mem_of_getElem? (i := 111) rfl)) (pc' := 46) rfl (by decide) (cap := 1) (by decide) (by decide) (by decide) (by decide) ?_
  intro T10 h10 b10 hb10 X10 E10 B10
  have g_b10 : n0 ≤ b10 := Nat.le_trans Z8 (Nat.le_of_eq hb10.symm)
  have ne_a1_b10 : a1 ≠ b10 := Nat.ne_of_lt (Nat.lt_of_lt_of_le (E_a1_8).lt (Nat.le_of_eq hb10.symm))
  have ne_l1_b10 : l1 ≠ b10 := Nat.ne_of_lt (Nat.lt_of_lt_of_le (E_l1_8).lt (Nat.le_of_eq hb10.symm))
  have ne_b2_b10 : b2 ≠ b10 := Nat.ne_of_lt (Nat.lt_of_lt_of_le (V_b2_8).lt (Nat.le_of_eq hb10.symm))
  have ne_b4_b10 : b4 ≠ b10 := Nat.ne_of_lt (Nat.lt_of_lt_of_le (V_b4_8).lt (Nat.le_of_eq hb10.symm))
  have E_a1_10 := (E_a1_8).ext E10
  have F_hostCpu_a1_10 := (F_hostCpu_a1_8).ext E10
  have F_hostMem_a1_10 := (F_hostMem_a1_8).ext E10
  have F_vms_a1_10 := (F_vms_a1_8).ext E10
  have F_hostOf_a1_10 := (F_hostOf_a1_8).ext E10
  have F_usedCpu_a1_10 := (F_usedCpu_a1_8).ext E10
  have F_usedMem_a1_10 := (F_usedMem_a1_8).ext E10
  have F_count_a1_10 := (F_count_a1_8).ext E10
  have E_l1_10 := (E_l1_8).ext E10
  have F_size_l1_10 := (F_size_l1_8).ext E10
  have V_b2_10 := (V_b2_8).ext E10
  have V_b4_10 := (V_b4_8).ext E10
  have Z10 : n0 ≤ h10.size := Nat.le_trans Z8 E10.1
  have sz_b10 : h0.size ≤ b10 := Nat.le_trans (K8).1 (Nat.le_of_eq hb10.symm)
  have K10 := (K8).ext E10
  have V_b10 : OwnAr Z h10 b10 .int [(.int (0 : Int32))] := B10
  refine own_putF X10 own_d12_46 (hw _ (List.mem_of_getElem? (i := 112) rfl)) Via.refl F_hostOf_a1_10 E_a1_10 (Or.inr ⟨(hw _ (List.mem_of_getElem? (i := 113) rfl)), rfl, rfl⟩) (hw _ (List.mem_of_getElem? (i := 85) rfl)) (ty := (.array .int)) (v' := (.ref b10)) (by decide) rfl rfl g_a1 (pc' := 49) rfl ?_
  intro T11 h11 X11 W11
  have E_a1_11 := (E_a1_10).wr W11
  have F_hostCpu_a1_11 := (F_hostCpu_a1_10).other W11 (Or.inr (slot_ne (Or.inr (hw _ (List.mem_of_getElem? (i := 97) rfl))) (Or.inr (hw _ (List.mem_of_getElem? (i := 113) rfl))) (by decide) (t := .long) (t' := (.array .int)) (by decide) (by decide)))
  have F_hostMem_a1_11 := (F_hostMem_a1_10).other W11 (Or.inr (slot_ne (Or.inr (hw _ (List.mem_of_getElem? (i := 99) rfl))) (Or.inr (hw _ (List.mem_of_getElem? (i := 113) rfl))) (by decide) (t := .long) (t' := (.array .int)) (by decide) (by decide)))
  have F_vms_a1_11 := (F_vms_a1_10).other W11 (Or.inr (slot_ne (Or.inr (hw _ (List.mem_of_getElem? (i := 101) rfl))) (Or.inr (hw _ (List.mem_of_getElem? (i := 113) rfl))) (by decide) (t := (.object "java/util/List")) (t' := (.array .int)) (by decide) (by decide)))
  have F_hostOf_a1_11 := (F_hostOf_a1_10).same W11
  have F_usedCpu_a1_11 := (F_usedCpu_a1_10).other W11 (Or.inr (slot_ne (Or.inl (hw _ (List.mem_of_getElem? (i := 93) rfl))) (Or.inr (hw _ (List.mem_of_getElem? (i := 113) rfl))) (by decide) (t := (.array .long)) (t' := (.array .int)) (by decide) (by decide)))
  have F_usedMem_a1_11 := (F_usedMem_a1_10).other W11 (Or.inr (slot_ne (Or.inl (hw _ (List.mem_of_getElem? (i := 95) rfl))) (Or.inr (hw _ (List.mem_of_getElem? (i := 113) rfl))) (by decide) (t := (.array .long)) (t' := (.array .int)) (by decide) (by decide)))
  have F_count_a1_11 := (F_count_a1_10).other W11 (Or.inr (slot_ne (Or.inl (hw _ (List.mem_of_getElem? (i := 124) rfl))) (Or.inr (hw _ (List.mem_of_getElem? (i := 113) rfl))) (by decide) (t := .int) (t' := (.array .int)) (by decide) (by decide)))
  have E_l1_11 := (E_l1_10).wr W11
  have F_size_l1_11 := (F_size_l1_10).other W11 (Or.inl ne_l1_a1)
  have V_b2_11 := (V_b2_10).other W11 ne_a1_b2.symm
  have V_b4_11 := (V_b4_10).other W11 ne_a1_b4.symm
  have V_b10_11 := (V_b10).other W11 ne_a1_b10.symm
  have Z11 : n0 ≤ h11.size := Nat.le_trans Z10 (Nat.le_of_eq W11.size.symm)
  have K11 := (K10).wr W11 (Or.inl (List.mem_of_getElem? (i := 0) rfl))
  refine own_aloadN X11 own_d12_49 (pc' := 50) rfl rfl rfl ?_
  refine own_getF X11 own_d12_50 (hw _ (List.mem_of_getElem? (i := 112) rfl)) Via.refl F_hostOf_a1_11 (pc' := 53) rfl ?_
  intro T12 X12
  refine own_iconst X12 own_d12_53 (pc' := 54) rfl (v := (-1 : Int32)) (by decide) ?_
  refine own_callS (argsL := [(.ref b10), (.int (-1 : Int32))]) X12 own_d12_54 (y := (⟨"java/util/Arrays", "fill", "([II)V"⟩ : MethodName)) (by decide) (hw _ (List.mem_of_getElem? (i := 114) rfl)) (hw _ (List.mem_of_getElem? (i := 115) rfl)) (hw _ (List.mem_of_getElem? (i := 117) rfl)) (hw _ (List.mem_of_getElem? (i := 116) rfl)) (own_rm14 l Z a0 hw b10 h11 n0 Z11 V_b10_11 g_b10) own_pd8 rfl (S := []) rfl (pc' := 57) rfl rfl (W := 0) (Nat.le_of_eq rfl) (by decide) (by decide) (by decide) (by decide) ?_
  intro T13 h13 v13_ X13 q13_
  obtain ⟨rfl, KK13, FF13q0⟩ := q13_
  show OwnGo p e below (T13.setTop (mkF m 57 #[.val (.ref a1), .val (.long q1), .second, .val (.long q2), .second, .val (.ref l1)] [])) RR
  have Z13 : n0 ≤ h13.size := Nat.le_trans Z11 KK13.1
  have E_a1_13 := (E_a1_11).keep KK13
  have F_hostCpu_a1_13 := (F_hostCpu_a1_11).keep KK13 (ninS ne_a1_b10 nin0)
  have F_hostMem_a1_13 := (F_hostMem_a1_11).keep KK13 (ninS ne_a1_b10 nin0)
  have F_vms_a1_13 := (F_vms_a1_11).keep KK13 (ninS ne_a1_b10 nin0)
  have F_hostOf_a1_13 := (F_hostOf_a1_11).keep KK13 (ninS ne_a1_b10 nin0)
  have F_usedCpu_a1_13 := (F_usedCpu_a1_11).keep KK13 (ninS ne_a1_b10 nin0)
  have F_usedMem_a1_13 := (F_usedMem_a1_11).keep KK13 (ninS ne_a1_b10 nin0)
  have F_count_a1_13 := (F_count_a1_11).keep KK13 (ninS ne_a1_b10 nin0)
  have E_l1_13 := (E_l1_11).keep KK13
  have F_size_l1_13 := (F_size_l1_11).keep KK13 (ninS ne_l1_b10 nin0)
  have V_b2_13 := (V_b2_11).keep KK13 (ninS ne_b2_b10 nin0)
  have V_b4_13 := (V_b4_11).keep KK13 (ninS ne_b4_b10 nin0)
  have K13 := (K11).trans KK13 (allS (Or.inr sz_b10) all0)
  exact own_retV X13 own_d12_57 ⟨b2, b4, b10, rfl, K13, F_hostCpu_a1_13, F_hostMem_a1_13, F_vms_a1_13, F_hostOf_a1_13, F_usedCpu_a1_13, F_usedMem_a1_13, F_count_a1_13, sz_b2, sz_b4, sz_b10, ne_b2_b4, ne_b2_b10, ne_b4_b10, V_b2_13, V_b4_13, FF13q0⟩ (by decide) (by decide)
theorem own_d15_0 : decode prog_11_method_6_code 0 = .ok (.aload_n 0, 1) := by decide +kernel
theorem own_d15_1 : decode prog_11_method_6_code 1 = .ok (.getfield 43, 3) := by decide +kernel
theorem own_d15_4 : decode prog_11_method_6_code 4 = .ok (.aload_n 0, 1) := by decide +kernel
theorem own_d15_5 : decode prog_11_method_6_code 5 = .ok (.getfield 9, 3) := by decide +kernel
theorem own_d15_8 : decode prog_11_method_6_code 8 = .ok (.arraylength, 1) := by decide +kernel
theorem own_d15_9 : decode prog_11_method_6_code 9 = .ok (.if_icmp .ne 37, 3) := by decide +kernel
theorem own_d15_12 : decode prog_11_method_6_code 12 = .ok (.aload_n 0, 1) := by decide +kernel
theorem own_d15_13 : decode prog_11_method_6_code 13 = .ok (.aload_n 0, 1) := by decide +kernel
theorem own_d15_14 : decode prog_11_method_6_code 14 = .ok (.getfield 9, 3) := by decide +kernel
theorem own_d15_17 : decode prog_11_method_6_code 17 = .ok (.aload_n 0, 1) := by decide +kernel
theorem own_d15_18 : decode prog_11_method_6_code 18 = .ok (.getfield 43, 3) := by decide +kernel
theorem own_d15_21 : decode prog_11_method_6_code 21 = .ok (.iconst 2, 1) := by decide +kernel
theorem own_d15_22 : decode prog_11_method_6_code 22 = .ok (.imul, 1) := by decide +kernel
theorem own_d15_23 : decode prog_11_method_6_code 23 = .ok (.invokestatic 47, 3) := by decide +kernel
theorem own_d15_26 : decode prog_11_method_6_code 26 = .ok (.putfield 9, 3) := by decide +kernel
theorem own_d15_29 : decode prog_11_method_6_code 29 = .ok (.aload_n 0, 1) := by decide +kernel
theorem own_d15_30 : decode prog_11_method_6_code 30 = .ok (.aload_n 0, 1) := by decide +kernel
theorem own_d15_31 : decode prog_11_method_6_code 31 = .ok (.getfield 13, 3) := by decide +kernel
theorem own_d15_34 : decode prog_11_method_6_code 34 = .ok (.aload_n 0, 1) := by decide +kernel
theorem own_d15_35 : decode prog_11_method_6_code 35 = .ok (.getfield 43, 3) := by decide +kernel
theorem own_d15_38 : decode prog_11_method_6_code 38 = .ok (.iconst 2, 1) := by decide +kernel
theorem own_d15_39 : decode prog_11_method_6_code 39 = .ok (.imul, 1) := by decide +kernel
theorem own_d15_40 : decode prog_11_method_6_code 40 = .ok (.invokestatic 47, 3) := by decide +kernel
theorem own_d15_43 : decode prog_11_method_6_code 43 = .ok (.putfield 13, 3) := by decide +kernel
theorem own_d15_46 : decode prog_11_method_6_code 46 = .ok (.aload_n 0, 1) := by decide +kernel
theorem own_d15_47 : decode prog_11_method_6_code 47 = .ok (.dup, 1) := by decide +kernel
theorem own_d15_48 : decode prog_11_method_6_code 48 = .ok (.getfield 43, 3) := by decide +kernel
theorem own_d15_51 : decode prog_11_method_6_code 51 = .ok (.dup_x1, 1) := by decide +kernel
theorem own_d15_52 : decode prog_11_method_6_code 52 = .ok (.iconst 1, 1) := by decide +kernel
theorem own_d15_53 : decode prog_11_method_6_code 53 = .ok (.iadd, 1) := by decide +kernel
theorem own_d15_54 : decode prog_11_method_6_code 54 = .ok (.putfield 43, 3) := by decide +kernel
theorem own_d15_57 : decode prog_11_method_6_code 57 = .ok (.ireturn, 1) := by decide +kernel
theorem own_ef15_0 (m : MethodId) (x0 : Addr) : entryFrame m #[(.ref x0)] 1 = mkF m 0 #[.val (.ref x0)] [] := by first | (simp [entryFrame, mkF, argsToLocals, Value.category]; done) | rfl
theorem own_pn15_0 : plainFor (⟨"com/example/packhouse/packhouse/Hosts", "open", "()I"⟩ : MethodName) = true := by first | exact plainFor_of_name (by first | (simp [plainName, overriddenIn]; done) | decide +kernel) | exact Jvm.Free.JP.mathPlain rfl (by decide +kernel)
set_option maxRecDepth 65536 in
set_option maxHeartbeats 40000000 in
theorem own_rm15_0 (l : Launch) (Z : State) (a0 : Array Value) (hw : ∀ d ∈ tables_1, d.before a0 Z = true) (a1 : Addr) (q1 : Int64) (q2 : Int64) (l1 : Addr) (b1 : Addr) (b2 : Addr) (b3 : Addr) (h0 : Heap) (n0 : Nat) (Z0 : n0 ≤ h0.size) (E_a1 : Exa Z h0 a1 "com/example/packhouse/packhouse/Hosts") (F_hostCpu_a1 : Fld Z h0 a1 "com/example/packhouse/packhouse/Hosts" "hostCpu" "J" (.long q1)) (F_hostMem_a1 : Fld Z h0 a1 "com/example/packhouse/packhouse/Hosts" "hostMem" "J" (.long q2)) (F_vms_a1 : Fld Z h0 a1 "com/example/packhouse/packhouse/Hosts" "vms" "Ljava/util/List;" (.ref l1)) (F_hostOf_a1 : Fld Z h0 a1 "com/example/packhouse/packhouse/Hosts" "hostOf" "[I" (.ref b3)) (F_usedCpu_a1 : Fld Z h0 a1 "com/example/packhouse/packhouse/Hosts" "usedCpu" "[J" (.ref b1)) (F_usedMem_a1 : Fld Z h0 a1 "com/example/packhouse/packhouse/Hosts" "usedMem" "[J" (.ref b2)) (F_count_a1 : Fld Z h0 a1 "com/example/packhouse/packhouse/Hosts" "count" "I" (.int (0 : Int32))) (g_a1 : n0 ≤ a1) (V_b1 : OwnAr Z h0 b1 .long [(.long (0 : Int64)), (.long (0 : Int64)), (.long (0 : Int64)), (.long (0 : Int64)), (.long (0 : Int64)), (.long (0 : Int64)), (.long (0 : Int64)), (.long (0 : Int64)), (.long (0 : Int64)), (.long (0 : Int64)), (.long (0 : Int64)), (.long (0 : Int64)), (.long (0 : Int64)), (.long (0 : Int64)), (.long (0 : Int64)), (.long (0 : Int64))]) :
    OwnMet l Z (⟨"com/example/packhouse/packhouse/Hosts", "open", "()I"⟩ : MethodName) prog_11_method_6_code 1 (some .int) ({ frames := 0, cells := 0, slots := 0, locals := 0 } : Room) #[(.ref a1)] h0 n0 (fun v h => v = some (.int (0 : Int32)) ∧ Keep h0 h [a1] ∧ Fld Z h a1 "com/example/packhouse/packhouse/Hosts" "hostCpu" "J" (.long q1) ∧ Fld Z h a1 "com/example/packhouse/packhouse/Hosts" "hostMem" "J" (.long q2) ∧ Fld Z h a1 "com/example/packhouse/packhouse/Hosts" "vms" "Ljava/util/List;" (.ref l1) ∧ Fld Z h a1 "com/example/packhouse/packhouse/Hosts" "hostOf" "[I" (.ref b3) ∧ Fld Z h a1 "com/example/packhouse/packhouse/Hosts" "usedCpu" "[J" (.ref b1) ∧ Fld Z h a1 "com/example/packhouse/packhouse/Hosts" "usedMem" "[J" (.ref b2) ∧ Fld Z h a1 "com/example/packhouse/packhouse/Hosts" "count" "I" (.int (1 : Int32))) := by
  refine own_body own_pn15_0 ?_
  intro p e s m below meth c s₁ RR X0
  refine own_enter (own_ef15_0 m a1) ?_
  refine own_aloadN X0 own_d15_0 (pc' := 1) rfl rfl rfl ?_
  refine own_getF X0 own_d15_1 (hw _ (List.mem_of_getElem? (i := 123) rfl)) Via.refl F_count_a1 (pc' := 4) rfl ?_
  intro T1 X1
  refine own_aloadN X1 own_d15_4 (pc' := 5) rfl rfl rfl ?_
  refine own_getF X1 own_d15_5 (hw _ (List.mem_of_getElem? (i := 92) rfl)) Via.refl F_usedCpu_a1 (pc' := 8) rfl ?_
  intro T2 X2
  refine own_arraylength X2 own_d15_8 V_b1 (n := (16 : Int32)) rfl (pc' := 9) rfl ?_
  refine own_icY X2 own_d15_9 (feq ((by decide : ¬ ((0 : Int32) = (16 : Int32))))).2 (pc' := 46) (by decide) (by decide) ?_
  refine own_aloadN X2 own_d15_46 (pc' := 47) rfl rfl rfl ?_
  refine own_dup X2 own_d15_47 (pc' := 48) rfl rfl ?_
  refine own_getF X2 own_d15_48 (hw _ (List.mem_of_getElem? (i := 123) rfl)) Via.refl F_count_a1 (pc' := 51) rfl ?_
  intro T3 X3
  refine own_dup_x1 X3 own_d15_51 (pc' := 52) rfl rfl rfl ?_
  refine own_iconst X3 own_d15_52 (pc' := 53) rfl (v := (1 : Int32)) (by decide) ?_
  refine own_iadd X3 own_d15_53 (pc' := 54) rfl ?_
  show OwnGo p e below (T3.setTop (mkF m 54 #[.val (.ref a1)] [(.int (1 : Int32)), (.ref a1), (.int (0 : Int32))])) RR
  refine own_putF X3 own_d15_54 (hw _ (List.mem_of_getElem? (i := 123) rfl)) Via.refl F_count_a1 E_a1 (Or.inl (hw _ (List.mem_of_getElem? (i := 124) rfl))) (hw _ (List.mem_of_getElem? (i := 85) rfl)) (ty := .int) (v' := (.int (1 : Int32))) (by decide) rfl rfl g_a1 (pc' := 57) rfl ?_
  intro T4 h4 X4 W4
  have E_a1_4 := (E_a1).wr W4
  have F_hostCpu_a1_4 := (F_hostCpu_a1).other W4 (Or.inr (slot_ne (Or.inr (hw _ (List.mem_of_getElem? (i := 97) rfl))) (Or.inl (hw _ (List.mem_of_getElem? (i := 124) rfl))) (by decide) (t := .long) (t' := .int) (by decide) (by decide)))
  have F_hostMem_a1_4 := (F_hostMem_a1).other W4 (Or.inr (slot_ne (Or.inr (hw _ (List.mem_of_getElem? (i := 99) rfl))) (Or.inl (hw _ (List.mem_of_getElem? (i := 124) rfl))) (by decide) (t := .long) (t' := .int) (by decide) (by decide)))
  have F_vms_a1_4 := (F_vms_a1).other W4 (Or.inr (slot_ne (Or.inr (hw _ (List.mem_of_getElem? (i := 101) rfl))) (Or.inl (hw _ (List.mem_of_getElem? (i := 124) rfl))) (by decide) (t := (.object "java/util/List")) (t' := .int) (by decide) (by decide)))
  have F_hostOf_a1_4 := (F_hostOf_a1).other W4 (Or.inr (slot_ne (Or.inr (hw _ (List.mem_of_getElem? (i := 113) rfl))) (Or.inl (hw _ (List.mem_of_getElem? (i := 124) rfl))) (by decide) (t := (.array .int)) (t' := .int) (by decide) (by decide)))
  have F_usedCpu_a1_4 := (F_usedCpu_a1).other W4 (Or.inr (slot_ne (Or.inl (hw _ (List.mem_of_getElem? (i := 93) rfl))) (Or.inl (hw _ (List.mem_of_getElem? (i := 124) rfl))) (by decide) (t := (.array .long)) (t' := .int) (by decide) (by decide)))
  have F_usedMem_a1_4 := (F_usedMem_a1).other W4 (Or.inr (slot_ne (Or.inl (hw _ (List.mem_of_getElem? (i := 95) rfl))) (Or.inl (hw _ (List.mem_of_getElem? (i := 124) rfl))) (by decide) (t := (.array .long)) (t' := .int) (by decide) (by decide)))
  have F_count_a1_4 := (F_count_a1).same W4
  have Z4 : n0 ≤ h4.size := Nat.le_trans Z0 (Nat.le_of_eq W4.size.symm)
  have K4 := ((Keep.refl h0 [a1])).wr W4 (Or.inl (List.mem_of_getElem? (i := 0) rfl))
  exact own_retI X4 own_d15_57 ⟨rfl, K4, F_hostCpu_a1_4, F_hostMem_a1_4, F_vms_a1_4, F_hostOf_a1_4, F_usedCpu_a1_4, F_usedMem_a1_4, F_count_a1_4⟩ (by decide) (by decide)
theorem own_ef15_1 (m : MethodId) (x0 : Addr) : entryFrame m #[(.ref x0)] 1 = mkF m 0 #[.val (.ref x0)] [] := by first | (simp [entryFrame, mkF, argsToLocals, Value.category]; done) | rfl
theorem own_pn15_1 : plainFor (⟨"com/example/packhouse/packhouse/Hosts", "open", "()I"⟩ : MethodName) = true := by first | exact plainFor_of_name (by first | (simp [plainName, overriddenIn]; done) | decide +kernel) | exact Jvm.Free.JP.mathPlain rfl (by decide +kernel)
set_option maxRecDepth 65536 in
set_option maxHeartbeats 40000000 in
theorem own_rm15_1 (l : Launch) (Z : State) (a0 : Array Value) (hw : ∀ d ∈ tables_1, d.before a0 Z = true) (a1 : Addr) (q1 : Int64) (q2 : Int64) (l1 : Addr) (b1 : Addr) (b2 : Addr) (b3 : Addr) (h0 : Heap) (n0 : Nat) (Z0 : n0 ≤ h0.size) (E_a1 : Exa Z h0 a1 "com/example/packhouse/packhouse/Hosts") (F_hostCpu_a1 : Fld Z h0 a1 "com/example/packhouse/packhouse/Hosts" "hostCpu" "J" (.long q1)) (F_hostMem_a1 : Fld Z h0 a1 "com/example/packhouse/packhouse/Hosts" "hostMem" "J" (.long q2)) (F_vms_a1 : Fld Z h0 a1 "com/example/packhouse/packhouse/Hosts" "vms" "Ljava/util/List;" (.ref l1)) (F_hostOf_a1 : Fld Z h0 a1 "com/example/packhouse/packhouse/Hosts" "hostOf" "[I" (.ref b3)) (F_usedCpu_a1 : Fld Z h0 a1 "com/example/packhouse/packhouse/Hosts" "usedCpu" "[J" (.ref b1)) (F_usedMem_a1 : Fld Z h0 a1 "com/example/packhouse/packhouse/Hosts" "usedMem" "[J" (.ref b2)) (F_count_a1 : Fld Z h0 a1 "com/example/packhouse/packhouse/Hosts" "count" "I" (.int (1 : Int32))) (g_a1 : n0 ≤ a1) (V_b1 : OwnAr Z h0 b1 .long [(.long (0 : Int64)), (.long (0 : Int64)), (.long (0 : Int64)), (.long (0 : Int64)), (.long (0 : Int64)), (.long (0 : Int64)), (.long (0 : Int64)), (.long (0 : Int64)), (.long (0 : Int64)), (.long (0 : Int64)), (.long (0 : Int64)), (.long (0 : Int64)), (.long (0 : Int64)), (.long (0 : Int64)), (.long (0 : Int64)), (.long (0 : Int64))]) :
    OwnMet l Z (⟨"com/example/packhouse/packhouse/Hosts", "open", "()I"⟩ : MethodName) prog_11_method_6_code 1 (some .int) ({ frames := 0, cells := 0, slots := 0, locals := 0 } : Room) #[(.ref a1)] h0 n0 (fun v h => v = some (.int (1 : Int32)) ∧ Keep h0 h [a1] ∧ Fld Z h a1 "com/example/packhouse/packhouse/Hosts" "hostCpu" "J" (.long q1) ∧ Fld Z h a1 "com/example/packhouse/packhouse/Hosts" "hostMem" "J" (.long q2) ∧ Fld Z h a1 "com/example/packhouse/packhouse/Hosts" "vms" "Ljava/util/List;" (.ref l1) ∧ Fld Z h a1 "com/example/packhouse/packhouse/Hosts" "hostOf" "[I" (.ref b3) ∧ Fld Z h a1 "com/example/packhouse/packhouse/Hosts" "usedCpu" "[J" (.ref b1) ∧ Fld Z h a1 "com/example/packhouse/packhouse/Hosts" "usedMem" "[J" (.ref b2) ∧ Fld Z h a1 "com/example/packhouse/packhouse/Hosts" "count" "I" (.int (2 : Int32))) := by
  refine own_body own_pn15_1 ?_
  intro p e s m below meth c s₁ RR X0
  refine own_enter (own_ef15_1 m a1) ?_
  refine own_aloadN X0 own_d15_0 (pc' := 1) rfl rfl rfl ?_
  refine own_getF X0 own_d15_1 (hw _ (List.mem_of_getElem? (i := 123) rfl)) Via.refl F_count_a1 (pc' := 4) rfl ?_
  intro T1 X1
  refine own_aloadN X1 own_d15_4 (pc' := 5) rfl rfl rfl ?_
  refine own_getF X1 own_d15_5 (hw _ (List.mem_of_getElem? (i := 92) rfl)) Via.refl F_usedCpu_a1 (pc' := 8) rfl ?_
  intro T2 X2
  refine own_arraylength X2 own_d15_8 V_b1 (n := (16 : Int32)) rfl (pc' := 9) rfl ?_
  refine own_icY X2 own_d15_9 (feq ((by decide : ¬ ((1 : Int32) = (16 : Int32))))).2 (pc' := 46) (by decide) (by decide) ?_
  refine own_aloadN X2 own_d15_46 (pc' := 47) rfl rfl rfl ?_
  refine own_dup X2 own_d15_47 (pc' := 48) rfl rfl ?_
  refine own_getF X2 own_d15_48 (hw _ (List.mem_of_getElem? (i := 123) rfl)) Via.refl F_count_a1 (pc' := 51) rfl ?_
  intro T3 X3
  refine own_dup_x1 X3 own_d15_51 (pc' := 52) rfl rfl rfl ?_
  refine own_iconst X3 own_d15_52 (pc' := 53) rfl (v := (1 : Int32)) (by decide) ?_
  refine own_iadd X3 own_d15_53 (pc' := 54) rfl ?_
  show OwnGo p e below (T3.setTop (mkF m 54 #[.val (.ref a1)] [(.int (2 : Int32)), (.ref a1), (.int (1 : Int32))])) RR
  refine own_putF X3 own_d15_54 (hw _ (List.mem_of_getElem? (i := 123) rfl)) Via.refl F_count_a1 E_a1 (Or.inl (hw _ (List.mem_of_getElem? (i := 124) rfl))) (hw _ (List.mem_of_getElem? (i := 85) rfl)) (ty := .int) (v' := (.int (2 : Int32))) (by decide) rfl rfl g_a1 (pc' := 57) rfl ?_
  intro T4 h4 X4 W4
  have E_a1_4 := (E_a1).wr W4
  have F_hostCpu_a1_4 := (F_hostCpu_a1).other W4 (Or.inr (slot_ne (Or.inr (hw _ (List.mem_of_getElem? (i := 97) rfl))) (Or.inl (hw _ (List.mem_of_getElem? (i := 124) rfl))) (by decide) (t := .long) (t' := .int) (by decide) (by decide)))
  have F_hostMem_a1_4 := (F_hostMem_a1).other W4 (Or.inr (slot_ne (Or.inr (hw _ (List.mem_of_getElem? (i := 99) rfl))) (Or.inl (hw _ (List.mem_of_getElem? (i := 124) rfl))) (by decide) (t := .long) (t' := .int) (by decide) (by decide)))
  have F_vms_a1_4 := (F_vms_a1).other W4 (Or.inr (slot_ne (Or.inr (hw _ (List.mem_of_getElem? (i := 101) rfl))) (Or.inl (hw _ (List.mem_of_getElem? (i := 124) rfl))) (by decide) (t := (.object "java/util/List")) (t' := .int) (by decide) (by decide)))
  have F_hostOf_a1_4 := (F_hostOf_a1).other W4 (Or.inr (slot_ne (Or.inr (hw _ (List.mem_of_getElem? (i := 113) rfl))) (Or.inl (hw _ (List.mem_of_getElem? (i := 124) rfl))) (by decide) (t := (.array .int)) (t' := .int) (by decide) (by decide)))
  have F_usedCpu_a1_4 := (F_usedCpu_a1).other W4 (Or.inr (slot_ne (Or.inl (hw _ (List.mem_of_getElem? (i := 93) rfl))) (Or.inl (hw _ (List.mem_of_getElem? (i := 124) rfl))) (by decide) (t := (.array .long)) (t' := .int) (by decide) (by decide)))
  have F_usedMem_a1_4 := (F_usedMem_a1).other W4 (Or.inr (slot_ne (Or.inl (hw _ (List.mem_of_getElem? (i := 95) rfl))) (Or.inl (hw _ (List.mem_of_getElem? (i := 124) rfl))) (by decide) (t := (.array .long)) (t' := .int) (by decide) (by decide)))
  have F_count_a1_4 := (F_count_a1).same W4
  have Z4 : n0 ≤ h4.size := Nat.le_trans Z0 (Nat.le_of_eq W4.size.symm)
  have K4 := ((Keep.refl h0 [a1])).wr W4 (Or.inl (List.mem_of_getElem? (i := 0) rfl))
  exact own_retI X4 own_d15_57 ⟨rfl, K4, F_hostCpu_a1_4, F_hostMem_a1_4, F_vms_a1_4, F_hostOf_a1_4, F_usedCpu_a1_4, F_usedMem_a1_4, F_count_a1_4⟩ (by decide) (by decide)
theorem own_d16_0 : decode prog_11_method_7_code 0 = .ok (.lload_n 2, 1) := by decide +kernel
theorem own_d16_1 : decode prog_11_method_7_code 1 = .ok (.aload_n 0, 1) := by decide +kernel
theorem own_d16_2 : decode prog_11_method_7_code 2 = .ok (.getfield 16, 3) := by decide +kernel
theorem own_d16_5 : decode prog_11_method_7_code 5 = .ok (.aload_n 0, 1) := by decide +kernel
theorem own_d16_6 : decode prog_11_method_7_code 6 = .ok (.getfield 9, 3) := by decide +kernel
theorem own_d16_9 : decode prog_11_method_7_code 9 = .ok (.iload_n 1, 1) := by decide +kernel
theorem own_d16_10 : decode prog_11_method_7_code 10 = .ok (.laload, 1) := by decide +kernel
theorem own_d16_11 : decode prog_11_method_7_code 11 = .ok (.lsub, 1) := by decide +kernel
theorem own_d16_12 : decode prog_11_method_7_code 12 = .ok (.lcmp, 1) := by decide +kernel
theorem own_d16_13 : decode prog_11_method_7_code 13 = .ok (.ifCond .gt 24, 3) := by decide +kernel
theorem own_d16_16 : decode prog_11_method_7_code 16 = .ok (.lload 4, 2) := by decide +kernel
theorem own_d16_18 : decode prog_11_method_7_code 18 = .ok (.aload_n 0, 1) := by decide +kernel
theorem own_d16_19 : decode prog_11_method_7_code 19 = .ok (.getfield 20, 3) := by decide +kernel
theorem own_d16_22 : decode prog_11_method_7_code 22 = .ok (.aload_n 0, 1) := by decide +kernel
theorem own_d16_23 : decode prog_11_method_7_code 23 = .ok (.getfield 13, 3) := by decide +kernel
theorem own_d16_26 : decode prog_11_method_7_code 26 = .ok (.iload_n 1, 1) := by decide +kernel
theorem own_d16_27 : decode prog_11_method_7_code 27 = .ok (.laload, 1) := by decide +kernel
theorem own_d16_28 : decode prog_11_method_7_code 28 = .ok (.lsub, 1) := by decide +kernel
theorem own_d16_29 : decode prog_11_method_7_code 29 = .ok (.lcmp, 1) := by decide +kernel
theorem own_d16_30 : decode prog_11_method_7_code 30 = .ok (.ifCond .gt 7, 3) := by decide +kernel
theorem own_d16_33 : decode prog_11_method_7_code 33 = .ok (.iconst 1, 1) := by decide +kernel
theorem own_d16_34 : decode prog_11_method_7_code 34 = .ok (.goto 4, 3) := by decide +kernel
theorem own_d16_37 : decode prog_11_method_7_code 37 = .ok (.iconst 0, 1) := by decide +kernel
theorem own_d16_38 : decode prog_11_method_7_code 38 = .ok (.ireturn, 1) := by decide +kernel
theorem own_ef16_0 (m : MethodId) (x0 : Addr) (x1 : Int32) (x2 : Int64) (x3 : Int64) : entryFrame m #[(.ref x0), (.int x1), (.long x2), (.long x3)] 6 = mkF m 0 #[.val (.ref x0), .val (.int x1), .val (.long x2), .second, .val (.long x3), .second] [] := by first | (simp [entryFrame, mkF, argsToLocals, Value.category]; done) | rfl
theorem own_pn16_0 : plainFor (⟨"com/example/packhouse/packhouse/Hosts", "fits", "(IJJ)Z"⟩ : MethodName) = true := by first | exact plainFor_of_name (by first | (simp [plainName, overriddenIn]; done) | decide +kernel) | exact Jvm.Free.JP.mathPlain rfl (by decide +kernel)
set_option maxRecDepth 65536 in
set_option maxHeartbeats 40000000 in
theorem own_rm16_0 (l : Launch) (Z : State) (a0 : Array Value) (hw : ∀ d ∈ tables_1, d.before a0 Z = true) (a1 : Addr) (q1 : Int64) (q2 : Int64) (b1 : Addr) (b2 : Addr) (u0 : Int64) (u1 : Int64) (t0 : Int64) (t1 : Int64) (q : Int64) (r : Int64) (h0 : Heap) (n0 : Nat) (Z0 : n0 ≤ h0.size) (F_hostCpu_a1 : Fld Z h0 a1 "com/example/packhouse/packhouse/Hosts" "hostCpu" "J" (.long q1)) (F_hostMem_a1 : Fld Z h0 a1 "com/example/packhouse/packhouse/Hosts" "hostMem" "J" (.long q2)) (F_usedCpu_a1 : Fld Z h0 a1 "com/example/packhouse/packhouse/Hosts" "usedCpu" "[J" (.ref b1)) (F_usedMem_a1 : Fld Z h0 a1 "com/example/packhouse/packhouse/Hosts" "usedMem" "[J" (.ref b2)) (V_b1 : OwnAr Z h0 b1 .long [(.long u0), (.long u1), (.long (0 : Int64)), (.long (0 : Int64)), (.long (0 : Int64)), (.long (0 : Int64)), (.long (0 : Int64)), (.long (0 : Int64)), (.long (0 : Int64)), (.long (0 : Int64)), (.long (0 : Int64)), (.long (0 : Int64)), (.long (0 : Int64)), (.long (0 : Int64)), (.long (0 : Int64)), (.long (0 : Int64))]) (V_b2 : OwnAr Z h0 b2 .long [(.long t0), (.long t1), (.long (0 : Int64)), (.long (0 : Int64)), (.long (0 : Int64)), (.long (0 : Int64)), (.long (0 : Int64)), (.long (0 : Int64)), (.long (0 : Int64)), (.long (0 : Int64)), (.long (0 : Int64)), (.long (0 : Int64)), (.long (0 : Int64)), (.long (0 : Int64)), (.long (0 : Int64)), (.long (0 : Int64))]) :
    OwnMet l Z (⟨"com/example/packhouse/packhouse/Hosts", "fits", "(IJJ)Z"⟩ : MethodName) prog_11_method_7_code 6 (some .boolean) ({ frames := 0, cells := 0, slots := 0, locals := 0 } : Room) #[(.ref a1), (.int (0 : Int32)), (.long q), (.long r)] h0 n0 (fun v h => v = some (.int (if (q1 - u0) < q then (0 : Int32) else (if (q2 - t0) < r then (0 : Int32) else (1 : Int32)))) ∧ h0 = h) := by
  refine own_body own_pn16_0 ?_
  intro p e s m below meth c s₁ RR X0
  refine own_enter (own_ef16_0 m a1 (0 : Int32) q r) ?_
  refine own_lloadN X0 own_d16_0 (pc' := 1) rfl rfl ?_
  refine own_aloadN X0 own_d16_1 (pc' := 2) rfl rfl rfl ?_
  refine own_getF X0 own_d16_2 (hw _ (List.mem_of_getElem? (i := 96) rfl)) Via.refl F_hostCpu_a1 (pc' := 5) rfl ?_
  intro T1 X1
  refine own_aloadN X1 own_d16_5 (pc' := 6) rfl rfl rfl ?_
  refine own_getF X1 own_d16_6 (hw _ (List.mem_of_getElem? (i := 92) rfl)) Via.refl F_usedCpu_a1 (pc' := 9) rfl ?_
  intro T2 X2
  refine own_iloadN X2 own_d16_9 (pc' := 10) rfl rfl ?_
  refine own_laload X2 own_d16_10 V_b1 (by decide) (v := (.long u0)) rfl (pc' := 11) rfl ?_
  refine own_lsub X2 own_d16_11 (pc' := 12) rfl ?_
  have j38_3 : ∀ T3, OwnAt X2 T3 → ∀ (f38_s0 : Int32), f38_s0 = (if (q1 - u0) < q then (0 : Int32) else (if (q2 - t0) < r then (0 : Int32) else (1 : Int32))) → OwnGo p e below (T3.setTop (mkF m 38 #[.val (.ref a1), .val (.int (0 : Int32)), .val (.long q), .second, .val (.long r), .second] [(.int f38_s0)])) RR := by
    intro T3 X3 f38_s0 hf38_s0
    exact own_retZ X3 own_d16_38 (by rw [hf38_s0]; (repeat' split) <;> decide) ⟨by rw [hf38_s0], rfl⟩ (by decide) (by decide)
  by_cases hc13 : (q1 - u0) < q
  · refine own_ljY X2 own_d16_12 own_d16_13 (own_tltL (hc13)).2.2.1 (pc' := 37) (by decide) (by decide) ?_
    refine own_iconst X2 own_d16_37 (pc' := 38) rfl (v := (0 : Int32)) (by decide) ?_
    exact j38_3 T2 X2 _ (by rw [if_pos hc13])
  · refine own_ljN X2 own_d16_12 own_d16_13 (own_fltL (hc13)).2.2.1 (pc' := 16) rfl ?_
    refine own_lload X2 own_d16_16 (pc' := 18) rfl rfl ?_
    refine own_aloadN X2 own_d16_18 (pc' := 19) rfl rfl rfl ?_
    refine own_getF X2 own_d16_19 (hw _ (List.mem_of_getElem? (i := 98) rfl)) Via.refl F_hostMem_a1 (pc' := 22) rfl ?_
    intro T4 X4
    refine own_aloadN X4 own_d16_22 (pc' := 23) rfl rfl rfl ?_
    refine own_getF X4 own_d16_23 (hw _ (List.mem_of_getElem? (i := 94) rfl)) Via.refl F_usedMem_a1 (pc' := 26) rfl ?_
    intro T5 X5
    refine own_iloadN X5 own_d16_26 (pc' := 27) rfl rfl ?_
    refine own_laload X5 own_d16_27 V_b2 (by decide) (v := (.long t0)) rfl (pc' := 28) rfl ?_
    refine own_lsub X5 own_d16_28 (pc' := 29) rfl ?_
    by_cases hc30 : (q2 - t0) < r
    · refine own_ljY X5 own_d16_29 own_d16_30 (own_tltL (hc30)).2.2.1 (pc' := 37) (by decide) (by decide) ?_
      refine own_iconst X5 own_d16_37 (pc' := 38) rfl (v := (0 : Int32)) (by decide) ?_
      exact j38_3 T5 X5 _ (by rw [if_neg hc13, if_pos hc30])
    · refine own_ljN X5 own_d16_29 own_d16_30 (own_fltL (hc30)).2.2.1 (pc' := 33) rfl ?_
      refine own_iconst X5 own_d16_33 (pc' := 34) rfl (v := (1 : Int32)) (by decide) ?_
      refine own_goto X5 own_d16_34 (pc' := 38) (by decide) (by decide) ?_
      exact j38_3 T5 X5 _ (by rw [if_neg hc13, if_neg hc30])
theorem own_ef16_1 (m : MethodId) (x0 : Addr) (x1 : Int32) (x2 : Int64) (x3 : Int64) : entryFrame m #[(.ref x0), (.int x1), (.long x2), (.long x3)] 6 = mkF m 0 #[.val (.ref x0), .val (.int x1), .val (.long x2), .second, .val (.long x3), .second] [] := by first | (simp [entryFrame, mkF, argsToLocals, Value.category]; done) | rfl
theorem own_pn16_1 : plainFor (⟨"com/example/packhouse/packhouse/Hosts", "fits", "(IJJ)Z"⟩ : MethodName) = true := by first | exact plainFor_of_name (by first | (simp [plainName, overriddenIn]; done) | decide +kernel) | exact Jvm.Free.JP.mathPlain rfl (by decide +kernel)
set_option maxRecDepth 65536 in
set_option maxHeartbeats 40000000 in
theorem own_rm16_1 (l : Launch) (Z : State) (a0 : Array Value) (hw : ∀ d ∈ tables_1, d.before a0 Z = true) (a1 : Addr) (q1 : Int64) (q2 : Int64) (b1 : Addr) (b2 : Addr) (u0 : Int64) (u1 : Int64) (t0 : Int64) (t1 : Int64) (q : Int64) (r : Int64) (h0 : Heap) (n0 : Nat) (Z0 : n0 ≤ h0.size) (F_hostCpu_a1 : Fld Z h0 a1 "com/example/packhouse/packhouse/Hosts" "hostCpu" "J" (.long q1)) (F_hostMem_a1 : Fld Z h0 a1 "com/example/packhouse/packhouse/Hosts" "hostMem" "J" (.long q2)) (F_usedCpu_a1 : Fld Z h0 a1 "com/example/packhouse/packhouse/Hosts" "usedCpu" "[J" (.ref b1)) (F_usedMem_a1 : Fld Z h0 a1 "com/example/packhouse/packhouse/Hosts" "usedMem" "[J" (.ref b2)) (V_b1 : OwnAr Z h0 b1 .long [(.long u0), (.long u1), (.long (0 : Int64)), (.long (0 : Int64)), (.long (0 : Int64)), (.long (0 : Int64)), (.long (0 : Int64)), (.long (0 : Int64)), (.long (0 : Int64)), (.long (0 : Int64)), (.long (0 : Int64)), (.long (0 : Int64)), (.long (0 : Int64)), (.long (0 : Int64)), (.long (0 : Int64)), (.long (0 : Int64))]) (V_b2 : OwnAr Z h0 b2 .long [(.long t0), (.long t1), (.long (0 : Int64)), (.long (0 : Int64)), (.long (0 : Int64)), (.long (0 : Int64)), (.long (0 : Int64)), (.long (0 : Int64)), (.long (0 : Int64)), (.long (0 : Int64)), (.long (0 : Int64)), (.long (0 : Int64)), (.long (0 : Int64)), (.long (0 : Int64)), (.long (0 : Int64)), (.long (0 : Int64))]) :
    OwnMet l Z (⟨"com/example/packhouse/packhouse/Hosts", "fits", "(IJJ)Z"⟩ : MethodName) prog_11_method_7_code 6 (some .boolean) ({ frames := 0, cells := 0, slots := 0, locals := 0 } : Room) #[(.ref a1), (.int (1 : Int32)), (.long q), (.long r)] h0 n0 (fun v h => v = some (.int (if (q1 - u1) < q then (0 : Int32) else (if (q2 - t1) < r then (0 : Int32) else (1 : Int32)))) ∧ h0 = h) := by
  refine own_body own_pn16_1 ?_
  intro p e s m below meth c s₁ RR X0
  refine own_enter (own_ef16_1 m a1 (1 : Int32) q r) ?_
  refine own_lloadN X0 own_d16_0 (pc' := 1) rfl rfl ?_
  refine own_aloadN X0 own_d16_1 (pc' := 2) rfl rfl rfl ?_
  refine own_getF X0 own_d16_2 (hw _ (List.mem_of_getElem? (i := 96) rfl)) Via.refl F_hostCpu_a1 (pc' := 5) rfl ?_
  intro T1 X1
  refine own_aloadN X1 own_d16_5 (pc' := 6) rfl rfl rfl ?_
  refine own_getF X1 own_d16_6 (hw _ (List.mem_of_getElem? (i := 92) rfl)) Via.refl F_usedCpu_a1 (pc' := 9) rfl ?_
  intro T2 X2
  refine own_iloadN X2 own_d16_9 (pc' := 10) rfl rfl ?_
  refine own_laload X2 own_d16_10 V_b1 (by decide) (v := (.long u1)) rfl (pc' := 11) rfl ?_
  refine own_lsub X2 own_d16_11 (pc' := 12) rfl ?_
  have j38_3 : ∀ T3, OwnAt X2 T3 → ∀ (f38_s0 : Int32), f38_s0 = (if (q1 - u1) < q then (0 : Int32) else (if (q2 - t1) < r then (0 : Int32) else (1 : Int32))) → OwnGo p e below (T3.setTop (mkF m 38 #[.val (.ref a1), .val (.int (1 : Int32)), .val (.long q), .second, .val (.long r), .second] [(.int f38_s0)])) RR := by
    intro T3 X3 f38_s0 hf38_s0
    exact own_retZ X3 own_d16_38 (by rw [hf38_s0]; (repeat' split) <;> decide) ⟨by rw [hf38_s0], rfl⟩ (by decide) (by decide)
  by_cases hc13 : (q1 - u1) < q
  · refine own_ljY X2 own_d16_12 own_d16_13 (own_tltL (hc13)).2.2.1 (pc' := 37) (by decide) (by decide) ?_
    refine own_iconst X2 own_d16_37 (pc' := 38) rfl (v := (0 : Int32)) (by decide) ?_
    exact j38_3 T2 X2 _ (by rw [if_pos hc13])
  · refine own_ljN X2 own_d16_12 own_d16_13 (own_fltL (hc13)).2.2.1 (pc' := 16) rfl ?_
    refine own_lload X2 own_d16_16 (pc' := 18) rfl rfl ?_
    refine own_aloadN X2 own_d16_18 (pc' := 19) rfl rfl rfl ?_
    refine own_getF X2 own_d16_19 (hw _ (List.mem_of_getElem? (i := 98) rfl)) Via.refl F_hostMem_a1 (pc' := 22) rfl ?_
    intro T4 X4
    refine own_aloadN X4 own_d16_22 (pc' := 23) rfl rfl rfl ?_
    refine own_getF X4 own_d16_23 (hw _ (List.mem_of_getElem? (i := 94) rfl)) Via.refl F_usedMem_a1 (pc' := 26) rfl ?_
    intro T5 X5
    refine own_iloadN X5 own_d16_26 (pc' := 27) rfl rfl ?_
    refine own_laload X5 own_d16_27 V_b2 (by decide) (v := (.long t1)) rfl (pc' := 28) rfl ?_
    refine own_lsub X5 own_d16_28 (pc' := 29) rfl ?_
    by_cases hc30 : (q2 - t1) < r
    · refine own_ljY X5 own_d16_29 own_d16_30 (own_tltL (hc30)).2.2.1 (pc' := 37) (by decide) (by decide) ?_
      refine own_iconst X5 own_d16_37 (pc' := 38) rfl (v := (0 : Int32)) (by decide) ?_
      exact j38_3 T5 X5 _ (by rw [if_neg hc13, if_pos hc30])
    · refine own_ljN X5 own_d16_29 own_d16_30 (own_fltL (hc30)).2.2.1 (pc' := 33) rfl ?_
      refine own_iconst X5 own_d16_33 (pc' := 34) rfl (v := (1 : Int32)) (by decide) ?_
      refine own_goto X5 own_d16_34 (pc' := 38) (by decide) (by decide) ?_
      exact j38_3 T5 X5 _ (by rw [if_neg hc13, if_neg hc30])
theorem own_pd9 : parseMethodDescriptor "()J" = some ⟨[], some .long⟩ := by decide +kernel
theorem own_pd10 : parseMethodDescriptor "(IJJ)Z" = some ⟨[.int, .long, .long], some .boolean⟩ := by decide +kernel
theorem own_d17_0 : decode prog_11_method_10_code 0 = .ok (.aload_n 0, 1) := by decide +kernel
theorem own_d17_1 : decode prog_11_method_10_code 1 = .ok (.getfield 23, 3) := by decide +kernel
theorem own_d17_4 : decode prog_11_method_10_code 4 = .ok (.iload_n 2, 1) := by decide +kernel
theorem own_d17_5 : decode prog_11_method_10_code 5 = .ok (.invokeinterface 51 2, 5) := by decide +kernel
theorem own_d17_10 : decode prog_11_method_10_code 10 = .ok (.checkcast 55, 3) := by decide +kernel
theorem own_d17_13 : decode prog_11_method_10_code 13 = .ok (.astore_n 3, 1) := by decide +kernel
theorem own_d17_14 : decode prog_11_method_10_code 14 = .ok (.aload_n 0, 1) := by decide +kernel
theorem own_d17_15 : decode prog_11_method_10_code 15 = .ok (.getfield 33, 3) := by decide +kernel
theorem own_d17_18 : decode prog_11_method_10_code 18 = .ok (.iload_n 2, 1) := by decide +kernel
theorem own_d17_19 : decode prog_11_method_10_code 19 = .ok (.iaload, 1) := by decide +kernel
theorem own_d17_20 : decode prog_11_method_10_code 20 = .ok (.iconst (-1), 1) := by decide +kernel
theorem own_d17_21 : decode prog_11_method_10_code 21 = .ok (.if_icmp .ne 19, 3) := by decide +kernel
theorem own_d17_24 : decode prog_11_method_10_code 24 = .ok (.aload_n 0, 1) := by decide +kernel
theorem own_d17_25 : decode prog_11_method_10_code 25 = .ok (.iload_n 1, 1) := by decide +kernel
theorem own_d17_26 : decode prog_11_method_10_code 26 = .ok (.aload_n 3, 1) := by decide +kernel
theorem own_d17_27 : decode prog_11_method_10_code 27 = .ok (.invokevirtual 57, 3) := by decide +kernel
theorem own_d17_30 : decode prog_11_method_10_code 30 = .ok (.aload_n 3, 1) := by decide +kernel
theorem own_d17_31 : decode prog_11_method_10_code 31 = .ok (.invokevirtual 61, 3) := by decide +kernel
theorem own_d17_34 : decode prog_11_method_10_code 34 = .ok (.invokevirtual 64, 3) := by decide +kernel
theorem own_d17_37 : decode prog_11_method_10_code 37 = .ok (.ifCond .ne 21, 3) := by decide +kernel
theorem own_d17_40 : decode prog_11_method_10_code 40 = .ok (.new 68, 3) := by decide +kernel
theorem own_d17_43 : decode prog_11_method_10_code 43 = .ok (.dup, 1) := by decide +kernel
theorem own_d17_44 : decode prog_11_method_10_code 44 = .ok (.aload_n 3, 1) := by decide +kernel
theorem own_d17_45 : decode prog_11_method_10_code 45 = .ok (.invokevirtual 70, 3) := by decide +kernel
theorem own_d17_48 : decode prog_11_method_10_code 48 = .ok (.iload_n 1, 1) := by decide +kernel
theorem own_d17_49 : decode prog_11_method_10_code 49 = .ok (.invokedynamic 74, 5) := by decide +kernel
theorem own_d17_54 : decode prog_11_method_10_code 54 = .ok (.invokespecial 78, 3) := by decide +kernel
theorem own_d17_57 : decode prog_11_method_10_code 57 = .ok (.athrow, 1) := by decide +kernel
theorem own_d17_58 : decode prog_11_method_10_code 58 = .ok (.aload_n 0, 1) := by decide +kernel
theorem own_d17_59 : decode prog_11_method_10_code 59 = .ok (.getfield 9, 3) := by decide +kernel
theorem own_d17_62 : decode prog_11_method_10_code 62 = .ok (.iload_n 1, 1) := by decide +kernel
theorem own_d17_63 : decode prog_11_method_10_code 63 = .ok (.dup2, 1) := by decide +kernel
theorem own_d17_64 : decode prog_11_method_10_code 64 = .ok (.laload, 1) := by decide +kernel
theorem own_d17_65 : decode prog_11_method_10_code 65 = .ok (.aload_n 3, 1) := by decide +kernel
theorem own_d17_66 : decode prog_11_method_10_code 66 = .ok (.invokevirtual 57, 3) := by decide +kernel
theorem own_d17_69 : decode prog_11_method_10_code 69 = .ok (.ladd, 1) := by decide +kernel
theorem own_d17_70 : decode prog_11_method_10_code 70 = .ok (.lastore, 1) := by decide +kernel
theorem own_d17_71 : decode prog_11_method_10_code 71 = .ok (.aload_n 0, 1) := by decide +kernel
theorem own_d17_72 : decode prog_11_method_10_code 72 = .ok (.getfield 13, 3) := by decide +kernel
theorem own_d17_75 : decode prog_11_method_10_code 75 = .ok (.iload_n 1, 1) := by decide +kernel
theorem own_d17_76 : decode prog_11_method_10_code 76 = .ok (.dup2, 1) := by decide +kernel
theorem own_d17_77 : decode prog_11_method_10_code 77 = .ok (.laload, 1) := by decide +kernel
theorem own_d17_78 : decode prog_11_method_10_code 78 = .ok (.aload_n 3, 1) := by decide +kernel
theorem own_d17_79 : decode prog_11_method_10_code 79 = .ok (.invokevirtual 61, 3) := by decide +kernel
theorem own_d17_82 : decode prog_11_method_10_code 82 = .ok (.ladd, 1) := by decide +kernel
theorem own_d17_83 : decode prog_11_method_10_code 83 = .ok (.lastore, 1) := by decide +kernel
theorem own_d17_84 : decode prog_11_method_10_code 84 = .ok (.aload_n 0, 1) := by decide +kernel
theorem own_d17_85 : decode prog_11_method_10_code 85 = .ok (.getfield 33, 3) := by decide +kernel
theorem own_d17_88 : decode prog_11_method_10_code 88 = .ok (.iload_n 2, 1) := by decide +kernel
theorem own_d17_89 : decode prog_11_method_10_code 89 = .ok (.iload_n 1, 1) := by decide +kernel
theorem own_d17_90 : decode prog_11_method_10_code 90 = .ok (.iastore, 1) := by decide +kernel
theorem own_d17_91 : decode prog_11_method_10_code 91 = .ok (.return_, 1) := by decide +kernel
theorem own_ef17_0 (m : MethodId) (x0 : Addr) (x1 : Int32) (x2 : Int32) : entryFrame m #[(.ref x0), (.int x1), (.int x2)] 4 = mkF m 0 #[.val (.ref x0), .val (.int x1), .val (.int x2), .unset] [] := by first | (simp [entryFrame, mkF, argsToLocals, Value.category]; done) | rfl
theorem own_pn17_0 : plainFor (⟨"com/example/packhouse/packhouse/Hosts", "put", "(II)V"⟩ : MethodName) = true := by first | exact plainFor_of_name (by first | (simp [plainName, overriddenIn]; done) | decide +kernel) | exact Jvm.Free.JP.mathPlain rfl (by decide +kernel)
set_option maxRecDepth 65536 in
set_option maxHeartbeats 40000000 in
theorem own_rm17_0 (l : Launch) (Z : State) (a0 : Array Value) (hw : ∀ d ∈ tables_1, d.before a0 Z = true) (a1 : Addr) (q1 : Int64) (q2 : Int64) (l1 : Addr) (b1 : Addr) (b2 : Addr) (b3 : Addr) (e1 : Addr) (v1 : Addr) (w2 : Int64) (w3 : Int64) (h0 : Heap) (n0 : Nat) (Z0 : n0 ≤ h0.size) (E_a1 : Exa Z h0 a1 "com/example/packhouse/packhouse/Hosts") (F_hostCpu_a1 : Fld Z h0 a1 "com/example/packhouse/packhouse/Hosts" "hostCpu" "J" (.long q1)) (F_hostMem_a1 : Fld Z h0 a1 "com/example/packhouse/packhouse/Hosts" "hostMem" "J" (.long q2)) (F_vms_a1 : Fld Z h0 a1 "com/example/packhouse/packhouse/Hosts" "vms" "Ljava/util/List;" (.ref l1)) (F_hostOf_a1 : Fld Z h0 a1 "com/example/packhouse/packhouse/Hosts" "hostOf" "[I" (.ref b3)) (F_usedCpu_a1 : Fld Z h0 a1 "com/example/packhouse/packhouse/Hosts" "usedCpu" "[J" (.ref b1)) (F_usedMem_a1 : Fld Z h0 a1 "com/example/packhouse/packhouse/Hosts" "usedMem" "[J" (.ref b2)) (F_count_a1 : Fld Z h0 a1 "com/example/packhouse/packhouse/Hosts" "count" "I" (.int (2 : Int32))) (E_l1 : Exa Z h0 l1 "java/util/ArrayList") (F_size_l1 : Fld Z h0 l1 "java/util/ArrayList" "size" "I" (.int (1 : Int32))) (F_elementData_l1 : Fld Z h0 l1 "java/util/ArrayList" "elementData" "[Ljava/lang/Object;" (.ref e1)) (V_e1 : OwnAr Z h0 e1 (.object "java/lang/Object") [(.ref v1), .null, .null, .null, .null, .null, .null, .null, .null, .null]) (E_v1 : Exa Z h0 v1 "com/example/packhouse/packhouse/Vm") (F_cpu_v1 : Fld Z h0 v1 "com/example/packhouse/packhouse/Vm" "cpu" "J" (.long w2)) (F_mem_v1 : Fld Z h0 v1 "com/example/packhouse/packhouse/Vm" "mem" "J" (.long w3)) (V_b1 : OwnAr Z h0 b1 .long [(.long (0 : Int64)), (.long (0 : Int64)), (.long (0 : Int64)), (.long (0 : Int64)), (.long (0 : Int64)), (.long (0 : Int64)), (.long (0 : Int64)), (.long (0 : Int64)), (.long (0 : Int64)), (.long (0 : Int64)), (.long (0 : Int64)), (.long (0 : Int64)), (.long (0 : Int64)), (.long (0 : Int64)), (.long (0 : Int64)), (.long (0 : Int64))]) (V_b2 : OwnAr Z h0 b2 .long [(.long (0 : Int64)), (.long (0 : Int64)), (.long (0 : Int64)), (.long (0 : Int64)), (.long (0 : Int64)), (.long (0 : Int64)), (.long (0 : Int64)), (.long (0 : Int64)), (.long (0 : Int64)), (.long (0 : Int64)), (.long (0 : Int64)), (.long (0 : Int64)), (.long (0 : Int64)), (.long (0 : Int64)), (.long (0 : Int64)), (.long (0 : Int64))]) (V_b3 : OwnAr Z h0 b3 .int [(.int (-1 : Int32))]) (g_b1 : n0 ≤ b1) (g_b2 : n0 ≤ b2) (g_b3 : n0 ≤ b3) (ne_a1_b1 : a1 ≠ b1) (ne_a1_b2 : a1 ≠ b2) (ne_v1_b1 : v1 ≠ b1) (ne_b1_b2 : b1 ≠ b2) (ne_b1_b3 : b1 ≠ b3) (ne_b2_b3 : b2 ≠ b3) (hf1 : ¬ ((q1 - (0 : Int64)) < w2)) (hf2 : ¬ ((q2 - (0 : Int64)) < w3)) :
    OwnMet l Z (⟨"com/example/packhouse/packhouse/Hosts", "put", "(II)V"⟩ : MethodName) prog_11_method_10_code 4 none ({ frames := 3, cells := 0, slots := 0, locals := 40 } : Room) #[(.ref a1), (.int (0 : Int32)), (.int (0 : Int32))] h0 n0 (fun v h => v = none ∧ Keep h0 h [b1, b2, b3] ∧ OwnAr Z h b1 .long [(.long ((0 : Int64) + w2)), (.long (0 : Int64)), (.long (0 : Int64)), (.long (0 : Int64)), (.long (0 : Int64)), (.long (0 : Int64)), (.long (0 : Int64)), (.long (0 : Int64)), (.long (0 : Int64)), (.long (0 : Int64)), (.long (0 : Int64)), (.long (0 : Int64)), (.long (0 : Int64)), (.long (0 : Int64)), (.long (0 : Int64)), (.long (0 : Int64))] ∧ OwnAr Z h b2 .long [(.long ((0 : Int64) + w3)), (.long (0 : Int64)), (.long (0 : Int64)), (.long (0 : Int64)), (.long (0 : Int64)), (.long (0 : Int64)), (.long (0 : Int64)), (.long (0 : Int64)), (.long (0 : Int64)), (.long (0 : Int64)), (.long (0 : Int64)), (.long (0 : Int64)), (.long (0 : Int64)), (.long (0 : Int64)), (.long (0 : Int64)), (.long (0 : Int64))] ∧ OwnAr Z h b3 .int [(.int (0 : Int32))]) := by
  refine own_body own_pn17_0 ?_
  intro p e s m below meth c s₁ RR X0
  refine own_enter (own_ef17_0 m a1 (0 : Int32) (0 : Int32)) ?_
  refine own_aloadN X0 own_d17_0 (pc' := 1) rfl rfl rfl ?_
  refine own_getF X0 own_d17_1 (hw _ (List.mem_of_getElem? (i := 100) rfl)) Via.refl F_vms_a1 (pc' := 4) rfl ?_
  intro T1 X1
  refine own_iloadN X1 own_d17_4 (pc' := 5) rfl rfl ?_
  refine own_callI (a := l1) (argsL := [(.int (0 : Int32))]) X1 own_d17_5 (y := (⟨"java/util/List", "get", "(I)Ljava/lang/Object;"⟩ : MethodName)) (z := (⟨"java/util/ArrayList", "get", "(I)Ljava/lang/Object;"⟩ : MethodName)) (by decide) (hw _ (List.mem_of_getElem? (i := 135) rfl)) (hw _ (List.mem_of_getElem? (i := 136) rfl)) (hw _ (List.mem_of_getElem? (i := 137) rfl)) (hw _ (List.mem_of_getElem? (i := 138) rfl)) (hw _ (List.mem_of_getElem? (i := 139) rfl)) (hw _ (List.mem_of_getElem? (i := 140) rfl)) (hw _ (List.mem_of_getElem? (i := 141) rfl)) (hw _ (List.mem_of_getElem? (i := 109) rfl)) (hw _ (List.mem_of_getElem? (i := 142) rfl)) (hw _ (List.mem_of_getElem? (i := 3) rfl)) E_l1 (own_rm18 l Z a0 hw l1 e1 v1 h0 n0 Z0 E_l1 F_size_l1 F_elementData_l1 V_e1) own_pd6 rfl (S := []) rfl (pc' := 10) rfl rfl (W := 0) (Nat.le_of_eq rfl) (by decide) (by decide) (by decide) (by decide) ?_
  intro T2 h2 v2_ X2 q2_
  obtain ⟨rfl, rfl⟩ := q2_
  show OwnGo p e below (T2.setTop (mkF m 10 #[.val (.ref a1), .val (.int (0 : Int32)), .val (.int (0 : Int32)), .unset] [(.ref v1)])) RR
  refine own_cast X2 own_d17_10 (hw _ (List.mem_of_getElem? (i := 156) rfl)) (Ins.self E_v1) (pc' := 13) rfl ?_
  intro T3 X3
  refine own_astoreN X3 own_d17_13 (pc' := 14) rfl rfl (l' := #[.val (.ref a1), .val (.int (0 : Int32)), .val (.int (0 : Int32)), .val (.ref v1)]) rfl ?_
  refine own_aloadN X3 own_d17_14 (pc' := 15) rfl rfl rfl ?_
  refine own_getF X3 own_d17_15 (hw _ (List.mem_of_getElem? (i := 112) rfl)) Via.refl F_hostOf_a1 (pc' := 18) rfl ?_
  intro T4 X4
  refine own_iloadN X4 own_d17_18 (pc' := 19) rfl rfl ?_
  refine own_iaload X4 own_d17_19 V_b3 (by decide) (v := (.int (-1 : Int32))) rfl (pc' := 20) rfl ?_
  refine own_iconst X4 own_d17_20 (pc' := 21) rfl (v := (-1 : Int32)) (by decide) ?_
  refine own_icN X4 own_d17_21 (teq ((rfl : (-1 : Int32) = (-1 : Int32)))).2 (pc' := 24) rfl ?_
  refine own_aloadN X4 own_d17_24 (pc' := 25) rfl rfl rfl ?_
  refine own_iloadN X4 own_d17_25 (pc' := 26) rfl rfl ?_
  refine own_aloadN X4 own_d17_26 (pc' := 27) rfl rfl rfl ?_
  refine own_callV (a := v1) (argsL := []) X4 own_d17_27 (y := (⟨"com/example/packhouse/packhouse/Vm", "cpu", "()J"⟩ : MethodName)) (by decide) (hw _ (List.mem_of_getElem? (i := 158) rfl)) (hw _ (List.mem_of_getElem? (i := 159) rfl)) (hw _ (List.mem_of_getElem? (i := 161) rfl)) (hw _ (List.mem_of_getElem? (i := 160) rfl)) (hw _ (List.mem_of_getElem? (i := 162) rfl)) (hw _ (List.mem_of_getElem? (i := 29) rfl)) E_v1 (own_rm22 l Z a0 hw v1 w2 h0 n0 Z0 F_cpu_v1) own_pd9 rfl (S := [(.int (0 : Int32)), (.ref a1)]) rfl (pc' := 30) rfl rfl (W := 2) (Nat.le_of_eq rfl) (by decide) (by decide) (by decide) (by decide) ?_
  intro T5 h5 v5_ X5 q5_
  obtain ⟨rfl, rfl⟩ := q5_
  show OwnGo p e below (T5.setTop (mkF m 30 #[.val (.ref a1), .val (.int (0 : Int32)), .val (.int (0 : Int32)), .val (.ref v1)] [(.long w2), (.int (0 : Int32)), (.ref a1)])) RR
  refine own_aloadN X5 own_d17_30 (pc' := 31) rfl rfl rfl ?_
  refine own_callV (a := v1) (argsL := []) X5 own_d17_31 (y := (⟨"com/example/packhouse/packhouse/Vm", "mem", "()J"⟩ : MethodName)) (by decide) (hw _ (List.mem_of_getElem? (i := 163) rfl)) (hw _ (List.mem_of_getElem? (i := 164) rfl)) (hw _ (List.mem_of_getElem? (i := 166) rfl)) (hw _ (List.mem_of_getElem? (i := 165) rfl)) (hw _ (List.mem_of_getElem? (i := 167) rfl)) (hw _ (List.mem_of_getElem? (i := 29) rfl)) E_v1 (own_rm23 l Z a0 hw v1 w3 h0 n0 Z0 F_mem_v1) own_pd9 rfl (S := [(.long w2), (.int (0 : Int32)), (.ref a1)]) rfl (pc' := 34) rfl rfl (W := 4) (Nat.le_of_eq rfl) (by decide) (by decide) (by decide) (by decide) ?_
  intro T6 h6 v6_ X6 q6_
  obtain ⟨rfl, rfl⟩ := q6_
  show OwnGo p e below (T6.setTop (mkF m 34 #[.val (.ref a1), .val (.int (0 : Int32)), .val (.int (0 : Int32)), .val (.ref v1)] [(.long w3), (.long w2), (.int (0 : Int32)), (.ref a1)])) RR
  refine own_callV (a := a1) (argsL := [(.int (0 : Int32)), (.long w2), (.long w3)]) X6 own_d17_34 (y := (⟨"com/example/packhouse/packhouse/Hosts", "fits", "(IJJ)Z"⟩ : MethodName)) (by decide) (hw _ (List.mem_of_getElem? (i := 168) rfl)) (hw _ (List.mem_of_getElem? (i := 126) rfl)) (hw _ (List.mem_of_getElem? (i := 128) rfl)) (hw _ (List.mem_of_getElem? (i := 127) rfl)) (hw _ (List.mem_of_getElem? (i := 129) rfl)) (hw _ (List.mem_of_getElem? (i := 86) rfl)) E_a1 (own_rm16_0 l Z a0 hw a1 q1 q2 b1 b2 (0 : Int64) (0 : Int64) (0 : Int64) (0 : Int64) w2 w3 h0 n0 Z0 F_hostCpu_a1 F_hostMem_a1 F_usedCpu_a1 F_usedMem_a1 V_b1 V_b2) own_pd10 rfl (S := []) rfl (pc' := 37) rfl rfl (W := 0) (Nat.le_of_eq rfl) (by decide) (by decide) (by decide) (by decide) ?_
  intro T7 h7 v7_ X7 q7_
  obtain ⟨rfl, rfl⟩ := q7_
  obtain ⟨r7, hr7⟩ : ∃ z, z = (if (q1 - (0 : Int64)) < w2 then (0 : Int32) else (if (q2 - (0 : Int64)) < w3 then (0 : Int32) else (1 : Int32))) := ⟨_, rfl⟩
  show OwnGo p e below (T7.setTop (mkF m 37 #[.val (.ref a1), .val (.int (0 : Int32)), .val (.int (0 : Int32)), .val (.ref v1)] [(.int (if (q1 - (0 : Int64)) < w2 then (0 : Int32) else (if (q2 - (0 : Int64)) < w3 then (0 : Int32) else (1 : Int32))))])) RR
  rw [← hr7]
  refine own_ifY X7 own_d17_37 (feq ((by rw [hr7, if_neg hf1, if_neg hf2]; decide : ¬ (r7 = (0 : Int32))))).2 (pc' := 58) (by decide) (by decide) ?_
  refine own_aloadN X7 own_d17_58 (pc' := 59) rfl rfl rfl ?_
  refine own_getF X7 own_d17_59 (hw _ (List.mem_of_getElem? (i := 92) rfl)) Via.refl F_usedCpu_a1 (pc' := 62) rfl ?_
  intro T8 X8
  refine own_iloadN X8 own_d17_62 (pc' := 63) rfl rfl ?_
  refine own_dup2 X8 own_d17_63 (pc' := 64) rfl rfl rfl ?_
  refine own_laload X8 own_d17_64 V_b1 (by decide) (v := (.long (0 : Int64))) rfl (pc' := 65) rfl ?_
  refine own_aloadN X8 own_d17_65 (pc' := 66) rfl rfl rfl ?_
  refine own_callV (a := v1) (argsL := []) X8 own_d17_66 (y := (⟨"com/example/packhouse/packhouse/Vm", "cpu", "()J"⟩ : MethodName)) (by decide) (hw _ (List.mem_of_getElem? (i := 158) rfl)) (hw _ (List.mem_of_getElem? (i := 159) rfl)) (hw _ (List.mem_of_getElem? (i := 161) rfl)) (hw _ (List.mem_of_getElem? (i := 160) rfl)) (hw _ (List.mem_of_getElem? (i := 162) rfl)) (hw _ (List.mem_of_getElem? (i := 29) rfl)) E_v1 (own_rm22 l Z a0 hw v1 w2 h0 n0 Z0 F_cpu_v1) own_pd9 rfl (S := [(.long (0 : Int64)), (.int (0 : Int32)), (.ref b1)]) rfl (pc' := 69) rfl rfl (W := 4) (Nat.le_of_eq rfl) (by decide) (by decide) (by decide) (by decide) ?_
  intro T9 h9 v9_ X9 q9_
  obtain ⟨rfl, rfl⟩ := q9_
  show OwnGo p e below (T9.setTop (mkF m 69 #[.val (.ref a1), .val (.int (0 : Int32)), .val (.int (0 : Int32)), .val (.ref v1)] [(.long w2), (.long (0 : Int64)), (.int (0 : Int32)), (.ref b1)])) RR
  refine own_ladd X9 own_d17_69 (pc' := 70) rfl ?_
  refine own_lastore X9 own_d17_70 V_b1 (by decide) (Nat.le_of_ble_eq_true rfl) g_b1 (pc' := 71) rfl ?_
  intro T10 h10 X10 W10 B10
  have E_a1_10 := (E_a1).wr W10
  have F_hostCpu_a1_10 := (F_hostCpu_a1).other W10 (Or.inl ne_a1_b1)
  have F_hostMem_a1_10 := (F_hostMem_a1).other W10 (Or.inl ne_a1_b1)
  have F_vms_a1_10 := (F_vms_a1).other W10 (Or.inl ne_a1_b1)
  have F_hostOf_a1_10 := (F_hostOf_a1).other W10 (Or.inl ne_a1_b1)
  have F_usedCpu_a1_10 := (F_usedCpu_a1).other W10 (Or.inl ne_a1_b1)
  have F_usedMem_a1_10 := (F_usedMem_a1).other W10 (Or.inl ne_a1_b1)
  have F_count_a1_10 := (F_count_a1).other W10 (Or.inl ne_a1_b1)
  have E_l1_10 := (E_l1).wr W10
  have E_v1_10 := (E_v1).wr W10
  have F_cpu_v1_10 := (F_cpu_v1).other W10 (Or.inl ne_v1_b1)
  have F_mem_v1_10 := (F_mem_v1).other W10 (Or.inl ne_v1_b1)
  have V_b2_10 := (V_b2).other W10 ne_b1_b2.symm
  have V_b3_10 := (V_b3).other W10 ne_b1_b3.symm
  have Z10 : n0 ≤ h10.size := Nat.le_trans Z0 (Nat.le_of_eq W10.size.symm)
  have V_b1_10 : OwnAr Z h10 b1 .long [(.long ((0 : Int64) + w2)), (.long (0 : Int64)), (.long (0 : Int64)), (.long (0 : Int64)), (.long (0 : Int64)), (.long (0 : Int64)), (.long (0 : Int64)), (.long (0 : Int64)), (.long (0 : Int64)), (.long (0 : Int64)), (.long (0 : Int64)), (.long (0 : Int64)), (.long (0 : Int64)), (.long (0 : Int64)), (.long (0 : Int64)), (.long (0 : Int64))] := B10
  have K10 := ((Keep.refl h0 [b1, b2, b3])).wr W10 (Or.inl (List.mem_of_getElem? (i := 0) rfl))
  refine own_aloadN X10 own_d17_71 (pc' := 72) rfl rfl rfl ?_
  refine own_getF X10 own_d17_72 (hw _ (List.mem_of_getElem? (i := 94) rfl)) Via.refl F_usedMem_a1_10 (pc' := 75) rfl ?_
  intro T11 X11
  refine own_iloadN X11 own_d17_75 (pc' := 76) rfl rfl ?_
  refine own_dup2 X11 own_d17_76 (pc' := 77) rfl rfl rfl ?_
  refine own_laload X11 own_d17_77 V_b2_10 (by decide) (v := (.long (0 : Int64))) rfl (pc' := 78) rfl ?_
  refine own_aloadN X11 own_d17_78 (pc' := 79) rfl rfl rfl ?_
  refine own_callV (a := v1) (argsL := []) X11 own_d17_79 (y := (⟨"com/example/packhouse/packhouse/Vm", "mem", "()J"⟩ : MethodName)) (by decide) (hw _ (List.mem_of_getElem? (i := 163) rfl)) (hw _ (List.mem_of_getElem? (i := 164) rfl)) (hw _ (List.mem_of_getElem? (i := 166) rfl)) (hw _ (List.mem_of_getElem? (i := 165) rfl)) (hw _ (List.mem_of_getElem? (i := 167) rfl)) (hw _ (List.mem_of_getElem? (i := 29) rfl)) E_v1_10 (own_rm23 l Z a0 hw v1 w3 h10 n0 Z10 F_mem_v1_10) own_pd9 rfl (S := [(.long (0 : Int64)), (.int (0 : Int32)), (.ref b2)]) rfl (pc' := 82) rfl rfl (W := 4) (Nat.le_of_eq rfl) (by decide) (by decide) (by decide) (by decide) ?_
  intro T12 h12 v12_ X12 q12_
  obtain ⟨rfl, rfl⟩ := q12_
  show OwnGo p e below (T12.setTop (mkF m 82 #[.val (.ref a1), .val (.int (0 : Int32)), .val (.int (0 : Int32)), .val (.ref v1)] [(.long w3), (.long (0 : Int64)), (.int (0 : Int32)), (.ref b2)])) RR
  refine own_ladd X12 own_d17_82 (pc' := 83) rfl ?_
  refine own_lastore X12 own_d17_83 V_b2_10 (by decide) (Nat.le_of_ble_eq_true rfl) g_b2 (pc' := 84) rfl ?_
  intro T13 h13 X13 W13 B13
  have E_a1_13 := (E_a1_10).wr W13
  have F_hostCpu_a1_13 := (F_hostCpu_a1_10).other W13 (Or.inl ne_a1_b2)
  have F_hostMem_a1_13 := (F_hostMem_a1_10).other W13 (Or.inl ne_a1_b2)
  have F_vms_a1_13 := (F_vms_a1_10).other W13 (Or.inl ne_a1_b2)
  have F_hostOf_a1_13 := (F_hostOf_a1_10).other W13 (Or.inl ne_a1_b2)
  have F_usedCpu_a1_13 := (F_usedCpu_a1_10).other W13 (Or.inl ne_a1_b2)
  have F_usedMem_a1_13 := (F_usedMem_a1_10).other W13 (Or.inl ne_a1_b2)
  have F_count_a1_13 := (F_count_a1_10).other W13 (Or.inl ne_a1_b2)
  have E_l1_13 := (E_l1_10).wr W13
  have E_v1_13 := (E_v1_10).wr W13
  have V_b3_13 := (V_b3_10).other W13 ne_b2_b3.symm
  have V_b1_13 := (V_b1_10).other W13 ne_b1_b2
  have Z13 : n0 ≤ h13.size := Nat.le_trans Z10 (Nat.le_of_eq W13.size.symm)
  have V_b2_13 : OwnAr Z h13 b2 .long [(.long ((0 : Int64) + w3)), (.long (0 : Int64)), (.long (0 : Int64)), (.long (0 : Int64)), (.long (0 : Int64)), (.long (0 : Int64)), (.long (0 : Int64)), (.long (0 : Int64)), (.long (0 : Int64)), (.long (0 : Int64)), (.long (0 : Int64)), (.long (0 : Int64)), (.long (0 : Int64)), (.long (0 : Int64)), (.long (0 : Int64)), (.long (0 : Int64))] := B13
  have K13 := (K10).wr W13 (Or.inl (List.mem_of_getElem? (i := 1) rfl))
  refine own_aloadN X13 own_d17_84 (pc' := 85) rfl rfl rfl ?_
  refine own_getF X13 own_d17_85 (hw _ (List.mem_of_getElem? (i := 112) rfl)) Via.refl F_hostOf_a1_13 (pc' := 88) rfl ?_
  intro T14 X14
  refine own_iloadN X14 own_d17_88 (pc' := 89) rfl rfl ?_
  refine own_iloadN X14 own_d17_89 (pc' := 90) rfl rfl ?_
  refine own_iastore X14 own_d17_90 V_b3_13 (by decide) (Nat.le_of_ble_eq_true rfl) g_b3 (pc' := 91) rfl ?_
  intro T15 h15 X15 W15 B15
  have E_a1_15 := (E_a1_13).wr W15
  have E_l1_15 := (E_l1_13).wr W15
  have E_v1_15 := (E_v1_13).wr W15
  have V_b1_15 := (V_b1_13).other W15 ne_b1_b3
  have V_b2_15 := (V_b2_13).other W15 ne_b2_b3
  have Z15 : n0 ≤ h15.size := Nat.le_trans Z13 (Nat.le_of_eq W15.size.symm)
  have V_b3_15 : OwnAr Z h15 b3 .int [(.int (0 : Int32))] := B15
  have K15 := (K13).wr W15 (Or.inl (List.mem_of_getElem? (i := 2) rfl))
  exact own_retV X15 own_d17_91 ⟨rfl, K15, V_b1_15, V_b2_15, V_b3_15⟩ (by decide) (by decide)
theorem own_ef17_1 (m : MethodId) (x0 : Addr) (x1 : Int32) (x2 : Int32) : entryFrame m #[(.ref x0), (.int x1), (.int x2)] 4 = mkF m 0 #[.val (.ref x0), .val (.int x1), .val (.int x2), .unset] [] := by first | (simp [entryFrame, mkF, argsToLocals, Value.category]; done) | rfl
theorem own_pn17_1 : plainFor (⟨"com/example/packhouse/packhouse/Hosts", "put", "(II)V"⟩ : MethodName) = true := by first | exact plainFor_of_name (by first | (simp [plainName, overriddenIn]; done) | decide +kernel) | exact Jvm.Free.JP.mathPlain rfl (by decide +kernel)
set_option maxRecDepth 65536 in
set_option maxHeartbeats 40000000 in
theorem own_rm17_1 (l : Launch) (Z : State) (a0 : Array Value) (hw : ∀ d ∈ tables_1, d.before a0 Z = true) (a1 : Addr) (q1 : Int64) (q2 : Int64) (l1 : Addr) (b1 : Addr) (b2 : Addr) (b3 : Addr) (e1 : Addr) (v1 : Addr) (w2 : Int64) (w3 : Int64) (h0 : Heap) (n0 : Nat) (Z0 : n0 ≤ h0.size) (E_a1 : Exa Z h0 a1 "com/example/packhouse/packhouse/Hosts") (F_hostCpu_a1 : Fld Z h0 a1 "com/example/packhouse/packhouse/Hosts" "hostCpu" "J" (.long q1)) (F_hostMem_a1 : Fld Z h0 a1 "com/example/packhouse/packhouse/Hosts" "hostMem" "J" (.long q2)) (F_vms_a1 : Fld Z h0 a1 "com/example/packhouse/packhouse/Hosts" "vms" "Ljava/util/List;" (.ref l1)) (F_hostOf_a1 : Fld Z h0 a1 "com/example/packhouse/packhouse/Hosts" "hostOf" "[I" (.ref b3)) (F_usedCpu_a1 : Fld Z h0 a1 "com/example/packhouse/packhouse/Hosts" "usedCpu" "[J" (.ref b1)) (F_usedMem_a1 : Fld Z h0 a1 "com/example/packhouse/packhouse/Hosts" "usedMem" "[J" (.ref b2)) (F_count_a1 : Fld Z h0 a1 "com/example/packhouse/packhouse/Hosts" "count" "I" (.int (2 : Int32))) (E_l1 : Exa Z h0 l1 "java/util/ArrayList") (F_size_l1 : Fld Z h0 l1 "java/util/ArrayList" "size" "I" (.int (1 : Int32))) (F_elementData_l1 : Fld Z h0 l1 "java/util/ArrayList" "elementData" "[Ljava/lang/Object;" (.ref e1)) (V_e1 : OwnAr Z h0 e1 (.object "java/lang/Object") [(.ref v1), .null, .null, .null, .null, .null, .null, .null, .null, .null]) (E_v1 : Exa Z h0 v1 "com/example/packhouse/packhouse/Vm") (F_cpu_v1 : Fld Z h0 v1 "com/example/packhouse/packhouse/Vm" "cpu" "J" (.long w2)) (F_mem_v1 : Fld Z h0 v1 "com/example/packhouse/packhouse/Vm" "mem" "J" (.long w3)) (V_b1 : OwnAr Z h0 b1 .long [(.long (0 : Int64)), (.long (0 : Int64)), (.long (0 : Int64)), (.long (0 : Int64)), (.long (0 : Int64)), (.long (0 : Int64)), (.long (0 : Int64)), (.long (0 : Int64)), (.long (0 : Int64)), (.long (0 : Int64)), (.long (0 : Int64)), (.long (0 : Int64)), (.long (0 : Int64)), (.long (0 : Int64)), (.long (0 : Int64)), (.long (0 : Int64))]) (V_b2 : OwnAr Z h0 b2 .long [(.long (0 : Int64)), (.long (0 : Int64)), (.long (0 : Int64)), (.long (0 : Int64)), (.long (0 : Int64)), (.long (0 : Int64)), (.long (0 : Int64)), (.long (0 : Int64)), (.long (0 : Int64)), (.long (0 : Int64)), (.long (0 : Int64)), (.long (0 : Int64)), (.long (0 : Int64)), (.long (0 : Int64)), (.long (0 : Int64)), (.long (0 : Int64))]) (V_b3 : OwnAr Z h0 b3 .int [(.int (-1 : Int32))]) (g_b1 : n0 ≤ b1) (g_b2 : n0 ≤ b2) (g_b3 : n0 ≤ b3) (ne_a1_b1 : a1 ≠ b1) (ne_a1_b2 : a1 ≠ b2) (ne_v1_b1 : v1 ≠ b1) (ne_b1_b2 : b1 ≠ b2) (ne_b1_b3 : b1 ≠ b3) (ne_b2_b3 : b2 ≠ b3) (hf1 : ¬ ((q1 - (0 : Int64)) < w2)) (hf2 : ¬ ((q2 - (0 : Int64)) < w3)) :
    OwnMet l Z (⟨"com/example/packhouse/packhouse/Hosts", "put", "(II)V"⟩ : MethodName) prog_11_method_10_code 4 none ({ frames := 3, cells := 0, slots := 0, locals := 40 } : Room) #[(.ref a1), (.int (1 : Int32)), (.int (0 : Int32))] h0 n0 (fun v h => v = none ∧ Keep h0 h [b1, b2, b3] ∧ OwnAr Z h b1 .long [(.long (0 : Int64)), (.long ((0 : Int64) + w2)), (.long (0 : Int64)), (.long (0 : Int64)), (.long (0 : Int64)), (.long (0 : Int64)), (.long (0 : Int64)), (.long (0 : Int64)), (.long (0 : Int64)), (.long (0 : Int64)), (.long (0 : Int64)), (.long (0 : Int64)), (.long (0 : Int64)), (.long (0 : Int64)), (.long (0 : Int64)), (.long (0 : Int64))] ∧ OwnAr Z h b2 .long [(.long (0 : Int64)), (.long ((0 : Int64) + w3)), (.long (0 : Int64)), (.long (0 : Int64)), (.long (0 : Int64)), (.long (0 : Int64)), (.long (0 : Int64)), (.long (0 : Int64)), (.long (0 : Int64)), (.long (0 : Int64)), (.long (0 : Int64)), (.long (0 : Int64)), (.long (0 : Int64)), (.long (0 : Int64)), (.long (0 : Int64)), (.long (0 : Int64))] ∧ OwnAr Z h b3 .int [(.int (1 : Int32))]) := by
  refine own_body own_pn17_1 ?_
  intro p e s m below meth c s₁ RR X0
  refine own_enter (own_ef17_1 m a1 (1 : Int32) (0 : Int32)) ?_
  refine own_aloadN X0 own_d17_0 (pc' := 1) rfl rfl rfl ?_
  refine own_getF X0 own_d17_1 (hw _ (List.mem_of_getElem? (i := 100) rfl)) Via.refl F_vms_a1 (pc' := 4) rfl ?_
  intro T1 X1
  refine own_iloadN X1 own_d17_4 (pc' := 5) rfl rfl ?_
  refine own_callI (a := l1) (argsL := [(.int (0 : Int32))]) X1 own_d17_5 (y := (⟨"java/util/List", "get", "(I)Ljava/lang/Object;"⟩ : MethodName)) (z := (⟨"java/util/ArrayList", "get", "(I)Ljava/lang/Object;"⟩ : MethodName)) (by decide) (hw _ (List.mem_of_getElem? (i := 135) rfl)) (hw _ (List.mem_of_getElem? (i := 136) rfl)) (hw _ (List.mem_of_getElem? (i := 137) rfl)) (hw _ (List.mem_of_getElem? (i := 138) rfl)) (hw _ (List.mem_of_getElem? (i := 139) rfl)) (hw _ (List.mem_of_getElem? (i := 140) rfl)) (hw _ (List.mem_of_getElem? (i := 141) rfl)) (hw _ (List.mem_of_getElem? (i := 109) rfl)) (hw _ (List.mem_of_getElem? (i := 142) rfl)) (hw _ (List.mem_of_getElem? (i := 3) rfl)) E_l1 (own_rm18 l Z a0 hw l1 e1 v1 h0 n0 Z0 E_l1 F_size_l1 F_elementData_l1 V_e1) own_pd6 rfl (S := []) rfl (pc' := 10) rfl rfl (W := 0) (Nat.le_of_eq rfl) (by decide) (by decide) (by decide) (by decide) ?_
  intro T2 h2 v2_ X2 q2_
  obtain ⟨rfl, rfl⟩ := q2_
  show OwnGo p e below (T2.setTop (mkF m 10 #[.val (.ref a1), .val (.int (1 : Int32)), .val (.int (0 : Int32)), .unset] [(.ref v1)])) RR
  refine own_cast X2 own_d17_10 (hw _ (List.mem_of_getElem? (i := 156) rfl)) (Ins.self E_v1) (pc' := 13) rfl ?_
  intro T3 X3
  refine own_astoreN X3 own_d17_13 (pc' := 14) rfl rfl (l' := #[.val (.ref a1), .val (.int (1 : Int32)), .val (.int (0 : Int32)), .val (.ref v1)]) rfl ?_
  refine own_aloadN X3 own_d17_14 (pc' := 15) rfl rfl rfl ?_
  refine own_getF X3 own_d17_15 (hw _ (List.mem_of_getElem? (i := 112) rfl)) Via.refl F_hostOf_a1 (pc' := 18) rfl ?_
  intro T4 X4
  refine own_iloadN X4 own_d17_18 (pc' := 19) rfl rfl ?_
  refine own_iaload X4 own_d17_19 V_b3 (by decide) (v := (.int (-1 : Int32))) rfl (pc' := 20) rfl ?_
  refine own_iconst X4 own_d17_20 (pc' := 21) rfl (v := (-1 : Int32)) (by decide) ?_
  refine own_icN X4 own_d17_21 (teq ((rfl : (-1 : Int32) = (-1 : Int32)))).2 (pc' := 24) rfl ?_
  refine own_aloadN X4 own_d17_24 (pc' := 25) rfl rfl rfl ?_
  refine own_iloadN X4 own_d17_25 (pc' := 26) rfl rfl ?_
  refine own_aloadN X4 own_d17_26 (pc' := 27) rfl rfl rfl ?_
  refine own_callV (a := v1) (argsL := []) X4 own_d17_27 (y := (⟨"com/example/packhouse/packhouse/Vm", "cpu", "()J"⟩ : MethodName)) (by decide) (hw _ (List.mem_of_getElem? (i := 158) rfl)) (hw _ (List.mem_of_getElem? (i := 159) rfl)) (hw _ (List.mem_of_getElem? (i := 161) rfl)) (hw _ (List.mem_of_getElem? (i := 160) rfl)) (hw _ (List.mem_of_getElem? (i := 162) rfl)) (hw _ (List.mem_of_getElem? (i := 29) rfl)) E_v1 (own_rm22 l Z a0 hw v1 w2 h0 n0 Z0 F_cpu_v1) own_pd9 rfl (S := [(.int (1 : Int32)), (.ref a1)]) rfl (pc' := 30) rfl rfl (W := 2) (Nat.le_of_eq rfl) (by decide) (by decide) (by decide) (by decide) ?_
  intro T5 h5 v5_ X5 q5_
  obtain ⟨rfl, rfl⟩ := q5_
  show OwnGo p e below (T5.setTop (mkF m 30 #[.val (.ref a1), .val (.int (1 : Int32)), .val (.int (0 : Int32)), .val (.ref v1)] [(.long w2), (.int (1 : Int32)), (.ref a1)])) RR
  refine own_aloadN X5 own_d17_30 (pc' := 31) rfl rfl rfl ?_
  refine own_callV (a := v1) (argsL := []) X5 own_d17_31 (y := (⟨"com/example/packhouse/packhouse/Vm", "mem", "()J"⟩ : MethodName)) (by decide) (hw _ (List.mem_of_getElem? (i := 163) rfl)) (hw _ (List.mem_of_getElem? (i := 164) rfl)) (hw _ (List.mem_of_getElem? (i := 166) rfl)) (hw _ (List.mem_of_getElem? (i := 165) rfl)) (hw _ (List.mem_of_getElem? (i := 167) rfl)) (hw _ (List.mem_of_getElem? (i := 29) rfl)) E_v1 (own_rm23 l Z a0 hw v1 w3 h0 n0 Z0 F_mem_v1) own_pd9 rfl (S := [(.long w2), (.int (1 : Int32)), (.ref a1)]) rfl (pc' := 34) rfl rfl (W := 4) (Nat.le_of_eq rfl) (by decide) (by decide) (by decide) (by decide) ?_
  intro T6 h6 v6_ X6 q6_
  obtain ⟨rfl, rfl⟩ := q6_
  show OwnGo p e below (T6.setTop (mkF m 34 #[.val (.ref a1), .val (.int (1 : Int32)), .val (.int (0 : Int32)), .val (.ref v1)] [(.long w3), (.long w2), (.int (1 : Int32)), (.ref a1)])) RR
  refine own_callV (a := a1) (argsL := [(.int (1 : Int32)), (.long w2), (.long w3)]) X6 own_d17_34 (y := (⟨"com/example/packhouse/packhouse/Hosts", "fits", "(IJJ)Z"⟩ : MethodName)) (by decide) (hw _ (List.mem_of_getElem? (i := 168) rfl)) (hw _ (List.mem_of_getElem? (i := 126) rfl)) (hw _ (List.mem_of_getElem? (i := 128) rfl)) (hw _ (List.mem_of_getElem? (i := 127) rfl)) (hw _ (List.mem_of_getElem? (i := 129) rfl)) (hw _ (List.mem_of_getElem? (i := 86) rfl)) E_a1 (own_rm16_1 l Z a0 hw a1 q1 q2 b1 b2 (0 : Int64) (0 : Int64) (0 : Int64) (0 : Int64) w2 w3 h0 n0 Z0 F_hostCpu_a1 F_hostMem_a1 F_usedCpu_a1 F_usedMem_a1 V_b1 V_b2) own_pd10 rfl (S := []) rfl (pc' := 37) rfl rfl (W := 0) (Nat.le_of_eq rfl) (by decide) (by decide) (by decide) (by decide) ?_
  intro T7 h7 v7_ X7 q7_
  obtain ⟨rfl, rfl⟩ := q7_
  obtain ⟨r7, hr7⟩ : ∃ z, z = (if (q1 - (0 : Int64)) < w2 then (0 : Int32) else (if (q2 - (0 : Int64)) < w3 then (0 : Int32) else (1 : Int32))) := ⟨_, rfl⟩
  show OwnGo p e below (T7.setTop (mkF m 37 #[.val (.ref a1), .val (.int (1 : Int32)), .val (.int (0 : Int32)), .val (.ref v1)] [(.int (if (q1 - (0 : Int64)) < w2 then (0 : Int32) else (if (q2 - (0 : Int64)) < w3 then (0 : Int32) else (1 : Int32))))])) RR
  rw [← hr7]
  refine own_ifY X7 own_d17_37 (feq ((by rw [hr7, if_neg hf1, if_neg hf2]; decide : ¬ (r7 = (0 : Int32))))).2 (pc' := 58) (by decide) (by decide) ?_
  refine own_aloadN X7 own_d17_58 (pc' := 59) rfl rfl rfl ?_
  refine own_getF X7 own_d17_59 (hw _ (List.mem_of_getElem? (i := 92) rfl)) Via.refl F_usedCpu_a1 (pc' := 62) rfl ?_
  intro T8 X8
  refine own_iloadN X8 own_d17_62 (pc' := 63) rfl rfl ?_
  refine own_dup2 X8 own_d17_63 (pc' := 64) rfl rfl rfl ?_
  refine own_laload X8 own_d17_64 V_b1 (by decide) (v := (.long (0 : Int64))) rfl (pc' := 65) rfl ?_
  refine own_aloadN X8 own_d17_65 (pc' := 66) rfl rfl rfl ?_
  refine own_callV (a := v1) (argsL := []) X8 own_d17_66 (y := (⟨"com/example/packhouse/packhouse/Vm", "cpu", "()J"⟩ : MethodName)) (by decide) (hw _ (List.mem_of_getElem? (i := 158) rfl)) (hw _ (List.mem_of_getElem? (i := 159) rfl)) (hw _ (List.mem_of_getElem? (i := 161) rfl)) (hw _ (List.mem_of_getElem? (i := 160) rfl)) (hw _ (List.mem_of_getElem? (i := 162) rfl)) (hw _ (List.mem_of_getElem? (i := 29) rfl)) E_v1 (own_rm22 l Z a0 hw v1 w2 h0 n0 Z0 F_cpu_v1) own_pd9 rfl (S := [(.long (0 : Int64)), (.int (1 : Int32)), (.ref b1)]) rfl (pc' := 69) rfl rfl (W := 4) (Nat.le_of_eq rfl) (by decide) (by decide) (by decide) (by decide) ?_
  intro T9 h9 v9_ X9 q9_
  obtain ⟨rfl, rfl⟩ := q9_
  show OwnGo p e below (T9.setTop (mkF m 69 #[.val (.ref a1), .val (.int (1 : Int32)), .val (.int (0 : Int32)), .val (.ref v1)] [(.long w2), (.long (0 : Int64)), (.int (1 : Int32)), (.ref b1)])) RR
  refine own_ladd X9 own_d17_69 (pc' := 70) rfl ?_
  refine own_lastore X9 own_d17_70 V_b1 (by decide) (Nat.le_of_ble_eq_true rfl) g_b1 (pc' := 71) rfl ?_
  intro T10 h10 X10 W10 B10
  have E_a1_10 := (E_a1).wr W10
  have F_hostCpu_a1_10 := (F_hostCpu_a1).other W10 (Or.inl ne_a1_b1)
  have F_hostMem_a1_10 := (F_hostMem_a1).other W10 (Or.inl ne_a1_b1)
  have F_vms_a1_10 := (F_vms_a1).other W10 (Or.inl ne_a1_b1)
  have F_hostOf_a1_10 := (F_hostOf_a1).other W10 (Or.inl ne_a1_b1)
  have F_usedCpu_a1_10 := (F_usedCpu_a1).other W10 (Or.inl ne_a1_b1)
  have F_usedMem_a1_10 := (F_usedMem_a1).other W10 (Or.inl ne_a1_b1)
  have F_count_a1_10 := (F_count_a1).other W10 (Or.inl ne_a1_b1)
  have E_l1_10 := (E_l1).wr W10
  have E_v1_10 := (E_v1).wr W10
  have F_cpu_v1_10 := (F_cpu_v1).other W10 (Or.inl ne_v1_b1)
  have F_mem_v1_10 := (F_mem_v1).other W10 (Or.inl ne_v1_b1)
  have V_b2_10 := (V_b2).other W10 ne_b1_b2.symm
  have V_b3_10 := (V_b3).other W10 ne_b1_b3.symm
  have Z10 : n0 ≤ h10.size := Nat.le_trans Z0 (Nat.le_of_eq W10.size.symm)
  have V_b1_10 : OwnAr Z h10 b1 .long [(.long (0 : Int64)), (.long ((0 : Int64) + w2)), (.long (0 : Int64)), (.long (0 : Int64)), (.long (0 : Int64)), (.long (0 : Int64)), (.long (0 : Int64)), (.long (0 : Int64)), (.long (0 : Int64)), (.long (0 : Int64)), (.long (0 : Int64)), (.long (0 : Int64)), (.long (0 : Int64)), (.long (0 : Int64)), (.long (0 : Int64)), (.long (0 : Int64))] := B10
  have K10 := ((Keep.refl h0 [b1, b2, b3])).wr W10 (Or.inl (List.mem_of_getElem? (i := 0) rfl))
  refine own_aloadN X10 own_d17_71 (pc' := 72) rfl rfl rfl ?_
  refine own_getF X10 own_d17_72 (hw _ (List.mem_of_getElem? (i := 94) rfl)) Via.refl F_usedMem_a1_10 (pc' := 75) rfl ?_
  intro T11 X11
  refine own_iloadN X11 own_d17_75 (pc' := 76) rfl rfl ?_
  refine own_dup2 X11 own_d17_76 (pc' := 77) rfl rfl rfl ?_
  refine own_laload X11 own_d17_77 V_b2_10 (by decide) (v := (.long (0 : Int64))) rfl (pc' := 78) rfl ?_
  refine own_aloadN X11 own_d17_78 (pc' := 79) rfl rfl rfl ?_
  refine own_callV (a := v1) (argsL := []) X11 own_d17_79 (y := (⟨"com/example/packhouse/packhouse/Vm", "mem", "()J"⟩ : MethodName)) (by decide) (hw _ (List.mem_of_getElem? (i := 163) rfl)) (hw _ (List.mem_of_getElem? (i := 164) rfl)) (hw _ (List.mem_of_getElem? (i := 166) rfl)) (hw _ (List.mem_of_getElem? (i := 165) rfl)) (hw _ (List.mem_of_getElem? (i := 167) rfl)) (hw _ (List.mem_of_getElem? (i := 29) rfl)) E_v1_10 (own_rm23 l Z a0 hw v1 w3 h10 n0 Z10 F_mem_v1_10) own_pd9 rfl (S := [(.long (0 : Int64)), (.int (1 : Int32)), (.ref b2)]) rfl (pc' := 82) rfl rfl (W := 4) (Nat.le_of_eq rfl) (by decide) (by decide) (by decide) (by decide) ?_
  intro T12 h12 v12_ X12 q12_
  obtain ⟨rfl, rfl⟩ := q12_
  show OwnGo p e below (T12.setTop (mkF m 82 #[.val (.ref a1), .val (.int (1 : Int32)), .val (.int (0 : Int32)), .val (.ref v1)] [(.long w3), (.long (0 : Int64)), (.int (1 : Int32)), (.ref b2)])) RR
  refine own_ladd X12 own_d17_82 (pc' := 83) rfl ?_
  refine own_lastore X12 own_d17_83 V_b2_10 (by decide) (Nat.le_of_ble_eq_true rfl) g_b2 (pc' := 84) rfl ?_
  intro T13 h13 X13 W13 B13
  have E_a1_13 := (E_a1_10).wr W13
  have F_hostCpu_a1_13 := (F_hostCpu_a1_10).other W13 (Or.inl ne_a1_b2)
  have F_hostMem_a1_13 := (F_hostMem_a1_10).other W13 (Or.inl ne_a1_b2)
  have F_vms_a1_13 := (F_vms_a1_10).other W13 (Or.inl ne_a1_b2)
  have F_hostOf_a1_13 := (F_hostOf_a1_10).other W13 (Or.inl ne_a1_b2)
  have F_usedCpu_a1_13 := (F_usedCpu_a1_10).other W13 (Or.inl ne_a1_b2)
  have F_usedMem_a1_13 := (F_usedMem_a1_10).other W13 (Or.inl ne_a1_b2)
  have F_count_a1_13 := (F_count_a1_10).other W13 (Or.inl ne_a1_b2)
  have E_l1_13 := (E_l1_10).wr W13
  have E_v1_13 := (E_v1_10).wr W13
  have V_b3_13 := (V_b3_10).other W13 ne_b2_b3.symm
  have V_b1_13 := (V_b1_10).other W13 ne_b1_b2
  have Z13 : n0 ≤ h13.size := Nat.le_trans Z10 (Nat.le_of_eq W13.size.symm)
  have V_b2_13 : OwnAr Z h13 b2 .long [(.long (0 : Int64)), (.long ((0 : Int64) + w3)), (.long (0 : Int64)), (.long (0 : Int64)), (.long (0 : Int64)), (.long (0 : Int64)), (.long (0 : Int64)), (.long (0 : Int64)), (.long (0 : Int64)), (.long (0 : Int64)), (.long (0 : Int64)), (.long (0 : Int64)), (.long (0 : Int64)), (.long (0 : Int64)), (.long (0 : Int64)), (.long (0 : Int64))] := B13
  have K13 := (K10).wr W13 (Or.inl (List.mem_of_getElem? (i := 1) rfl))
  refine own_aloadN X13 own_d17_84 (pc' := 85) rfl rfl rfl ?_
  refine own_getF X13 own_d17_85 (hw _ (List.mem_of_getElem? (i := 112) rfl)) Via.refl F_hostOf_a1_13 (pc' := 88) rfl ?_
  intro T14 X14
  refine own_iloadN X14 own_d17_88 (pc' := 89) rfl rfl ?_
  refine own_iloadN X14 own_d17_89 (pc' := 90) rfl rfl ?_
  refine own_iastore X14 own_d17_90 V_b3_13 (by decide) (Nat.le_of_ble_eq_true rfl) g_b3 (pc' := 91) rfl ?_
  intro T15 h15 X15 W15 B15
  have E_a1_15 := (E_a1_13).wr W15
  have E_l1_15 := (E_l1_13).wr W15
  have E_v1_15 := (E_v1_13).wr W15
  have V_b1_15 := (V_b1_13).other W15 ne_b1_b3
  have V_b2_15 := (V_b2_13).other W15 ne_b2_b3
  have Z15 : n0 ≤ h15.size := Nat.le_trans Z13 (Nat.le_of_eq W15.size.symm)
  have V_b3_15 : OwnAr Z h15 b3 .int [(.int (1 : Int32))] := B15
  have K15 := (K13).wr W15 (Or.inl (List.mem_of_getElem? (i := 2) rfl))
  exact own_retV X15 own_d17_91 ⟨rfl, K15, V_b1_15, V_b2_15, V_b3_15⟩ (by decide) (by decide)
theorem own_pd11 : parseMethodDescriptor "(Ljava/lang/String;JJ)V" = some ⟨[(.object "java/lang/String"), .long, .long], none⟩ := by decide +kernel
theorem own_pd12 : parseMethodDescriptor "(Ljava/lang/Object;)Z" = some ⟨[(.object "java/lang/Object")], some .boolean⟩ := by decide +kernel
theorem own_pd13 : parseMethodDescriptor "(JJLjava/util/List;)V" = some ⟨[.long, .long, (.object "java/util/List")], none⟩ := by decide +kernel
theorem own_pd14 : parseMethodDescriptor "(II)V" = some ⟨[.int, .int], none⟩ := by decide +kernel
theorem own_ef0 (m : MethodId) (x0 : Int64) (x1 : Int64) (x2 : Int64) (x3 : Int64) (x4 : Int64) (x5 : Int64) : entryFrame m #[(.long x0), (.long x1), (.long x2), (.long x3), (.long x4), (.long x5)] maxLocals = mkF m 0 #[.val (.long x0), .second, .val (.long x1), .second, .val (.long x2), .second, .val (.long x3), .second, .val (.long x4), .second, .val (.long x5), .second, .unset, .unset, .unset, .unset, .unset, .unset, .unset, .unset, .unset, .unset, .unset, .unset, .unset, .unset, .unset, .unset, .unset, .unset, .unset, .unset, .unset, .unset, .unset, .unset] [] := by first | (simp [entryFrame, mkF, argsToLocals, Value.category, maxLocals]; done) | rfl
theorem own_pn0 : plainFor x = true := by first | exact plainFor_of_name (by first | (simp [plainName, overriddenIn]; done) | decide +kernel) | exact Jvm.Free.JP.mathPlain rfl (by decide +kernel)
set_option maxRecDepth 65536 in
set_option maxHeartbeats 40000000 in
theorem own_rm0 (l : Launch) (Z : State) (a0 : Array Value) (hw : ∀ d ∈ tables_1, d.before a0 Z = true) (p0 : Int64) (p1 : Int64) (p2 : Int64) (p3 : Int64) (p4 : Int64) (p5 : Int64) (d0 : Addr) (h0 : Heap) (n0 : Nat) (Z0 : n0 ≤ h0.size) (S_DEFAULTCAPACITY_EMPTY_ELEMENTDATA : Sta Z h0 "java/util/ArrayList" "DEFAULTCAPACITY_EMPTY_ELEMENTDATA" "[Ljava/lang/Object;" (.ref d0)) (V_d0 : OwnAr Z h0 d0 (.object "java/lang/Object") []) :
    OwnMetW l Z x code maxLocals ret room_1 #[(.long p0), (.long p1), (.long p2), (.long p3), (.long p4), (.long p5)] h0 n0 (fun v h => v = some (.int 1)) := by
  refine own_bodyW own_pn0 ?_
  intro p e s m below meth c s₁ RR hRW hS0 X0
  refine own_enter (own_ef0 m p0 p1 p2 p3 p4 p5) ?_
  refine own_lloadN X0 at_0 (pc' := 1) rfl rfl ?_
  refine own_ldc2Long X0 at_1 (pc' := 4) rfl (hw _ (List.mem_of_getElem? (i := 0) rfl)) ?_
  refine own_land X0 at_4 (pc' := 5) rfl ?_
  refine own_lstoreV X0 at_5 (pc' := 7) rfl (l' := fun v5 => #[.val (.long p0), .second, .val (.long p1), .second, .val (.long p2), .second, .val (.long p3), .second, .val (.long p4), .second, .val (.long p5), .second, .val (.long v5), .second, .unset, .unset, .unset, .unset, .unset, .unset, .unset, .unset, .unset, .unset, .unset, .unset, .unset, .unset, .unset, .unset, .unset, .unset, .unset, .unset, .unset, .unset]) (fun _ => rfl) ?_
  intro v5 hv5
  refine own_lloadN X0 at_7 (pc' := 8) rfl rfl ?_
  refine own_ldc2Long X0 at_8 (pc' := 11) rfl (hw _ (List.mem_of_getElem? (i := 0) rfl)) ?_
  refine own_land X0 at_11 (pc' := 12) rfl ?_
  refine own_lstoreV X0 at_12 (pc' := 14) rfl (l' := fun v12 => #[.val (.long p0), .second, .val (.long p1), .second, .val (.long p2), .second, .val (.long p3), .second, .val (.long p4), .second, .val (.long p5), .second, .val (.long v5), .second, .val (.long v12), .second, .unset, .unset, .unset, .unset, .unset, .unset, .unset, .unset, .unset, .unset, .unset, .unset, .unset, .unset, .unset, .unset, .unset, .unset, .unset, .unset]) (fun _ => rfl) ?_
  intro v12 hv12
  refine own_lloadN X0 at_14 (pc' := 15) rfl rfl ?_
  refine own_lconst X0 at_15 (pc' := 16) rfl (v := (0 : Int64)) (by decide) ?_
  have j25_1 : ∀ (f25_s0 : Int32), f25_s0 = (if p0 < (0 : Int64) then (1 : Int32) else (0 : Int32)) → OwnGo p e below (s₁.setTop (mkF m 25 #[.val (.long p0), .second, .val (.long p1), .second, .val (.long p2), .second, .val (.long p3), .second, .val (.long p4), .second, .val (.long p5), .second, .val (.long v5), .second, .val (.long v12), .second, .unset, .unset, .unset, .unset, .unset, .unset, .unset, .unset, .unset, .unset, .unset, .unset, .unset, .unset, .unset, .unset, .unset, .unset, .unset, .unset] [(.int f25_s0)])) RR := by
    intro f25_s0 hf25_s0
    refine own_istore X0 at_25 (pc' := 27) rfl (l' := #[.val (.long p0), .second, .val (.long p1), .second, .val (.long p2), .second, .val (.long p3), .second, .val (.long p4), .second, .val (.long p5), .second, .val (.long v5), .second, .val (.long v12), .second, .val (.int f25_s0), .unset, .unset, .unset, .unset, .unset, .unset, .unset, .unset, .unset, .unset, .unset, .unset, .unset, .unset, .unset, .unset, .unset, .unset, .unset]) rfl ?_
    refine own_lloadN X0 at_27 (pc' := 28) rfl rfl ?_
    refine own_lconst X0 at_28 (pc' := 29) rfl (v := (0 : Int64)) (by decide) ?_
    have j38_2 : ∀ (f38_s0 : Int32), f38_s0 = (if p1 < (0 : Int64) then (1 : Int32) else (0 : Int32)) → OwnGo p e below (s₁.setTop (mkF m 38 #[.val (.long p0), .second, .val (.long p1), .second, .val (.long p2), .second, .val (.long p3), .second, .val (.long p4), .second, .val (.long p5), .second, .val (.long v5), .second, .val (.long v12), .second, .val (.int f25_s0), .unset, .unset, .unset, .unset, .unset, .unset, .unset, .unset, .unset, .unset, .unset, .unset, .unset, .unset, .unset, .unset, .unset, .unset, .unset] [(.int f38_s0)])) RR := by
      intro f38_s0 hf38_s0
      refine own_istore X0 at_38 (pc' := 40) rfl (l' := #[.val (.long p0), .second, .val (.long p1), .second, .val (.long p2), .second, .val (.long p3), .second, .val (.long p4), .second, .val (.long p5), .second, .val (.long v5), .second, .val (.long v12), .second, .val (.int f25_s0), .val (.int f38_s0), .unset, .unset, .unset, .unset, .unset, .unset, .unset, .unset, .unset, .unset, .unset, .unset, .unset, .unset, .unset, .unset, .unset, .unset]) rfl ?_
      refine own_lload X0 at_40 (pc' := 42) rfl rfl ?_
      refine own_ldc2Long X0 at_42 (pc' := 45) rfl (hw _ (List.mem_of_getElem? (i := 0) rfl)) ?_
      refine own_land X0 at_45 (pc' := 46) rfl ?_
      refine own_lstoreV X0 at_46 (pc' := 48) rfl (l' := fun v46 => #[.val (.long p0), .second, .val (.long p1), .second, .val (.long p2), .second, .val (.long p3), .second, .val (.long p4), .second, .val (.long p5), .second, .val (.long v5), .second, .val (.long v12), .second, .val (.int f25_s0), .val (.int f38_s0), .val (.long v46), .second, .unset, .unset, .unset, .unset, .unset, .unset, .unset, .unset, .unset, .unset, .unset, .unset, .unset, .unset, .unset, .unset]) (fun _ => rfl) ?_
      intro v46 hv46
      refine own_lload X0 at_48 (pc' := 50) rfl rfl ?_
      refine own_ldc2Long X0 at_50 (pc' := 53) rfl (hw _ (List.mem_of_getElem? (i := 0) rfl)) ?_
      refine own_land X0 at_53 (pc' := 54) rfl ?_
      refine own_lstoreV X0 at_54 (pc' := 56) rfl (l' := fun v54 => #[.val (.long p0), .second, .val (.long p1), .second, .val (.long p2), .second, .val (.long p3), .second, .val (.long p4), .second, .val (.long p5), .second, .val (.long v5), .second, .val (.long v12), .second, .val (.int f25_s0), .val (.int f38_s0), .val (.long v46), .second, .val (.long v54), .second, .unset, .unset, .unset, .unset, .unset, .unset, .unset, .unset, .unset, .unset, .unset, .unset, .unset, .unset]) (fun _ => rfl) ?_
      intro v54 hv54
      refine own_lload X0 at_56 (pc' := 58) rfl rfl ?_
      refine own_ldc2Long X0 at_58 (pc' := 61) rfl (hw _ (List.mem_of_getElem? (i := 0) rfl)) ?_
      refine own_land X0 at_61 (pc' := 62) rfl ?_
      refine own_lstoreV X0 at_62 (pc' := 64) rfl (l' := fun v62 => #[.val (.long p0), .second, .val (.long p1), .second, .val (.long p2), .second, .val (.long p3), .second, .val (.long p4), .second, .val (.long p5), .second, .val (.long v5), .second, .val (.long v12), .second, .val (.int f25_s0), .val (.int f38_s0), .val (.long v46), .second, .val (.long v54), .second, .val (.long v62), .second, .unset, .unset, .unset, .unset, .unset, .unset, .unset, .unset, .unset, .unset, .unset, .unset]) (fun _ => rfl) ?_
      intro v62 hv62
      refine own_lload X0 at_64 (pc' := 66) rfl rfl ?_
      refine own_ldc2Long X0 at_66 (pc' := 69) rfl (hw _ (List.mem_of_getElem? (i := 0) rfl)) ?_
      refine own_land X0 at_69 (pc' := 70) rfl ?_
      refine own_lstoreV X0 at_70 (pc' := 72) rfl (l' := fun v70 => #[.val (.long p0), .second, .val (.long p1), .second, .val (.long p2), .second, .val (.long p3), .second, .val (.long p4), .second, .val (.long p5), .second, .val (.long v5), .second, .val (.long v12), .second, .val (.int f25_s0), .val (.int f38_s0), .val (.long v46), .second, .val (.long v54), .second, .val (.long v62), .second, .val (.long v70), .second, .unset, .unset, .unset, .unset, .unset, .unset, .unset, .unset, .unset, .unset]) (fun _ => rfl) ?_
      intro v70 hv70
      refine own_new X0 at_72 (hw _ (List.mem_of_getElem? (i := 1) rfl)) (hw _ (List.mem_of_getElem? (i := 2) rfl)) (hw _ (List.mem_of_getElem? (i := 3) rfl)) (pc' := 75) rfl (by decide) (by decide) ?_
      intro T3 h3 b3 hb3 X3 E3 A3 D3
      have g_b3 : n0 ≤ b3 := Nat.le_trans Z0 (Nat.le_of_eq hb3.symm)
      have ne_d0_b3 : d0 ≠ b3 := Nat.ne_of_lt (Nat.lt_of_lt_of_le (V_d0).lt (Nat.le_of_eq hb3.symm))
      have S_DEFAULTCAPACITY_EMPTY_ELEMENTDATA_3 := (S_DEFAULTCAPACITY_EMPTY_ELEMENTDATA).ext E3
      have V_d0_3 := (V_d0).ext E3
      have Z3 : n0 ≤ h3.size := Nat.le_trans Z0 E3.1
      have F_modCount_b3 : Fld Z h3 b3 "java/util/AbstractList" "modCount" "I" (.int (0 : Int32)) := D3 (Or.inl (hw _ (List.mem_of_getElem? (i := 23) rfl))) (ty := .int) (by decide)
      have F_elementData_b3 : Fld Z h3 b3 "java/util/ArrayList" "elementData" "[Ljava/lang/Object;" .null := D3 (Or.inl (hw _ (List.mem_of_getElem? (i := 26) rfl))) (ty := (.array (.object "java/lang/Object"))) (by decide)
      have F_size_b3 : Fld Z h3 b3 "java/util/ArrayList" "size" "I" (.int (0 : Int32)) := D3 (Or.inl (hw _ (List.mem_of_getElem? (i := 61) rfl))) (ty := .int) (by decide)
      refine own_dup X3 at_75 (pc' := 76) rfl rfl ?_
      refine own_callC (a := b3) (argsL := []) X3 at_76 (y := (⟨"java/util/ArrayList", "<init>", "()V"⟩ : MethodName)) (by decide) (hw _ (List.mem_of_getElem? (i := 4) rfl)) (hw _ (List.mem_of_getElem? (i := 5) rfl)) (hw _ (List.mem_of_getElem? (i := 6) rfl)) (hw _ (List.mem_of_getElem? (i := 3) rfl)) (own_rm1 l Z a0 hw b3 d0 h3 n0 Z3 A3 F_elementData_b3 F_size_b3 F_modCount_b3 g_b3 S_DEFAULTCAPACITY_EMPTY_ELEMENTDATA_3) own_pd0 rfl (S := [(.ref b3)]) rfl (pc' := 79) rfl rfl (W := 1) (Nat.le_of_eq rfl) (by decide) (by decide) (by decide) (by decide) ?_
      intro T4 h4 v4_ X4 q4_
      obtain ⟨rfl, KK4, FF4q0, FF4q1, FF4q2⟩ := q4_
      show OwnGo p e below (T4.setTop (mkF m 79 #[.val (.long p0), .second, .val (.long p1), .second, .val (.long p2), .second, .val (.long p3), .second, .val (.long p4), .second, .val (.long p5), .second, .val (.long v5), .second, .val (.long v12), .second, .val (.int f25_s0), .val (.int f38_s0), .val (.long v46), .second, .val (.long v54), .second, .val (.long v62), .second, .val (.long v70), .second, .unset, .unset, .unset, .unset, .unset, .unset, .unset, .unset, .unset, .unset] [(.ref b3)])) RR
      have Z4 : n0 ≤ h4.size := Nat.le_trans Z3 KK4.1
      have S_DEFAULTCAPACITY_EMPTY_ELEMENTDATA_4 := own_sta_keep S_DEFAULTCAPACITY_EMPTY_ELEMENTDATA_3 KK4 (own_plS (own_plE A3) own_pl0)
      have V_d0_4 := (V_d0_3).keep KK4 (ninS ne_d0_b3 nin0)
      have A3_4 := (A3).keep KK4
      refine own_astore X4 at_79 (pc' := 81) rfl rfl (l' := #[.val (.long p0), .second, .val (.long p1), .second, .val (.long p2), .second, .val (.long p3), .second, .val (.long p4), .second, .val (.long p5), .second, .val (.long v5), .second, .val (.long v12), .second, .val (.int f25_s0), .val (.int f38_s0), .val (.long v46), .second, .val (.long v54), .second, .val (.long v62), .second, .val (.long v70), .second, .val (.ref b3), .unset, .unset, .unset, .unset, .unset, .unset, .unset, .unset, .unset]) rfl ?_
      refine own_aload X4 at_81 (pc' := 83) rfl rfl rfl ?_
      refine own_new X4 at_83 (hw _ (List.mem_of_getElem? (i := 27) rfl)) (hw _ (List.mem_of_getElem? (i := 28) rfl)) (hw _ (List.mem_of_getElem? (i := 29) rfl)) (pc' := 86) rfl (by decide) (by decide) ?_
      intro T5 h5 b5 hb5 X5 E5 A5 D5
      have g_b5 : n0 ≤ b5 := Nat.le_trans Z4 (Nat.le_of_eq hb5.symm)
      have ne_d0_b5 : d0 ≠ b5 := Nat.ne_of_lt (Nat.lt_of_lt_of_le (V_d0_4).lt (Nat.le_of_eq hb5.symm))
      have ne_b3_b5 : b3 ≠ b5 := Nat.ne_of_lt (Nat.lt_of_lt_of_le (A3_4).lt (Nat.le_of_eq hb5.symm))
      have S_DEFAULTCAPACITY_EMPTY_ELEMENTDATA_5 := (S_DEFAULTCAPACITY_EMPTY_ELEMENTDATA_4).ext E5
      have V_d0_5 := (V_d0_4).ext E5
      have A3_5 := (A3_4).ext E5
      have FF4q0_5 := (FF4q0).ext E5
      have FF4q1_5 := (FF4q1).ext E5
      have FF4q2_5 := (FF4q2).ext E5
      have Z5 : n0 ≤ h5.size := Nat.le_trans Z4 E5.1
      have F_id_b5 : Fld Z h5 b5 "com/example/packhouse/packhouse/Vm" "id" "Ljava/lang/String;" .null := D5 (Or.inr (hw _ (List.mem_of_getElem? (i := 48) rfl))) (ty := (.object "java/lang/String")) (by decide)
      have F_cpu_b5 : Fld Z h5 b5 "com/example/packhouse/packhouse/Vm" "cpu" "J" (.long (0 : Int64)) := D5 (Or.inr (hw _ (List.mem_of_getElem? (i := 50) rfl))) (ty := .long) (by decide)
      have F_mem_b5 : Fld Z h5 b5 "com/example/packhouse/packhouse/Vm" "mem" "J" (.long (0 : Int64)) := D5 (Or.inr (hw _ (List.mem_of_getElem? (i := 52) rfl))) (ty := .long) (by decide)
      refine own_dup X5 at_86 (pc' := 87) rfl rfl ?_
      refine own_ldcS X5 hS0 hRW at_87 (hw _ (List.mem_of_getElem? (i := 30) rfl)) (own_wS hw) (pc' := 89) rfl (n := 4) (by decide) (by decide) (by decide) (by decide) ?_
      intro a6_ T6 h6 k6_ X6 hS6 E6
      have S_DEFAULTCAPACITY_EMPTY_ELEMENTDATA_6 := (S_DEFAULTCAPACITY_EMPTY_ELEMENTDATA_5).ext E6
      have V_d0_6 := (V_d0_5).ext E6
      have A3_6 := (A3_5).ext E6
      have FF4q0_6 := (FF4q0_5).ext E6
      have FF4q1_6 := (FF4q1_5).ext E6
      have FF4q2_6 := (FF4q2_5).ext E6
      have A5_6 := (A5).ext E6
      have F_id_b5_6 := (F_id_b5).ext E6
      have F_cpu_b5_6 := (F_cpu_b5).ext E6
      have F_mem_b5_6 := (F_mem_b5).ext E6
      have Z6 : n0 ≤ h6.size := Nat.le_trans Z5 E6.1
      refine own_lload X6 at_89 (pc' := 91) rfl rfl ?_
      refine own_lload X6 at_91 (pc' := 93) rfl rfl ?_
      refine own_callC (a := b5) (argsL := [(.ref a6_), (.long v46), (.long v54)]) X6 at_93 (y := (⟨"com/example/packhouse/packhouse/Vm", "<init>", "(Ljava/lang/String;JJ)V"⟩ : MethodName)) (by decide) (hw _ (List.mem_of_getElem? (i := 38) rfl)) (hw _ (List.mem_of_getElem? (i := 39) rfl)) (hw _ (List.mem_of_getElem? (i := 40) rfl)) (hw _ (List.mem_of_getElem? (i := 29) rfl)) (own_rm5 l Z a0 hw b5 a6_ v46 v54 (0 : Int64) (0 : Int64) h6 n0 Z6 A5_6 F_id_b5_6 F_cpu_b5_6 F_mem_b5_6 g_b5) own_pd11 rfl (S := [(.ref b5), (.ref b3)]) rfl (pc' := 96) rfl rfl (W := 2) (Nat.le_of_eq rfl) (by decide) (by decide) (by decide) (by decide) ?_
      intro T7 h7 v7_ X7 q7_
      obtain ⟨rfl, KK7, FF7q0, FF7q1, FF7q2⟩ := q7_
      show OwnGo p e below (T7.setTop (mkF m 96 #[.val (.long p0), .second, .val (.long p1), .second, .val (.long p2), .second, .val (.long p3), .second, .val (.long p4), .second, .val (.long p5), .second, .val (.long v5), .second, .val (.long v12), .second, .val (.int f25_s0), .val (.int f38_s0), .val (.long v46), .second, .val (.long v54), .second, .val (.long v62), .second, .val (.long v70), .second, .val (.ref b3), .unset, .unset, .unset, .unset, .unset, .unset, .unset, .unset, .unset] [(.ref b5), (.ref b3)])) RR
      have Z7 : n0 ≤ h7.size := Nat.le_trans Z6 KK7.1
      have S_DEFAULTCAPACITY_EMPTY_ELEMENTDATA_7 := own_sta_keep S_DEFAULTCAPACITY_EMPTY_ELEMENTDATA_6 KK7 (own_plS (own_plE A5_6) own_pl0)
      have V_d0_7 := (V_d0_6).keep KK7 (ninS ne_d0_b5 nin0)
      have A3_7 := (A3_6).keep KK7
      have FF4q0_7 := (FF4q0_6).keep KK7 (ninS ne_b3_b5 nin0)
      have FF4q1_7 := (FF4q1_6).keep KK7 (ninS ne_b3_b5 nin0)
      have FF4q2_7 := (FF4q2_6).keep KK7 (ninS ne_b3_b5 nin0)
      have A5_7 := (A5_6).keep KK7
      refine own_callV (a := b3) (argsL := [(.ref b5)]) X7 at_96 (y := (⟨"java/util/ArrayList", "add", "(Ljava/lang/Object;)Z"⟩ : MethodName)) (by decide) (hw _ (List.mem_of_getElem? (i := 53) rfl)) (hw _ (List.mem_of_getElem? (i := 54) rfl)) (hw _ (List.mem_of_getElem? (i := 56) rfl)) (hw _ (List.mem_of_getElem? (i := 55) rfl)) (hw _ (List.mem_of_getElem? (i := 57) rfl)) (hw _ (List.mem_of_getElem? (i := 3) rfl)) A3_7 (own_rm7 l Z a0 hw b3 b5 d0 h7 n0 Z7 A3_7 FF4q0_7 FF4q1_7 FF4q2_7 g_b3 S_DEFAULTCAPACITY_EMPTY_ELEMENTDATA_7 V_d0_7 ne_d0_b3 A5_7) own_pd12 rfl (S := []) rfl (pc' := 99) rfl rfl (W := 0) (Nat.le_of_eq rfl) (by decide) (by decide) (by decide) (by decide) ?_
      intro T8 h8 v8_ X8 q8_
      obtain ⟨b_8, rfl, KK8, FF8q0, FF8q1, FF8q2, FF8q3, FF8q4⟩ := q8_
      show OwnGo p e below (T8.setTop (mkF m 99 #[.val (.long p0), .second, .val (.long p1), .second, .val (.long p2), .second, .val (.long p3), .second, .val (.long p4), .second, .val (.long p5), .second, .val (.long v5), .second, .val (.long v12), .second, .val (.int f25_s0), .val (.int f38_s0), .val (.long v46), .second, .val (.long v54), .second, .val (.long v62), .second, .val (.long v70), .second, .val (.ref b3), .unset, .unset, .unset, .unset, .unset, .unset, .unset, .unset, .unset] [(.int (1 : Int32))])) RR
      have Z8 : n0 ≤ h8.size := Nat.le_trans Z7 KK8.1
      have S_DEFAULTCAPACITY_EMPTY_ELEMENTDATA_8 := own_sta_keep S_DEFAULTCAPACITY_EMPTY_ELEMENTDATA_7 KK8 (own_plS (own_plE A3_7) own_pl0)
      have V_d0_8 := (V_d0_7).keep KK8 (ninS ne_d0_b3 nin0)
      have A3_8 := (A3_7).keep KK8
      have A5_8 := (A5_7).keep KK8
      have FF7q0_8 := (FF7q0).keep KK8 (ninS ne_b3_b5.symm nin0)
      have FF7q1_8 := (FF7q1).keep KK8 (ninS ne_b3_b5.symm nin0)
      have FF7q2_8 := (FF7q2).keep KK8 (ninS ne_b3_b5.symm nin0)
      have ne_d0_b_8 : d0 ≠ b_8 := Nat.ne_of_lt (Nat.lt_of_lt_of_le (V_d0_7).lt FF8q3)
      have ne_b3_b_8 : b3 ≠ b_8 := Nat.ne_of_lt (Nat.lt_of_lt_of_le (A3_7).lt FF8q3)
      have ne_b5_b_8 : b5 ≠ b_8 := Nat.ne_of_lt (Nat.lt_of_lt_of_le (A5_7).lt FF8q3)
      have g_b_8 : n0 ≤ b_8 := Nat.le_trans Z7 FF8q3
      refine own_pop X8 at_99 (pc' := 100) rfl rfl ?_
      refine own_new X8 at_100 (hw _ (List.mem_of_getElem? (i := 84) rfl)) (hw _ (List.mem_of_getElem? (i := 85) rfl)) (hw _ (List.mem_of_getElem? (i := 86) rfl)) (pc' := 103) rfl (by decide) (by decide) ?_
      intro T9 h9 b9 hb9 X9 E9 A9 D9
      have g_b9 : n0 ≤ b9 := Nat.le_trans Z8 (Nat.le_of_eq hb9.symm)
      have ne_d0_b9 : d0 ≠ b9 := Nat.ne_of_lt (Nat.lt_of_lt_of_le (V_d0_8).lt (Nat.le_of_eq hb9.symm))
      have ne_b3_b9 : b3 ≠ b9 := Nat.ne_of_lt (Nat.lt_of_lt_of_le (A3_8).lt (Nat.le_of_eq hb9.symm))
      have ne_b5_b9 : b5 ≠ b9 := Nat.ne_of_lt (Nat.lt_of_lt_of_le (A5_8).lt (Nat.le_of_eq hb9.symm))
      have ne_b_8_b9 : b_8 ≠ b9 := Nat.ne_of_lt (Nat.lt_of_lt_of_le (FF8q4).lt (Nat.le_of_eq hb9.symm))
      have S_DEFAULTCAPACITY_EMPTY_ELEMENTDATA_9 := (S_DEFAULTCAPACITY_EMPTY_ELEMENTDATA_8).ext E9
      have V_d0_9 := (V_d0_8).ext E9
      have A3_9 := (A3_8).ext E9
      have A5_9 := (A5_8).ext E9
      have FF7q0_9 := (FF7q0_8).ext E9
      have FF7q1_9 := (FF7q1_8).ext E9
      have FF7q2_9 := (FF7q2_8).ext E9
      have FF8q0_9 := (FF8q0).ext E9
      have FF8q1_9 := (FF8q1).ext E9
      have FF8q2_9 := (FF8q2).ext E9
      have FF8q4_9 := (FF8q4).ext E9
      have Z9 : n0 ≤ h9.size := Nat.le_trans Z8 E9.1
      have F_usedCpu_b9 : Fld Z h9 b9 "com/example/packhouse/packhouse/Hosts" "usedCpu" "[J" .null := D9 (Or.inl (hw _ (List.mem_of_getElem? (i := 93) rfl))) (ty := (.array .long)) (by decide)
      have F_usedMem_b9 : Fld Z h9 b9 "com/example/packhouse/packhouse/Hosts" "usedMem" "[J" .null := D9 (Or.inl (hw _ (List.mem_of_getElem? (i := 95) rfl))) (ty := (.array .long)) (by decide)
      have F_hostCpu_b9 : Fld Z h9 b9 "com/example/packhouse/packhouse/Hosts" "hostCpu" "J" (.long (0 : Int64)) := D9 (Or.inr (hw _ (List.mem_of_getElem? (i := 97) rfl))) (ty := .long) (by decide)
      have F_hostMem_b9 : Fld Z h9 b9 "com/example/packhouse/packhouse/Hosts" "hostMem" "J" (.long (0 : Int64)) := D9 (Or.inr (hw _ (List.mem_of_getElem? (i := 99) rfl))) (ty := .long) (by decide)
      have F_vms_b9 : Fld Z h9 b9 "com/example/packhouse/packhouse/Hosts" "vms" "Ljava/util/List;" .null := D9 (Or.inr (hw _ (List.mem_of_getElem? (i := 101) rfl))) (ty := (.object "java/util/List")) (by decide)
      have F_hostOf_b9 : Fld Z h9 b9 "com/example/packhouse/packhouse/Hosts" "hostOf" "[I" .null := D9 (Or.inr (hw _ (List.mem_of_getElem? (i := 113) rfl))) (ty := (.array .int)) (by decide)
      have F_count_b9 : Fld Z h9 b9 "com/example/packhouse/packhouse/Hosts" "count" "I" (.int (0 : Int32)) := D9 (Or.inl (hw _ (List.mem_of_getElem? (i := 124) rfl))) (ty := .int) (by decide)
      refine own_dup X9 at_103 (pc' := 104) rfl rfl ?_
      refine own_lload X9 at_104 (pc' := 106) rfl rfl ?_
      refine own_lload X9 at_106 (pc' := 108) rfl rfl ?_
      refine own_aload X9 at_108 (pc' := 110) rfl rfl rfl ?_
      refine own_callC (a := b9) (argsL := [(.long v5), (.long v12), (.ref b3)]) X9 at_110 (y := (⟨"com/example/packhouse/packhouse/Hosts", "<init>", "(JJLjava/util/List;)V"⟩ : MethodName)) (by decide) (hw _ (List.mem_of_getElem? (i := 87) rfl)) (hw _ (List.mem_of_getElem? (i := 88) rfl)) (hw _ (List.mem_of_getElem? (i := 89) rfl)) (hw _ (List.mem_of_getElem? (i := 86) rfl)) (own_rm12 l Z a0 hw b9 v5 v12 b3 h9 n0 Z9 A9 F_hostCpu_b9 F_hostMem_b9 F_vms_b9 F_hostOf_b9 F_usedCpu_b9 F_usedMem_b9 F_count_b9 g_b9 A3_9 FF8q1_9 ne_b3_b9) own_pd13 rfl (S := [(.ref b9)]) rfl (pc' := 113) rfl rfl (W := 1) (Nat.le_of_eq rfl) (by decide) (by decide) (by decide) (by decide) ?_
      intro T10 h10 v10_ X10 q10_
      obtain ⟨b1_10, b2_10, b3_10, rfl, KK10, FF10q0, FF10q1, FF10q2, FF10q3, FF10q4, FF10q5, FF10q6, FF10q7, FF10q8, FF10q9, FF10q10, FF10q11, FF10q12, FF10q13, FF10q14, FF10q15⟩ := q10_
      show OwnGo p e below (T10.setTop (mkF m 113 #[.val (.long p0), .second, .val (.long p1), .second, .val (.long p2), .second, .val (.long p3), .second, .val (.long p4), .second, .val (.long p5), .second, .val (.long v5), .second, .val (.long v12), .second, .val (.int f25_s0), .val (.int f38_s0), .val (.long v46), .second, .val (.long v54), .second, .val (.long v62), .second, .val (.long v70), .second, .val (.ref b3), .unset, .unset, .unset, .unset, .unset, .unset, .unset, .unset, .unset] [(.ref b9)])) RR
      have Z10 : n0 ≤ h10.size := Nat.le_trans Z9 KK10.1
      have S_DEFAULTCAPACITY_EMPTY_ELEMENTDATA_10 := own_sta_keep S_DEFAULTCAPACITY_EMPTY_ELEMENTDATA_9 KK10 (own_plS (own_plE A9) own_pl0)
      have V_d0_10 := (V_d0_9).keep KK10 (ninS ne_d0_b9 nin0)
      have A3_10 := (A3_9).keep KK10
      have A5_10 := (A5_9).keep KK10
      have FF7q0_10 := (FF7q0_9).keep KK10 (ninS ne_b5_b9 nin0)
      have FF7q1_10 := (FF7q1_9).keep KK10 (ninS ne_b5_b9 nin0)
      have FF7q2_10 := (FF7q2_9).keep KK10 (ninS ne_b5_b9 nin0)
      have FF8q0_10 := (FF8q0_9).keep KK10 (ninS ne_b3_b9 nin0)
      have FF8q1_10 := (FF8q1_9).keep KK10 (ninS ne_b3_b9 nin0)
      have FF8q2_10 := (FF8q2_9).keep KK10 (ninS ne_b3_b9 nin0)
      have FF8q4_10 := (FF8q4_9).keep KK10 (ninS ne_b_8_b9 nin0)
      have A9_10 := (A9).keep KK10
      have ne_d0_b1_10 : d0 ≠ b1_10 := Nat.ne_of_lt (Nat.lt_of_lt_of_le (V_d0_9).lt FF10q7)
      have ne_b3_b1_10 : b3 ≠ b1_10 := Nat.ne_of_lt (Nat.lt_of_lt_of_le (A3_9).lt FF10q7)
      have ne_b5_b1_10 : b5 ≠ b1_10 := Nat.ne_of_lt (Nat.lt_of_lt_of_le (A5_9).lt FF10q7)
      have ne_b_8_b1_10 : b_8 ≠ b1_10 := Nat.ne_of_lt (Nat.lt_of_lt_of_le (FF8q4_9).lt FF10q7)
      have ne_b9_b1_10 : b9 ≠ b1_10 := Nat.ne_of_lt (Nat.lt_of_lt_of_le (A9).lt FF10q7)
      have g_b1_10 : n0 ≤ b1_10 := Nat.le_trans Z9 FF10q7
      have ne_d0_b2_10 : d0 ≠ b2_10 := Nat.ne_of_lt (Nat.lt_of_lt_of_le (V_d0_9).lt FF10q8)
      have ne_b3_b2_10 : b3 ≠ b2_10 := Nat.ne_of_lt (Nat.lt_of_lt_of_le (A3_9).lt FF10q8)
      have ne_b5_b2_10 : b5 ≠ b2_10 := Nat.ne_of_lt (Nat.lt_of_lt_of_le (A5_9).lt FF10q8)
      have ne_b_8_b2_10 : b_8 ≠ b2_10 := Nat.ne_of_lt (Nat.lt_of_lt_of_le (FF8q4_9).lt FF10q8)
      have ne_b9_b2_10 : b9 ≠ b2_10 := Nat.ne_of_lt (Nat.lt_of_lt_of_le (A9).lt FF10q8)
      have g_b2_10 : n0 ≤ b2_10 := Nat.le_trans Z9 FF10q8
      have ne_d0_b3_10 : d0 ≠ b3_10 := Nat.ne_of_lt (Nat.lt_of_lt_of_le (V_d0_9).lt FF10q9)
      have ne_b3_b3_10 : b3 ≠ b3_10 := Nat.ne_of_lt (Nat.lt_of_lt_of_le (A3_9).lt FF10q9)
      have ne_b5_b3_10 : b5 ≠ b3_10 := Nat.ne_of_lt (Nat.lt_of_lt_of_le (A5_9).lt FF10q9)
      have ne_b_8_b3_10 : b_8 ≠ b3_10 := Nat.ne_of_lt (Nat.lt_of_lt_of_le (FF8q4_9).lt FF10q9)
      have ne_b9_b3_10 : b9 ≠ b3_10 := Nat.ne_of_lt (Nat.lt_of_lt_of_le (A9).lt FF10q9)
      have g_b3_10 : n0 ≤ b3_10 := Nat.le_trans Z9 FF10q9
      refine own_astore X10 at_113 (pc' := 115) rfl rfl (l' := #[.val (.long p0), .second, .val (.long p1), .second, .val (.long p2), .second, .val (.long p3), .second, .val (.long p4), .second, .val (.long p5), .second, .val (.long v5), .second, .val (.long v12), .second, .val (.int f25_s0), .val (.int f38_s0), .val (.long v46), .second, .val (.long v54), .second, .val (.long v62), .second, .val (.long v70), .second, .val (.ref b3), .val (.ref b9), .unset, .unset, .unset, .unset, .unset, .unset, .unset, .unset]) rfl ?_
      refine own_aload X10 at_115 (pc' := 117) rfl rfl rfl ?_
      refine own_callV (a := b9) (argsL := []) X10 at_117 (y := (⟨"com/example/packhouse/packhouse/Hosts", "open", "()I"⟩ : MethodName)) (by decide) (hw _ (List.mem_of_getElem? (i := 118) rfl)) (hw _ (List.mem_of_getElem? (i := 119) rfl)) (hw _ (List.mem_of_getElem? (i := 121) rfl)) (hw _ (List.mem_of_getElem? (i := 120) rfl)) (hw _ (List.mem_of_getElem? (i := 122) rfl)) (hw _ (List.mem_of_getElem? (i := 86) rfl)) A9_10 (own_rm15_0 l Z a0 hw b9 v5 v12 b3 b1_10 b2_10 b3_10 h10 n0 Z10 A9_10 FF10q0 FF10q1 FF10q2 FF10q3 FF10q4 FF10q5 FF10q6 g_b9 FF10q13) own_pd7 rfl (S := []) rfl (pc' := 120) rfl rfl (W := 0) (Nat.le_of_eq rfl) (by decide) (by decide) (by decide) (by decide) ?_
      intro T11 h11 v11_ X11 q11_
      obtain ⟨rfl, KK11, FF11q0, FF11q1, FF11q2, FF11q3, FF11q4, FF11q5, FF11q6⟩ := q11_
      show OwnGo p e below (T11.setTop (mkF m 120 #[.val (.long p0), .second, .val (.long p1), .second, .val (.long p2), .second, .val (.long p3), .second, .val (.long p4), .second, .val (.long p5), .second, .val (.long v5), .second, .val (.long v12), .second, .val (.int f25_s0), .val (.int f38_s0), .val (.long v46), .second, .val (.long v54), .second, .val (.long v62), .second, .val (.long v70), .second, .val (.ref b3), .val (.ref b9), .unset, .unset, .unset, .unset, .unset, .unset, .unset, .unset] [(.int (0 : Int32))])) RR
      have Z11 : n0 ≤ h11.size := Nat.le_trans Z10 KK11.1
      have S_DEFAULTCAPACITY_EMPTY_ELEMENTDATA_11 := own_sta_keep S_DEFAULTCAPACITY_EMPTY_ELEMENTDATA_10 KK11 (own_plS (own_plE A9_10) own_pl0)
      have V_d0_11 := (V_d0_10).keep KK11 (ninS ne_d0_b9 nin0)
      have A3_11 := (A3_10).keep KK11
      have A5_11 := (A5_10).keep KK11
      have FF7q0_11 := (FF7q0_10).keep KK11 (ninS ne_b5_b9 nin0)
      have FF7q1_11 := (FF7q1_10).keep KK11 (ninS ne_b5_b9 nin0)
      have FF7q2_11 := (FF7q2_10).keep KK11 (ninS ne_b5_b9 nin0)
      have FF8q0_11 := (FF8q0_10).keep KK11 (ninS ne_b3_b9 nin0)
      have FF8q1_11 := (FF8q1_10).keep KK11 (ninS ne_b3_b9 nin0)
      have FF8q2_11 := (FF8q2_10).keep KK11 (ninS ne_b3_b9 nin0)
      have FF8q4_11 := (FF8q4_10).keep KK11 (ninS ne_b_8_b9 nin0)
      have A9_11 := (A9_10).keep KK11
      have FF10q13_11 := (FF10q13).keep KK11 (ninS ne_b9_b1_10.symm nin0)
      have FF10q14_11 := (FF10q14).keep KK11 (ninS ne_b9_b2_10.symm nin0)
      have FF10q15_11 := (FF10q15).keep KK11 (ninS ne_b9_b3_10.symm nin0)
      refine own_pop X11 at_120 (pc' := 121) rfl rfl ?_
      refine own_aload X11 at_121 (pc' := 123) rfl rfl rfl ?_
      refine own_callV (a := b9) (argsL := []) X11 at_123 (y := (⟨"com/example/packhouse/packhouse/Hosts", "open", "()I"⟩ : MethodName)) (by decide) (hw _ (List.mem_of_getElem? (i := 118) rfl)) (hw _ (List.mem_of_getElem? (i := 119) rfl)) (hw _ (List.mem_of_getElem? (i := 121) rfl)) (hw _ (List.mem_of_getElem? (i := 120) rfl)) (hw _ (List.mem_of_getElem? (i := 122) rfl)) (hw _ (List.mem_of_getElem? (i := 86) rfl)) A9_11 (own_rm15_1 l Z a0 hw b9 v5 v12 b3 b1_10 b2_10 b3_10 h11 n0 Z11 A9_11 FF11q0 FF11q1 FF11q2 FF11q3 FF11q4 FF11q5 FF11q6 g_b9 FF10q13_11) own_pd7 rfl (S := []) rfl (pc' := 126) rfl rfl (W := 0) (Nat.le_of_eq rfl) (by decide) (by decide) (by decide) (by decide) ?_
      intro T12 h12 v12_ X12 q12_
      obtain ⟨rfl, KK12, FF12q0, FF12q1, FF12q2, FF12q3, FF12q4, FF12q5, FF12q6⟩ := q12_
      show OwnGo p e below (T12.setTop (mkF m 126 #[.val (.long p0), .second, .val (.long p1), .second, .val (.long p2), .second, .val (.long p3), .second, .val (.long p4), .second, .val (.long p5), .second, .val (.long v5), .second, .val (.long v12), .second, .val (.int f25_s0), .val (.int f38_s0), .val (.long v46), .second, .val (.long v54), .second, .val (.long v62), .second, .val (.long v70), .second, .val (.ref b3), .val (.ref b9), .unset, .unset, .unset, .unset, .unset, .unset, .unset, .unset] [(.int (1 : Int32))])) RR
      have Z12 : n0 ≤ h12.size := Nat.le_trans Z11 KK12.1
      have S_DEFAULTCAPACITY_EMPTY_ELEMENTDATA_12 := own_sta_keep S_DEFAULTCAPACITY_EMPTY_ELEMENTDATA_11 KK12 (own_plS (own_plE A9_11) own_pl0)
      have V_d0_12 := (V_d0_11).keep KK12 (ninS ne_d0_b9 nin0)
      have A3_12 := (A3_11).keep KK12
      have A5_12 := (A5_11).keep KK12
      have FF7q0_12 := (FF7q0_11).keep KK12 (ninS ne_b5_b9 nin0)
      have FF7q1_12 := (FF7q1_11).keep KK12 (ninS ne_b5_b9 nin0)
      have FF7q2_12 := (FF7q2_11).keep KK12 (ninS ne_b5_b9 nin0)
      have FF8q0_12 := (FF8q0_11).keep KK12 (ninS ne_b3_b9 nin0)
      have FF8q1_12 := (FF8q1_11).keep KK12 (ninS ne_b3_b9 nin0)
      have FF8q2_12 := (FF8q2_11).keep KK12 (ninS ne_b3_b9 nin0)
      have FF8q4_12 := (FF8q4_11).keep KK12 (ninS ne_b_8_b9 nin0)
      have A9_12 := (A9_11).keep KK12
      have FF10q13_12 := (FF10q13_11).keep KK12 (ninS ne_b9_b1_10.symm nin0)
      have FF10q14_12 := (FF10q14_11).keep KK12 (ninS ne_b9_b2_10.symm nin0)
      have FF10q15_12 := (FF10q15_11).keep KK12 (ninS ne_b9_b3_10.symm nin0)
      refine own_pop X12 at_126 (pc' := 127) rfl rfl ?_
      rcases own_01 hf25_s0 with ⟨rfl, hA⟩ | ⟨rfl, hA⟩
      · rcases own_01 hf38_s0 with ⟨rfl, hB⟩ | ⟨rfl, hB⟩
        · refine own_lload X12 at_127 (pc' := 129) rfl rfl ?_
          refine own_lload X12 at_129 (pc' := 131) rfl rfl ?_
          by_cases hc132 : v5 < v46
          · refine own_ljY X12 at_131 at_132 (own_tltL (hc132)).2.2.1 (pc' := 147) (by decide) (by decide) ?_
            refine own_iconst X12 at_147 (pc' := 148) rfl (v := (0 : Int32)) (by decide) ?_
            refine own_istore X12 at_148 (pc' := 150) rfl (l' := #[.val (.long p0), .second, .val (.long p1), .second, .val (.long p2), .second, .val (.long p3), .second, .val (.long p4), .second, .val (.long p5), .second, .val (.long v5), .second, .val (.long v12), .second, .val (.int (1 : Int32)), .val (.int (1 : Int32)), .val (.long v46), .second, .val (.long v54), .second, .val (.long v62), .second, .val (.long v70), .second, .val (.ref b3), .val (.ref b9), .val (.int (0 : Int32)), .unset, .unset, .unset, .unset, .unset, .unset, .unset]) rfl ?_
            refine own_iload X12 at_150 (pc' := 152) rfl rfl ?_
            refine own_ifY X12 at_152 (teq ((rfl : (0 : Int32) = (0 : Int32)))).1 (pc' := 163) (by decide) (by decide) ?_
            refine own_iload X12 at_163 (pc' := 165) rfl rfl ?_
            refine own_ifY X12 at_165 (teq ((rfl : (0 : Int32) = (0 : Int32)))).1 (pc' := 180) (by decide) (by decide) ?_
            refine own_lconst X12 at_180 (pc' := 181) rfl (v := (0 : Int64)) (by decide) ?_
            refine own_lstore X12 at_181 (pc' := 183) rfl (l' := #[.val (.long p0), .second, .val (.long p1), .second, .val (.long p2), .second, .val (.long p3), .second, .val (.long p4), .second, .val (.long p5), .second, .val (.long v5), .second, .val (.long v12), .second, .val (.int (1 : Int32)), .val (.int (1 : Int32)), .val (.long v46), .second, .val (.long v54), .second, .val (.long v62), .second, .val (.long v70), .second, .val (.ref b3), .val (.ref b9), .val (.int (0 : Int32)), .val (.long (0 : Int64)), .second, .unset, .unset, .unset, .unset, .unset]) rfl ?_
            refine own_iload X12 at_183 (pc' := 185) rfl rfl ?_
            refine own_ifY X12 at_185 (teq ((rfl : (0 : Int32) = (0 : Int32)))).1 (pc' := 200) (by decide) (by decide) ?_
            refine own_lconst X12 at_200 (pc' := 201) rfl (v := (0 : Int64)) (by decide) ?_
            refine own_lstore X12 at_201 (pc' := 203) rfl (l' := #[.val (.long p0), .second, .val (.long p1), .second, .val (.long p2), .second, .val (.long p3), .second, .val (.long p4), .second, .val (.long p5), .second, .val (.long v5), .second, .val (.long v12), .second, .val (.int (1 : Int32)), .val (.int (1 : Int32)), .val (.long v46), .second, .val (.long v54), .second, .val (.long v62), .second, .val (.long v70), .second, .val (.ref b3), .val (.ref b9), .val (.int (0 : Int32)), .val (.long (0 : Int64)), .second, .val (.long (0 : Int64)), .second, .unset, .unset, .unset]) rfl ?_
            refine own_lload X12 at_203 (pc' := 205) rfl rfl ?_
            refine own_lload X12 at_205 (pc' := 207) rfl rfl ?_
            have j227_13 : ∀ (f227_s0 : Int32), f227_s0 = (if v5 < v62 then (0 : Int32) else (if (v5 - v62) < (0 : Int64) then (0 : Int32) else (1 : Int32))) → OwnGo p e below (T12.setTop (mkF m 227 #[.val (.long p0), .second, .val (.long p1), .second, .val (.long p2), .second, .val (.long p3), .second, .val (.long p4), .second, .val (.long p5), .second, .val (.long v5), .second, .val (.long v12), .second, .val (.int (1 : Int32)), .val (.int (1 : Int32)), .val (.long v46), .second, .val (.long v54), .second, .val (.long v62), .second, .val (.long v70), .second, .val (.ref b3), .val (.ref b9), .val (.int (0 : Int32)), .val (.long (0 : Int64)), .second, .val (.long (0 : Int64)), .second, .unset, .unset, .unset] [(.int f227_s0)])) RR := by
              intro f227_s0 hf227_s0
              refine own_istore X12 at_227 (pc' := 229) rfl (l' := #[.val (.long p0), .second, .val (.long p1), .second, .val (.long p2), .second, .val (.long p3), .second, .val (.long p4), .second, .val (.long p5), .second, .val (.long v5), .second, .val (.long v12), .second, .val (.int (1 : Int32)), .val (.int (1 : Int32)), .val (.long v46), .second, .val (.long v54), .second, .val (.long v62), .second, .val (.long v70), .second, .val (.ref b3), .val (.ref b9), .val (.int (0 : Int32)), .val (.long (0 : Int64)), .second, .val (.long (0 : Int64)), .second, .val (.int f227_s0), .unset, .unset]) rfl ?_
              refine own_lload X12 at_229 (pc' := 231) rfl rfl ?_
              refine own_lload X12 at_231 (pc' := 233) rfl rfl ?_
              have j253_14 : ∀ (f253_s0 : Int32), f253_s0 = (if v12 < v70 then (0 : Int32) else (if (v12 - v70) < (0 : Int64) then (0 : Int32) else (1 : Int32))) → OwnGo p e below (T12.setTop (mkF m 253 #[.val (.long p0), .second, .val (.long p1), .second, .val (.long p2), .second, .val (.long p3), .second, .val (.long p4), .second, .val (.long p5), .second, .val (.long v5), .second, .val (.long v12), .second, .val (.int (1 : Int32)), .val (.int (1 : Int32)), .val (.long v46), .second, .val (.long v54), .second, .val (.long v62), .second, .val (.long v70), .second, .val (.ref b3), .val (.ref b9), .val (.int (0 : Int32)), .val (.long (0 : Int64)), .second, .val (.long (0 : Int64)), .second, .val (.int f227_s0), .unset, .unset] [(.int f253_s0)])) RR := by
                intro f253_s0 hf253_s0
                refine own_istore X12 at_253 (pc' := 255) rfl (l' := #[.val (.long p0), .second, .val (.long p1), .second, .val (.long p2), .second, .val (.long p3), .second, .val (.long p4), .second, .val (.long p5), .second, .val (.long v5), .second, .val (.long v12), .second, .val (.int (1 : Int32)), .val (.int (1 : Int32)), .val (.long v46), .second, .val (.long v54), .second, .val (.long v62), .second, .val (.long v70), .second, .val (.ref b3), .val (.ref b9), .val (.int (0 : Int32)), .val (.long (0 : Int64)), .second, .val (.long (0 : Int64)), .second, .val (.int f227_s0), .val (.int f253_s0), .unset]) rfl ?_
                refine own_iload X12 at_255 (pc' := 257) rfl rfl ?_
                have j270_15 : ∀ (f270_s0 : Int32), f270_s0 = (if f227_s0 = (0 : Int32) then (0 : Int32) else (if f253_s0 = (0 : Int32) then (0 : Int32) else (1 : Int32))) → OwnGo p e below (T12.setTop (mkF m 270 #[.val (.long p0), .second, .val (.long p1), .second, .val (.long p2), .second, .val (.long p3), .second, .val (.long p4), .second, .val (.long p5), .second, .val (.long v5), .second, .val (.long v12), .second, .val (.int (1 : Int32)), .val (.int (1 : Int32)), .val (.long v46), .second, .val (.long v54), .second, .val (.long v62), .second, .val (.long v70), .second, .val (.ref b3), .val (.ref b9), .val (.int (0 : Int32)), .val (.long (0 : Int64)), .second, .val (.long (0 : Int64)), .second, .val (.int f227_s0), .val (.int f253_s0), .unset] [(.int f270_s0)])) RR := by
                  intro f270_s0 hf270_s0
                  refine own_istore X12 at_270 (pc' := 272) rfl (l' := #[.val (.long p0), .second, .val (.long p1), .second, .val (.long p2), .second, .val (.long p3), .second, .val (.long p4), .second, .val (.long p5), .second, .val (.long v5), .second, .val (.long v12), .second, .val (.int (1 : Int32)), .val (.int (1 : Int32)), .val (.long v46), .second, .val (.long v54), .second, .val (.long v62), .second, .val (.long v70), .second, .val (.ref b3), .val (.ref b9), .val (.int (0 : Int32)), .val (.long (0 : Int64)), .second, .val (.long (0 : Int64)), .second, .val (.int f227_s0), .val (.int f253_s0), .val (.int f270_s0)]) rfl ?_
                  refine own_aload X12 at_272 (pc' := 274) rfl rfl rfl ?_
                  refine own_iload X12 at_274 (pc' := 276) rfl rfl ?_
                  refine own_lload X12 at_276 (pc' := 278) rfl rfl ?_
                  refine own_lload X12 at_278 (pc' := 280) rfl rfl ?_
                  refine own_callV (a := b9) (argsL := [(.int (1 : Int32)), (.long v62), (.long v70)]) X12 at_280 (y := (⟨"com/example/packhouse/packhouse/Hosts", "fits", "(IJJ)Z"⟩ : MethodName)) (by decide) (hw _ (List.mem_of_getElem? (i := 125) rfl)) (hw _ (List.mem_of_getElem? (i := 126) rfl)) (hw _ (List.mem_of_getElem? (i := 128) rfl)) (hw _ (List.mem_of_getElem? (i := 127) rfl)) (hw _ (List.mem_of_getElem? (i := 129) rfl)) (hw _ (List.mem_of_getElem? (i := 86) rfl)) A9_12 (own_rm16_1 l Z a0 hw b9 v5 v12 b1_10 b2_10 (0 : Int64) (0 : Int64) (0 : Int64) (0 : Int64) v62 v70 h12 n0 Z12 FF12q0 FF12q1 FF12q4 FF12q5 FF10q13_12 FF10q14_12) own_pd10 rfl (S := []) rfl (pc' := 283) rfl rfl (W := 0) (Nat.le_of_eq rfl) (by decide) (by decide) (by decide) (by decide) ?_
                  intro T16 h16 v16_ X16 q16_
                  obtain ⟨rfl, rfl⟩ := q16_
                  obtain ⟨r16, hr16⟩ : ∃ z, z = (if (v5 - (0 : Int64)) < v62 then (0 : Int32) else (if (v12 - (0 : Int64)) < v70 then (0 : Int32) else (1 : Int32))) := ⟨_, rfl⟩
                  show OwnGo p e below (T16.setTop (mkF m 283 #[.val (.long p0), .second, .val (.long p1), .second, .val (.long p2), .second, .val (.long p3), .second, .val (.long p4), .second, .val (.long p5), .second, .val (.long v5), .second, .val (.long v12), .second, .val (.int (1 : Int32)), .val (.int (1 : Int32)), .val (.long v46), .second, .val (.long v54), .second, .val (.long v62), .second, .val (.long v70), .second, .val (.ref b3), .val (.ref b9), .val (.int (0 : Int32)), .val (.long (0 : Int64)), .second, .val (.long (0 : Int64)), .second, .val (.int f227_s0), .val (.int f253_s0), .val (.int f270_s0)] [(.int (if (v5 - (0 : Int64)) < v62 then (0 : Int32) else (if (v12 - (0 : Int64)) < v70 then (0 : Int32) else (1 : Int32))))])) RR
                  rw [← hr16]
                  refine own_iload X16 at_283 (pc' := 285) rfl rfl ?_
                  refine own_icN X16 at_285 (teq ((own_fin (own_msk hv5) (own_msk hv12) (own_msk hv62) (own_msk hv70) rfl rfl (by decide) (by decide) (own_n0 (own_msk hv5)) (own_n0 (own_msk hv12)) hr16 hf227_s0 hf253_s0 hf270_s0 : r16 = f270_s0))).2 (pc' := 288) rfl ?_
                  refine own_iconst X16 at_288 (pc' := 289) rfl (v := (1 : Int32)) (by decide) ?_
                  refine own_goto X16 at_289 (pc' := 293) (by decide) (by decide) ?_
                  exact own_retZ X16 at_293 (by decide) rfl (by decide) (by decide)
                by_cases hc257 : f227_s0 = (0 : Int32)
                · refine own_ifY X12 at_257 (teq (hc257)).1 (pc' := 269) (by decide) (by decide) ?_
                  refine own_iconst X12 at_269 (pc' := 270) rfl (v := (0 : Int32)) (by decide) ?_
                  exact j270_15 _ (by rw [if_pos hc257])
                · refine own_ifN X12 at_257 (feq (hc257)).1 (pc' := 260) rfl ?_
                  refine own_iload X12 at_260 (pc' := 262) rfl rfl ?_
                  by_cases hc262 : f253_s0 = (0 : Int32)
                  · refine own_ifY X12 at_262 (teq (hc262)).1 (pc' := 269) (by decide) (by decide) ?_
                    refine own_iconst X12 at_269 (pc' := 270) rfl (v := (0 : Int32)) (by decide) ?_
                    exact j270_15 _ (by rw [if_neg hc257, if_pos hc262])
                  · refine own_ifN X12 at_262 (feq (hc262)).1 (pc' := 265) rfl ?_
                    refine own_iconst X12 at_265 (pc' := 266) rfl (v := (1 : Int32)) (by decide) ?_
                    refine own_goto X12 at_266 (pc' := 270) (by decide) (by decide) ?_
                    exact j270_15 _ (by rw [if_neg hc257, if_neg hc262])
              by_cases hc234 : v12 < v70
              · refine own_ljY X12 at_233 at_234 (own_tltL (hc234)).2.2.1 (pc' := 252) (by decide) (by decide) ?_
                refine own_iconst X12 at_252 (pc' := 253) rfl (v := (0 : Int32)) (by decide) ?_
                exact j253_14 _ (by rw [if_pos hc234])
              · refine own_ljN X12 at_233 at_234 (own_fltL (hc234)).2.2.1 (pc' := 237) rfl ?_
                refine own_lload X12 at_237 (pc' := 239) rfl rfl ?_
                refine own_lload X12 at_239 (pc' := 241) rfl rfl ?_
                refine own_lload X12 at_241 (pc' := 243) rfl rfl ?_
                refine own_lsub X12 at_243 (pc' := 244) rfl ?_
                by_cases hc245 : (v12 - v70) < (0 : Int64)
                · refine own_ljY X12 at_244 at_245 (own_tltL (hc245)).2.2.1 (pc' := 252) (by decide) (by decide) ?_
                  refine own_iconst X12 at_252 (pc' := 253) rfl (v := (0 : Int32)) (by decide) ?_
                  exact j253_14 _ (by rw [if_neg hc234, if_pos hc245])
                · refine own_ljN X12 at_244 at_245 (own_fltL (hc245)).2.2.1 (pc' := 248) rfl ?_
                  refine own_iconst X12 at_248 (pc' := 249) rfl (v := (1 : Int32)) (by decide) ?_
                  refine own_goto X12 at_249 (pc' := 253) (by decide) (by decide) ?_
                  exact j253_14 _ (by rw [if_neg hc234, if_neg hc245])
            by_cases hc208 : v5 < v62
            · refine own_ljY X12 at_207 at_208 (own_tltL (hc208)).2.2.1 (pc' := 226) (by decide) (by decide) ?_
              refine own_iconst X12 at_226 (pc' := 227) rfl (v := (0 : Int32)) (by decide) ?_
              exact j227_13 _ (by rw [if_pos hc208])
            · refine own_ljN X12 at_207 at_208 (own_fltL (hc208)).2.2.1 (pc' := 211) rfl ?_
              refine own_lload X12 at_211 (pc' := 213) rfl rfl ?_
              refine own_lload X12 at_213 (pc' := 215) rfl rfl ?_
              refine own_lload X12 at_215 (pc' := 217) rfl rfl ?_
              refine own_lsub X12 at_217 (pc' := 218) rfl ?_
              by_cases hc219 : (v5 - v62) < (0 : Int64)
              · refine own_ljY X12 at_218 at_219 (own_tltL (hc219)).2.2.1 (pc' := 226) (by decide) (by decide) ?_
                refine own_iconst X12 at_226 (pc' := 227) rfl (v := (0 : Int32)) (by decide) ?_
                exact j227_13 _ (by rw [if_neg hc208, if_pos hc219])
              · refine own_ljN X12 at_218 at_219 (own_fltL (hc219)).2.2.1 (pc' := 222) rfl ?_
                refine own_iconst X12 at_222 (pc' := 223) rfl (v := (1 : Int32)) (by decide) ?_
                refine own_goto X12 at_223 (pc' := 227) (by decide) (by decide) ?_
                exact j227_13 _ (by rw [if_neg hc208, if_neg hc219])
          · refine own_ljN X12 at_131 at_132 (own_fltL (hc132)).2.2.1 (pc' := 135) rfl ?_
            refine own_lload X12 at_135 (pc' := 137) rfl rfl ?_
            refine own_lload X12 at_137 (pc' := 139) rfl rfl ?_
            by_cases hc140 : v12 < v54
            · refine own_ljY X12 at_139 at_140 (own_tltL (hc140)).2.2.1 (pc' := 147) (by decide) (by decide) ?_
              refine own_iconst X12 at_147 (pc' := 148) rfl (v := (0 : Int32)) (by decide) ?_
              refine own_istore X12 at_148 (pc' := 150) rfl (l' := #[.val (.long p0), .second, .val (.long p1), .second, .val (.long p2), .second, .val (.long p3), .second, .val (.long p4), .second, .val (.long p5), .second, .val (.long v5), .second, .val (.long v12), .second, .val (.int (1 : Int32)), .val (.int (1 : Int32)), .val (.long v46), .second, .val (.long v54), .second, .val (.long v62), .second, .val (.long v70), .second, .val (.ref b3), .val (.ref b9), .val (.int (0 : Int32)), .unset, .unset, .unset, .unset, .unset, .unset, .unset]) rfl ?_
              refine own_iload X12 at_150 (pc' := 152) rfl rfl ?_
              refine own_ifY X12 at_152 (teq ((rfl : (0 : Int32) = (0 : Int32)))).1 (pc' := 163) (by decide) (by decide) ?_
              refine own_iload X12 at_163 (pc' := 165) rfl rfl ?_
              refine own_ifY X12 at_165 (teq ((rfl : (0 : Int32) = (0 : Int32)))).1 (pc' := 180) (by decide) (by decide) ?_
              refine own_lconst X12 at_180 (pc' := 181) rfl (v := (0 : Int64)) (by decide) ?_
              refine own_lstore X12 at_181 (pc' := 183) rfl (l' := #[.val (.long p0), .second, .val (.long p1), .second, .val (.long p2), .second, .val (.long p3), .second, .val (.long p4), .second, .val (.long p5), .second, .val (.long v5), .second, .val (.long v12), .second, .val (.int (1 : Int32)), .val (.int (1 : Int32)), .val (.long v46), .second, .val (.long v54), .second, .val (.long v62), .second, .val (.long v70), .second, .val (.ref b3), .val (.ref b9), .val (.int (0 : Int32)), .val (.long (0 : Int64)), .second, .unset, .unset, .unset, .unset, .unset]) rfl ?_
              refine own_iload X12 at_183 (pc' := 185) rfl rfl ?_
              refine own_ifY X12 at_185 (teq ((rfl : (0 : Int32) = (0 : Int32)))).1 (pc' := 200) (by decide) (by decide) ?_
              refine own_lconst X12 at_200 (pc' := 201) rfl (v := (0 : Int64)) (by decide) ?_
              refine own_lstore X12 at_201 (pc' := 203) rfl (l' := #[.val (.long p0), .second, .val (.long p1), .second, .val (.long p2), .second, .val (.long p3), .second, .val (.long p4), .second, .val (.long p5), .second, .val (.long v5), .second, .val (.long v12), .second, .val (.int (1 : Int32)), .val (.int (1 : Int32)), .val (.long v46), .second, .val (.long v54), .second, .val (.long v62), .second, .val (.long v70), .second, .val (.ref b3), .val (.ref b9), .val (.int (0 : Int32)), .val (.long (0 : Int64)), .second, .val (.long (0 : Int64)), .second, .unset, .unset, .unset]) rfl ?_
              refine own_lload X12 at_203 (pc' := 205) rfl rfl ?_
              refine own_lload X12 at_205 (pc' := 207) rfl rfl ?_
              have j227_17 : ∀ (f227_s0 : Int32), f227_s0 = (if v5 < v62 then (0 : Int32) else (if (v5 - v62) < (0 : Int64) then (0 : Int32) else (1 : Int32))) → OwnGo p e below (T12.setTop (mkF m 227 #[.val (.long p0), .second, .val (.long p1), .second, .val (.long p2), .second, .val (.long p3), .second, .val (.long p4), .second, .val (.long p5), .second, .val (.long v5), .second, .val (.long v12), .second, .val (.int (1 : Int32)), .val (.int (1 : Int32)), .val (.long v46), .second, .val (.long v54), .second, .val (.long v62), .second, .val (.long v70), .second, .val (.ref b3), .val (.ref b9), .val (.int (0 : Int32)), .val (.long (0 : Int64)), .second, .val (.long (0 : Int64)), .second, .unset, .unset, .unset] [(.int f227_s0)])) RR := by
                intro f227_s0 hf227_s0
                refine own_istore X12 at_227 (pc' := 229) rfl (l' := #[.val (.long p0), .second, .val (.long p1), .second, .val (.long p2), .second, .val (.long p3), .second, .val (.long p4), .second, .val (.long p5), .second, .val (.long v5), .second, .val (.long v12), .second, .val (.int (1 : Int32)), .val (.int (1 : Int32)), .val (.long v46), .second, .val (.long v54), .second, .val (.long v62), .second, .val (.long v70), .second, .val (.ref b3), .val (.ref b9), .val (.int (0 : Int32)), .val (.long (0 : Int64)), .second, .val (.long (0 : Int64)), .second, .val (.int f227_s0), .unset, .unset]) rfl ?_
                refine own_lload X12 at_229 (pc' := 231) rfl rfl ?_
                refine own_lload X12 at_231 (pc' := 233) rfl rfl ?_
                have j253_18 : ∀ (f253_s0 : Int32), f253_s0 = (if v12 < v70 then (0 : Int32) else (if (v12 - v70) < (0 : Int64) then (0 : Int32) else (1 : Int32))) → OwnGo p e below (T12.setTop (mkF m 253 #[.val (.long p0), .second, .val (.long p1), .second, .val (.long p2), .second, .val (.long p3), .second, .val (.long p4), .second, .val (.long p5), .second, .val (.long v5), .second, .val (.long v12), .second, .val (.int (1 : Int32)), .val (.int (1 : Int32)), .val (.long v46), .second, .val (.long v54), .second, .val (.long v62), .second, .val (.long v70), .second, .val (.ref b3), .val (.ref b9), .val (.int (0 : Int32)), .val (.long (0 : Int64)), .second, .val (.long (0 : Int64)), .second, .val (.int f227_s0), .unset, .unset] [(.int f253_s0)])) RR := by
                  intro f253_s0 hf253_s0
                  refine own_istore X12 at_253 (pc' := 255) rfl (l' := #[.val (.long p0), .second, .val (.long p1), .second, .val (.long p2), .second, .val (.long p3), .second, .val (.long p4), .second, .val (.long p5), .second, .val (.long v5), .second, .val (.long v12), .second, .val (.int (1 : Int32)), .val (.int (1 : Int32)), .val (.long v46), .second, .val (.long v54), .second, .val (.long v62), .second, .val (.long v70), .second, .val (.ref b3), .val (.ref b9), .val (.int (0 : Int32)), .val (.long (0 : Int64)), .second, .val (.long (0 : Int64)), .second, .val (.int f227_s0), .val (.int f253_s0), .unset]) rfl ?_
                  refine own_iload X12 at_255 (pc' := 257) rfl rfl ?_
                  have j270_19 : ∀ (f270_s0 : Int32), f270_s0 = (if f227_s0 = (0 : Int32) then (0 : Int32) else (if f253_s0 = (0 : Int32) then (0 : Int32) else (1 : Int32))) → OwnGo p e below (T12.setTop (mkF m 270 #[.val (.long p0), .second, .val (.long p1), .second, .val (.long p2), .second, .val (.long p3), .second, .val (.long p4), .second, .val (.long p5), .second, .val (.long v5), .second, .val (.long v12), .second, .val (.int (1 : Int32)), .val (.int (1 : Int32)), .val (.long v46), .second, .val (.long v54), .second, .val (.long v62), .second, .val (.long v70), .second, .val (.ref b3), .val (.ref b9), .val (.int (0 : Int32)), .val (.long (0 : Int64)), .second, .val (.long (0 : Int64)), .second, .val (.int f227_s0), .val (.int f253_s0), .unset] [(.int f270_s0)])) RR := by
                    intro f270_s0 hf270_s0
                    refine own_istore X12 at_270 (pc' := 272) rfl (l' := #[.val (.long p0), .second, .val (.long p1), .second, .val (.long p2), .second, .val (.long p3), .second, .val (.long p4), .second, .val (.long p5), .second, .val (.long v5), .second, .val (.long v12), .second, .val (.int (1 : Int32)), .val (.int (1 : Int32)), .val (.long v46), .second, .val (.long v54), .second, .val (.long v62), .second, .val (.long v70), .second, .val (.ref b3), .val (.ref b9), .val (.int (0 : Int32)), .val (.long (0 : Int64)), .second, .val (.long (0 : Int64)), .second, .val (.int f227_s0), .val (.int f253_s0), .val (.int f270_s0)]) rfl ?_
                    refine own_aload X12 at_272 (pc' := 274) rfl rfl rfl ?_
                    refine own_iload X12 at_274 (pc' := 276) rfl rfl ?_
                    refine own_lload X12 at_276 (pc' := 278) rfl rfl ?_
                    refine own_lload X12 at_278 (pc' := 280) rfl rfl ?_
                    refine own_callV (a := b9) (argsL := [(.int (1 : Int32)), (.long v62), (.long v70)]) X12 at_280 (y := (⟨"com/example/packhouse/packhouse/Hosts", "fits", "(IJJ)Z"⟩ : MethodName)) (by decide) (hw _ (List.mem_of_getElem? (i := 125) rfl)) (hw _ (List.mem_of_getElem? (i := 126) rfl)) (hw _ (List.mem_of_getElem? (i := 128) rfl)) (hw _ (List.mem_of_getElem? (i := 127) rfl)) (hw _ (List.mem_of_getElem? (i := 129) rfl)) (hw _ (List.mem_of_getElem? (i := 86) rfl)) A9_12 (own_rm16_1 l Z a0 hw b9 v5 v12 b1_10 b2_10 (0 : Int64) (0 : Int64) (0 : Int64) (0 : Int64) v62 v70 h12 n0 Z12 FF12q0 FF12q1 FF12q4 FF12q5 FF10q13_12 FF10q14_12) own_pd10 rfl (S := []) rfl (pc' := 283) rfl rfl (W := 0) (Nat.le_of_eq rfl) (by decide) (by decide) (by decide) (by decide) ?_
                    intro T20 h20 v20_ X20 q20_
                    obtain ⟨rfl, rfl⟩ := q20_
                    obtain ⟨r20, hr20⟩ : ∃ z, z = (if (v5 - (0 : Int64)) < v62 then (0 : Int32) else (if (v12 - (0 : Int64)) < v70 then (0 : Int32) else (1 : Int32))) := ⟨_, rfl⟩
                    show OwnGo p e below (T20.setTop (mkF m 283 #[.val (.long p0), .second, .val (.long p1), .second, .val (.long p2), .second, .val (.long p3), .second, .val (.long p4), .second, .val (.long p5), .second, .val (.long v5), .second, .val (.long v12), .second, .val (.int (1 : Int32)), .val (.int (1 : Int32)), .val (.long v46), .second, .val (.long v54), .second, .val (.long v62), .second, .val (.long v70), .second, .val (.ref b3), .val (.ref b9), .val (.int (0 : Int32)), .val (.long (0 : Int64)), .second, .val (.long (0 : Int64)), .second, .val (.int f227_s0), .val (.int f253_s0), .val (.int f270_s0)] [(.int (if (v5 - (0 : Int64)) < v62 then (0 : Int32) else (if (v12 - (0 : Int64)) < v70 then (0 : Int32) else (1 : Int32))))])) RR
                    rw [← hr20]
                    refine own_iload X20 at_283 (pc' := 285) rfl rfl ?_
                    refine own_icN X20 at_285 (teq ((own_fin (own_msk hv5) (own_msk hv12) (own_msk hv62) (own_msk hv70) rfl rfl (by decide) (by decide) (own_n0 (own_msk hv5)) (own_n0 (own_msk hv12)) hr20 hf227_s0 hf253_s0 hf270_s0 : r20 = f270_s0))).2 (pc' := 288) rfl ?_
                    refine own_iconst X20 at_288 (pc' := 289) rfl (v := (1 : Int32)) (by decide) ?_
                    refine own_goto X20 at_289 (pc' := 293) (by decide) (by decide) ?_
                    exact own_retZ X20 at_293 (by decide) rfl (by decide) (by decide)
                  by_cases hc257 : f227_s0 = (0 : Int32)
                  · refine own_ifY X12 at_257 (teq (hc257)).1 (pc' := 269) (by decide) (by decide) ?_
                    refine own_iconst X12 at_269 (pc' := 270) rfl (v := (0 : Int32)) (by decide) ?_
                    exact j270_19 _ (by rw [if_pos hc257])
                  · refine own_ifN X12 at_257 (feq (hc257)).1 (pc' := 260) rfl ?_
                    refine own_iload X12 at_260 (pc' := 262) rfl rfl ?_
                    by_cases hc262 : f253_s0 = (0 : Int32)
                    · refine own_ifY X12 at_262 (teq (hc262)).1 (pc' := 269) (by decide) (by decide) ?_
                      refine own_iconst X12 at_269 (pc' := 270) rfl (v := (0 : Int32)) (by decide) ?_
                      exact j270_19 _ (by rw [if_neg hc257, if_pos hc262])
                    · refine own_ifN X12 at_262 (feq (hc262)).1 (pc' := 265) rfl ?_
                      refine own_iconst X12 at_265 (pc' := 266) rfl (v := (1 : Int32)) (by decide) ?_
                      refine own_goto X12 at_266 (pc' := 270) (by decide) (by decide) ?_
                      exact j270_19 _ (by rw [if_neg hc257, if_neg hc262])
                by_cases hc234 : v12 < v70
                · refine own_ljY X12 at_233 at_234 (own_tltL (hc234)).2.2.1 (pc' := 252) (by decide) (by decide) ?_
                  refine own_iconst X12 at_252 (pc' := 253) rfl (v := (0 : Int32)) (by decide) ?_
                  exact j253_18 _ (by rw [if_pos hc234])
                · refine own_ljN X12 at_233 at_234 (own_fltL (hc234)).2.2.1 (pc' := 237) rfl ?_
                  refine own_lload X12 at_237 (pc' := 239) rfl rfl ?_
                  refine own_lload X12 at_239 (pc' := 241) rfl rfl ?_
                  refine own_lload X12 at_241 (pc' := 243) rfl rfl ?_
                  refine own_lsub X12 at_243 (pc' := 244) rfl ?_
                  by_cases hc245 : (v12 - v70) < (0 : Int64)
                  · refine own_ljY X12 at_244 at_245 (own_tltL (hc245)).2.2.1 (pc' := 252) (by decide) (by decide) ?_
                    refine own_iconst X12 at_252 (pc' := 253) rfl (v := (0 : Int32)) (by decide) ?_
                    exact j253_18 _ (by rw [if_neg hc234, if_pos hc245])
                  · refine own_ljN X12 at_244 at_245 (own_fltL (hc245)).2.2.1 (pc' := 248) rfl ?_
                    refine own_iconst X12 at_248 (pc' := 249) rfl (v := (1 : Int32)) (by decide) ?_
                    refine own_goto X12 at_249 (pc' := 253) (by decide) (by decide) ?_
                    exact j253_18 _ (by rw [if_neg hc234, if_neg hc245])
              by_cases hc208 : v5 < v62
              · refine own_ljY X12 at_207 at_208 (own_tltL (hc208)).2.2.1 (pc' := 226) (by decide) (by decide) ?_
                refine own_iconst X12 at_226 (pc' := 227) rfl (v := (0 : Int32)) (by decide) ?_
                exact j227_17 _ (by rw [if_pos hc208])
              · refine own_ljN X12 at_207 at_208 (own_fltL (hc208)).2.2.1 (pc' := 211) rfl ?_
                refine own_lload X12 at_211 (pc' := 213) rfl rfl ?_
                refine own_lload X12 at_213 (pc' := 215) rfl rfl ?_
                refine own_lload X12 at_215 (pc' := 217) rfl rfl ?_
                refine own_lsub X12 at_217 (pc' := 218) rfl ?_
                by_cases hc219 : (v5 - v62) < (0 : Int64)
                · refine own_ljY X12 at_218 at_219 (own_tltL (hc219)).2.2.1 (pc' := 226) (by decide) (by decide) ?_
                  refine own_iconst X12 at_226 (pc' := 227) rfl (v := (0 : Int32)) (by decide) ?_
                  exact j227_17 _ (by rw [if_neg hc208, if_pos hc219])
                · refine own_ljN X12 at_218 at_219 (own_fltL (hc219)).2.2.1 (pc' := 222) rfl ?_
                  refine own_iconst X12 at_222 (pc' := 223) rfl (v := (1 : Int32)) (by decide) ?_
                  refine own_goto X12 at_223 (pc' := 227) (by decide) (by decide) ?_
                  exact j227_17 _ (by rw [if_neg hc208, if_neg hc219])
            · refine own_ljN X12 at_139 at_140 (own_fltL (hc140)).2.2.1 (pc' := 143) rfl ?_
              refine own_iconst X12 at_143 (pc' := 144) rfl (v := (1 : Int32)) (by decide) ?_
              refine own_goto X12 at_144 (pc' := 148) (by decide) (by decide) ?_
              refine own_istore X12 at_148 (pc' := 150) rfl (l' := #[.val (.long p0), .second, .val (.long p1), .second, .val (.long p2), .second, .val (.long p3), .second, .val (.long p4), .second, .val (.long p5), .second, .val (.long v5), .second, .val (.long v12), .second, .val (.int (1 : Int32)), .val (.int (1 : Int32)), .val (.long v46), .second, .val (.long v54), .second, .val (.long v62), .second, .val (.long v70), .second, .val (.ref b3), .val (.ref b9), .val (.int (1 : Int32)), .unset, .unset, .unset, .unset, .unset, .unset, .unset]) rfl ?_
              refine own_iload X12 at_150 (pc' := 152) rfl rfl ?_
              refine own_ifN X12 at_152 (feq ((by decide : ¬ ((1 : Int32) = (0 : Int32))))).1 (pc' := 155) rfl ?_
              refine own_aload X12 at_155 (pc' := 157) rfl rfl rfl ?_
              refine own_iload X12 at_157 (pc' := 159) rfl rfl ?_
              refine own_iconst X12 at_159 (pc' := 160) rfl (v := (0 : Int32)) (by decide) ?_
              refine own_callV (a := b9) (argsL := [(.int (1 : Int32)), (.int (0 : Int32))]) X12 at_160 (y := (⟨"com/example/packhouse/packhouse/Hosts", "put", "(II)V"⟩ : MethodName)) (by decide) (hw _ (List.mem_of_getElem? (i := 130) rfl)) (hw _ (List.mem_of_getElem? (i := 131) rfl)) (hw _ (List.mem_of_getElem? (i := 133) rfl)) (hw _ (List.mem_of_getElem? (i := 132) rfl)) (hw _ (List.mem_of_getElem? (i := 134) rfl)) (hw _ (List.mem_of_getElem? (i := 86) rfl)) A9_12 (own_rm17_1 l Z a0 hw b9 v5 v12 b3 b1_10 b2_10 b3_10 b_8 b5 v46 v54 h12 n0 Z12 A9_12 FF12q0 FF12q1 FF12q2 FF12q3 FF12q4 FF12q5 FF12q6 A3_12 FF8q1_12 FF8q0_12 FF8q4_12 A5_12 FF7q1_12 FF7q2_12 FF10q13_12 FF10q14_12 FF10q15_12 g_b1_10 g_b2_10 g_b3_10 ne_b9_b1_10 ne_b9_b2_10 ne_b5_b1_10 FF10q10 FF10q11 FF10q12 (own_s0 hc132) (own_s0 hc140)) own_pd14 rfl (S := []) rfl (pc' := 163) rfl rfl (W := 0) (Nat.le_of_eq rfl) (by decide) (by decide) (by decide) (by decide) ?_
              intro T21 h21 v21_ X21 q21_
              obtain ⟨rfl, KK21, FF21q0, FF21q1, FF21q2⟩ := q21_
              show OwnGo p e below (T21.setTop (mkF m 163 #[.val (.long p0), .second, .val (.long p1), .second, .val (.long p2), .second, .val (.long p3), .second, .val (.long p4), .second, .val (.long p5), .second, .val (.long v5), .second, .val (.long v12), .second, .val (.int (1 : Int32)), .val (.int (1 : Int32)), .val (.long v46), .second, .val (.long v54), .second, .val (.long v62), .second, .val (.long v70), .second, .val (.ref b3), .val (.ref b9), .val (.int (1 : Int32)), .unset, .unset, .unset, .unset, .unset, .unset, .unset] [])) RR
              have Z21 : n0 ≤ h21.size := Nat.le_trans Z12 KK21.1
              have S_DEFAULTCAPACITY_EMPTY_ELEMENTDATA_21 := own_sta_keep S_DEFAULTCAPACITY_EMPTY_ELEMENTDATA_12 KK21 (own_plS (own_plV FF10q13_12) (own_plS (own_plV FF10q14_12) (own_plS (own_plV FF10q15_12) own_pl0)))
              have V_d0_21 := (V_d0_12).keep KK21 (ninS ne_d0_b1_10 (ninS ne_d0_b2_10 (ninS ne_d0_b3_10 nin0)))
              have A3_21 := (A3_12).keep KK21
              have A5_21 := (A5_12).keep KK21
              have FF7q0_21 := (FF7q0_12).keep KK21 (ninS ne_b5_b1_10 (ninS ne_b5_b2_10 (ninS ne_b5_b3_10 nin0)))
              have FF7q1_21 := (FF7q1_12).keep KK21 (ninS ne_b5_b1_10 (ninS ne_b5_b2_10 (ninS ne_b5_b3_10 nin0)))
              have FF7q2_21 := (FF7q2_12).keep KK21 (ninS ne_b5_b1_10 (ninS ne_b5_b2_10 (ninS ne_b5_b3_10 nin0)))
              have FF8q0_21 := (FF8q0_12).keep KK21 (ninS ne_b3_b1_10 (ninS ne_b3_b2_10 (ninS ne_b3_b3_10 nin0)))
              have FF8q1_21 := (FF8q1_12).keep KK21 (ninS ne_b3_b1_10 (ninS ne_b3_b2_10 (ninS ne_b3_b3_10 nin0)))
              have FF8q2_21 := (FF8q2_12).keep KK21 (ninS ne_b3_b1_10 (ninS ne_b3_b2_10 (ninS ne_b3_b3_10 nin0)))
              have FF8q4_21 := (FF8q4_12).keep KK21 (ninS ne_b_8_b1_10 (ninS ne_b_8_b2_10 (ninS ne_b_8_b3_10 nin0)))
              have A9_21 := (A9_12).keep KK21
              have FF12q0_21 := (FF12q0).keep KK21 (ninS ne_b9_b1_10 (ninS ne_b9_b2_10 (ninS ne_b9_b3_10 nin0)))
              have FF12q1_21 := (FF12q1).keep KK21 (ninS ne_b9_b1_10 (ninS ne_b9_b2_10 (ninS ne_b9_b3_10 nin0)))
              have FF12q2_21 := (FF12q2).keep KK21 (ninS ne_b9_b1_10 (ninS ne_b9_b2_10 (ninS ne_b9_b3_10 nin0)))
              have FF12q3_21 := (FF12q3).keep KK21 (ninS ne_b9_b1_10 (ninS ne_b9_b2_10 (ninS ne_b9_b3_10 nin0)))
              have FF12q4_21 := (FF12q4).keep KK21 (ninS ne_b9_b1_10 (ninS ne_b9_b2_10 (ninS ne_b9_b3_10 nin0)))
              have FF12q5_21 := (FF12q5).keep KK21 (ninS ne_b9_b1_10 (ninS ne_b9_b2_10 (ninS ne_b9_b3_10 nin0)))
              have FF12q6_21 := (FF12q6).keep KK21 (ninS ne_b9_b1_10 (ninS ne_b9_b2_10 (ninS ne_b9_b3_10 nin0)))
              refine own_iload X21 at_163 (pc' := 165) rfl rfl ?_
              refine own_ifN X21 at_165 (feq ((by decide : ¬ ((1 : Int32) = (0 : Int32))))).1 (pc' := 168) rfl ?_
              refine own_iload X21 at_168 (pc' := 170) rfl rfl ?_
              refine own_iload X21 at_170 (pc' := 172) rfl rfl ?_
              refine own_icN X21 at_172 (teq ((rfl : (1 : Int32) = (1 : Int32)))).2 (pc' := 175) rfl ?_
              refine own_lload X21 at_175 (pc' := 177) rfl rfl ?_
              refine own_goto X21 at_177 (pc' := 181) (by decide) (by decide) ?_
              refine own_lstore X21 at_181 (pc' := 183) rfl (l' := #[.val (.long p0), .second, .val (.long p1), .second, .val (.long p2), .second, .val (.long p3), .second, .val (.long p4), .second, .val (.long p5), .second, .val (.long v5), .second, .val (.long v12), .second, .val (.int (1 : Int32)), .val (.int (1 : Int32)), .val (.long v46), .second, .val (.long v54), .second, .val (.long v62), .second, .val (.long v70), .second, .val (.ref b3), .val (.ref b9), .val (.int (1 : Int32)), .val (.long v46), .second, .unset, .unset, .unset, .unset, .unset]) rfl ?_
              refine own_iload X21 at_183 (pc' := 185) rfl rfl ?_
              refine own_ifN X21 at_185 (feq ((by decide : ¬ ((1 : Int32) = (0 : Int32))))).1 (pc' := 188) rfl ?_
              refine own_iload X21 at_188 (pc' := 190) rfl rfl ?_
              refine own_iload X21 at_190 (pc' := 192) rfl rfl ?_
              refine own_icN X21 at_192 (teq ((rfl : (1 : Int32) = (1 : Int32)))).2 (pc' := 195) rfl ?_
              refine own_lload X21 at_195 (pc' := 197) rfl rfl ?_
              refine own_goto X21 at_197 (pc' := 201) (by decide) (by decide) ?_
              refine own_lstore X21 at_201 (pc' := 203) rfl (l' := #[.val (.long p0), .second, .val (.long p1), .second, .val (.long p2), .second, .val (.long p3), .second, .val (.long p4), .second, .val (.long p5), .second, .val (.long v5), .second, .val (.long v12), .second, .val (.int (1 : Int32)), .val (.int (1 : Int32)), .val (.long v46), .second, .val (.long v54), .second, .val (.long v62), .second, .val (.long v70), .second, .val (.ref b3), .val (.ref b9), .val (.int (1 : Int32)), .val (.long v46), .second, .val (.long v54), .second, .unset, .unset, .unset]) rfl ?_
              refine own_lload X21 at_203 (pc' := 205) rfl rfl ?_
              refine own_lload X21 at_205 (pc' := 207) rfl rfl ?_
              have j227_22 : ∀ (f227_s0 : Int32), f227_s0 = (if v5 < v62 then (0 : Int32) else (if (v5 - v62) < v46 then (0 : Int32) else (1 : Int32))) → OwnGo p e below (T21.setTop (mkF m 227 #[.val (.long p0), .second, .val (.long p1), .second, .val (.long p2), .second, .val (.long p3), .second, .val (.long p4), .second, .val (.long p5), .second, .val (.long v5), .second, .val (.long v12), .second, .val (.int (1 : Int32)), .val (.int (1 : Int32)), .val (.long v46), .second, .val (.long v54), .second, .val (.long v62), .second, .val (.long v70), .second, .val (.ref b3), .val (.ref b9), .val (.int (1 : Int32)), .val (.long v46), .second, .val (.long v54), .second, .unset, .unset, .unset] [(.int f227_s0)])) RR := by
                intro f227_s0 hf227_s0
                refine own_istore X21 at_227 (pc' := 229) rfl (l' := #[.val (.long p0), .second, .val (.long p1), .second, .val (.long p2), .second, .val (.long p3), .second, .val (.long p4), .second, .val (.long p5), .second, .val (.long v5), .second, .val (.long v12), .second, .val (.int (1 : Int32)), .val (.int (1 : Int32)), .val (.long v46), .second, .val (.long v54), .second, .val (.long v62), .second, .val (.long v70), .second, .val (.ref b3), .val (.ref b9), .val (.int (1 : Int32)), .val (.long v46), .second, .val (.long v54), .second, .val (.int f227_s0), .unset, .unset]) rfl ?_
                refine own_lload X21 at_229 (pc' := 231) rfl rfl ?_
                refine own_lload X21 at_231 (pc' := 233) rfl rfl ?_
                have j253_23 : ∀ (f253_s0 : Int32), f253_s0 = (if v12 < v70 then (0 : Int32) else (if (v12 - v70) < v54 then (0 : Int32) else (1 : Int32))) → OwnGo p e below (T21.setTop (mkF m 253 #[.val (.long p0), .second, .val (.long p1), .second, .val (.long p2), .second, .val (.long p3), .second, .val (.long p4), .second, .val (.long p5), .second, .val (.long v5), .second, .val (.long v12), .second, .val (.int (1 : Int32)), .val (.int (1 : Int32)), .val (.long v46), .second, .val (.long v54), .second, .val (.long v62), .second, .val (.long v70), .second, .val (.ref b3), .val (.ref b9), .val (.int (1 : Int32)), .val (.long v46), .second, .val (.long v54), .second, .val (.int f227_s0), .unset, .unset] [(.int f253_s0)])) RR := by
                  intro f253_s0 hf253_s0
                  refine own_istore X21 at_253 (pc' := 255) rfl (l' := #[.val (.long p0), .second, .val (.long p1), .second, .val (.long p2), .second, .val (.long p3), .second, .val (.long p4), .second, .val (.long p5), .second, .val (.long v5), .second, .val (.long v12), .second, .val (.int (1 : Int32)), .val (.int (1 : Int32)), .val (.long v46), .second, .val (.long v54), .second, .val (.long v62), .second, .val (.long v70), .second, .val (.ref b3), .val (.ref b9), .val (.int (1 : Int32)), .val (.long v46), .second, .val (.long v54), .second, .val (.int f227_s0), .val (.int f253_s0), .unset]) rfl ?_
                  refine own_iload X21 at_255 (pc' := 257) rfl rfl ?_
                  have j270_24 : ∀ (f270_s0 : Int32), f270_s0 = (if f227_s0 = (0 : Int32) then (0 : Int32) else (if f253_s0 = (0 : Int32) then (0 : Int32) else (1 : Int32))) → OwnGo p e below (T21.setTop (mkF m 270 #[.val (.long p0), .second, .val (.long p1), .second, .val (.long p2), .second, .val (.long p3), .second, .val (.long p4), .second, .val (.long p5), .second, .val (.long v5), .second, .val (.long v12), .second, .val (.int (1 : Int32)), .val (.int (1 : Int32)), .val (.long v46), .second, .val (.long v54), .second, .val (.long v62), .second, .val (.long v70), .second, .val (.ref b3), .val (.ref b9), .val (.int (1 : Int32)), .val (.long v46), .second, .val (.long v54), .second, .val (.int f227_s0), .val (.int f253_s0), .unset] [(.int f270_s0)])) RR := by
                    intro f270_s0 hf270_s0
                    refine own_istore X21 at_270 (pc' := 272) rfl (l' := #[.val (.long p0), .second, .val (.long p1), .second, .val (.long p2), .second, .val (.long p3), .second, .val (.long p4), .second, .val (.long p5), .second, .val (.long v5), .second, .val (.long v12), .second, .val (.int (1 : Int32)), .val (.int (1 : Int32)), .val (.long v46), .second, .val (.long v54), .second, .val (.long v62), .second, .val (.long v70), .second, .val (.ref b3), .val (.ref b9), .val (.int (1 : Int32)), .val (.long v46), .second, .val (.long v54), .second, .val (.int f227_s0), .val (.int f253_s0), .val (.int f270_s0)]) rfl ?_
                    refine own_aload X21 at_272 (pc' := 274) rfl rfl rfl ?_
                    refine own_iload X21 at_274 (pc' := 276) rfl rfl ?_
                    refine own_lload X21 at_276 (pc' := 278) rfl rfl ?_
                    refine own_lload X21 at_278 (pc' := 280) rfl rfl ?_
                    refine own_callV (a := b9) (argsL := [(.int (1 : Int32)), (.long v62), (.long v70)]) X21 at_280 (y := (⟨"com/example/packhouse/packhouse/Hosts", "fits", "(IJJ)Z"⟩ : MethodName)) (by decide) (hw _ (List.mem_of_getElem? (i := 125) rfl)) (hw _ (List.mem_of_getElem? (i := 126) rfl)) (hw _ (List.mem_of_getElem? (i := 128) rfl)) (hw _ (List.mem_of_getElem? (i := 127) rfl)) (hw _ (List.mem_of_getElem? (i := 129) rfl)) (hw _ (List.mem_of_getElem? (i := 86) rfl)) A9_21 (own_rm16_1 l Z a0 hw b9 v5 v12 b1_10 b2_10 (0 : Int64) (((0 : Int64) + v46)) (0 : Int64) (((0 : Int64) + v54)) v62 v70 h21 n0 Z21 FF12q0_21 FF12q1_21 FF12q4_21 FF12q5_21 FF21q0 FF21q1) own_pd10 rfl (S := []) rfl (pc' := 283) rfl rfl (W := 0) (Nat.le_of_eq rfl) (by decide) (by decide) (by decide) (by decide) ?_
                    intro T25 h25 v25_ X25 q25_
                    obtain ⟨rfl, rfl⟩ := q25_
                    obtain ⟨r25, hr25⟩ : ∃ z, z = (if (v5 - ((0 : Int64) + v46)) < v62 then (0 : Int32) else (if (v12 - ((0 : Int64) + v54)) < v70 then (0 : Int32) else (1 : Int32))) := ⟨_, rfl⟩
                    show OwnGo p e below (T25.setTop (mkF m 283 #[.val (.long p0), .second, .val (.long p1), .second, .val (.long p2), .second, .val (.long p3), .second, .val (.long p4), .second, .val (.long p5), .second, .val (.long v5), .second, .val (.long v12), .second, .val (.int (1 : Int32)), .val (.int (1 : Int32)), .val (.long v46), .second, .val (.long v54), .second, .val (.long v62), .second, .val (.long v70), .second, .val (.ref b3), .val (.ref b9), .val (.int (1 : Int32)), .val (.long v46), .second, .val (.long v54), .second, .val (.int f227_s0), .val (.int f253_s0), .val (.int f270_s0)] [(.int (if (v5 - ((0 : Int64) + v46)) < v62 then (0 : Int32) else (if (v12 - ((0 : Int64) + v54)) < v70 then (0 : Int32) else (1 : Int32))))])) RR
                    rw [← hr25]
                    refine own_iload X25 at_283 (pc' := 285) rfl rfl ?_
                    refine own_icN X25 at_285 (teq ((own_fin (own_msk hv5) (own_msk hv12) (own_msk hv62) (own_msk hv70) (Int64.zero_add _) (Int64.zero_add _) (own_msk hv46) (own_msk hv54) hc132 hc140 hr25 hf227_s0 hf253_s0 hf270_s0 : r25 = f270_s0))).2 (pc' := 288) rfl ?_
                    refine own_iconst X25 at_288 (pc' := 289) rfl (v := (1 : Int32)) (by decide) ?_
                    refine own_goto X25 at_289 (pc' := 293) (by decide) (by decide) ?_
                    exact own_retZ X25 at_293 (by decide) rfl (by decide) (by decide)
                  by_cases hc257 : f227_s0 = (0 : Int32)
                  · refine own_ifY X21 at_257 (teq (hc257)).1 (pc' := 269) (by decide) (by decide) ?_
                    refine own_iconst X21 at_269 (pc' := 270) rfl (v := (0 : Int32)) (by decide) ?_
                    exact j270_24 _ (by rw [if_pos hc257])
                  · refine own_ifN X21 at_257 (feq (hc257)).1 (pc' := 260) rfl ?_
                    refine own_iload X21 at_260 (pc' := 262) rfl rfl ?_
                    by_cases hc262 : f253_s0 = (0 : Int32)
                    · refine own_ifY X21 at_262 (teq (hc262)).1 (pc' := 269) (by decide) (by decide) ?_
                      refine own_iconst X21 at_269 (pc' := 270) rfl (v := (0 : Int32)) (by decide) ?_
                      exact j270_24 _ (by rw [if_neg hc257, if_pos hc262])
                    · refine own_ifN X21 at_262 (feq (hc262)).1 (pc' := 265) rfl ?_
                      refine own_iconst X21 at_265 (pc' := 266) rfl (v := (1 : Int32)) (by decide) ?_
                      refine own_goto X21 at_266 (pc' := 270) (by decide) (by decide) ?_
                      exact j270_24 _ (by rw [if_neg hc257, if_neg hc262])
                by_cases hc234 : v12 < v70
                · refine own_ljY X21 at_233 at_234 (own_tltL (hc234)).2.2.1 (pc' := 252) (by decide) (by decide) ?_
                  refine own_iconst X21 at_252 (pc' := 253) rfl (v := (0 : Int32)) (by decide) ?_
                  exact j253_23 _ (by rw [if_pos hc234])
                · refine own_ljN X21 at_233 at_234 (own_fltL (hc234)).2.2.1 (pc' := 237) rfl ?_
                  refine own_lload X21 at_237 (pc' := 239) rfl rfl ?_
                  refine own_lload X21 at_239 (pc' := 241) rfl rfl ?_
                  refine own_lload X21 at_241 (pc' := 243) rfl rfl ?_
                  refine own_lsub X21 at_243 (pc' := 244) rfl ?_
                  by_cases hc245 : (v12 - v70) < v54
                  · refine own_ljY X21 at_244 at_245 (own_tltL (hc245)).2.2.1 (pc' := 252) (by decide) (by decide) ?_
                    refine own_iconst X21 at_252 (pc' := 253) rfl (v := (0 : Int32)) (by decide) ?_
                    exact j253_23 _ (by rw [if_neg hc234, if_pos hc245])
                  · refine own_ljN X21 at_244 at_245 (own_fltL (hc245)).2.2.1 (pc' := 248) rfl ?_
                    refine own_iconst X21 at_248 (pc' := 249) rfl (v := (1 : Int32)) (by decide) ?_
                    refine own_goto X21 at_249 (pc' := 253) (by decide) (by decide) ?_
                    exact j253_23 _ (by rw [if_neg hc234, if_neg hc245])
              by_cases hc208 : v5 < v62
              · refine own_ljY X21 at_207 at_208 (own_tltL (hc208)).2.2.1 (pc' := 226) (by decide) (by decide) ?_
                refine own_iconst X21 at_226 (pc' := 227) rfl (v := (0 : Int32)) (by decide) ?_
                exact j227_22 _ (by rw [if_pos hc208])
              · refine own_ljN X21 at_207 at_208 (own_fltL (hc208)).2.2.1 (pc' := 211) rfl ?_
                refine own_lload X21 at_211 (pc' := 213) rfl rfl ?_
                refine own_lload X21 at_213 (pc' := 215) rfl rfl ?_
                refine own_lload X21 at_215 (pc' := 217) rfl rfl ?_
                refine own_lsub X21 at_217 (pc' := 218) rfl ?_
                by_cases hc219 : (v5 - v62) < v46
                · refine own_ljY X21 at_218 at_219 (own_tltL (hc219)).2.2.1 (pc' := 226) (by decide) (by decide) ?_
                  refine own_iconst X21 at_226 (pc' := 227) rfl (v := (0 : Int32)) (by decide) ?_
                  exact j227_22 _ (by rw [if_neg hc208, if_pos hc219])
                · refine own_ljN X21 at_218 at_219 (own_fltL (hc219)).2.2.1 (pc' := 222) rfl ?_
                  refine own_iconst X21 at_222 (pc' := 223) rfl (v := (1 : Int32)) (by decide) ?_
                  refine own_goto X21 at_223 (pc' := 227) (by decide) (by decide) ?_
                  exact j227_22 _ (by rw [if_neg hc208, if_neg hc219])
        · refine own_lload X12 at_127 (pc' := 129) rfl rfl ?_
          refine own_lload X12 at_129 (pc' := 131) rfl rfl ?_
          by_cases hc132 : v5 < v46
          · refine own_ljY X12 at_131 at_132 (own_tltL (hc132)).2.2.1 (pc' := 147) (by decide) (by decide) ?_
            refine own_iconst X12 at_147 (pc' := 148) rfl (v := (0 : Int32)) (by decide) ?_
            refine own_istore X12 at_148 (pc' := 150) rfl (l' := #[.val (.long p0), .second, .val (.long p1), .second, .val (.long p2), .second, .val (.long p3), .second, .val (.long p4), .second, .val (.long p5), .second, .val (.long v5), .second, .val (.long v12), .second, .val (.int (1 : Int32)), .val (.int (0 : Int32)), .val (.long v46), .second, .val (.long v54), .second, .val (.long v62), .second, .val (.long v70), .second, .val (.ref b3), .val (.ref b9), .val (.int (0 : Int32)), .unset, .unset, .unset, .unset, .unset, .unset, .unset]) rfl ?_
            refine own_iload X12 at_150 (pc' := 152) rfl rfl ?_
            refine own_ifY X12 at_152 (teq ((rfl : (0 : Int32) = (0 : Int32)))).1 (pc' := 163) (by decide) (by decide) ?_
            refine own_iload X12 at_163 (pc' := 165) rfl rfl ?_
            refine own_ifY X12 at_165 (teq ((rfl : (0 : Int32) = (0 : Int32)))).1 (pc' := 180) (by decide) (by decide) ?_
            refine own_lconst X12 at_180 (pc' := 181) rfl (v := (0 : Int64)) (by decide) ?_
            refine own_lstore X12 at_181 (pc' := 183) rfl (l' := #[.val (.long p0), .second, .val (.long p1), .second, .val (.long p2), .second, .val (.long p3), .second, .val (.long p4), .second, .val (.long p5), .second, .val (.long v5), .second, .val (.long v12), .second, .val (.int (1 : Int32)), .val (.int (0 : Int32)), .val (.long v46), .second, .val (.long v54), .second, .val (.long v62), .second, .val (.long v70), .second, .val (.ref b3), .val (.ref b9), .val (.int (0 : Int32)), .val (.long (0 : Int64)), .second, .unset, .unset, .unset, .unset, .unset]) rfl ?_
            refine own_iload X12 at_183 (pc' := 185) rfl rfl ?_
            refine own_ifY X12 at_185 (teq ((rfl : (0 : Int32) = (0 : Int32)))).1 (pc' := 200) (by decide) (by decide) ?_
            refine own_lconst X12 at_200 (pc' := 201) rfl (v := (0 : Int64)) (by decide) ?_
            refine own_lstore X12 at_201 (pc' := 203) rfl (l' := #[.val (.long p0), .second, .val (.long p1), .second, .val (.long p2), .second, .val (.long p3), .second, .val (.long p4), .second, .val (.long p5), .second, .val (.long v5), .second, .val (.long v12), .second, .val (.int (1 : Int32)), .val (.int (0 : Int32)), .val (.long v46), .second, .val (.long v54), .second, .val (.long v62), .second, .val (.long v70), .second, .val (.ref b3), .val (.ref b9), .val (.int (0 : Int32)), .val (.long (0 : Int64)), .second, .val (.long (0 : Int64)), .second, .unset, .unset, .unset]) rfl ?_
            refine own_lload X12 at_203 (pc' := 205) rfl rfl ?_
            refine own_lload X12 at_205 (pc' := 207) rfl rfl ?_
            have j227_26 : ∀ (f227_s0 : Int32), f227_s0 = (if v5 < v62 then (0 : Int32) else (if (v5 - v62) < (0 : Int64) then (0 : Int32) else (1 : Int32))) → OwnGo p e below (T12.setTop (mkF m 227 #[.val (.long p0), .second, .val (.long p1), .second, .val (.long p2), .second, .val (.long p3), .second, .val (.long p4), .second, .val (.long p5), .second, .val (.long v5), .second, .val (.long v12), .second, .val (.int (1 : Int32)), .val (.int (0 : Int32)), .val (.long v46), .second, .val (.long v54), .second, .val (.long v62), .second, .val (.long v70), .second, .val (.ref b3), .val (.ref b9), .val (.int (0 : Int32)), .val (.long (0 : Int64)), .second, .val (.long (0 : Int64)), .second, .unset, .unset, .unset] [(.int f227_s0)])) RR := by
              intro f227_s0 hf227_s0
              refine own_istore X12 at_227 (pc' := 229) rfl (l' := #[.val (.long p0), .second, .val (.long p1), .second, .val (.long p2), .second, .val (.long p3), .second, .val (.long p4), .second, .val (.long p5), .second, .val (.long v5), .second, .val (.long v12), .second, .val (.int (1 : Int32)), .val (.int (0 : Int32)), .val (.long v46), .second, .val (.long v54), .second, .val (.long v62), .second, .val (.long v70), .second, .val (.ref b3), .val (.ref b9), .val (.int (0 : Int32)), .val (.long (0 : Int64)), .second, .val (.long (0 : Int64)), .second, .val (.int f227_s0), .unset, .unset]) rfl ?_
              refine own_lload X12 at_229 (pc' := 231) rfl rfl ?_
              refine own_lload X12 at_231 (pc' := 233) rfl rfl ?_
              have j253_27 : ∀ (f253_s0 : Int32), f253_s0 = (if v12 < v70 then (0 : Int32) else (if (v12 - v70) < (0 : Int64) then (0 : Int32) else (1 : Int32))) → OwnGo p e below (T12.setTop (mkF m 253 #[.val (.long p0), .second, .val (.long p1), .second, .val (.long p2), .second, .val (.long p3), .second, .val (.long p4), .second, .val (.long p5), .second, .val (.long v5), .second, .val (.long v12), .second, .val (.int (1 : Int32)), .val (.int (0 : Int32)), .val (.long v46), .second, .val (.long v54), .second, .val (.long v62), .second, .val (.long v70), .second, .val (.ref b3), .val (.ref b9), .val (.int (0 : Int32)), .val (.long (0 : Int64)), .second, .val (.long (0 : Int64)), .second, .val (.int f227_s0), .unset, .unset] [(.int f253_s0)])) RR := by
                intro f253_s0 hf253_s0
                refine own_istore X12 at_253 (pc' := 255) rfl (l' := #[.val (.long p0), .second, .val (.long p1), .second, .val (.long p2), .second, .val (.long p3), .second, .val (.long p4), .second, .val (.long p5), .second, .val (.long v5), .second, .val (.long v12), .second, .val (.int (1 : Int32)), .val (.int (0 : Int32)), .val (.long v46), .second, .val (.long v54), .second, .val (.long v62), .second, .val (.long v70), .second, .val (.ref b3), .val (.ref b9), .val (.int (0 : Int32)), .val (.long (0 : Int64)), .second, .val (.long (0 : Int64)), .second, .val (.int f227_s0), .val (.int f253_s0), .unset]) rfl ?_
                refine own_iload X12 at_255 (pc' := 257) rfl rfl ?_
                have j270_28 : ∀ (f270_s0 : Int32), f270_s0 = (if f227_s0 = (0 : Int32) then (0 : Int32) else (if f253_s0 = (0 : Int32) then (0 : Int32) else (1 : Int32))) → OwnGo p e below (T12.setTop (mkF m 270 #[.val (.long p0), .second, .val (.long p1), .second, .val (.long p2), .second, .val (.long p3), .second, .val (.long p4), .second, .val (.long p5), .second, .val (.long v5), .second, .val (.long v12), .second, .val (.int (1 : Int32)), .val (.int (0 : Int32)), .val (.long v46), .second, .val (.long v54), .second, .val (.long v62), .second, .val (.long v70), .second, .val (.ref b3), .val (.ref b9), .val (.int (0 : Int32)), .val (.long (0 : Int64)), .second, .val (.long (0 : Int64)), .second, .val (.int f227_s0), .val (.int f253_s0), .unset] [(.int f270_s0)])) RR := by
                  intro f270_s0 hf270_s0
                  refine own_istore X12 at_270 (pc' := 272) rfl (l' := #[.val (.long p0), .second, .val (.long p1), .second, .val (.long p2), .second, .val (.long p3), .second, .val (.long p4), .second, .val (.long p5), .second, .val (.long v5), .second, .val (.long v12), .second, .val (.int (1 : Int32)), .val (.int (0 : Int32)), .val (.long v46), .second, .val (.long v54), .second, .val (.long v62), .second, .val (.long v70), .second, .val (.ref b3), .val (.ref b9), .val (.int (0 : Int32)), .val (.long (0 : Int64)), .second, .val (.long (0 : Int64)), .second, .val (.int f227_s0), .val (.int f253_s0), .val (.int f270_s0)]) rfl ?_
                  refine own_aload X12 at_272 (pc' := 274) rfl rfl rfl ?_
                  refine own_iload X12 at_274 (pc' := 276) rfl rfl ?_
                  refine own_lload X12 at_276 (pc' := 278) rfl rfl ?_
                  refine own_lload X12 at_278 (pc' := 280) rfl rfl ?_
                  refine own_callV (a := b9) (argsL := [(.int (0 : Int32)), (.long v62), (.long v70)]) X12 at_280 (y := (⟨"com/example/packhouse/packhouse/Hosts", "fits", "(IJJ)Z"⟩ : MethodName)) (by decide) (hw _ (List.mem_of_getElem? (i := 125) rfl)) (hw _ (List.mem_of_getElem? (i := 126) rfl)) (hw _ (List.mem_of_getElem? (i := 128) rfl)) (hw _ (List.mem_of_getElem? (i := 127) rfl)) (hw _ (List.mem_of_getElem? (i := 129) rfl)) (hw _ (List.mem_of_getElem? (i := 86) rfl)) A9_12 (own_rm16_0 l Z a0 hw b9 v5 v12 b1_10 b2_10 (0 : Int64) (0 : Int64) (0 : Int64) (0 : Int64) v62 v70 h12 n0 Z12 FF12q0 FF12q1 FF12q4 FF12q5 FF10q13_12 FF10q14_12) own_pd10 rfl (S := []) rfl (pc' := 283) rfl rfl (W := 0) (Nat.le_of_eq rfl) (by decide) (by decide) (by decide) (by decide) ?_
                  intro T29 h29 v29_ X29 q29_
                  obtain ⟨rfl, rfl⟩ := q29_
                  obtain ⟨r29, hr29⟩ : ∃ z, z = (if (v5 - (0 : Int64)) < v62 then (0 : Int32) else (if (v12 - (0 : Int64)) < v70 then (0 : Int32) else (1 : Int32))) := ⟨_, rfl⟩
                  show OwnGo p e below (T29.setTop (mkF m 283 #[.val (.long p0), .second, .val (.long p1), .second, .val (.long p2), .second, .val (.long p3), .second, .val (.long p4), .second, .val (.long p5), .second, .val (.long v5), .second, .val (.long v12), .second, .val (.int (1 : Int32)), .val (.int (0 : Int32)), .val (.long v46), .second, .val (.long v54), .second, .val (.long v62), .second, .val (.long v70), .second, .val (.ref b3), .val (.ref b9), .val (.int (0 : Int32)), .val (.long (0 : Int64)), .second, .val (.long (0 : Int64)), .second, .val (.int f227_s0), .val (.int f253_s0), .val (.int f270_s0)] [(.int (if (v5 - (0 : Int64)) < v62 then (0 : Int32) else (if (v12 - (0 : Int64)) < v70 then (0 : Int32) else (1 : Int32))))])) RR
                  rw [← hr29]
                  refine own_iload X29 at_283 (pc' := 285) rfl rfl ?_
                  refine own_icN X29 at_285 (teq ((own_fin (own_msk hv5) (own_msk hv12) (own_msk hv62) (own_msk hv70) rfl rfl (by decide) (by decide) (own_n0 (own_msk hv5)) (own_n0 (own_msk hv12)) hr29 hf227_s0 hf253_s0 hf270_s0 : r29 = f270_s0))).2 (pc' := 288) rfl ?_
                  refine own_iconst X29 at_288 (pc' := 289) rfl (v := (1 : Int32)) (by decide) ?_
                  refine own_goto X29 at_289 (pc' := 293) (by decide) (by decide) ?_
                  exact own_retZ X29 at_293 (by decide) rfl (by decide) (by decide)
                by_cases hc257 : f227_s0 = (0 : Int32)
                · refine own_ifY X12 at_257 (teq (hc257)).1 (pc' := 269) (by decide) (by decide) ?_
                  refine own_iconst X12 at_269 (pc' := 270) rfl (v := (0 : Int32)) (by decide) ?_
                  exact j270_28 _ (by rw [if_pos hc257])
                · refine own_ifN X12 at_257 (feq (hc257)).1 (pc' := 260) rfl ?_
                  refine own_iload X12 at_260 (pc' := 262) rfl rfl ?_
                  by_cases hc262 : f253_s0 = (0 : Int32)
                  · refine own_ifY X12 at_262 (teq (hc262)).1 (pc' := 269) (by decide) (by decide) ?_
                    refine own_iconst X12 at_269 (pc' := 270) rfl (v := (0 : Int32)) (by decide) ?_
                    exact j270_28 _ (by rw [if_neg hc257, if_pos hc262])
                  · refine own_ifN X12 at_262 (feq (hc262)).1 (pc' := 265) rfl ?_
                    refine own_iconst X12 at_265 (pc' := 266) rfl (v := (1 : Int32)) (by decide) ?_
                    refine own_goto X12 at_266 (pc' := 270) (by decide) (by decide) ?_
                    exact j270_28 _ (by rw [if_neg hc257, if_neg hc262])
              by_cases hc234 : v12 < v70
              · refine own_ljY X12 at_233 at_234 (own_tltL (hc234)).2.2.1 (pc' := 252) (by decide) (by decide) ?_
                refine own_iconst X12 at_252 (pc' := 253) rfl (v := (0 : Int32)) (by decide) ?_
                exact j253_27 _ (by rw [if_pos hc234])
              · refine own_ljN X12 at_233 at_234 (own_fltL (hc234)).2.2.1 (pc' := 237) rfl ?_
                refine own_lload X12 at_237 (pc' := 239) rfl rfl ?_
                refine own_lload X12 at_239 (pc' := 241) rfl rfl ?_
                refine own_lload X12 at_241 (pc' := 243) rfl rfl ?_
                refine own_lsub X12 at_243 (pc' := 244) rfl ?_
                by_cases hc245 : (v12 - v70) < (0 : Int64)
                · refine own_ljY X12 at_244 at_245 (own_tltL (hc245)).2.2.1 (pc' := 252) (by decide) (by decide) ?_
                  refine own_iconst X12 at_252 (pc' := 253) rfl (v := (0 : Int32)) (by decide) ?_
                  exact j253_27 _ (by rw [if_neg hc234, if_pos hc245])
                · refine own_ljN X12 at_244 at_245 (own_fltL (hc245)).2.2.1 (pc' := 248) rfl ?_
                  refine own_iconst X12 at_248 (pc' := 249) rfl (v := (1 : Int32)) (by decide) ?_
                  refine own_goto X12 at_249 (pc' := 253) (by decide) (by decide) ?_
                  exact j253_27 _ (by rw [if_neg hc234, if_neg hc245])
            by_cases hc208 : v5 < v62
            · refine own_ljY X12 at_207 at_208 (own_tltL (hc208)).2.2.1 (pc' := 226) (by decide) (by decide) ?_
              refine own_iconst X12 at_226 (pc' := 227) rfl (v := (0 : Int32)) (by decide) ?_
              exact j227_26 _ (by rw [if_pos hc208])
            · refine own_ljN X12 at_207 at_208 (own_fltL (hc208)).2.2.1 (pc' := 211) rfl ?_
              refine own_lload X12 at_211 (pc' := 213) rfl rfl ?_
              refine own_lload X12 at_213 (pc' := 215) rfl rfl ?_
              refine own_lload X12 at_215 (pc' := 217) rfl rfl ?_
              refine own_lsub X12 at_217 (pc' := 218) rfl ?_
              by_cases hc219 : (v5 - v62) < (0 : Int64)
              · refine own_ljY X12 at_218 at_219 (own_tltL (hc219)).2.2.1 (pc' := 226) (by decide) (by decide) ?_
                refine own_iconst X12 at_226 (pc' := 227) rfl (v := (0 : Int32)) (by decide) ?_
                exact j227_26 _ (by rw [if_neg hc208, if_pos hc219])
              · refine own_ljN X12 at_218 at_219 (own_fltL (hc219)).2.2.1 (pc' := 222) rfl ?_
                refine own_iconst X12 at_222 (pc' := 223) rfl (v := (1 : Int32)) (by decide) ?_
                refine own_goto X12 at_223 (pc' := 227) (by decide) (by decide) ?_
                exact j227_26 _ (by rw [if_neg hc208, if_neg hc219])
          · refine own_ljN X12 at_131 at_132 (own_fltL (hc132)).2.2.1 (pc' := 135) rfl ?_
            refine own_lload X12 at_135 (pc' := 137) rfl rfl ?_
            refine own_lload X12 at_137 (pc' := 139) rfl rfl ?_
            by_cases hc140 : v12 < v54
            · refine own_ljY X12 at_139 at_140 (own_tltL (hc140)).2.2.1 (pc' := 147) (by decide) (by decide) ?_
              refine own_iconst X12 at_147 (pc' := 148) rfl (v := (0 : Int32)) (by decide) ?_
              refine own_istore X12 at_148 (pc' := 150) rfl (l' := #[.val (.long p0), .second, .val (.long p1), .second, .val (.long p2), .second, .val (.long p3), .second, .val (.long p4), .second, .val (.long p5), .second, .val (.long v5), .second, .val (.long v12), .second, .val (.int (1 : Int32)), .val (.int (0 : Int32)), .val (.long v46), .second, .val (.long v54), .second, .val (.long v62), .second, .val (.long v70), .second, .val (.ref b3), .val (.ref b9), .val (.int (0 : Int32)), .unset, .unset, .unset, .unset, .unset, .unset, .unset]) rfl ?_
              refine own_iload X12 at_150 (pc' := 152) rfl rfl ?_
              refine own_ifY X12 at_152 (teq ((rfl : (0 : Int32) = (0 : Int32)))).1 (pc' := 163) (by decide) (by decide) ?_
              refine own_iload X12 at_163 (pc' := 165) rfl rfl ?_
              refine own_ifY X12 at_165 (teq ((rfl : (0 : Int32) = (0 : Int32)))).1 (pc' := 180) (by decide) (by decide) ?_
              refine own_lconst X12 at_180 (pc' := 181) rfl (v := (0 : Int64)) (by decide) ?_
              refine own_lstore X12 at_181 (pc' := 183) rfl (l' := #[.val (.long p0), .second, .val (.long p1), .second, .val (.long p2), .second, .val (.long p3), .second, .val (.long p4), .second, .val (.long p5), .second, .val (.long v5), .second, .val (.long v12), .second, .val (.int (1 : Int32)), .val (.int (0 : Int32)), .val (.long v46), .second, .val (.long v54), .second, .val (.long v62), .second, .val (.long v70), .second, .val (.ref b3), .val (.ref b9), .val (.int (0 : Int32)), .val (.long (0 : Int64)), .second, .unset, .unset, .unset, .unset, .unset]) rfl ?_
              refine own_iload X12 at_183 (pc' := 185) rfl rfl ?_
              refine own_ifY X12 at_185 (teq ((rfl : (0 : Int32) = (0 : Int32)))).1 (pc' := 200) (by decide) (by decide) ?_
              refine own_lconst X12 at_200 (pc' := 201) rfl (v := (0 : Int64)) (by decide) ?_
              refine own_lstore X12 at_201 (pc' := 203) rfl (l' := #[.val (.long p0), .second, .val (.long p1), .second, .val (.long p2), .second, .val (.long p3), .second, .val (.long p4), .second, .val (.long p5), .second, .val (.long v5), .second, .val (.long v12), .second, .val (.int (1 : Int32)), .val (.int (0 : Int32)), .val (.long v46), .second, .val (.long v54), .second, .val (.long v62), .second, .val (.long v70), .second, .val (.ref b3), .val (.ref b9), .val (.int (0 : Int32)), .val (.long (0 : Int64)), .second, .val (.long (0 : Int64)), .second, .unset, .unset, .unset]) rfl ?_
              refine own_lload X12 at_203 (pc' := 205) rfl rfl ?_
              refine own_lload X12 at_205 (pc' := 207) rfl rfl ?_
              have j227_30 : ∀ (f227_s0 : Int32), f227_s0 = (if v5 < v62 then (0 : Int32) else (if (v5 - v62) < (0 : Int64) then (0 : Int32) else (1 : Int32))) → OwnGo p e below (T12.setTop (mkF m 227 #[.val (.long p0), .second, .val (.long p1), .second, .val (.long p2), .second, .val (.long p3), .second, .val (.long p4), .second, .val (.long p5), .second, .val (.long v5), .second, .val (.long v12), .second, .val (.int (1 : Int32)), .val (.int (0 : Int32)), .val (.long v46), .second, .val (.long v54), .second, .val (.long v62), .second, .val (.long v70), .second, .val (.ref b3), .val (.ref b9), .val (.int (0 : Int32)), .val (.long (0 : Int64)), .second, .val (.long (0 : Int64)), .second, .unset, .unset, .unset] [(.int f227_s0)])) RR := by
                intro f227_s0 hf227_s0
                refine own_istore X12 at_227 (pc' := 229) rfl (l' := #[.val (.long p0), .second, .val (.long p1), .second, .val (.long p2), .second, .val (.long p3), .second, .val (.long p4), .second, .val (.long p5), .second, .val (.long v5), .second, .val (.long v12), .second, .val (.int (1 : Int32)), .val (.int (0 : Int32)), .val (.long v46), .second, .val (.long v54), .second, .val (.long v62), .second, .val (.long v70), .second, .val (.ref b3), .val (.ref b9), .val (.int (0 : Int32)), .val (.long (0 : Int64)), .second, .val (.long (0 : Int64)), .second, .val (.int f227_s0), .unset, .unset]) rfl ?_
                refine own_lload X12 at_229 (pc' := 231) rfl rfl ?_
                refine own_lload X12 at_231 (pc' := 233) rfl rfl ?_
                have j253_31 : ∀ (f253_s0 : Int32), f253_s0 = (if v12 < v70 then (0 : Int32) else (if (v12 - v70) < (0 : Int64) then (0 : Int32) else (1 : Int32))) → OwnGo p e below (T12.setTop (mkF m 253 #[.val (.long p0), .second, .val (.long p1), .second, .val (.long p2), .second, .val (.long p3), .second, .val (.long p4), .second, .val (.long p5), .second, .val (.long v5), .second, .val (.long v12), .second, .val (.int (1 : Int32)), .val (.int (0 : Int32)), .val (.long v46), .second, .val (.long v54), .second, .val (.long v62), .second, .val (.long v70), .second, .val (.ref b3), .val (.ref b9), .val (.int (0 : Int32)), .val (.long (0 : Int64)), .second, .val (.long (0 : Int64)), .second, .val (.int f227_s0), .unset, .unset] [(.int f253_s0)])) RR := by
                  intro f253_s0 hf253_s0
                  refine own_istore X12 at_253 (pc' := 255) rfl (l' := #[.val (.long p0), .second, .val (.long p1), .second, .val (.long p2), .second, .val (.long p3), .second, .val (.long p4), .second, .val (.long p5), .second, .val (.long v5), .second, .val (.long v12), .second, .val (.int (1 : Int32)), .val (.int (0 : Int32)), .val (.long v46), .second, .val (.long v54), .second, .val (.long v62), .second, .val (.long v70), .second, .val (.ref b3), .val (.ref b9), .val (.int (0 : Int32)), .val (.long (0 : Int64)), .second, .val (.long (0 : Int64)), .second, .val (.int f227_s0), .val (.int f253_s0), .unset]) rfl ?_
                  refine own_iload X12 at_255 (pc' := 257) rfl rfl ?_
                  have j270_32 : ∀ (f270_s0 : Int32), f270_s0 = (if f227_s0 = (0 : Int32) then (0 : Int32) else (if f253_s0 = (0 : Int32) then (0 : Int32) else (1 : Int32))) → OwnGo p e below (T12.setTop (mkF m 270 #[.val (.long p0), .second, .val (.long p1), .second, .val (.long p2), .second, .val (.long p3), .second, .val (.long p4), .second, .val (.long p5), .second, .val (.long v5), .second, .val (.long v12), .second, .val (.int (1 : Int32)), .val (.int (0 : Int32)), .val (.long v46), .second, .val (.long v54), .second, .val (.long v62), .second, .val (.long v70), .second, .val (.ref b3), .val (.ref b9), .val (.int (0 : Int32)), .val (.long (0 : Int64)), .second, .val (.long (0 : Int64)), .second, .val (.int f227_s0), .val (.int f253_s0), .unset] [(.int f270_s0)])) RR := by
                    intro f270_s0 hf270_s0
                    refine own_istore X12 at_270 (pc' := 272) rfl (l' := #[.val (.long p0), .second, .val (.long p1), .second, .val (.long p2), .second, .val (.long p3), .second, .val (.long p4), .second, .val (.long p5), .second, .val (.long v5), .second, .val (.long v12), .second, .val (.int (1 : Int32)), .val (.int (0 : Int32)), .val (.long v46), .second, .val (.long v54), .second, .val (.long v62), .second, .val (.long v70), .second, .val (.ref b3), .val (.ref b9), .val (.int (0 : Int32)), .val (.long (0 : Int64)), .second, .val (.long (0 : Int64)), .second, .val (.int f227_s0), .val (.int f253_s0), .val (.int f270_s0)]) rfl ?_
                    refine own_aload X12 at_272 (pc' := 274) rfl rfl rfl ?_
                    refine own_iload X12 at_274 (pc' := 276) rfl rfl ?_
                    refine own_lload X12 at_276 (pc' := 278) rfl rfl ?_
                    refine own_lload X12 at_278 (pc' := 280) rfl rfl ?_
                    refine own_callV (a := b9) (argsL := [(.int (0 : Int32)), (.long v62), (.long v70)]) X12 at_280 (y := (⟨"com/example/packhouse/packhouse/Hosts", "fits", "(IJJ)Z"⟩ : MethodName)) (by decide) (hw _ (List.mem_of_getElem? (i := 125) rfl)) (hw _ (List.mem_of_getElem? (i := 126) rfl)) (hw _ (List.mem_of_getElem? (i := 128) rfl)) (hw _ (List.mem_of_getElem? (i := 127) rfl)) (hw _ (List.mem_of_getElem? (i := 129) rfl)) (hw _ (List.mem_of_getElem? (i := 86) rfl)) A9_12 (own_rm16_0 l Z a0 hw b9 v5 v12 b1_10 b2_10 (0 : Int64) (0 : Int64) (0 : Int64) (0 : Int64) v62 v70 h12 n0 Z12 FF12q0 FF12q1 FF12q4 FF12q5 FF10q13_12 FF10q14_12) own_pd10 rfl (S := []) rfl (pc' := 283) rfl rfl (W := 0) (Nat.le_of_eq rfl) (by decide) (by decide) (by decide) (by decide) ?_
                    intro T33 h33 v33_ X33 q33_
                    obtain ⟨rfl, rfl⟩ := q33_
                    obtain ⟨r33, hr33⟩ : ∃ z, z = (if (v5 - (0 : Int64)) < v62 then (0 : Int32) else (if (v12 - (0 : Int64)) < v70 then (0 : Int32) else (1 : Int32))) := ⟨_, rfl⟩
                    show OwnGo p e below (T33.setTop (mkF m 283 #[.val (.long p0), .second, .val (.long p1), .second, .val (.long p2), .second, .val (.long p3), .second, .val (.long p4), .second, .val (.long p5), .second, .val (.long v5), .second, .val (.long v12), .second, .val (.int (1 : Int32)), .val (.int (0 : Int32)), .val (.long v46), .second, .val (.long v54), .second, .val (.long v62), .second, .val (.long v70), .second, .val (.ref b3), .val (.ref b9), .val (.int (0 : Int32)), .val (.long (0 : Int64)), .second, .val (.long (0 : Int64)), .second, .val (.int f227_s0), .val (.int f253_s0), .val (.int f270_s0)] [(.int (if (v5 - (0 : Int64)) < v62 then (0 : Int32) else (if (v12 - (0 : Int64)) < v70 then (0 : Int32) else (1 : Int32))))])) RR
                    rw [← hr33]
                    refine own_iload X33 at_283 (pc' := 285) rfl rfl ?_
                    refine own_icN X33 at_285 (teq ((own_fin (own_msk hv5) (own_msk hv12) (own_msk hv62) (own_msk hv70) rfl rfl (by decide) (by decide) (own_n0 (own_msk hv5)) (own_n0 (own_msk hv12)) hr33 hf227_s0 hf253_s0 hf270_s0 : r33 = f270_s0))).2 (pc' := 288) rfl ?_
                    refine own_iconst X33 at_288 (pc' := 289) rfl (v := (1 : Int32)) (by decide) ?_
                    refine own_goto X33 at_289 (pc' := 293) (by decide) (by decide) ?_
                    exact own_retZ X33 at_293 (by decide) rfl (by decide) (by decide)
                  by_cases hc257 : f227_s0 = (0 : Int32)
                  · refine own_ifY X12 at_257 (teq (hc257)).1 (pc' := 269) (by decide) (by decide) ?_
                    refine own_iconst X12 at_269 (pc' := 270) rfl (v := (0 : Int32)) (by decide) ?_
                    exact j270_32 _ (by rw [if_pos hc257])
                  · refine own_ifN X12 at_257 (feq (hc257)).1 (pc' := 260) rfl ?_
                    refine own_iload X12 at_260 (pc' := 262) rfl rfl ?_
                    by_cases hc262 : f253_s0 = (0 : Int32)
                    · refine own_ifY X12 at_262 (teq (hc262)).1 (pc' := 269) (by decide) (by decide) ?_
                      refine own_iconst X12 at_269 (pc' := 270) rfl (v := (0 : Int32)) (by decide) ?_
                      exact j270_32 _ (by rw [if_neg hc257, if_pos hc262])
                    · refine own_ifN X12 at_262 (feq (hc262)).1 (pc' := 265) rfl ?_
                      refine own_iconst X12 at_265 (pc' := 266) rfl (v := (1 : Int32)) (by decide) ?_
                      refine own_goto X12 at_266 (pc' := 270) (by decide) (by decide) ?_
                      exact j270_32 _ (by rw [if_neg hc257, if_neg hc262])
                by_cases hc234 : v12 < v70
                · refine own_ljY X12 at_233 at_234 (own_tltL (hc234)).2.2.1 (pc' := 252) (by decide) (by decide) ?_
                  refine own_iconst X12 at_252 (pc' := 253) rfl (v := (0 : Int32)) (by decide) ?_
                  exact j253_31 _ (by rw [if_pos hc234])
                · refine own_ljN X12 at_233 at_234 (own_fltL (hc234)).2.2.1 (pc' := 237) rfl ?_
                  refine own_lload X12 at_237 (pc' := 239) rfl rfl ?_
                  refine own_lload X12 at_239 (pc' := 241) rfl rfl ?_
                  refine own_lload X12 at_241 (pc' := 243) rfl rfl ?_
                  refine own_lsub X12 at_243 (pc' := 244) rfl ?_
                  by_cases hc245 : (v12 - v70) < (0 : Int64)
                  · refine own_ljY X12 at_244 at_245 (own_tltL (hc245)).2.2.1 (pc' := 252) (by decide) (by decide) ?_
                    refine own_iconst X12 at_252 (pc' := 253) rfl (v := (0 : Int32)) (by decide) ?_
                    exact j253_31 _ (by rw [if_neg hc234, if_pos hc245])
                  · refine own_ljN X12 at_244 at_245 (own_fltL (hc245)).2.2.1 (pc' := 248) rfl ?_
                    refine own_iconst X12 at_248 (pc' := 249) rfl (v := (1 : Int32)) (by decide) ?_
                    refine own_goto X12 at_249 (pc' := 253) (by decide) (by decide) ?_
                    exact j253_31 _ (by rw [if_neg hc234, if_neg hc245])
              by_cases hc208 : v5 < v62
              · refine own_ljY X12 at_207 at_208 (own_tltL (hc208)).2.2.1 (pc' := 226) (by decide) (by decide) ?_
                refine own_iconst X12 at_226 (pc' := 227) rfl (v := (0 : Int32)) (by decide) ?_
                exact j227_30 _ (by rw [if_pos hc208])
              · refine own_ljN X12 at_207 at_208 (own_fltL (hc208)).2.2.1 (pc' := 211) rfl ?_
                refine own_lload X12 at_211 (pc' := 213) rfl rfl ?_
                refine own_lload X12 at_213 (pc' := 215) rfl rfl ?_
                refine own_lload X12 at_215 (pc' := 217) rfl rfl ?_
                refine own_lsub X12 at_217 (pc' := 218) rfl ?_
                by_cases hc219 : (v5 - v62) < (0 : Int64)
                · refine own_ljY X12 at_218 at_219 (own_tltL (hc219)).2.2.1 (pc' := 226) (by decide) (by decide) ?_
                  refine own_iconst X12 at_226 (pc' := 227) rfl (v := (0 : Int32)) (by decide) ?_
                  exact j227_30 _ (by rw [if_neg hc208, if_pos hc219])
                · refine own_ljN X12 at_218 at_219 (own_fltL (hc219)).2.2.1 (pc' := 222) rfl ?_
                  refine own_iconst X12 at_222 (pc' := 223) rfl (v := (1 : Int32)) (by decide) ?_
                  refine own_goto X12 at_223 (pc' := 227) (by decide) (by decide) ?_
                  exact j227_30 _ (by rw [if_neg hc208, if_neg hc219])
            · refine own_ljN X12 at_139 at_140 (own_fltL (hc140)).2.2.1 (pc' := 143) rfl ?_
              refine own_iconst X12 at_143 (pc' := 144) rfl (v := (1 : Int32)) (by decide) ?_
              refine own_goto X12 at_144 (pc' := 148) (by decide) (by decide) ?_
              refine own_istore X12 at_148 (pc' := 150) rfl (l' := #[.val (.long p0), .second, .val (.long p1), .second, .val (.long p2), .second, .val (.long p3), .second, .val (.long p4), .second, .val (.long p5), .second, .val (.long v5), .second, .val (.long v12), .second, .val (.int (1 : Int32)), .val (.int (0 : Int32)), .val (.long v46), .second, .val (.long v54), .second, .val (.long v62), .second, .val (.long v70), .second, .val (.ref b3), .val (.ref b9), .val (.int (1 : Int32)), .unset, .unset, .unset, .unset, .unset, .unset, .unset]) rfl ?_
              refine own_iload X12 at_150 (pc' := 152) rfl rfl ?_
              refine own_ifN X12 at_152 (feq ((by decide : ¬ ((1 : Int32) = (0 : Int32))))).1 (pc' := 155) rfl ?_
              refine own_aload X12 at_155 (pc' := 157) rfl rfl rfl ?_
              refine own_iload X12 at_157 (pc' := 159) rfl rfl ?_
              refine own_iconst X12 at_159 (pc' := 160) rfl (v := (0 : Int32)) (by decide) ?_
              refine own_callV (a := b9) (argsL := [(.int (1 : Int32)), (.int (0 : Int32))]) X12 at_160 (y := (⟨"com/example/packhouse/packhouse/Hosts", "put", "(II)V"⟩ : MethodName)) (by decide) (hw _ (List.mem_of_getElem? (i := 130) rfl)) (hw _ (List.mem_of_getElem? (i := 131) rfl)) (hw _ (List.mem_of_getElem? (i := 133) rfl)) (hw _ (List.mem_of_getElem? (i := 132) rfl)) (hw _ (List.mem_of_getElem? (i := 134) rfl)) (hw _ (List.mem_of_getElem? (i := 86) rfl)) A9_12 (own_rm17_1 l Z a0 hw b9 v5 v12 b3 b1_10 b2_10 b3_10 b_8 b5 v46 v54 h12 n0 Z12 A9_12 FF12q0 FF12q1 FF12q2 FF12q3 FF12q4 FF12q5 FF12q6 A3_12 FF8q1_12 FF8q0_12 FF8q4_12 A5_12 FF7q1_12 FF7q2_12 FF10q13_12 FF10q14_12 FF10q15_12 g_b1_10 g_b2_10 g_b3_10 ne_b9_b1_10 ne_b9_b2_10 ne_b5_b1_10 FF10q10 FF10q11 FF10q12 (own_s0 hc132) (own_s0 hc140)) own_pd14 rfl (S := []) rfl (pc' := 163) rfl rfl (W := 0) (Nat.le_of_eq rfl) (by decide) (by decide) (by decide) (by decide) ?_
              intro T34 h34 v34_ X34 q34_
              obtain ⟨rfl, KK34, FF34q0, FF34q1, FF34q2⟩ := q34_
              show OwnGo p e below (T34.setTop (mkF m 163 #[.val (.long p0), .second, .val (.long p1), .second, .val (.long p2), .second, .val (.long p3), .second, .val (.long p4), .second, .val (.long p5), .second, .val (.long v5), .second, .val (.long v12), .second, .val (.int (1 : Int32)), .val (.int (0 : Int32)), .val (.long v46), .second, .val (.long v54), .second, .val (.long v62), .second, .val (.long v70), .second, .val (.ref b3), .val (.ref b9), .val (.int (1 : Int32)), .unset, .unset, .unset, .unset, .unset, .unset, .unset] [])) RR
              have Z34 : n0 ≤ h34.size := Nat.le_trans Z12 KK34.1
              have S_DEFAULTCAPACITY_EMPTY_ELEMENTDATA_34 := own_sta_keep S_DEFAULTCAPACITY_EMPTY_ELEMENTDATA_12 KK34 (own_plS (own_plV FF10q13_12) (own_plS (own_plV FF10q14_12) (own_plS (own_plV FF10q15_12) own_pl0)))
              have V_d0_34 := (V_d0_12).keep KK34 (ninS ne_d0_b1_10 (ninS ne_d0_b2_10 (ninS ne_d0_b3_10 nin0)))
              have A3_34 := (A3_12).keep KK34
              have A5_34 := (A5_12).keep KK34
              have FF7q0_34 := (FF7q0_12).keep KK34 (ninS ne_b5_b1_10 (ninS ne_b5_b2_10 (ninS ne_b5_b3_10 nin0)))
              have FF7q1_34 := (FF7q1_12).keep KK34 (ninS ne_b5_b1_10 (ninS ne_b5_b2_10 (ninS ne_b5_b3_10 nin0)))
              have FF7q2_34 := (FF7q2_12).keep KK34 (ninS ne_b5_b1_10 (ninS ne_b5_b2_10 (ninS ne_b5_b3_10 nin0)))
              have FF8q0_34 := (FF8q0_12).keep KK34 (ninS ne_b3_b1_10 (ninS ne_b3_b2_10 (ninS ne_b3_b3_10 nin0)))
              have FF8q1_34 := (FF8q1_12).keep KK34 (ninS ne_b3_b1_10 (ninS ne_b3_b2_10 (ninS ne_b3_b3_10 nin0)))
              have FF8q2_34 := (FF8q2_12).keep KK34 (ninS ne_b3_b1_10 (ninS ne_b3_b2_10 (ninS ne_b3_b3_10 nin0)))
              have FF8q4_34 := (FF8q4_12).keep KK34 (ninS ne_b_8_b1_10 (ninS ne_b_8_b2_10 (ninS ne_b_8_b3_10 nin0)))
              have A9_34 := (A9_12).keep KK34
              have FF12q0_34 := (FF12q0).keep KK34 (ninS ne_b9_b1_10 (ninS ne_b9_b2_10 (ninS ne_b9_b3_10 nin0)))
              have FF12q1_34 := (FF12q1).keep KK34 (ninS ne_b9_b1_10 (ninS ne_b9_b2_10 (ninS ne_b9_b3_10 nin0)))
              have FF12q2_34 := (FF12q2).keep KK34 (ninS ne_b9_b1_10 (ninS ne_b9_b2_10 (ninS ne_b9_b3_10 nin0)))
              have FF12q3_34 := (FF12q3).keep KK34 (ninS ne_b9_b1_10 (ninS ne_b9_b2_10 (ninS ne_b9_b3_10 nin0)))
              have FF12q4_34 := (FF12q4).keep KK34 (ninS ne_b9_b1_10 (ninS ne_b9_b2_10 (ninS ne_b9_b3_10 nin0)))
              have FF12q5_34 := (FF12q5).keep KK34 (ninS ne_b9_b1_10 (ninS ne_b9_b2_10 (ninS ne_b9_b3_10 nin0)))
              have FF12q6_34 := (FF12q6).keep KK34 (ninS ne_b9_b1_10 (ninS ne_b9_b2_10 (ninS ne_b9_b3_10 nin0)))
              refine own_iload X34 at_163 (pc' := 165) rfl rfl ?_
              refine own_ifN X34 at_165 (feq ((by decide : ¬ ((1 : Int32) = (0 : Int32))))).1 (pc' := 168) rfl ?_
              refine own_iload X34 at_168 (pc' := 170) rfl rfl ?_
              refine own_iload X34 at_170 (pc' := 172) rfl rfl ?_
              refine own_icY X34 at_172 (feq ((by decide : ¬ ((1 : Int32) = (0 : Int32))))).2 (pc' := 180) (by decide) (by decide) ?_
              refine own_lconst X34 at_180 (pc' := 181) rfl (v := (0 : Int64)) (by decide) ?_
              refine own_lstore X34 at_181 (pc' := 183) rfl (l' := #[.val (.long p0), .second, .val (.long p1), .second, .val (.long p2), .second, .val (.long p3), .second, .val (.long p4), .second, .val (.long p5), .second, .val (.long v5), .second, .val (.long v12), .second, .val (.int (1 : Int32)), .val (.int (0 : Int32)), .val (.long v46), .second, .val (.long v54), .second, .val (.long v62), .second, .val (.long v70), .second, .val (.ref b3), .val (.ref b9), .val (.int (1 : Int32)), .val (.long (0 : Int64)), .second, .unset, .unset, .unset, .unset, .unset]) rfl ?_
              refine own_iload X34 at_183 (pc' := 185) rfl rfl ?_
              refine own_ifN X34 at_185 (feq ((by decide : ¬ ((1 : Int32) = (0 : Int32))))).1 (pc' := 188) rfl ?_
              refine own_iload X34 at_188 (pc' := 190) rfl rfl ?_
              refine own_iload X34 at_190 (pc' := 192) rfl rfl ?_
              refine own_icY X34 at_192 (feq ((by decide : ¬ ((1 : Int32) = (0 : Int32))))).2 (pc' := 200) (by decide) (by decide) ?_
              refine own_lconst X34 at_200 (pc' := 201) rfl (v := (0 : Int64)) (by decide) ?_
              refine own_lstore X34 at_201 (pc' := 203) rfl (l' := #[.val (.long p0), .second, .val (.long p1), .second, .val (.long p2), .second, .val (.long p3), .second, .val (.long p4), .second, .val (.long p5), .second, .val (.long v5), .second, .val (.long v12), .second, .val (.int (1 : Int32)), .val (.int (0 : Int32)), .val (.long v46), .second, .val (.long v54), .second, .val (.long v62), .second, .val (.long v70), .second, .val (.ref b3), .val (.ref b9), .val (.int (1 : Int32)), .val (.long (0 : Int64)), .second, .val (.long (0 : Int64)), .second, .unset, .unset, .unset]) rfl ?_
              refine own_lload X34 at_203 (pc' := 205) rfl rfl ?_
              refine own_lload X34 at_205 (pc' := 207) rfl rfl ?_
              have j227_35 : ∀ (f227_s0 : Int32), f227_s0 = (if v5 < v62 then (0 : Int32) else (if (v5 - v62) < (0 : Int64) then (0 : Int32) else (1 : Int32))) → OwnGo p e below (T34.setTop (mkF m 227 #[.val (.long p0), .second, .val (.long p1), .second, .val (.long p2), .second, .val (.long p3), .second, .val (.long p4), .second, .val (.long p5), .second, .val (.long v5), .second, .val (.long v12), .second, .val (.int (1 : Int32)), .val (.int (0 : Int32)), .val (.long v46), .second, .val (.long v54), .second, .val (.long v62), .second, .val (.long v70), .second, .val (.ref b3), .val (.ref b9), .val (.int (1 : Int32)), .val (.long (0 : Int64)), .second, .val (.long (0 : Int64)), .second, .unset, .unset, .unset] [(.int f227_s0)])) RR := by
                intro f227_s0 hf227_s0
                refine own_istore X34 at_227 (pc' := 229) rfl (l' := #[.val (.long p0), .second, .val (.long p1), .second, .val (.long p2), .second, .val (.long p3), .second, .val (.long p4), .second, .val (.long p5), .second, .val (.long v5), .second, .val (.long v12), .second, .val (.int (1 : Int32)), .val (.int (0 : Int32)), .val (.long v46), .second, .val (.long v54), .second, .val (.long v62), .second, .val (.long v70), .second, .val (.ref b3), .val (.ref b9), .val (.int (1 : Int32)), .val (.long (0 : Int64)), .second, .val (.long (0 : Int64)), .second, .val (.int f227_s0), .unset, .unset]) rfl ?_
                refine own_lload X34 at_229 (pc' := 231) rfl rfl ?_
                refine own_lload X34 at_231 (pc' := 233) rfl rfl ?_
                have j253_36 : ∀ (f253_s0 : Int32), f253_s0 = (if v12 < v70 then (0 : Int32) else (if (v12 - v70) < (0 : Int64) then (0 : Int32) else (1 : Int32))) → OwnGo p e below (T34.setTop (mkF m 253 #[.val (.long p0), .second, .val (.long p1), .second, .val (.long p2), .second, .val (.long p3), .second, .val (.long p4), .second, .val (.long p5), .second, .val (.long v5), .second, .val (.long v12), .second, .val (.int (1 : Int32)), .val (.int (0 : Int32)), .val (.long v46), .second, .val (.long v54), .second, .val (.long v62), .second, .val (.long v70), .second, .val (.ref b3), .val (.ref b9), .val (.int (1 : Int32)), .val (.long (0 : Int64)), .second, .val (.long (0 : Int64)), .second, .val (.int f227_s0), .unset, .unset] [(.int f253_s0)])) RR := by
                  intro f253_s0 hf253_s0
                  refine own_istore X34 at_253 (pc' := 255) rfl (l' := #[.val (.long p0), .second, .val (.long p1), .second, .val (.long p2), .second, .val (.long p3), .second, .val (.long p4), .second, .val (.long p5), .second, .val (.long v5), .second, .val (.long v12), .second, .val (.int (1 : Int32)), .val (.int (0 : Int32)), .val (.long v46), .second, .val (.long v54), .second, .val (.long v62), .second, .val (.long v70), .second, .val (.ref b3), .val (.ref b9), .val (.int (1 : Int32)), .val (.long (0 : Int64)), .second, .val (.long (0 : Int64)), .second, .val (.int f227_s0), .val (.int f253_s0), .unset]) rfl ?_
                  refine own_iload X34 at_255 (pc' := 257) rfl rfl ?_
                  have j270_37 : ∀ (f270_s0 : Int32), f270_s0 = (if f227_s0 = (0 : Int32) then (0 : Int32) else (if f253_s0 = (0 : Int32) then (0 : Int32) else (1 : Int32))) → OwnGo p e below (T34.setTop (mkF m 270 #[.val (.long p0), .second, .val (.long p1), .second, .val (.long p2), .second, .val (.long p3), .second, .val (.long p4), .second, .val (.long p5), .second, .val (.long v5), .second, .val (.long v12), .second, .val (.int (1 : Int32)), .val (.int (0 : Int32)), .val (.long v46), .second, .val (.long v54), .second, .val (.long v62), .second, .val (.long v70), .second, .val (.ref b3), .val (.ref b9), .val (.int (1 : Int32)), .val (.long (0 : Int64)), .second, .val (.long (0 : Int64)), .second, .val (.int f227_s0), .val (.int f253_s0), .unset] [(.int f270_s0)])) RR := by
                    intro f270_s0 hf270_s0
                    refine own_istore X34 at_270 (pc' := 272) rfl (l' := #[.val (.long p0), .second, .val (.long p1), .second, .val (.long p2), .second, .val (.long p3), .second, .val (.long p4), .second, .val (.long p5), .second, .val (.long v5), .second, .val (.long v12), .second, .val (.int (1 : Int32)), .val (.int (0 : Int32)), .val (.long v46), .second, .val (.long v54), .second, .val (.long v62), .second, .val (.long v70), .second, .val (.ref b3), .val (.ref b9), .val (.int (1 : Int32)), .val (.long (0 : Int64)), .second, .val (.long (0 : Int64)), .second, .val (.int f227_s0), .val (.int f253_s0), .val (.int f270_s0)]) rfl ?_
                    refine own_aload X34 at_272 (pc' := 274) rfl rfl rfl ?_
                    refine own_iload X34 at_274 (pc' := 276) rfl rfl ?_
                    refine own_lload X34 at_276 (pc' := 278) rfl rfl ?_
                    refine own_lload X34 at_278 (pc' := 280) rfl rfl ?_
                    refine own_callV (a := b9) (argsL := [(.int (0 : Int32)), (.long v62), (.long v70)]) X34 at_280 (y := (⟨"com/example/packhouse/packhouse/Hosts", "fits", "(IJJ)Z"⟩ : MethodName)) (by decide) (hw _ (List.mem_of_getElem? (i := 125) rfl)) (hw _ (List.mem_of_getElem? (i := 126) rfl)) (hw _ (List.mem_of_getElem? (i := 128) rfl)) (hw _ (List.mem_of_getElem? (i := 127) rfl)) (hw _ (List.mem_of_getElem? (i := 129) rfl)) (hw _ (List.mem_of_getElem? (i := 86) rfl)) A9_34 (own_rm16_0 l Z a0 hw b9 v5 v12 b1_10 b2_10 (0 : Int64) (((0 : Int64) + v46)) (0 : Int64) (((0 : Int64) + v54)) v62 v70 h34 n0 Z34 FF12q0_34 FF12q1_34 FF12q4_34 FF12q5_34 FF34q0 FF34q1) own_pd10 rfl (S := []) rfl (pc' := 283) rfl rfl (W := 0) (Nat.le_of_eq rfl) (by decide) (by decide) (by decide) (by decide) ?_
                    intro T38 h38 v38_ X38 q38_
                    obtain ⟨rfl, rfl⟩ := q38_
                    obtain ⟨r38, hr38⟩ : ∃ z, z = (if (v5 - (0 : Int64)) < v62 then (0 : Int32) else (if (v12 - (0 : Int64)) < v70 then (0 : Int32) else (1 : Int32))) := ⟨_, rfl⟩
                    show OwnGo p e below (T38.setTop (mkF m 283 #[.val (.long p0), .second, .val (.long p1), .second, .val (.long p2), .second, .val (.long p3), .second, .val (.long p4), .second, .val (.long p5), .second, .val (.long v5), .second, .val (.long v12), .second, .val (.int (1 : Int32)), .val (.int (0 : Int32)), .val (.long v46), .second, .val (.long v54), .second, .val (.long v62), .second, .val (.long v70), .second, .val (.ref b3), .val (.ref b9), .val (.int (1 : Int32)), .val (.long (0 : Int64)), .second, .val (.long (0 : Int64)), .second, .val (.int f227_s0), .val (.int f253_s0), .val (.int f270_s0)] [(.int (if (v5 - (0 : Int64)) < v62 then (0 : Int32) else (if (v12 - (0 : Int64)) < v70 then (0 : Int32) else (1 : Int32))))])) RR
                    rw [← hr38]
                    refine own_iload X38 at_283 (pc' := 285) rfl rfl ?_
                    refine own_icN X38 at_285 (teq ((own_fin (own_msk hv5) (own_msk hv12) (own_msk hv62) (own_msk hv70) rfl rfl (by decide) (by decide) (own_n0 (own_msk hv5)) (own_n0 (own_msk hv12)) hr38 hf227_s0 hf253_s0 hf270_s0 : r38 = f270_s0))).2 (pc' := 288) rfl ?_
                    refine own_iconst X38 at_288 (pc' := 289) rfl (v := (1 : Int32)) (by decide) ?_
                    refine own_goto X38 at_289 (pc' := 293) (by decide) (by decide) ?_
                    exact own_retZ X38 at_293 (by decide) rfl (by decide) (by decide)
                  by_cases hc257 : f227_s0 = (0 : Int32)
                  · refine own_ifY X34 at_257 (teq (hc257)).1 (pc' := 269) (by decide) (by decide) ?_
                    refine own_iconst X34 at_269 (pc' := 270) rfl (v := (0 : Int32)) (by decide) ?_
                    exact j270_37 _ (by rw [if_pos hc257])
                  · refine own_ifN X34 at_257 (feq (hc257)).1 (pc' := 260) rfl ?_
                    refine own_iload X34 at_260 (pc' := 262) rfl rfl ?_
                    by_cases hc262 : f253_s0 = (0 : Int32)
                    · refine own_ifY X34 at_262 (teq (hc262)).1 (pc' := 269) (by decide) (by decide) ?_
                      refine own_iconst X34 at_269 (pc' := 270) rfl (v := (0 : Int32)) (by decide) ?_
                      exact j270_37 _ (by rw [if_neg hc257, if_pos hc262])
                    · refine own_ifN X34 at_262 (feq (hc262)).1 (pc' := 265) rfl ?_
                      refine own_iconst X34 at_265 (pc' := 266) rfl (v := (1 : Int32)) (by decide) ?_
                      refine own_goto X34 at_266 (pc' := 270) (by decide) (by decide) ?_
                      exact j270_37 _ (by rw [if_neg hc257, if_neg hc262])
                by_cases hc234 : v12 < v70
                · refine own_ljY X34 at_233 at_234 (own_tltL (hc234)).2.2.1 (pc' := 252) (by decide) (by decide) ?_
                  refine own_iconst X34 at_252 (pc' := 253) rfl (v := (0 : Int32)) (by decide) ?_
                  exact j253_36 _ (by rw [if_pos hc234])
                · refine own_ljN X34 at_233 at_234 (own_fltL (hc234)).2.2.1 (pc' := 237) rfl ?_
                  refine own_lload X34 at_237 (pc' := 239) rfl rfl ?_
                  refine own_lload X34 at_239 (pc' := 241) rfl rfl ?_
                  refine own_lload X34 at_241 (pc' := 243) rfl rfl ?_
                  refine own_lsub X34 at_243 (pc' := 244) rfl ?_
                  by_cases hc245 : (v12 - v70) < (0 : Int64)
                  · refine own_ljY X34 at_244 at_245 (own_tltL (hc245)).2.2.1 (pc' := 252) (by decide) (by decide) ?_
                    refine own_iconst X34 at_252 (pc' := 253) rfl (v := (0 : Int32)) (by decide) ?_
                    exact j253_36 _ (by rw [if_neg hc234, if_pos hc245])
                  · refine own_ljN X34 at_244 at_245 (own_fltL (hc245)).2.2.1 (pc' := 248) rfl ?_
                    refine own_iconst X34 at_248 (pc' := 249) rfl (v := (1 : Int32)) (by decide) ?_
                    refine own_goto X34 at_249 (pc' := 253) (by decide) (by decide) ?_
                    exact j253_36 _ (by rw [if_neg hc234, if_neg hc245])
              by_cases hc208 : v5 < v62
              · refine own_ljY X34 at_207 at_208 (own_tltL (hc208)).2.2.1 (pc' := 226) (by decide) (by decide) ?_
                refine own_iconst X34 at_226 (pc' := 227) rfl (v := (0 : Int32)) (by decide) ?_
                exact j227_35 _ (by rw [if_pos hc208])
              · refine own_ljN X34 at_207 at_208 (own_fltL (hc208)).2.2.1 (pc' := 211) rfl ?_
                refine own_lload X34 at_211 (pc' := 213) rfl rfl ?_
                refine own_lload X34 at_213 (pc' := 215) rfl rfl ?_
                refine own_lload X34 at_215 (pc' := 217) rfl rfl ?_
                refine own_lsub X34 at_217 (pc' := 218) rfl ?_
                by_cases hc219 : (v5 - v62) < (0 : Int64)
                · refine own_ljY X34 at_218 at_219 (own_tltL (hc219)).2.2.1 (pc' := 226) (by decide) (by decide) ?_
                  refine own_iconst X34 at_226 (pc' := 227) rfl (v := (0 : Int32)) (by decide) ?_
                  exact j227_35 _ (by rw [if_neg hc208, if_pos hc219])
                · refine own_ljN X34 at_218 at_219 (own_fltL (hc219)).2.2.1 (pc' := 222) rfl ?_
                  refine own_iconst X34 at_222 (pc' := 223) rfl (v := (1 : Int32)) (by decide) ?_
                  refine own_goto X34 at_223 (pc' := 227) (by decide) (by decide) ?_
                  exact j227_35 _ (by rw [if_neg hc208, if_neg hc219])
      · rcases own_01 hf38_s0 with ⟨rfl, hB⟩ | ⟨rfl, hB⟩
        · refine own_lload X12 at_127 (pc' := 129) rfl rfl ?_
          refine own_lload X12 at_129 (pc' := 131) rfl rfl ?_
          by_cases hc132 : v5 < v46
          · refine own_ljY X12 at_131 at_132 (own_tltL (hc132)).2.2.1 (pc' := 147) (by decide) (by decide) ?_
            refine own_iconst X12 at_147 (pc' := 148) rfl (v := (0 : Int32)) (by decide) ?_
            refine own_istore X12 at_148 (pc' := 150) rfl (l' := #[.val (.long p0), .second, .val (.long p1), .second, .val (.long p2), .second, .val (.long p3), .second, .val (.long p4), .second, .val (.long p5), .second, .val (.long v5), .second, .val (.long v12), .second, .val (.int (0 : Int32)), .val (.int (1 : Int32)), .val (.long v46), .second, .val (.long v54), .second, .val (.long v62), .second, .val (.long v70), .second, .val (.ref b3), .val (.ref b9), .val (.int (0 : Int32)), .unset, .unset, .unset, .unset, .unset, .unset, .unset]) rfl ?_
            refine own_iload X12 at_150 (pc' := 152) rfl rfl ?_
            refine own_ifY X12 at_152 (teq ((rfl : (0 : Int32) = (0 : Int32)))).1 (pc' := 163) (by decide) (by decide) ?_
            refine own_iload X12 at_163 (pc' := 165) rfl rfl ?_
            refine own_ifY X12 at_165 (teq ((rfl : (0 : Int32) = (0 : Int32)))).1 (pc' := 180) (by decide) (by decide) ?_
            refine own_lconst X12 at_180 (pc' := 181) rfl (v := (0 : Int64)) (by decide) ?_
            refine own_lstore X12 at_181 (pc' := 183) rfl (l' := #[.val (.long p0), .second, .val (.long p1), .second, .val (.long p2), .second, .val (.long p3), .second, .val (.long p4), .second, .val (.long p5), .second, .val (.long v5), .second, .val (.long v12), .second, .val (.int (0 : Int32)), .val (.int (1 : Int32)), .val (.long v46), .second, .val (.long v54), .second, .val (.long v62), .second, .val (.long v70), .second, .val (.ref b3), .val (.ref b9), .val (.int (0 : Int32)), .val (.long (0 : Int64)), .second, .unset, .unset, .unset, .unset, .unset]) rfl ?_
            refine own_iload X12 at_183 (pc' := 185) rfl rfl ?_
            refine own_ifY X12 at_185 (teq ((rfl : (0 : Int32) = (0 : Int32)))).1 (pc' := 200) (by decide) (by decide) ?_
            refine own_lconst X12 at_200 (pc' := 201) rfl (v := (0 : Int64)) (by decide) ?_
            refine own_lstore X12 at_201 (pc' := 203) rfl (l' := #[.val (.long p0), .second, .val (.long p1), .second, .val (.long p2), .second, .val (.long p3), .second, .val (.long p4), .second, .val (.long p5), .second, .val (.long v5), .second, .val (.long v12), .second, .val (.int (0 : Int32)), .val (.int (1 : Int32)), .val (.long v46), .second, .val (.long v54), .second, .val (.long v62), .second, .val (.long v70), .second, .val (.ref b3), .val (.ref b9), .val (.int (0 : Int32)), .val (.long (0 : Int64)), .second, .val (.long (0 : Int64)), .second, .unset, .unset, .unset]) rfl ?_
            refine own_lload X12 at_203 (pc' := 205) rfl rfl ?_
            refine own_lload X12 at_205 (pc' := 207) rfl rfl ?_
            have j227_39 : ∀ (f227_s0 : Int32), f227_s0 = (if v5 < v62 then (0 : Int32) else (if (v5 - v62) < (0 : Int64) then (0 : Int32) else (1 : Int32))) → OwnGo p e below (T12.setTop (mkF m 227 #[.val (.long p0), .second, .val (.long p1), .second, .val (.long p2), .second, .val (.long p3), .second, .val (.long p4), .second, .val (.long p5), .second, .val (.long v5), .second, .val (.long v12), .second, .val (.int (0 : Int32)), .val (.int (1 : Int32)), .val (.long v46), .second, .val (.long v54), .second, .val (.long v62), .second, .val (.long v70), .second, .val (.ref b3), .val (.ref b9), .val (.int (0 : Int32)), .val (.long (0 : Int64)), .second, .val (.long (0 : Int64)), .second, .unset, .unset, .unset] [(.int f227_s0)])) RR := by
              intro f227_s0 hf227_s0
              refine own_istore X12 at_227 (pc' := 229) rfl (l' := #[.val (.long p0), .second, .val (.long p1), .second, .val (.long p2), .second, .val (.long p3), .second, .val (.long p4), .second, .val (.long p5), .second, .val (.long v5), .second, .val (.long v12), .second, .val (.int (0 : Int32)), .val (.int (1 : Int32)), .val (.long v46), .second, .val (.long v54), .second, .val (.long v62), .second, .val (.long v70), .second, .val (.ref b3), .val (.ref b9), .val (.int (0 : Int32)), .val (.long (0 : Int64)), .second, .val (.long (0 : Int64)), .second, .val (.int f227_s0), .unset, .unset]) rfl ?_
              refine own_lload X12 at_229 (pc' := 231) rfl rfl ?_
              refine own_lload X12 at_231 (pc' := 233) rfl rfl ?_
              have j253_40 : ∀ (f253_s0 : Int32), f253_s0 = (if v12 < v70 then (0 : Int32) else (if (v12 - v70) < (0 : Int64) then (0 : Int32) else (1 : Int32))) → OwnGo p e below (T12.setTop (mkF m 253 #[.val (.long p0), .second, .val (.long p1), .second, .val (.long p2), .second, .val (.long p3), .second, .val (.long p4), .second, .val (.long p5), .second, .val (.long v5), .second, .val (.long v12), .second, .val (.int (0 : Int32)), .val (.int (1 : Int32)), .val (.long v46), .second, .val (.long v54), .second, .val (.long v62), .second, .val (.long v70), .second, .val (.ref b3), .val (.ref b9), .val (.int (0 : Int32)), .val (.long (0 : Int64)), .second, .val (.long (0 : Int64)), .second, .val (.int f227_s0), .unset, .unset] [(.int f253_s0)])) RR := by
                intro f253_s0 hf253_s0
                refine own_istore X12 at_253 (pc' := 255) rfl (l' := #[.val (.long p0), .second, .val (.long p1), .second, .val (.long p2), .second, .val (.long p3), .second, .val (.long p4), .second, .val (.long p5), .second, .val (.long v5), .second, .val (.long v12), .second, .val (.int (0 : Int32)), .val (.int (1 : Int32)), .val (.long v46), .second, .val (.long v54), .second, .val (.long v62), .second, .val (.long v70), .second, .val (.ref b3), .val (.ref b9), .val (.int (0 : Int32)), .val (.long (0 : Int64)), .second, .val (.long (0 : Int64)), .second, .val (.int f227_s0), .val (.int f253_s0), .unset]) rfl ?_
                refine own_iload X12 at_255 (pc' := 257) rfl rfl ?_
                have j270_41 : ∀ (f270_s0 : Int32), f270_s0 = (if f227_s0 = (0 : Int32) then (0 : Int32) else (if f253_s0 = (0 : Int32) then (0 : Int32) else (1 : Int32))) → OwnGo p e below (T12.setTop (mkF m 270 #[.val (.long p0), .second, .val (.long p1), .second, .val (.long p2), .second, .val (.long p3), .second, .val (.long p4), .second, .val (.long p5), .second, .val (.long v5), .second, .val (.long v12), .second, .val (.int (0 : Int32)), .val (.int (1 : Int32)), .val (.long v46), .second, .val (.long v54), .second, .val (.long v62), .second, .val (.long v70), .second, .val (.ref b3), .val (.ref b9), .val (.int (0 : Int32)), .val (.long (0 : Int64)), .second, .val (.long (0 : Int64)), .second, .val (.int f227_s0), .val (.int f253_s0), .unset] [(.int f270_s0)])) RR := by
                  intro f270_s0 hf270_s0
                  refine own_istore X12 at_270 (pc' := 272) rfl (l' := #[.val (.long p0), .second, .val (.long p1), .second, .val (.long p2), .second, .val (.long p3), .second, .val (.long p4), .second, .val (.long p5), .second, .val (.long v5), .second, .val (.long v12), .second, .val (.int (0 : Int32)), .val (.int (1 : Int32)), .val (.long v46), .second, .val (.long v54), .second, .val (.long v62), .second, .val (.long v70), .second, .val (.ref b3), .val (.ref b9), .val (.int (0 : Int32)), .val (.long (0 : Int64)), .second, .val (.long (0 : Int64)), .second, .val (.int f227_s0), .val (.int f253_s0), .val (.int f270_s0)]) rfl ?_
                  refine own_aload X12 at_272 (pc' := 274) rfl rfl rfl ?_
                  refine own_iload X12 at_274 (pc' := 276) rfl rfl ?_
                  refine own_lload X12 at_276 (pc' := 278) rfl rfl ?_
                  refine own_lload X12 at_278 (pc' := 280) rfl rfl ?_
                  refine own_callV (a := b9) (argsL := [(.int (1 : Int32)), (.long v62), (.long v70)]) X12 at_280 (y := (⟨"com/example/packhouse/packhouse/Hosts", "fits", "(IJJ)Z"⟩ : MethodName)) (by decide) (hw _ (List.mem_of_getElem? (i := 125) rfl)) (hw _ (List.mem_of_getElem? (i := 126) rfl)) (hw _ (List.mem_of_getElem? (i := 128) rfl)) (hw _ (List.mem_of_getElem? (i := 127) rfl)) (hw _ (List.mem_of_getElem? (i := 129) rfl)) (hw _ (List.mem_of_getElem? (i := 86) rfl)) A9_12 (own_rm16_1 l Z a0 hw b9 v5 v12 b1_10 b2_10 (0 : Int64) (0 : Int64) (0 : Int64) (0 : Int64) v62 v70 h12 n0 Z12 FF12q0 FF12q1 FF12q4 FF12q5 FF10q13_12 FF10q14_12) own_pd10 rfl (S := []) rfl (pc' := 283) rfl rfl (W := 0) (Nat.le_of_eq rfl) (by decide) (by decide) (by decide) (by decide) ?_
                  intro T42 h42 v42_ X42 q42_
                  obtain ⟨rfl, rfl⟩ := q42_
                  obtain ⟨r42, hr42⟩ : ∃ z, z = (if (v5 - (0 : Int64)) < v62 then (0 : Int32) else (if (v12 - (0 : Int64)) < v70 then (0 : Int32) else (1 : Int32))) := ⟨_, rfl⟩
                  show OwnGo p e below (T42.setTop (mkF m 283 #[.val (.long p0), .second, .val (.long p1), .second, .val (.long p2), .second, .val (.long p3), .second, .val (.long p4), .second, .val (.long p5), .second, .val (.long v5), .second, .val (.long v12), .second, .val (.int (0 : Int32)), .val (.int (1 : Int32)), .val (.long v46), .second, .val (.long v54), .second, .val (.long v62), .second, .val (.long v70), .second, .val (.ref b3), .val (.ref b9), .val (.int (0 : Int32)), .val (.long (0 : Int64)), .second, .val (.long (0 : Int64)), .second, .val (.int f227_s0), .val (.int f253_s0), .val (.int f270_s0)] [(.int (if (v5 - (0 : Int64)) < v62 then (0 : Int32) else (if (v12 - (0 : Int64)) < v70 then (0 : Int32) else (1 : Int32))))])) RR
                  rw [← hr42]
                  refine own_iload X42 at_283 (pc' := 285) rfl rfl ?_
                  refine own_icN X42 at_285 (teq ((own_fin (own_msk hv5) (own_msk hv12) (own_msk hv62) (own_msk hv70) rfl rfl (by decide) (by decide) (own_n0 (own_msk hv5)) (own_n0 (own_msk hv12)) hr42 hf227_s0 hf253_s0 hf270_s0 : r42 = f270_s0))).2 (pc' := 288) rfl ?_
                  refine own_iconst X42 at_288 (pc' := 289) rfl (v := (1 : Int32)) (by decide) ?_
                  refine own_goto X42 at_289 (pc' := 293) (by decide) (by decide) ?_
                  exact own_retZ X42 at_293 (by decide) rfl (by decide) (by decide)
                by_cases hc257 : f227_s0 = (0 : Int32)
                · refine own_ifY X12 at_257 (teq (hc257)).1 (pc' := 269) (by decide) (by decide) ?_
                  refine own_iconst X12 at_269 (pc' := 270) rfl (v := (0 : Int32)) (by decide) ?_
                  exact j270_41 _ (by rw [if_pos hc257])
                · refine own_ifN X12 at_257 (feq (hc257)).1 (pc' := 260) rfl ?_
                  refine own_iload X12 at_260 (pc' := 262) rfl rfl ?_
                  by_cases hc262 : f253_s0 = (0 : Int32)
                  · refine own_ifY X12 at_262 (teq (hc262)).1 (pc' := 269) (by decide) (by decide) ?_
                    refine own_iconst X12 at_269 (pc' := 270) rfl (v := (0 : Int32)) (by decide) ?_
                    exact j270_41 _ (by rw [if_neg hc257, if_pos hc262])
                  · refine own_ifN X12 at_262 (feq (hc262)).1 (pc' := 265) rfl ?_
                    refine own_iconst X12 at_265 (pc' := 266) rfl (v := (1 : Int32)) (by decide) ?_
                    refine own_goto X12 at_266 (pc' := 270) (by decide) (by decide) ?_
                    exact j270_41 _ (by rw [if_neg hc257, if_neg hc262])
              by_cases hc234 : v12 < v70
              · refine own_ljY X12 at_233 at_234 (own_tltL (hc234)).2.2.1 (pc' := 252) (by decide) (by decide) ?_
                refine own_iconst X12 at_252 (pc' := 253) rfl (v := (0 : Int32)) (by decide) ?_
                exact j253_40 _ (by rw [if_pos hc234])
              · refine own_ljN X12 at_233 at_234 (own_fltL (hc234)).2.2.1 (pc' := 237) rfl ?_
                refine own_lload X12 at_237 (pc' := 239) rfl rfl ?_
                refine own_lload X12 at_239 (pc' := 241) rfl rfl ?_
                refine own_lload X12 at_241 (pc' := 243) rfl rfl ?_
                refine own_lsub X12 at_243 (pc' := 244) rfl ?_
                by_cases hc245 : (v12 - v70) < (0 : Int64)
                · refine own_ljY X12 at_244 at_245 (own_tltL (hc245)).2.2.1 (pc' := 252) (by decide) (by decide) ?_
                  refine own_iconst X12 at_252 (pc' := 253) rfl (v := (0 : Int32)) (by decide) ?_
                  exact j253_40 _ (by rw [if_neg hc234, if_pos hc245])
                · refine own_ljN X12 at_244 at_245 (own_fltL (hc245)).2.2.1 (pc' := 248) rfl ?_
                  refine own_iconst X12 at_248 (pc' := 249) rfl (v := (1 : Int32)) (by decide) ?_
                  refine own_goto X12 at_249 (pc' := 253) (by decide) (by decide) ?_
                  exact j253_40 _ (by rw [if_neg hc234, if_neg hc245])
            by_cases hc208 : v5 < v62
            · refine own_ljY X12 at_207 at_208 (own_tltL (hc208)).2.2.1 (pc' := 226) (by decide) (by decide) ?_
              refine own_iconst X12 at_226 (pc' := 227) rfl (v := (0 : Int32)) (by decide) ?_
              exact j227_39 _ (by rw [if_pos hc208])
            · refine own_ljN X12 at_207 at_208 (own_fltL (hc208)).2.2.1 (pc' := 211) rfl ?_
              refine own_lload X12 at_211 (pc' := 213) rfl rfl ?_
              refine own_lload X12 at_213 (pc' := 215) rfl rfl ?_
              refine own_lload X12 at_215 (pc' := 217) rfl rfl ?_
              refine own_lsub X12 at_217 (pc' := 218) rfl ?_
              by_cases hc219 : (v5 - v62) < (0 : Int64)
              · refine own_ljY X12 at_218 at_219 (own_tltL (hc219)).2.2.1 (pc' := 226) (by decide) (by decide) ?_
                refine own_iconst X12 at_226 (pc' := 227) rfl (v := (0 : Int32)) (by decide) ?_
                exact j227_39 _ (by rw [if_neg hc208, if_pos hc219])
              · refine own_ljN X12 at_218 at_219 (own_fltL (hc219)).2.2.1 (pc' := 222) rfl ?_
                refine own_iconst X12 at_222 (pc' := 223) rfl (v := (1 : Int32)) (by decide) ?_
                refine own_goto X12 at_223 (pc' := 227) (by decide) (by decide) ?_
                exact j227_39 _ (by rw [if_neg hc208, if_neg hc219])
          · refine own_ljN X12 at_131 at_132 (own_fltL (hc132)).2.2.1 (pc' := 135) rfl ?_
            refine own_lload X12 at_135 (pc' := 137) rfl rfl ?_
            refine own_lload X12 at_137 (pc' := 139) rfl rfl ?_
            by_cases hc140 : v12 < v54
            · refine own_ljY X12 at_139 at_140 (own_tltL (hc140)).2.2.1 (pc' := 147) (by decide) (by decide) ?_
              refine own_iconst X12 at_147 (pc' := 148) rfl (v := (0 : Int32)) (by decide) ?_
              refine own_istore X12 at_148 (pc' := 150) rfl (l' := #[.val (.long p0), .second, .val (.long p1), .second, .val (.long p2), .second, .val (.long p3), .second, .val (.long p4), .second, .val (.long p5), .second, .val (.long v5), .second, .val (.long v12), .second, .val (.int (0 : Int32)), .val (.int (1 : Int32)), .val (.long v46), .second, .val (.long v54), .second, .val (.long v62), .second, .val (.long v70), .second, .val (.ref b3), .val (.ref b9), .val (.int (0 : Int32)), .unset, .unset, .unset, .unset, .unset, .unset, .unset]) rfl ?_
              refine own_iload X12 at_150 (pc' := 152) rfl rfl ?_
              refine own_ifY X12 at_152 (teq ((rfl : (0 : Int32) = (0 : Int32)))).1 (pc' := 163) (by decide) (by decide) ?_
              refine own_iload X12 at_163 (pc' := 165) rfl rfl ?_
              refine own_ifY X12 at_165 (teq ((rfl : (0 : Int32) = (0 : Int32)))).1 (pc' := 180) (by decide) (by decide) ?_
              refine own_lconst X12 at_180 (pc' := 181) rfl (v := (0 : Int64)) (by decide) ?_
              refine own_lstore X12 at_181 (pc' := 183) rfl (l' := #[.val (.long p0), .second, .val (.long p1), .second, .val (.long p2), .second, .val (.long p3), .second, .val (.long p4), .second, .val (.long p5), .second, .val (.long v5), .second, .val (.long v12), .second, .val (.int (0 : Int32)), .val (.int (1 : Int32)), .val (.long v46), .second, .val (.long v54), .second, .val (.long v62), .second, .val (.long v70), .second, .val (.ref b3), .val (.ref b9), .val (.int (0 : Int32)), .val (.long (0 : Int64)), .second, .unset, .unset, .unset, .unset, .unset]) rfl ?_
              refine own_iload X12 at_183 (pc' := 185) rfl rfl ?_
              refine own_ifY X12 at_185 (teq ((rfl : (0 : Int32) = (0 : Int32)))).1 (pc' := 200) (by decide) (by decide) ?_
              refine own_lconst X12 at_200 (pc' := 201) rfl (v := (0 : Int64)) (by decide) ?_
              refine own_lstore X12 at_201 (pc' := 203) rfl (l' := #[.val (.long p0), .second, .val (.long p1), .second, .val (.long p2), .second, .val (.long p3), .second, .val (.long p4), .second, .val (.long p5), .second, .val (.long v5), .second, .val (.long v12), .second, .val (.int (0 : Int32)), .val (.int (1 : Int32)), .val (.long v46), .second, .val (.long v54), .second, .val (.long v62), .second, .val (.long v70), .second, .val (.ref b3), .val (.ref b9), .val (.int (0 : Int32)), .val (.long (0 : Int64)), .second, .val (.long (0 : Int64)), .second, .unset, .unset, .unset]) rfl ?_
              refine own_lload X12 at_203 (pc' := 205) rfl rfl ?_
              refine own_lload X12 at_205 (pc' := 207) rfl rfl ?_
              have j227_43 : ∀ (f227_s0 : Int32), f227_s0 = (if v5 < v62 then (0 : Int32) else (if (v5 - v62) < (0 : Int64) then (0 : Int32) else (1 : Int32))) → OwnGo p e below (T12.setTop (mkF m 227 #[.val (.long p0), .second, .val (.long p1), .second, .val (.long p2), .second, .val (.long p3), .second, .val (.long p4), .second, .val (.long p5), .second, .val (.long v5), .second, .val (.long v12), .second, .val (.int (0 : Int32)), .val (.int (1 : Int32)), .val (.long v46), .second, .val (.long v54), .second, .val (.long v62), .second, .val (.long v70), .second, .val (.ref b3), .val (.ref b9), .val (.int (0 : Int32)), .val (.long (0 : Int64)), .second, .val (.long (0 : Int64)), .second, .unset, .unset, .unset] [(.int f227_s0)])) RR := by
                intro f227_s0 hf227_s0
                refine own_istore X12 at_227 (pc' := 229) rfl (l' := #[.val (.long p0), .second, .val (.long p1), .second, .val (.long p2), .second, .val (.long p3), .second, .val (.long p4), .second, .val (.long p5), .second, .val (.long v5), .second, .val (.long v12), .second, .val (.int (0 : Int32)), .val (.int (1 : Int32)), .val (.long v46), .second, .val (.long v54), .second, .val (.long v62), .second, .val (.long v70), .second, .val (.ref b3), .val (.ref b9), .val (.int (0 : Int32)), .val (.long (0 : Int64)), .second, .val (.long (0 : Int64)), .second, .val (.int f227_s0), .unset, .unset]) rfl ?_
                refine own_lload X12 at_229 (pc' := 231) rfl rfl ?_
                refine own_lload X12 at_231 (pc' := 233) rfl rfl ?_
                have j253_44 : ∀ (f253_s0 : Int32), f253_s0 = (if v12 < v70 then (0 : Int32) else (if (v12 - v70) < (0 : Int64) then (0 : Int32) else (1 : Int32))) → OwnGo p e below (T12.setTop (mkF m 253 #[.val (.long p0), .second, .val (.long p1), .second, .val (.long p2), .second, .val (.long p3), .second, .val (.long p4), .second, .val (.long p5), .second, .val (.long v5), .second, .val (.long v12), .second, .val (.int (0 : Int32)), .val (.int (1 : Int32)), .val (.long v46), .second, .val (.long v54), .second, .val (.long v62), .second, .val (.long v70), .second, .val (.ref b3), .val (.ref b9), .val (.int (0 : Int32)), .val (.long (0 : Int64)), .second, .val (.long (0 : Int64)), .second, .val (.int f227_s0), .unset, .unset] [(.int f253_s0)])) RR := by
                  intro f253_s0 hf253_s0
                  refine own_istore X12 at_253 (pc' := 255) rfl (l' := #[.val (.long p0), .second, .val (.long p1), .second, .val (.long p2), .second, .val (.long p3), .second, .val (.long p4), .second, .val (.long p5), .second, .val (.long v5), .second, .val (.long v12), .second, .val (.int (0 : Int32)), .val (.int (1 : Int32)), .val (.long v46), .second, .val (.long v54), .second, .val (.long v62), .second, .val (.long v70), .second, .val (.ref b3), .val (.ref b9), .val (.int (0 : Int32)), .val (.long (0 : Int64)), .second, .val (.long (0 : Int64)), .second, .val (.int f227_s0), .val (.int f253_s0), .unset]) rfl ?_
                  refine own_iload X12 at_255 (pc' := 257) rfl rfl ?_
                  have j270_45 : ∀ (f270_s0 : Int32), f270_s0 = (if f227_s0 = (0 : Int32) then (0 : Int32) else (if f253_s0 = (0 : Int32) then (0 : Int32) else (1 : Int32))) → OwnGo p e below (T12.setTop (mkF m 270 #[.val (.long p0), .second, .val (.long p1), .second, .val (.long p2), .second, .val (.long p3), .second, .val (.long p4), .second, .val (.long p5), .second, .val (.long v5), .second, .val (.long v12), .second, .val (.int (0 : Int32)), .val (.int (1 : Int32)), .val (.long v46), .second, .val (.long v54), .second, .val (.long v62), .second, .val (.long v70), .second, .val (.ref b3), .val (.ref b9), .val (.int (0 : Int32)), .val (.long (0 : Int64)), .second, .val (.long (0 : Int64)), .second, .val (.int f227_s0), .val (.int f253_s0), .unset] [(.int f270_s0)])) RR := by
                    intro f270_s0 hf270_s0
                    refine own_istore X12 at_270 (pc' := 272) rfl (l' := #[.val (.long p0), .second, .val (.long p1), .second, .val (.long p2), .second, .val (.long p3), .second, .val (.long p4), .second, .val (.long p5), .second, .val (.long v5), .second, .val (.long v12), .second, .val (.int (0 : Int32)), .val (.int (1 : Int32)), .val (.long v46), .second, .val (.long v54), .second, .val (.long v62), .second, .val (.long v70), .second, .val (.ref b3), .val (.ref b9), .val (.int (0 : Int32)), .val (.long (0 : Int64)), .second, .val (.long (0 : Int64)), .second, .val (.int f227_s0), .val (.int f253_s0), .val (.int f270_s0)]) rfl ?_
                    refine own_aload X12 at_272 (pc' := 274) rfl rfl rfl ?_
                    refine own_iload X12 at_274 (pc' := 276) rfl rfl ?_
                    refine own_lload X12 at_276 (pc' := 278) rfl rfl ?_
                    refine own_lload X12 at_278 (pc' := 280) rfl rfl ?_
                    refine own_callV (a := b9) (argsL := [(.int (1 : Int32)), (.long v62), (.long v70)]) X12 at_280 (y := (⟨"com/example/packhouse/packhouse/Hosts", "fits", "(IJJ)Z"⟩ : MethodName)) (by decide) (hw _ (List.mem_of_getElem? (i := 125) rfl)) (hw _ (List.mem_of_getElem? (i := 126) rfl)) (hw _ (List.mem_of_getElem? (i := 128) rfl)) (hw _ (List.mem_of_getElem? (i := 127) rfl)) (hw _ (List.mem_of_getElem? (i := 129) rfl)) (hw _ (List.mem_of_getElem? (i := 86) rfl)) A9_12 (own_rm16_1 l Z a0 hw b9 v5 v12 b1_10 b2_10 (0 : Int64) (0 : Int64) (0 : Int64) (0 : Int64) v62 v70 h12 n0 Z12 FF12q0 FF12q1 FF12q4 FF12q5 FF10q13_12 FF10q14_12) own_pd10 rfl (S := []) rfl (pc' := 283) rfl rfl (W := 0) (Nat.le_of_eq rfl) (by decide) (by decide) (by decide) (by decide) ?_
                    intro T46 h46 v46_ X46 q46_
                    obtain ⟨rfl, rfl⟩ := q46_
                    obtain ⟨r46, hr46⟩ : ∃ z, z = (if (v5 - (0 : Int64)) < v62 then (0 : Int32) else (if (v12 - (0 : Int64)) < v70 then (0 : Int32) else (1 : Int32))) := ⟨_, rfl⟩
                    show OwnGo p e below (T46.setTop (mkF m 283 #[.val (.long p0), .second, .val (.long p1), .second, .val (.long p2), .second, .val (.long p3), .second, .val (.long p4), .second, .val (.long p5), .second, .val (.long v5), .second, .val (.long v12), .second, .val (.int (0 : Int32)), .val (.int (1 : Int32)), .val (.long v46), .second, .val (.long v54), .second, .val (.long v62), .second, .val (.long v70), .second, .val (.ref b3), .val (.ref b9), .val (.int (0 : Int32)), .val (.long (0 : Int64)), .second, .val (.long (0 : Int64)), .second, .val (.int f227_s0), .val (.int f253_s0), .val (.int f270_s0)] [(.int (if (v5 - (0 : Int64)) < v62 then (0 : Int32) else (if (v12 - (0 : Int64)) < v70 then (0 : Int32) else (1 : Int32))))])) RR
                    rw [← hr46]
                    refine own_iload X46 at_283 (pc' := 285) rfl rfl ?_
                    refine own_icN X46 at_285 (teq ((own_fin (own_msk hv5) (own_msk hv12) (own_msk hv62) (own_msk hv70) rfl rfl (by decide) (by decide) (own_n0 (own_msk hv5)) (own_n0 (own_msk hv12)) hr46 hf227_s0 hf253_s0 hf270_s0 : r46 = f270_s0))).2 (pc' := 288) rfl ?_
                    refine own_iconst X46 at_288 (pc' := 289) rfl (v := (1 : Int32)) (by decide) ?_
                    refine own_goto X46 at_289 (pc' := 293) (by decide) (by decide) ?_
                    exact own_retZ X46 at_293 (by decide) rfl (by decide) (by decide)
                  by_cases hc257 : f227_s0 = (0 : Int32)
                  · refine own_ifY X12 at_257 (teq (hc257)).1 (pc' := 269) (by decide) (by decide) ?_
                    refine own_iconst X12 at_269 (pc' := 270) rfl (v := (0 : Int32)) (by decide) ?_
                    exact j270_45 _ (by rw [if_pos hc257])
                  · refine own_ifN X12 at_257 (feq (hc257)).1 (pc' := 260) rfl ?_
                    refine own_iload X12 at_260 (pc' := 262) rfl rfl ?_
                    by_cases hc262 : f253_s0 = (0 : Int32)
                    · refine own_ifY X12 at_262 (teq (hc262)).1 (pc' := 269) (by decide) (by decide) ?_
                      refine own_iconst X12 at_269 (pc' := 270) rfl (v := (0 : Int32)) (by decide) ?_
                      exact j270_45 _ (by rw [if_neg hc257, if_pos hc262])
                    · refine own_ifN X12 at_262 (feq (hc262)).1 (pc' := 265) rfl ?_
                      refine own_iconst X12 at_265 (pc' := 266) rfl (v := (1 : Int32)) (by decide) ?_
                      refine own_goto X12 at_266 (pc' := 270) (by decide) (by decide) ?_
                      exact j270_45 _ (by rw [if_neg hc257, if_neg hc262])
                by_cases hc234 : v12 < v70
                · refine own_ljY X12 at_233 at_234 (own_tltL (hc234)).2.2.1 (pc' := 252) (by decide) (by decide) ?_
                  refine own_iconst X12 at_252 (pc' := 253) rfl (v := (0 : Int32)) (by decide) ?_
                  exact j253_44 _ (by rw [if_pos hc234])
                · refine own_ljN X12 at_233 at_234 (own_fltL (hc234)).2.2.1 (pc' := 237) rfl ?_
                  refine own_lload X12 at_237 (pc' := 239) rfl rfl ?_
                  refine own_lload X12 at_239 (pc' := 241) rfl rfl ?_
                  refine own_lload X12 at_241 (pc' := 243) rfl rfl ?_
                  refine own_lsub X12 at_243 (pc' := 244) rfl ?_
                  by_cases hc245 : (v12 - v70) < (0 : Int64)
                  · refine own_ljY X12 at_244 at_245 (own_tltL (hc245)).2.2.1 (pc' := 252) (by decide) (by decide) ?_
                    refine own_iconst X12 at_252 (pc' := 253) rfl (v := (0 : Int32)) (by decide) ?_
                    exact j253_44 _ (by rw [if_neg hc234, if_pos hc245])
                  · refine own_ljN X12 at_244 at_245 (own_fltL (hc245)).2.2.1 (pc' := 248) rfl ?_
                    refine own_iconst X12 at_248 (pc' := 249) rfl (v := (1 : Int32)) (by decide) ?_
                    refine own_goto X12 at_249 (pc' := 253) (by decide) (by decide) ?_
                    exact j253_44 _ (by rw [if_neg hc234, if_neg hc245])
              by_cases hc208 : v5 < v62
              · refine own_ljY X12 at_207 at_208 (own_tltL (hc208)).2.2.1 (pc' := 226) (by decide) (by decide) ?_
                refine own_iconst X12 at_226 (pc' := 227) rfl (v := (0 : Int32)) (by decide) ?_
                exact j227_43 _ (by rw [if_pos hc208])
              · refine own_ljN X12 at_207 at_208 (own_fltL (hc208)).2.2.1 (pc' := 211) rfl ?_
                refine own_lload X12 at_211 (pc' := 213) rfl rfl ?_
                refine own_lload X12 at_213 (pc' := 215) rfl rfl ?_
                refine own_lload X12 at_215 (pc' := 217) rfl rfl ?_
                refine own_lsub X12 at_217 (pc' := 218) rfl ?_
                by_cases hc219 : (v5 - v62) < (0 : Int64)
                · refine own_ljY X12 at_218 at_219 (own_tltL (hc219)).2.2.1 (pc' := 226) (by decide) (by decide) ?_
                  refine own_iconst X12 at_226 (pc' := 227) rfl (v := (0 : Int32)) (by decide) ?_
                  exact j227_43 _ (by rw [if_neg hc208, if_pos hc219])
                · refine own_ljN X12 at_218 at_219 (own_fltL (hc219)).2.2.1 (pc' := 222) rfl ?_
                  refine own_iconst X12 at_222 (pc' := 223) rfl (v := (1 : Int32)) (by decide) ?_
                  refine own_goto X12 at_223 (pc' := 227) (by decide) (by decide) ?_
                  exact j227_43 _ (by rw [if_neg hc208, if_neg hc219])
            · refine own_ljN X12 at_139 at_140 (own_fltL (hc140)).2.2.1 (pc' := 143) rfl ?_
              refine own_iconst X12 at_143 (pc' := 144) rfl (v := (1 : Int32)) (by decide) ?_
              refine own_goto X12 at_144 (pc' := 148) (by decide) (by decide) ?_
              refine own_istore X12 at_148 (pc' := 150) rfl (l' := #[.val (.long p0), .second, .val (.long p1), .second, .val (.long p2), .second, .val (.long p3), .second, .val (.long p4), .second, .val (.long p5), .second, .val (.long v5), .second, .val (.long v12), .second, .val (.int (0 : Int32)), .val (.int (1 : Int32)), .val (.long v46), .second, .val (.long v54), .second, .val (.long v62), .second, .val (.long v70), .second, .val (.ref b3), .val (.ref b9), .val (.int (1 : Int32)), .unset, .unset, .unset, .unset, .unset, .unset, .unset]) rfl ?_
              refine own_iload X12 at_150 (pc' := 152) rfl rfl ?_
              refine own_ifN X12 at_152 (feq ((by decide : ¬ ((1 : Int32) = (0 : Int32))))).1 (pc' := 155) rfl ?_
              refine own_aload X12 at_155 (pc' := 157) rfl rfl rfl ?_
              refine own_iload X12 at_157 (pc' := 159) rfl rfl ?_
              refine own_iconst X12 at_159 (pc' := 160) rfl (v := (0 : Int32)) (by decide) ?_
              refine own_callV (a := b9) (argsL := [(.int (0 : Int32)), (.int (0 : Int32))]) X12 at_160 (y := (⟨"com/example/packhouse/packhouse/Hosts", "put", "(II)V"⟩ : MethodName)) (by decide) (hw _ (List.mem_of_getElem? (i := 130) rfl)) (hw _ (List.mem_of_getElem? (i := 131) rfl)) (hw _ (List.mem_of_getElem? (i := 133) rfl)) (hw _ (List.mem_of_getElem? (i := 132) rfl)) (hw _ (List.mem_of_getElem? (i := 134) rfl)) (hw _ (List.mem_of_getElem? (i := 86) rfl)) A9_12 (own_rm17_0 l Z a0 hw b9 v5 v12 b3 b1_10 b2_10 b3_10 b_8 b5 v46 v54 h12 n0 Z12 A9_12 FF12q0 FF12q1 FF12q2 FF12q3 FF12q4 FF12q5 FF12q6 A3_12 FF8q1_12 FF8q0_12 FF8q4_12 A5_12 FF7q1_12 FF7q2_12 FF10q13_12 FF10q14_12 FF10q15_12 g_b1_10 g_b2_10 g_b3_10 ne_b9_b1_10 ne_b9_b2_10 ne_b5_b1_10 FF10q10 FF10q11 FF10q12 (own_s0 hc132) (own_s0 hc140)) own_pd14 rfl (S := []) rfl (pc' := 163) rfl rfl (W := 0) (Nat.le_of_eq rfl) (by decide) (by decide) (by decide) (by decide) ?_
              intro T47 h47 v47_ X47 q47_
              obtain ⟨rfl, KK47, FF47q0, FF47q1, FF47q2⟩ := q47_
              show OwnGo p e below (T47.setTop (mkF m 163 #[.val (.long p0), .second, .val (.long p1), .second, .val (.long p2), .second, .val (.long p3), .second, .val (.long p4), .second, .val (.long p5), .second, .val (.long v5), .second, .val (.long v12), .second, .val (.int (0 : Int32)), .val (.int (1 : Int32)), .val (.long v46), .second, .val (.long v54), .second, .val (.long v62), .second, .val (.long v70), .second, .val (.ref b3), .val (.ref b9), .val (.int (1 : Int32)), .unset, .unset, .unset, .unset, .unset, .unset, .unset] [])) RR
              have Z47 : n0 ≤ h47.size := Nat.le_trans Z12 KK47.1
              have S_DEFAULTCAPACITY_EMPTY_ELEMENTDATA_47 := own_sta_keep S_DEFAULTCAPACITY_EMPTY_ELEMENTDATA_12 KK47 (own_plS (own_plV FF10q13_12) (own_plS (own_plV FF10q14_12) (own_plS (own_plV FF10q15_12) own_pl0)))
              have V_d0_47 := (V_d0_12).keep KK47 (ninS ne_d0_b1_10 (ninS ne_d0_b2_10 (ninS ne_d0_b3_10 nin0)))
              have A3_47 := (A3_12).keep KK47
              have A5_47 := (A5_12).keep KK47
              have FF7q0_47 := (FF7q0_12).keep KK47 (ninS ne_b5_b1_10 (ninS ne_b5_b2_10 (ninS ne_b5_b3_10 nin0)))
              have FF7q1_47 := (FF7q1_12).keep KK47 (ninS ne_b5_b1_10 (ninS ne_b5_b2_10 (ninS ne_b5_b3_10 nin0)))
              have FF7q2_47 := (FF7q2_12).keep KK47 (ninS ne_b5_b1_10 (ninS ne_b5_b2_10 (ninS ne_b5_b3_10 nin0)))
              have FF8q0_47 := (FF8q0_12).keep KK47 (ninS ne_b3_b1_10 (ninS ne_b3_b2_10 (ninS ne_b3_b3_10 nin0)))
              have FF8q1_47 := (FF8q1_12).keep KK47 (ninS ne_b3_b1_10 (ninS ne_b3_b2_10 (ninS ne_b3_b3_10 nin0)))
              have FF8q2_47 := (FF8q2_12).keep KK47 (ninS ne_b3_b1_10 (ninS ne_b3_b2_10 (ninS ne_b3_b3_10 nin0)))
              have FF8q4_47 := (FF8q4_12).keep KK47 (ninS ne_b_8_b1_10 (ninS ne_b_8_b2_10 (ninS ne_b_8_b3_10 nin0)))
              have A9_47 := (A9_12).keep KK47
              have FF12q0_47 := (FF12q0).keep KK47 (ninS ne_b9_b1_10 (ninS ne_b9_b2_10 (ninS ne_b9_b3_10 nin0)))
              have FF12q1_47 := (FF12q1).keep KK47 (ninS ne_b9_b1_10 (ninS ne_b9_b2_10 (ninS ne_b9_b3_10 nin0)))
              have FF12q2_47 := (FF12q2).keep KK47 (ninS ne_b9_b1_10 (ninS ne_b9_b2_10 (ninS ne_b9_b3_10 nin0)))
              have FF12q3_47 := (FF12q3).keep KK47 (ninS ne_b9_b1_10 (ninS ne_b9_b2_10 (ninS ne_b9_b3_10 nin0)))
              have FF12q4_47 := (FF12q4).keep KK47 (ninS ne_b9_b1_10 (ninS ne_b9_b2_10 (ninS ne_b9_b3_10 nin0)))
              have FF12q5_47 := (FF12q5).keep KK47 (ninS ne_b9_b1_10 (ninS ne_b9_b2_10 (ninS ne_b9_b3_10 nin0)))
              have FF12q6_47 := (FF12q6).keep KK47 (ninS ne_b9_b1_10 (ninS ne_b9_b2_10 (ninS ne_b9_b3_10 nin0)))
              refine own_iload X47 at_163 (pc' := 165) rfl rfl ?_
              refine own_ifN X47 at_165 (feq ((by decide : ¬ ((1 : Int32) = (0 : Int32))))).1 (pc' := 168) rfl ?_
              refine own_iload X47 at_168 (pc' := 170) rfl rfl ?_
              refine own_iload X47 at_170 (pc' := 172) rfl rfl ?_
              refine own_icY X47 at_172 (feq ((by decide : ¬ ((0 : Int32) = (1 : Int32))))).2 (pc' := 180) (by decide) (by decide) ?_
              refine own_lconst X47 at_180 (pc' := 181) rfl (v := (0 : Int64)) (by decide) ?_
              refine own_lstore X47 at_181 (pc' := 183) rfl (l' := #[.val (.long p0), .second, .val (.long p1), .second, .val (.long p2), .second, .val (.long p3), .second, .val (.long p4), .second, .val (.long p5), .second, .val (.long v5), .second, .val (.long v12), .second, .val (.int (0 : Int32)), .val (.int (1 : Int32)), .val (.long v46), .second, .val (.long v54), .second, .val (.long v62), .second, .val (.long v70), .second, .val (.ref b3), .val (.ref b9), .val (.int (1 : Int32)), .val (.long (0 : Int64)), .second, .unset, .unset, .unset, .unset, .unset]) rfl ?_
              refine own_iload X47 at_183 (pc' := 185) rfl rfl ?_
              refine own_ifN X47 at_185 (feq ((by decide : ¬ ((1 : Int32) = (0 : Int32))))).1 (pc' := 188) rfl ?_
              refine own_iload X47 at_188 (pc' := 190) rfl rfl ?_
              refine own_iload X47 at_190 (pc' := 192) rfl rfl ?_
              refine own_icY X47 at_192 (feq ((by decide : ¬ ((0 : Int32) = (1 : Int32))))).2 (pc' := 200) (by decide) (by decide) ?_
              refine own_lconst X47 at_200 (pc' := 201) rfl (v := (0 : Int64)) (by decide) ?_
              refine own_lstore X47 at_201 (pc' := 203) rfl (l' := #[.val (.long p0), .second, .val (.long p1), .second, .val (.long p2), .second, .val (.long p3), .second, .val (.long p4), .second, .val (.long p5), .second, .val (.long v5), .second, .val (.long v12), .second, .val (.int (0 : Int32)), .val (.int (1 : Int32)), .val (.long v46), .second, .val (.long v54), .second, .val (.long v62), .second, .val (.long v70), .second, .val (.ref b3), .val (.ref b9), .val (.int (1 : Int32)), .val (.long (0 : Int64)), .second, .val (.long (0 : Int64)), .second, .unset, .unset, .unset]) rfl ?_
              refine own_lload X47 at_203 (pc' := 205) rfl rfl ?_
              refine own_lload X47 at_205 (pc' := 207) rfl rfl ?_
              have j227_48 : ∀ (f227_s0 : Int32), f227_s0 = (if v5 < v62 then (0 : Int32) else (if (v5 - v62) < (0 : Int64) then (0 : Int32) else (1 : Int32))) → OwnGo p e below (T47.setTop (mkF m 227 #[.val (.long p0), .second, .val (.long p1), .second, .val (.long p2), .second, .val (.long p3), .second, .val (.long p4), .second, .val (.long p5), .second, .val (.long v5), .second, .val (.long v12), .second, .val (.int (0 : Int32)), .val (.int (1 : Int32)), .val (.long v46), .second, .val (.long v54), .second, .val (.long v62), .second, .val (.long v70), .second, .val (.ref b3), .val (.ref b9), .val (.int (1 : Int32)), .val (.long (0 : Int64)), .second, .val (.long (0 : Int64)), .second, .unset, .unset, .unset] [(.int f227_s0)])) RR := by
                intro f227_s0 hf227_s0
                refine own_istore X47 at_227 (pc' := 229) rfl (l' := #[.val (.long p0), .second, .val (.long p1), .second, .val (.long p2), .second, .val (.long p3), .second, .val (.long p4), .second, .val (.long p5), .second, .val (.long v5), .second, .val (.long v12), .second, .val (.int (0 : Int32)), .val (.int (1 : Int32)), .val (.long v46), .second, .val (.long v54), .second, .val (.long v62), .second, .val (.long v70), .second, .val (.ref b3), .val (.ref b9), .val (.int (1 : Int32)), .val (.long (0 : Int64)), .second, .val (.long (0 : Int64)), .second, .val (.int f227_s0), .unset, .unset]) rfl ?_
                refine own_lload X47 at_229 (pc' := 231) rfl rfl ?_
                refine own_lload X47 at_231 (pc' := 233) rfl rfl ?_
                have j253_49 : ∀ (f253_s0 : Int32), f253_s0 = (if v12 < v70 then (0 : Int32) else (if (v12 - v70) < (0 : Int64) then (0 : Int32) else (1 : Int32))) → OwnGo p e below (T47.setTop (mkF m 253 #[.val (.long p0), .second, .val (.long p1), .second, .val (.long p2), .second, .val (.long p3), .second, .val (.long p4), .second, .val (.long p5), .second, .val (.long v5), .second, .val (.long v12), .second, .val (.int (0 : Int32)), .val (.int (1 : Int32)), .val (.long v46), .second, .val (.long v54), .second, .val (.long v62), .second, .val (.long v70), .second, .val (.ref b3), .val (.ref b9), .val (.int (1 : Int32)), .val (.long (0 : Int64)), .second, .val (.long (0 : Int64)), .second, .val (.int f227_s0), .unset, .unset] [(.int f253_s0)])) RR := by
                  intro f253_s0 hf253_s0
                  refine own_istore X47 at_253 (pc' := 255) rfl (l' := #[.val (.long p0), .second, .val (.long p1), .second, .val (.long p2), .second, .val (.long p3), .second, .val (.long p4), .second, .val (.long p5), .second, .val (.long v5), .second, .val (.long v12), .second, .val (.int (0 : Int32)), .val (.int (1 : Int32)), .val (.long v46), .second, .val (.long v54), .second, .val (.long v62), .second, .val (.long v70), .second, .val (.ref b3), .val (.ref b9), .val (.int (1 : Int32)), .val (.long (0 : Int64)), .second, .val (.long (0 : Int64)), .second, .val (.int f227_s0), .val (.int f253_s0), .unset]) rfl ?_
                  refine own_iload X47 at_255 (pc' := 257) rfl rfl ?_
                  have j270_50 : ∀ (f270_s0 : Int32), f270_s0 = (if f227_s0 = (0 : Int32) then (0 : Int32) else (if f253_s0 = (0 : Int32) then (0 : Int32) else (1 : Int32))) → OwnGo p e below (T47.setTop (mkF m 270 #[.val (.long p0), .second, .val (.long p1), .second, .val (.long p2), .second, .val (.long p3), .second, .val (.long p4), .second, .val (.long p5), .second, .val (.long v5), .second, .val (.long v12), .second, .val (.int (0 : Int32)), .val (.int (1 : Int32)), .val (.long v46), .second, .val (.long v54), .second, .val (.long v62), .second, .val (.long v70), .second, .val (.ref b3), .val (.ref b9), .val (.int (1 : Int32)), .val (.long (0 : Int64)), .second, .val (.long (0 : Int64)), .second, .val (.int f227_s0), .val (.int f253_s0), .unset] [(.int f270_s0)])) RR := by
                    intro f270_s0 hf270_s0
                    refine own_istore X47 at_270 (pc' := 272) rfl (l' := #[.val (.long p0), .second, .val (.long p1), .second, .val (.long p2), .second, .val (.long p3), .second, .val (.long p4), .second, .val (.long p5), .second, .val (.long v5), .second, .val (.long v12), .second, .val (.int (0 : Int32)), .val (.int (1 : Int32)), .val (.long v46), .second, .val (.long v54), .second, .val (.long v62), .second, .val (.long v70), .second, .val (.ref b3), .val (.ref b9), .val (.int (1 : Int32)), .val (.long (0 : Int64)), .second, .val (.long (0 : Int64)), .second, .val (.int f227_s0), .val (.int f253_s0), .val (.int f270_s0)]) rfl ?_
                    refine own_aload X47 at_272 (pc' := 274) rfl rfl rfl ?_
                    refine own_iload X47 at_274 (pc' := 276) rfl rfl ?_
                    refine own_lload X47 at_276 (pc' := 278) rfl rfl ?_
                    refine own_lload X47 at_278 (pc' := 280) rfl rfl ?_
                    refine own_callV (a := b9) (argsL := [(.int (1 : Int32)), (.long v62), (.long v70)]) X47 at_280 (y := (⟨"com/example/packhouse/packhouse/Hosts", "fits", "(IJJ)Z"⟩ : MethodName)) (by decide) (hw _ (List.mem_of_getElem? (i := 125) rfl)) (hw _ (List.mem_of_getElem? (i := 126) rfl)) (hw _ (List.mem_of_getElem? (i := 128) rfl)) (hw _ (List.mem_of_getElem? (i := 127) rfl)) (hw _ (List.mem_of_getElem? (i := 129) rfl)) (hw _ (List.mem_of_getElem? (i := 86) rfl)) A9_47 (own_rm16_1 l Z a0 hw b9 v5 v12 b1_10 b2_10 (((0 : Int64) + v46)) (0 : Int64) (((0 : Int64) + v54)) (0 : Int64) v62 v70 h47 n0 Z47 FF12q0_47 FF12q1_47 FF12q4_47 FF12q5_47 FF47q0 FF47q1) own_pd10 rfl (S := []) rfl (pc' := 283) rfl rfl (W := 0) (Nat.le_of_eq rfl) (by decide) (by decide) (by decide) (by decide) ?_
                    intro T51 h51 v51_ X51 q51_
                    obtain ⟨rfl, rfl⟩ := q51_
                    obtain ⟨r51, hr51⟩ : ∃ z, z = (if (v5 - (0 : Int64)) < v62 then (0 : Int32) else (if (v12 - (0 : Int64)) < v70 then (0 : Int32) else (1 : Int32))) := ⟨_, rfl⟩
                    show OwnGo p e below (T51.setTop (mkF m 283 #[.val (.long p0), .second, .val (.long p1), .second, .val (.long p2), .second, .val (.long p3), .second, .val (.long p4), .second, .val (.long p5), .second, .val (.long v5), .second, .val (.long v12), .second, .val (.int (0 : Int32)), .val (.int (1 : Int32)), .val (.long v46), .second, .val (.long v54), .second, .val (.long v62), .second, .val (.long v70), .second, .val (.ref b3), .val (.ref b9), .val (.int (1 : Int32)), .val (.long (0 : Int64)), .second, .val (.long (0 : Int64)), .second, .val (.int f227_s0), .val (.int f253_s0), .val (.int f270_s0)] [(.int (if (v5 - (0 : Int64)) < v62 then (0 : Int32) else (if (v12 - (0 : Int64)) < v70 then (0 : Int32) else (1 : Int32))))])) RR
                    rw [← hr51]
                    refine own_iload X51 at_283 (pc' := 285) rfl rfl ?_
                    refine own_icN X51 at_285 (teq ((own_fin (own_msk hv5) (own_msk hv12) (own_msk hv62) (own_msk hv70) rfl rfl (by decide) (by decide) (own_n0 (own_msk hv5)) (own_n0 (own_msk hv12)) hr51 hf227_s0 hf253_s0 hf270_s0 : r51 = f270_s0))).2 (pc' := 288) rfl ?_
                    refine own_iconst X51 at_288 (pc' := 289) rfl (v := (1 : Int32)) (by decide) ?_
                    refine own_goto X51 at_289 (pc' := 293) (by decide) (by decide) ?_
                    exact own_retZ X51 at_293 (by decide) rfl (by decide) (by decide)
                  by_cases hc257 : f227_s0 = (0 : Int32)
                  · refine own_ifY X47 at_257 (teq (hc257)).1 (pc' := 269) (by decide) (by decide) ?_
                    refine own_iconst X47 at_269 (pc' := 270) rfl (v := (0 : Int32)) (by decide) ?_
                    exact j270_50 _ (by rw [if_pos hc257])
                  · refine own_ifN X47 at_257 (feq (hc257)).1 (pc' := 260) rfl ?_
                    refine own_iload X47 at_260 (pc' := 262) rfl rfl ?_
                    by_cases hc262 : f253_s0 = (0 : Int32)
                    · refine own_ifY X47 at_262 (teq (hc262)).1 (pc' := 269) (by decide) (by decide) ?_
                      refine own_iconst X47 at_269 (pc' := 270) rfl (v := (0 : Int32)) (by decide) ?_
                      exact j270_50 _ (by rw [if_neg hc257, if_pos hc262])
                    · refine own_ifN X47 at_262 (feq (hc262)).1 (pc' := 265) rfl ?_
                      refine own_iconst X47 at_265 (pc' := 266) rfl (v := (1 : Int32)) (by decide) ?_
                      refine own_goto X47 at_266 (pc' := 270) (by decide) (by decide) ?_
                      exact j270_50 _ (by rw [if_neg hc257, if_neg hc262])
                by_cases hc234 : v12 < v70
                · refine own_ljY X47 at_233 at_234 (own_tltL (hc234)).2.2.1 (pc' := 252) (by decide) (by decide) ?_
                  refine own_iconst X47 at_252 (pc' := 253) rfl (v := (0 : Int32)) (by decide) ?_
                  exact j253_49 _ (by rw [if_pos hc234])
                · refine own_ljN X47 at_233 at_234 (own_fltL (hc234)).2.2.1 (pc' := 237) rfl ?_
                  refine own_lload X47 at_237 (pc' := 239) rfl rfl ?_
                  refine own_lload X47 at_239 (pc' := 241) rfl rfl ?_
                  refine own_lload X47 at_241 (pc' := 243) rfl rfl ?_
                  refine own_lsub X47 at_243 (pc' := 244) rfl ?_
                  by_cases hc245 : (v12 - v70) < (0 : Int64)
                  · refine own_ljY X47 at_244 at_245 (own_tltL (hc245)).2.2.1 (pc' := 252) (by decide) (by decide) ?_
                    refine own_iconst X47 at_252 (pc' := 253) rfl (v := (0 : Int32)) (by decide) ?_
                    exact j253_49 _ (by rw [if_neg hc234, if_pos hc245])
                  · refine own_ljN X47 at_244 at_245 (own_fltL (hc245)).2.2.1 (pc' := 248) rfl ?_
                    refine own_iconst X47 at_248 (pc' := 249) rfl (v := (1 : Int32)) (by decide) ?_
                    refine own_goto X47 at_249 (pc' := 253) (by decide) (by decide) ?_
                    exact j253_49 _ (by rw [if_neg hc234, if_neg hc245])
              by_cases hc208 : v5 < v62
              · refine own_ljY X47 at_207 at_208 (own_tltL (hc208)).2.2.1 (pc' := 226) (by decide) (by decide) ?_
                refine own_iconst X47 at_226 (pc' := 227) rfl (v := (0 : Int32)) (by decide) ?_
                exact j227_48 _ (by rw [if_pos hc208])
              · refine own_ljN X47 at_207 at_208 (own_fltL (hc208)).2.2.1 (pc' := 211) rfl ?_
                refine own_lload X47 at_211 (pc' := 213) rfl rfl ?_
                refine own_lload X47 at_213 (pc' := 215) rfl rfl ?_
                refine own_lload X47 at_215 (pc' := 217) rfl rfl ?_
                refine own_lsub X47 at_217 (pc' := 218) rfl ?_
                by_cases hc219 : (v5 - v62) < (0 : Int64)
                · refine own_ljY X47 at_218 at_219 (own_tltL (hc219)).2.2.1 (pc' := 226) (by decide) (by decide) ?_
                  refine own_iconst X47 at_226 (pc' := 227) rfl (v := (0 : Int32)) (by decide) ?_
                  exact j227_48 _ (by rw [if_neg hc208, if_pos hc219])
                · refine own_ljN X47 at_218 at_219 (own_fltL (hc219)).2.2.1 (pc' := 222) rfl ?_
                  refine own_iconst X47 at_222 (pc' := 223) rfl (v := (1 : Int32)) (by decide) ?_
                  refine own_goto X47 at_223 (pc' := 227) (by decide) (by decide) ?_
                  exact j227_48 _ (by rw [if_neg hc208, if_neg hc219])
        · refine own_lload X12 at_127 (pc' := 129) rfl rfl ?_
          refine own_lload X12 at_129 (pc' := 131) rfl rfl ?_
          by_cases hc132 : v5 < v46
          · refine own_ljY X12 at_131 at_132 (own_tltL (hc132)).2.2.1 (pc' := 147) (by decide) (by decide) ?_
            refine own_iconst X12 at_147 (pc' := 148) rfl (v := (0 : Int32)) (by decide) ?_
            refine own_istore X12 at_148 (pc' := 150) rfl (l' := #[.val (.long p0), .second, .val (.long p1), .second, .val (.long p2), .second, .val (.long p3), .second, .val (.long p4), .second, .val (.long p5), .second, .val (.long v5), .second, .val (.long v12), .second, .val (.int (0 : Int32)), .val (.int (0 : Int32)), .val (.long v46), .second, .val (.long v54), .second, .val (.long v62), .second, .val (.long v70), .second, .val (.ref b3), .val (.ref b9), .val (.int (0 : Int32)), .unset, .unset, .unset, .unset, .unset, .unset, .unset]) rfl ?_
            refine own_iload X12 at_150 (pc' := 152) rfl rfl ?_
            refine own_ifY X12 at_152 (teq ((rfl : (0 : Int32) = (0 : Int32)))).1 (pc' := 163) (by decide) (by decide) ?_
            refine own_iload X12 at_163 (pc' := 165) rfl rfl ?_
            refine own_ifY X12 at_165 (teq ((rfl : (0 : Int32) = (0 : Int32)))).1 (pc' := 180) (by decide) (by decide) ?_
            refine own_lconst X12 at_180 (pc' := 181) rfl (v := (0 : Int64)) (by decide) ?_
            refine own_lstore X12 at_181 (pc' := 183) rfl (l' := #[.val (.long p0), .second, .val (.long p1), .second, .val (.long p2), .second, .val (.long p3), .second, .val (.long p4), .second, .val (.long p5), .second, .val (.long v5), .second, .val (.long v12), .second, .val (.int (0 : Int32)), .val (.int (0 : Int32)), .val (.long v46), .second, .val (.long v54), .second, .val (.long v62), .second, .val (.long v70), .second, .val (.ref b3), .val (.ref b9), .val (.int (0 : Int32)), .val (.long (0 : Int64)), .second, .unset, .unset, .unset, .unset, .unset]) rfl ?_
            refine own_iload X12 at_183 (pc' := 185) rfl rfl ?_
            refine own_ifY X12 at_185 (teq ((rfl : (0 : Int32) = (0 : Int32)))).1 (pc' := 200) (by decide) (by decide) ?_
            refine own_lconst X12 at_200 (pc' := 201) rfl (v := (0 : Int64)) (by decide) ?_
            refine own_lstore X12 at_201 (pc' := 203) rfl (l' := #[.val (.long p0), .second, .val (.long p1), .second, .val (.long p2), .second, .val (.long p3), .second, .val (.long p4), .second, .val (.long p5), .second, .val (.long v5), .second, .val (.long v12), .second, .val (.int (0 : Int32)), .val (.int (0 : Int32)), .val (.long v46), .second, .val (.long v54), .second, .val (.long v62), .second, .val (.long v70), .second, .val (.ref b3), .val (.ref b9), .val (.int (0 : Int32)), .val (.long (0 : Int64)), .second, .val (.long (0 : Int64)), .second, .unset, .unset, .unset]) rfl ?_
            refine own_lload X12 at_203 (pc' := 205) rfl rfl ?_
            refine own_lload X12 at_205 (pc' := 207) rfl rfl ?_
            have j227_52 : ∀ (f227_s0 : Int32), f227_s0 = (if v5 < v62 then (0 : Int32) else (if (v5 - v62) < (0 : Int64) then (0 : Int32) else (1 : Int32))) → OwnGo p e below (T12.setTop (mkF m 227 #[.val (.long p0), .second, .val (.long p1), .second, .val (.long p2), .second, .val (.long p3), .second, .val (.long p4), .second, .val (.long p5), .second, .val (.long v5), .second, .val (.long v12), .second, .val (.int (0 : Int32)), .val (.int (0 : Int32)), .val (.long v46), .second, .val (.long v54), .second, .val (.long v62), .second, .val (.long v70), .second, .val (.ref b3), .val (.ref b9), .val (.int (0 : Int32)), .val (.long (0 : Int64)), .second, .val (.long (0 : Int64)), .second, .unset, .unset, .unset] [(.int f227_s0)])) RR := by
              intro f227_s0 hf227_s0
              refine own_istore X12 at_227 (pc' := 229) rfl (l' := #[.val (.long p0), .second, .val (.long p1), .second, .val (.long p2), .second, .val (.long p3), .second, .val (.long p4), .second, .val (.long p5), .second, .val (.long v5), .second, .val (.long v12), .second, .val (.int (0 : Int32)), .val (.int (0 : Int32)), .val (.long v46), .second, .val (.long v54), .second, .val (.long v62), .second, .val (.long v70), .second, .val (.ref b3), .val (.ref b9), .val (.int (0 : Int32)), .val (.long (0 : Int64)), .second, .val (.long (0 : Int64)), .second, .val (.int f227_s0), .unset, .unset]) rfl ?_
              refine own_lload X12 at_229 (pc' := 231) rfl rfl ?_
              refine own_lload X12 at_231 (pc' := 233) rfl rfl ?_
              have j253_53 : ∀ (f253_s0 : Int32), f253_s0 = (if v12 < v70 then (0 : Int32) else (if (v12 - v70) < (0 : Int64) then (0 : Int32) else (1 : Int32))) → OwnGo p e below (T12.setTop (mkF m 253 #[.val (.long p0), .second, .val (.long p1), .second, .val (.long p2), .second, .val (.long p3), .second, .val (.long p4), .second, .val (.long p5), .second, .val (.long v5), .second, .val (.long v12), .second, .val (.int (0 : Int32)), .val (.int (0 : Int32)), .val (.long v46), .second, .val (.long v54), .second, .val (.long v62), .second, .val (.long v70), .second, .val (.ref b3), .val (.ref b9), .val (.int (0 : Int32)), .val (.long (0 : Int64)), .second, .val (.long (0 : Int64)), .second, .val (.int f227_s0), .unset, .unset] [(.int f253_s0)])) RR := by
                intro f253_s0 hf253_s0
                refine own_istore X12 at_253 (pc' := 255) rfl (l' := #[.val (.long p0), .second, .val (.long p1), .second, .val (.long p2), .second, .val (.long p3), .second, .val (.long p4), .second, .val (.long p5), .second, .val (.long v5), .second, .val (.long v12), .second, .val (.int (0 : Int32)), .val (.int (0 : Int32)), .val (.long v46), .second, .val (.long v54), .second, .val (.long v62), .second, .val (.long v70), .second, .val (.ref b3), .val (.ref b9), .val (.int (0 : Int32)), .val (.long (0 : Int64)), .second, .val (.long (0 : Int64)), .second, .val (.int f227_s0), .val (.int f253_s0), .unset]) rfl ?_
                refine own_iload X12 at_255 (pc' := 257) rfl rfl ?_
                have j270_54 : ∀ (f270_s0 : Int32), f270_s0 = (if f227_s0 = (0 : Int32) then (0 : Int32) else (if f253_s0 = (0 : Int32) then (0 : Int32) else (1 : Int32))) → OwnGo p e below (T12.setTop (mkF m 270 #[.val (.long p0), .second, .val (.long p1), .second, .val (.long p2), .second, .val (.long p3), .second, .val (.long p4), .second, .val (.long p5), .second, .val (.long v5), .second, .val (.long v12), .second, .val (.int (0 : Int32)), .val (.int (0 : Int32)), .val (.long v46), .second, .val (.long v54), .second, .val (.long v62), .second, .val (.long v70), .second, .val (.ref b3), .val (.ref b9), .val (.int (0 : Int32)), .val (.long (0 : Int64)), .second, .val (.long (0 : Int64)), .second, .val (.int f227_s0), .val (.int f253_s0), .unset] [(.int f270_s0)])) RR := by
                  intro f270_s0 hf270_s0
                  refine own_istore X12 at_270 (pc' := 272) rfl (l' := #[.val (.long p0), .second, .val (.long p1), .second, .val (.long p2), .second, .val (.long p3), .second, .val (.long p4), .second, .val (.long p5), .second, .val (.long v5), .second, .val (.long v12), .second, .val (.int (0 : Int32)), .val (.int (0 : Int32)), .val (.long v46), .second, .val (.long v54), .second, .val (.long v62), .second, .val (.long v70), .second, .val (.ref b3), .val (.ref b9), .val (.int (0 : Int32)), .val (.long (0 : Int64)), .second, .val (.long (0 : Int64)), .second, .val (.int f227_s0), .val (.int f253_s0), .val (.int f270_s0)]) rfl ?_
                  refine own_aload X12 at_272 (pc' := 274) rfl rfl rfl ?_
                  refine own_iload X12 at_274 (pc' := 276) rfl rfl ?_
                  refine own_lload X12 at_276 (pc' := 278) rfl rfl ?_
                  refine own_lload X12 at_278 (pc' := 280) rfl rfl ?_
                  refine own_callV (a := b9) (argsL := [(.int (0 : Int32)), (.long v62), (.long v70)]) X12 at_280 (y := (⟨"com/example/packhouse/packhouse/Hosts", "fits", "(IJJ)Z"⟩ : MethodName)) (by decide) (hw _ (List.mem_of_getElem? (i := 125) rfl)) (hw _ (List.mem_of_getElem? (i := 126) rfl)) (hw _ (List.mem_of_getElem? (i := 128) rfl)) (hw _ (List.mem_of_getElem? (i := 127) rfl)) (hw _ (List.mem_of_getElem? (i := 129) rfl)) (hw _ (List.mem_of_getElem? (i := 86) rfl)) A9_12 (own_rm16_0 l Z a0 hw b9 v5 v12 b1_10 b2_10 (0 : Int64) (0 : Int64) (0 : Int64) (0 : Int64) v62 v70 h12 n0 Z12 FF12q0 FF12q1 FF12q4 FF12q5 FF10q13_12 FF10q14_12) own_pd10 rfl (S := []) rfl (pc' := 283) rfl rfl (W := 0) (Nat.le_of_eq rfl) (by decide) (by decide) (by decide) (by decide) ?_
                  intro T55 h55 v55_ X55 q55_
                  obtain ⟨rfl, rfl⟩ := q55_
                  obtain ⟨r55, hr55⟩ : ∃ z, z = (if (v5 - (0 : Int64)) < v62 then (0 : Int32) else (if (v12 - (0 : Int64)) < v70 then (0 : Int32) else (1 : Int32))) := ⟨_, rfl⟩
                  show OwnGo p e below (T55.setTop (mkF m 283 #[.val (.long p0), .second, .val (.long p1), .second, .val (.long p2), .second, .val (.long p3), .second, .val (.long p4), .second, .val (.long p5), .second, .val (.long v5), .second, .val (.long v12), .second, .val (.int (0 : Int32)), .val (.int (0 : Int32)), .val (.long v46), .second, .val (.long v54), .second, .val (.long v62), .second, .val (.long v70), .second, .val (.ref b3), .val (.ref b9), .val (.int (0 : Int32)), .val (.long (0 : Int64)), .second, .val (.long (0 : Int64)), .second, .val (.int f227_s0), .val (.int f253_s0), .val (.int f270_s0)] [(.int (if (v5 - (0 : Int64)) < v62 then (0 : Int32) else (if (v12 - (0 : Int64)) < v70 then (0 : Int32) else (1 : Int32))))])) RR
                  rw [← hr55]
                  refine own_iload X55 at_283 (pc' := 285) rfl rfl ?_
                  refine own_icN X55 at_285 (teq ((own_fin (own_msk hv5) (own_msk hv12) (own_msk hv62) (own_msk hv70) rfl rfl (by decide) (by decide) (own_n0 (own_msk hv5)) (own_n0 (own_msk hv12)) hr55 hf227_s0 hf253_s0 hf270_s0 : r55 = f270_s0))).2 (pc' := 288) rfl ?_
                  refine own_iconst X55 at_288 (pc' := 289) rfl (v := (1 : Int32)) (by decide) ?_
                  refine own_goto X55 at_289 (pc' := 293) (by decide) (by decide) ?_
                  exact own_retZ X55 at_293 (by decide) rfl (by decide) (by decide)
                by_cases hc257 : f227_s0 = (0 : Int32)
                · refine own_ifY X12 at_257 (teq (hc257)).1 (pc' := 269) (by decide) (by decide) ?_
                  refine own_iconst X12 at_269 (pc' := 270) rfl (v := (0 : Int32)) (by decide) ?_
                  exact j270_54 _ (by rw [if_pos hc257])
                · refine own_ifN X12 at_257 (feq (hc257)).1 (pc' := 260) rfl ?_
                  refine own_iload X12 at_260 (pc' := 262) rfl rfl ?_
                  by_cases hc262 : f253_s0 = (0 : Int32)
                  · refine own_ifY X12 at_262 (teq (hc262)).1 (pc' := 269) (by decide) (by decide) ?_
                    refine own_iconst X12 at_269 (pc' := 270) rfl (v := (0 : Int32)) (by decide) ?_
                    exact j270_54 _ (by rw [if_neg hc257, if_pos hc262])
                  · refine own_ifN X12 at_262 (feq (hc262)).1 (pc' := 265) rfl ?_
                    refine own_iconst X12 at_265 (pc' := 266) rfl (v := (1 : Int32)) (by decide) ?_
                    refine own_goto X12 at_266 (pc' := 270) (by decide) (by decide) ?_
                    exact j270_54 _ (by rw [if_neg hc257, if_neg hc262])
              by_cases hc234 : v12 < v70
              · refine own_ljY X12 at_233 at_234 (own_tltL (hc234)).2.2.1 (pc' := 252) (by decide) (by decide) ?_
                refine own_iconst X12 at_252 (pc' := 253) rfl (v := (0 : Int32)) (by decide) ?_
                exact j253_53 _ (by rw [if_pos hc234])
              · refine own_ljN X12 at_233 at_234 (own_fltL (hc234)).2.2.1 (pc' := 237) rfl ?_
                refine own_lload X12 at_237 (pc' := 239) rfl rfl ?_
                refine own_lload X12 at_239 (pc' := 241) rfl rfl ?_
                refine own_lload X12 at_241 (pc' := 243) rfl rfl ?_
                refine own_lsub X12 at_243 (pc' := 244) rfl ?_
                by_cases hc245 : (v12 - v70) < (0 : Int64)
                · refine own_ljY X12 at_244 at_245 (own_tltL (hc245)).2.2.1 (pc' := 252) (by decide) (by decide) ?_
                  refine own_iconst X12 at_252 (pc' := 253) rfl (v := (0 : Int32)) (by decide) ?_
                  exact j253_53 _ (by rw [if_neg hc234, if_pos hc245])
                · refine own_ljN X12 at_244 at_245 (own_fltL (hc245)).2.2.1 (pc' := 248) rfl ?_
                  refine own_iconst X12 at_248 (pc' := 249) rfl (v := (1 : Int32)) (by decide) ?_
                  refine own_goto X12 at_249 (pc' := 253) (by decide) (by decide) ?_
                  exact j253_53 _ (by rw [if_neg hc234, if_neg hc245])
            by_cases hc208 : v5 < v62
            · refine own_ljY X12 at_207 at_208 (own_tltL (hc208)).2.2.1 (pc' := 226) (by decide) (by decide) ?_
              refine own_iconst X12 at_226 (pc' := 227) rfl (v := (0 : Int32)) (by decide) ?_
              exact j227_52 _ (by rw [if_pos hc208])
            · refine own_ljN X12 at_207 at_208 (own_fltL (hc208)).2.2.1 (pc' := 211) rfl ?_
              refine own_lload X12 at_211 (pc' := 213) rfl rfl ?_
              refine own_lload X12 at_213 (pc' := 215) rfl rfl ?_
              refine own_lload X12 at_215 (pc' := 217) rfl rfl ?_
              refine own_lsub X12 at_217 (pc' := 218) rfl ?_
              by_cases hc219 : (v5 - v62) < (0 : Int64)
              · refine own_ljY X12 at_218 at_219 (own_tltL (hc219)).2.2.1 (pc' := 226) (by decide) (by decide) ?_
                refine own_iconst X12 at_226 (pc' := 227) rfl (v := (0 : Int32)) (by decide) ?_
                exact j227_52 _ (by rw [if_neg hc208, if_pos hc219])
              · refine own_ljN X12 at_218 at_219 (own_fltL (hc219)).2.2.1 (pc' := 222) rfl ?_
                refine own_iconst X12 at_222 (pc' := 223) rfl (v := (1 : Int32)) (by decide) ?_
                refine own_goto X12 at_223 (pc' := 227) (by decide) (by decide) ?_
                exact j227_52 _ (by rw [if_neg hc208, if_neg hc219])
          · refine own_ljN X12 at_131 at_132 (own_fltL (hc132)).2.2.1 (pc' := 135) rfl ?_
            refine own_lload X12 at_135 (pc' := 137) rfl rfl ?_
            refine own_lload X12 at_137 (pc' := 139) rfl rfl ?_
            by_cases hc140 : v12 < v54
            · refine own_ljY X12 at_139 at_140 (own_tltL (hc140)).2.2.1 (pc' := 147) (by decide) (by decide) ?_
              refine own_iconst X12 at_147 (pc' := 148) rfl (v := (0 : Int32)) (by decide) ?_
              refine own_istore X12 at_148 (pc' := 150) rfl (l' := #[.val (.long p0), .second, .val (.long p1), .second, .val (.long p2), .second, .val (.long p3), .second, .val (.long p4), .second, .val (.long p5), .second, .val (.long v5), .second, .val (.long v12), .second, .val (.int (0 : Int32)), .val (.int (0 : Int32)), .val (.long v46), .second, .val (.long v54), .second, .val (.long v62), .second, .val (.long v70), .second, .val (.ref b3), .val (.ref b9), .val (.int (0 : Int32)), .unset, .unset, .unset, .unset, .unset, .unset, .unset]) rfl ?_
              refine own_iload X12 at_150 (pc' := 152) rfl rfl ?_
              refine own_ifY X12 at_152 (teq ((rfl : (0 : Int32) = (0 : Int32)))).1 (pc' := 163) (by decide) (by decide) ?_
              refine own_iload X12 at_163 (pc' := 165) rfl rfl ?_
              refine own_ifY X12 at_165 (teq ((rfl : (0 : Int32) = (0 : Int32)))).1 (pc' := 180) (by decide) (by decide) ?_
              refine own_lconst X12 at_180 (pc' := 181) rfl (v := (0 : Int64)) (by decide) ?_
              refine own_lstore X12 at_181 (pc' := 183) rfl (l' := #[.val (.long p0), .second, .val (.long p1), .second, .val (.long p2), .second, .val (.long p3), .second, .val (.long p4), .second, .val (.long p5), .second, .val (.long v5), .second, .val (.long v12), .second, .val (.int (0 : Int32)), .val (.int (0 : Int32)), .val (.long v46), .second, .val (.long v54), .second, .val (.long v62), .second, .val (.long v70), .second, .val (.ref b3), .val (.ref b9), .val (.int (0 : Int32)), .val (.long (0 : Int64)), .second, .unset, .unset, .unset, .unset, .unset]) rfl ?_
              refine own_iload X12 at_183 (pc' := 185) rfl rfl ?_
              refine own_ifY X12 at_185 (teq ((rfl : (0 : Int32) = (0 : Int32)))).1 (pc' := 200) (by decide) (by decide) ?_
              refine own_lconst X12 at_200 (pc' := 201) rfl (v := (0 : Int64)) (by decide) ?_
              refine own_lstore X12 at_201 (pc' := 203) rfl (l' := #[.val (.long p0), .second, .val (.long p1), .second, .val (.long p2), .second, .val (.long p3), .second, .val (.long p4), .second, .val (.long p5), .second, .val (.long v5), .second, .val (.long v12), .second, .val (.int (0 : Int32)), .val (.int (0 : Int32)), .val (.long v46), .second, .val (.long v54), .second, .val (.long v62), .second, .val (.long v70), .second, .val (.ref b3), .val (.ref b9), .val (.int (0 : Int32)), .val (.long (0 : Int64)), .second, .val (.long (0 : Int64)), .second, .unset, .unset, .unset]) rfl ?_
              refine own_lload X12 at_203 (pc' := 205) rfl rfl ?_
              refine own_lload X12 at_205 (pc' := 207) rfl rfl ?_
              have j227_56 : ∀ (f227_s0 : Int32), f227_s0 = (if v5 < v62 then (0 : Int32) else (if (v5 - v62) < (0 : Int64) then (0 : Int32) else (1 : Int32))) → OwnGo p e below (T12.setTop (mkF m 227 #[.val (.long p0), .second, .val (.long p1), .second, .val (.long p2), .second, .val (.long p3), .second, .val (.long p4), .second, .val (.long p5), .second, .val (.long v5), .second, .val (.long v12), .second, .val (.int (0 : Int32)), .val (.int (0 : Int32)), .val (.long v46), .second, .val (.long v54), .second, .val (.long v62), .second, .val (.long v70), .second, .val (.ref b3), .val (.ref b9), .val (.int (0 : Int32)), .val (.long (0 : Int64)), .second, .val (.long (0 : Int64)), .second, .unset, .unset, .unset] [(.int f227_s0)])) RR := by
                intro f227_s0 hf227_s0
                refine own_istore X12 at_227 (pc' := 229) rfl (l' := #[.val (.long p0), .second, .val (.long p1), .second, .val (.long p2), .second, .val (.long p3), .second, .val (.long p4), .second, .val (.long p5), .second, .val (.long v5), .second, .val (.long v12), .second, .val (.int (0 : Int32)), .val (.int (0 : Int32)), .val (.long v46), .second, .val (.long v54), .second, .val (.long v62), .second, .val (.long v70), .second, .val (.ref b3), .val (.ref b9), .val (.int (0 : Int32)), .val (.long (0 : Int64)), .second, .val (.long (0 : Int64)), .second, .val (.int f227_s0), .unset, .unset]) rfl ?_
                refine own_lload X12 at_229 (pc' := 231) rfl rfl ?_
                refine own_lload X12 at_231 (pc' := 233) rfl rfl ?_
                have j253_57 : ∀ (f253_s0 : Int32), f253_s0 = (if v12 < v70 then (0 : Int32) else (if (v12 - v70) < (0 : Int64) then (0 : Int32) else (1 : Int32))) → OwnGo p e below (T12.setTop (mkF m 253 #[.val (.long p0), .second, .val (.long p1), .second, .val (.long p2), .second, .val (.long p3), .second, .val (.long p4), .second, .val (.long p5), .second, .val (.long v5), .second, .val (.long v12), .second, .val (.int (0 : Int32)), .val (.int (0 : Int32)), .val (.long v46), .second, .val (.long v54), .second, .val (.long v62), .second, .val (.long v70), .second, .val (.ref b3), .val (.ref b9), .val (.int (0 : Int32)), .val (.long (0 : Int64)), .second, .val (.long (0 : Int64)), .second, .val (.int f227_s0), .unset, .unset] [(.int f253_s0)])) RR := by
                  intro f253_s0 hf253_s0
                  refine own_istore X12 at_253 (pc' := 255) rfl (l' := #[.val (.long p0), .second, .val (.long p1), .second, .val (.long p2), .second, .val (.long p3), .second, .val (.long p4), .second, .val (.long p5), .second, .val (.long v5), .second, .val (.long v12), .second, .val (.int (0 : Int32)), .val (.int (0 : Int32)), .val (.long v46), .second, .val (.long v54), .second, .val (.long v62), .second, .val (.long v70), .second, .val (.ref b3), .val (.ref b9), .val (.int (0 : Int32)), .val (.long (0 : Int64)), .second, .val (.long (0 : Int64)), .second, .val (.int f227_s0), .val (.int f253_s0), .unset]) rfl ?_
                  refine own_iload X12 at_255 (pc' := 257) rfl rfl ?_
                  have j270_58 : ∀ (f270_s0 : Int32), f270_s0 = (if f227_s0 = (0 : Int32) then (0 : Int32) else (if f253_s0 = (0 : Int32) then (0 : Int32) else (1 : Int32))) → OwnGo p e below (T12.setTop (mkF m 270 #[.val (.long p0), .second, .val (.long p1), .second, .val (.long p2), .second, .val (.long p3), .second, .val (.long p4), .second, .val (.long p5), .second, .val (.long v5), .second, .val (.long v12), .second, .val (.int (0 : Int32)), .val (.int (0 : Int32)), .val (.long v46), .second, .val (.long v54), .second, .val (.long v62), .second, .val (.long v70), .second, .val (.ref b3), .val (.ref b9), .val (.int (0 : Int32)), .val (.long (0 : Int64)), .second, .val (.long (0 : Int64)), .second, .val (.int f227_s0), .val (.int f253_s0), .unset] [(.int f270_s0)])) RR := by
                    intro f270_s0 hf270_s0
                    refine own_istore X12 at_270 (pc' := 272) rfl (l' := #[.val (.long p0), .second, .val (.long p1), .second, .val (.long p2), .second, .val (.long p3), .second, .val (.long p4), .second, .val (.long p5), .second, .val (.long v5), .second, .val (.long v12), .second, .val (.int (0 : Int32)), .val (.int (0 : Int32)), .val (.long v46), .second, .val (.long v54), .second, .val (.long v62), .second, .val (.long v70), .second, .val (.ref b3), .val (.ref b9), .val (.int (0 : Int32)), .val (.long (0 : Int64)), .second, .val (.long (0 : Int64)), .second, .val (.int f227_s0), .val (.int f253_s0), .val (.int f270_s0)]) rfl ?_
                    refine own_aload X12 at_272 (pc' := 274) rfl rfl rfl ?_
                    refine own_iload X12 at_274 (pc' := 276) rfl rfl ?_
                    refine own_lload X12 at_276 (pc' := 278) rfl rfl ?_
                    refine own_lload X12 at_278 (pc' := 280) rfl rfl ?_
                    refine own_callV (a := b9) (argsL := [(.int (0 : Int32)), (.long v62), (.long v70)]) X12 at_280 (y := (⟨"com/example/packhouse/packhouse/Hosts", "fits", "(IJJ)Z"⟩ : MethodName)) (by decide) (hw _ (List.mem_of_getElem? (i := 125) rfl)) (hw _ (List.mem_of_getElem? (i := 126) rfl)) (hw _ (List.mem_of_getElem? (i := 128) rfl)) (hw _ (List.mem_of_getElem? (i := 127) rfl)) (hw _ (List.mem_of_getElem? (i := 129) rfl)) (hw _ (List.mem_of_getElem? (i := 86) rfl)) A9_12 (own_rm16_0 l Z a0 hw b9 v5 v12 b1_10 b2_10 (0 : Int64) (0 : Int64) (0 : Int64) (0 : Int64) v62 v70 h12 n0 Z12 FF12q0 FF12q1 FF12q4 FF12q5 FF10q13_12 FF10q14_12) own_pd10 rfl (S := []) rfl (pc' := 283) rfl rfl (W := 0) (Nat.le_of_eq rfl) (by decide) (by decide) (by decide) (by decide) ?_
                    intro T59 h59 v59_ X59 q59_
                    obtain ⟨rfl, rfl⟩ := q59_
                    obtain ⟨r59, hr59⟩ : ∃ z, z = (if (v5 - (0 : Int64)) < v62 then (0 : Int32) else (if (v12 - (0 : Int64)) < v70 then (0 : Int32) else (1 : Int32))) := ⟨_, rfl⟩
                    show OwnGo p e below (T59.setTop (mkF m 283 #[.val (.long p0), .second, .val (.long p1), .second, .val (.long p2), .second, .val (.long p3), .second, .val (.long p4), .second, .val (.long p5), .second, .val (.long v5), .second, .val (.long v12), .second, .val (.int (0 : Int32)), .val (.int (0 : Int32)), .val (.long v46), .second, .val (.long v54), .second, .val (.long v62), .second, .val (.long v70), .second, .val (.ref b3), .val (.ref b9), .val (.int (0 : Int32)), .val (.long (0 : Int64)), .second, .val (.long (0 : Int64)), .second, .val (.int f227_s0), .val (.int f253_s0), .val (.int f270_s0)] [(.int (if (v5 - (0 : Int64)) < v62 then (0 : Int32) else (if (v12 - (0 : Int64)) < v70 then (0 : Int32) else (1 : Int32))))])) RR
                    rw [← hr59]
                    refine own_iload X59 at_283 (pc' := 285) rfl rfl ?_
                    refine own_icN X59 at_285 (teq ((own_fin (own_msk hv5) (own_msk hv12) (own_msk hv62) (own_msk hv70) rfl rfl (by decide) (by decide) (own_n0 (own_msk hv5)) (own_n0 (own_msk hv12)) hr59 hf227_s0 hf253_s0 hf270_s0 : r59 = f270_s0))).2 (pc' := 288) rfl ?_
                    refine own_iconst X59 at_288 (pc' := 289) rfl (v := (1 : Int32)) (by decide) ?_
                    refine own_goto X59 at_289 (pc' := 293) (by decide) (by decide) ?_
                    exact own_retZ X59 at_293 (by decide) rfl (by decide) (by decide)
                  by_cases hc257 : f227_s0 = (0 : Int32)
                  · refine own_ifY X12 at_257 (teq (hc257)).1 (pc' := 269) (by decide) (by decide) ?_
                    refine own_iconst X12 at_269 (pc' := 270) rfl (v := (0 : Int32)) (by decide) ?_
                    exact j270_58 _ (by rw [if_pos hc257])
                  · refine own_ifN X12 at_257 (feq (hc257)).1 (pc' := 260) rfl ?_
                    refine own_iload X12 at_260 (pc' := 262) rfl rfl ?_
                    by_cases hc262 : f253_s0 = (0 : Int32)
                    · refine own_ifY X12 at_262 (teq (hc262)).1 (pc' := 269) (by decide) (by decide) ?_
                      refine own_iconst X12 at_269 (pc' := 270) rfl (v := (0 : Int32)) (by decide) ?_
                      exact j270_58 _ (by rw [if_neg hc257, if_pos hc262])
                    · refine own_ifN X12 at_262 (feq (hc262)).1 (pc' := 265) rfl ?_
                      refine own_iconst X12 at_265 (pc' := 266) rfl (v := (1 : Int32)) (by decide) ?_
                      refine own_goto X12 at_266 (pc' := 270) (by decide) (by decide) ?_
                      exact j270_58 _ (by rw [if_neg hc257, if_neg hc262])
                by_cases hc234 : v12 < v70
                · refine own_ljY X12 at_233 at_234 (own_tltL (hc234)).2.2.1 (pc' := 252) (by decide) (by decide) ?_
                  refine own_iconst X12 at_252 (pc' := 253) rfl (v := (0 : Int32)) (by decide) ?_
                  exact j253_57 _ (by rw [if_pos hc234])
                · refine own_ljN X12 at_233 at_234 (own_fltL (hc234)).2.2.1 (pc' := 237) rfl ?_
                  refine own_lload X12 at_237 (pc' := 239) rfl rfl ?_
                  refine own_lload X12 at_239 (pc' := 241) rfl rfl ?_
                  refine own_lload X12 at_241 (pc' := 243) rfl rfl ?_
                  refine own_lsub X12 at_243 (pc' := 244) rfl ?_
                  by_cases hc245 : (v12 - v70) < (0 : Int64)
                  · refine own_ljY X12 at_244 at_245 (own_tltL (hc245)).2.2.1 (pc' := 252) (by decide) (by decide) ?_
                    refine own_iconst X12 at_252 (pc' := 253) rfl (v := (0 : Int32)) (by decide) ?_
                    exact j253_57 _ (by rw [if_neg hc234, if_pos hc245])
                  · refine own_ljN X12 at_244 at_245 (own_fltL (hc245)).2.2.1 (pc' := 248) rfl ?_
                    refine own_iconst X12 at_248 (pc' := 249) rfl (v := (1 : Int32)) (by decide) ?_
                    refine own_goto X12 at_249 (pc' := 253) (by decide) (by decide) ?_
                    exact j253_57 _ (by rw [if_neg hc234, if_neg hc245])
              by_cases hc208 : v5 < v62
              · refine own_ljY X12 at_207 at_208 (own_tltL (hc208)).2.2.1 (pc' := 226) (by decide) (by decide) ?_
                refine own_iconst X12 at_226 (pc' := 227) rfl (v := (0 : Int32)) (by decide) ?_
                exact j227_56 _ (by rw [if_pos hc208])
              · refine own_ljN X12 at_207 at_208 (own_fltL (hc208)).2.2.1 (pc' := 211) rfl ?_
                refine own_lload X12 at_211 (pc' := 213) rfl rfl ?_
                refine own_lload X12 at_213 (pc' := 215) rfl rfl ?_
                refine own_lload X12 at_215 (pc' := 217) rfl rfl ?_
                refine own_lsub X12 at_217 (pc' := 218) rfl ?_
                by_cases hc219 : (v5 - v62) < (0 : Int64)
                · refine own_ljY X12 at_218 at_219 (own_tltL (hc219)).2.2.1 (pc' := 226) (by decide) (by decide) ?_
                  refine own_iconst X12 at_226 (pc' := 227) rfl (v := (0 : Int32)) (by decide) ?_
                  exact j227_56 _ (by rw [if_neg hc208, if_pos hc219])
                · refine own_ljN X12 at_218 at_219 (own_fltL (hc219)).2.2.1 (pc' := 222) rfl ?_
                  refine own_iconst X12 at_222 (pc' := 223) rfl (v := (1 : Int32)) (by decide) ?_
                  refine own_goto X12 at_223 (pc' := 227) (by decide) (by decide) ?_
                  exact j227_56 _ (by rw [if_neg hc208, if_neg hc219])
            · refine own_ljN X12 at_139 at_140 (own_fltL (hc140)).2.2.1 (pc' := 143) rfl ?_
              refine own_iconst X12 at_143 (pc' := 144) rfl (v := (1 : Int32)) (by decide) ?_
              refine own_goto X12 at_144 (pc' := 148) (by decide) (by decide) ?_
              refine own_istore X12 at_148 (pc' := 150) rfl (l' := #[.val (.long p0), .second, .val (.long p1), .second, .val (.long p2), .second, .val (.long p3), .second, .val (.long p4), .second, .val (.long p5), .second, .val (.long v5), .second, .val (.long v12), .second, .val (.int (0 : Int32)), .val (.int (0 : Int32)), .val (.long v46), .second, .val (.long v54), .second, .val (.long v62), .second, .val (.long v70), .second, .val (.ref b3), .val (.ref b9), .val (.int (1 : Int32)), .unset, .unset, .unset, .unset, .unset, .unset, .unset]) rfl ?_
              refine own_iload X12 at_150 (pc' := 152) rfl rfl ?_
              refine own_ifN X12 at_152 (feq ((by decide : ¬ ((1 : Int32) = (0 : Int32))))).1 (pc' := 155) rfl ?_
              refine own_aload X12 at_155 (pc' := 157) rfl rfl rfl ?_
              refine own_iload X12 at_157 (pc' := 159) rfl rfl ?_
              refine own_iconst X12 at_159 (pc' := 160) rfl (v := (0 : Int32)) (by decide) ?_
              refine own_callV (a := b9) (argsL := [(.int (0 : Int32)), (.int (0 : Int32))]) X12 at_160 (y := (⟨"com/example/packhouse/packhouse/Hosts", "put", "(II)V"⟩ : MethodName)) (by decide) (hw _ (List.mem_of_getElem? (i := 130) rfl)) (hw _ (List.mem_of_getElem? (i := 131) rfl)) (hw _ (List.mem_of_getElem? (i := 133) rfl)) (hw _ (List.mem_of_getElem? (i := 132) rfl)) (hw _ (List.mem_of_getElem? (i := 134) rfl)) (hw _ (List.mem_of_getElem? (i := 86) rfl)) A9_12 (own_rm17_0 l Z a0 hw b9 v5 v12 b3 b1_10 b2_10 b3_10 b_8 b5 v46 v54 h12 n0 Z12 A9_12 FF12q0 FF12q1 FF12q2 FF12q3 FF12q4 FF12q5 FF12q6 A3_12 FF8q1_12 FF8q0_12 FF8q4_12 A5_12 FF7q1_12 FF7q2_12 FF10q13_12 FF10q14_12 FF10q15_12 g_b1_10 g_b2_10 g_b3_10 ne_b9_b1_10 ne_b9_b2_10 ne_b5_b1_10 FF10q10 FF10q11 FF10q12 (own_s0 hc132) (own_s0 hc140)) own_pd14 rfl (S := []) rfl (pc' := 163) rfl rfl (W := 0) (Nat.le_of_eq rfl) (by decide) (by decide) (by decide) (by decide) ?_
              intro T60 h60 v60_ X60 q60_
              obtain ⟨rfl, KK60, FF60q0, FF60q1, FF60q2⟩ := q60_
              show OwnGo p e below (T60.setTop (mkF m 163 #[.val (.long p0), .second, .val (.long p1), .second, .val (.long p2), .second, .val (.long p3), .second, .val (.long p4), .second, .val (.long p5), .second, .val (.long v5), .second, .val (.long v12), .second, .val (.int (0 : Int32)), .val (.int (0 : Int32)), .val (.long v46), .second, .val (.long v54), .second, .val (.long v62), .second, .val (.long v70), .second, .val (.ref b3), .val (.ref b9), .val (.int (1 : Int32)), .unset, .unset, .unset, .unset, .unset, .unset, .unset] [])) RR
              have Z60 : n0 ≤ h60.size := Nat.le_trans Z12 KK60.1
              have S_DEFAULTCAPACITY_EMPTY_ELEMENTDATA_60 := own_sta_keep S_DEFAULTCAPACITY_EMPTY_ELEMENTDATA_12 KK60 (own_plS (own_plV FF10q13_12) (own_plS (own_plV FF10q14_12) (own_plS (own_plV FF10q15_12) own_pl0)))
              have V_d0_60 := (V_d0_12).keep KK60 (ninS ne_d0_b1_10 (ninS ne_d0_b2_10 (ninS ne_d0_b3_10 nin0)))
              have A3_60 := (A3_12).keep KK60
              have A5_60 := (A5_12).keep KK60
              have FF7q0_60 := (FF7q0_12).keep KK60 (ninS ne_b5_b1_10 (ninS ne_b5_b2_10 (ninS ne_b5_b3_10 nin0)))
              have FF7q1_60 := (FF7q1_12).keep KK60 (ninS ne_b5_b1_10 (ninS ne_b5_b2_10 (ninS ne_b5_b3_10 nin0)))
              have FF7q2_60 := (FF7q2_12).keep KK60 (ninS ne_b5_b1_10 (ninS ne_b5_b2_10 (ninS ne_b5_b3_10 nin0)))
              have FF8q0_60 := (FF8q0_12).keep KK60 (ninS ne_b3_b1_10 (ninS ne_b3_b2_10 (ninS ne_b3_b3_10 nin0)))
              have FF8q1_60 := (FF8q1_12).keep KK60 (ninS ne_b3_b1_10 (ninS ne_b3_b2_10 (ninS ne_b3_b3_10 nin0)))
              have FF8q2_60 := (FF8q2_12).keep KK60 (ninS ne_b3_b1_10 (ninS ne_b3_b2_10 (ninS ne_b3_b3_10 nin0)))
              have FF8q4_60 := (FF8q4_12).keep KK60 (ninS ne_b_8_b1_10 (ninS ne_b_8_b2_10 (ninS ne_b_8_b3_10 nin0)))
              have A9_60 := (A9_12).keep KK60
              have FF12q0_60 := (FF12q0).keep KK60 (ninS ne_b9_b1_10 (ninS ne_b9_b2_10 (ninS ne_b9_b3_10 nin0)))
              have FF12q1_60 := (FF12q1).keep KK60 (ninS ne_b9_b1_10 (ninS ne_b9_b2_10 (ninS ne_b9_b3_10 nin0)))
              have FF12q2_60 := (FF12q2).keep KK60 (ninS ne_b9_b1_10 (ninS ne_b9_b2_10 (ninS ne_b9_b3_10 nin0)))
              have FF12q3_60 := (FF12q3).keep KK60 (ninS ne_b9_b1_10 (ninS ne_b9_b2_10 (ninS ne_b9_b3_10 nin0)))
              have FF12q4_60 := (FF12q4).keep KK60 (ninS ne_b9_b1_10 (ninS ne_b9_b2_10 (ninS ne_b9_b3_10 nin0)))
              have FF12q5_60 := (FF12q5).keep KK60 (ninS ne_b9_b1_10 (ninS ne_b9_b2_10 (ninS ne_b9_b3_10 nin0)))
              have FF12q6_60 := (FF12q6).keep KK60 (ninS ne_b9_b1_10 (ninS ne_b9_b2_10 (ninS ne_b9_b3_10 nin0)))
              refine own_iload X60 at_163 (pc' := 165) rfl rfl ?_
              refine own_ifN X60 at_165 (feq ((by decide : ¬ ((1 : Int32) = (0 : Int32))))).1 (pc' := 168) rfl ?_
              refine own_iload X60 at_168 (pc' := 170) rfl rfl ?_
              refine own_iload X60 at_170 (pc' := 172) rfl rfl ?_
              refine own_icN X60 at_172 (teq ((rfl : (0 : Int32) = (0 : Int32)))).2 (pc' := 175) rfl ?_
              refine own_lload X60 at_175 (pc' := 177) rfl rfl ?_
              refine own_goto X60 at_177 (pc' := 181) (by decide) (by decide) ?_
              refine own_lstore X60 at_181 (pc' := 183) rfl (l' := #[.val (.long p0), .second, .val (.long p1), .second, .val (.long p2), .second, .val (.long p3), .second, .val (.long p4), .second, .val (.long p5), .second, .val (.long v5), .second, .val (.long v12), .second, .val (.int (0 : Int32)), .val (.int (0 : Int32)), .val (.long v46), .second, .val (.long v54), .second, .val (.long v62), .second, .val (.long v70), .second, .val (.ref b3), .val (.ref b9), .val (.int (1 : Int32)), .val (.long v46), .second, .unset, .unset, .unset, .unset, .unset]) rfl ?_
              refine own_iload X60 at_183 (pc' := 185) rfl rfl ?_
              refine own_ifN X60 at_185 (feq ((by decide : ¬ ((1 : Int32) = (0 : Int32))))).1 (pc' := 188) rfl ?_
              refine own_iload X60 at_188 (pc' := 190) rfl rfl ?_
              refine own_iload X60 at_190 (pc' := 192) rfl rfl ?_
              refine own_icN X60 at_192 (teq ((rfl : (0 : Int32) = (0 : Int32)))).2 (pc' := 195) rfl ?_
              refine own_lload X60 at_195 (pc' := 197) rfl rfl ?_
              refine own_goto X60 at_197 (pc' := 201) (by decide) (by decide) ?_
              refine own_lstore X60 at_201 (pc' := 203) rfl (l' := #[.val (.long p0), .second, .val (.long p1), .second, .val (.long p2), .second, .val (.long p3), .second, .val (.long p4), .second, .val (.long p5), .second, .val (.long v5), .second, .val (.long v12), .second, .val (.int (0 : Int32)), .val (.int (0 : Int32)), .val (.long v46), .second, .val (.long v54), .second, .val (.long v62), .second, .val (.long v70), .second, .val (.ref b3), .val (.ref b9), .val (.int (1 : Int32)), .val (.long v46), .second, .val (.long v54), .second, .unset, .unset, .unset]) rfl ?_
              refine own_lload X60 at_203 (pc' := 205) rfl rfl ?_
              refine own_lload X60 at_205 (pc' := 207) rfl rfl ?_
              have j227_61 : ∀ (f227_s0 : Int32), f227_s0 = (if v5 < v62 then (0 : Int32) else (if (v5 - v62) < v46 then (0 : Int32) else (1 : Int32))) → OwnGo p e below (T60.setTop (mkF m 227 #[.val (.long p0), .second, .val (.long p1), .second, .val (.long p2), .second, .val (.long p3), .second, .val (.long p4), .second, .val (.long p5), .second, .val (.long v5), .second, .val (.long v12), .second, .val (.int (0 : Int32)), .val (.int (0 : Int32)), .val (.long v46), .second, .val (.long v54), .second, .val (.long v62), .second, .val (.long v70), .second, .val (.ref b3), .val (.ref b9), .val (.int (1 : Int32)), .val (.long v46), .second, .val (.long v54), .second, .unset, .unset, .unset] [(.int f227_s0)])) RR := by
                intro f227_s0 hf227_s0
                refine own_istore X60 at_227 (pc' := 229) rfl (l' := #[.val (.long p0), .second, .val (.long p1), .second, .val (.long p2), .second, .val (.long p3), .second, .val (.long p4), .second, .val (.long p5), .second, .val (.long v5), .second, .val (.long v12), .second, .val (.int (0 : Int32)), .val (.int (0 : Int32)), .val (.long v46), .second, .val (.long v54), .second, .val (.long v62), .second, .val (.long v70), .second, .val (.ref b3), .val (.ref b9), .val (.int (1 : Int32)), .val (.long v46), .second, .val (.long v54), .second, .val (.int f227_s0), .unset, .unset]) rfl ?_
                refine own_lload X60 at_229 (pc' := 231) rfl rfl ?_
                refine own_lload X60 at_231 (pc' := 233) rfl rfl ?_
                have j253_62 : ∀ (f253_s0 : Int32), f253_s0 = (if v12 < v70 then (0 : Int32) else (if (v12 - v70) < v54 then (0 : Int32) else (1 : Int32))) → OwnGo p e below (T60.setTop (mkF m 253 #[.val (.long p0), .second, .val (.long p1), .second, .val (.long p2), .second, .val (.long p3), .second, .val (.long p4), .second, .val (.long p5), .second, .val (.long v5), .second, .val (.long v12), .second, .val (.int (0 : Int32)), .val (.int (0 : Int32)), .val (.long v46), .second, .val (.long v54), .second, .val (.long v62), .second, .val (.long v70), .second, .val (.ref b3), .val (.ref b9), .val (.int (1 : Int32)), .val (.long v46), .second, .val (.long v54), .second, .val (.int f227_s0), .unset, .unset] [(.int f253_s0)])) RR := by
                  intro f253_s0 hf253_s0
                  refine own_istore X60 at_253 (pc' := 255) rfl (l' := #[.val (.long p0), .second, .val (.long p1), .second, .val (.long p2), .second, .val (.long p3), .second, .val (.long p4), .second, .val (.long p5), .second, .val (.long v5), .second, .val (.long v12), .second, .val (.int (0 : Int32)), .val (.int (0 : Int32)), .val (.long v46), .second, .val (.long v54), .second, .val (.long v62), .second, .val (.long v70), .second, .val (.ref b3), .val (.ref b9), .val (.int (1 : Int32)), .val (.long v46), .second, .val (.long v54), .second, .val (.int f227_s0), .val (.int f253_s0), .unset]) rfl ?_
                  refine own_iload X60 at_255 (pc' := 257) rfl rfl ?_
                  have j270_63 : ∀ (f270_s0 : Int32), f270_s0 = (if f227_s0 = (0 : Int32) then (0 : Int32) else (if f253_s0 = (0 : Int32) then (0 : Int32) else (1 : Int32))) → OwnGo p e below (T60.setTop (mkF m 270 #[.val (.long p0), .second, .val (.long p1), .second, .val (.long p2), .second, .val (.long p3), .second, .val (.long p4), .second, .val (.long p5), .second, .val (.long v5), .second, .val (.long v12), .second, .val (.int (0 : Int32)), .val (.int (0 : Int32)), .val (.long v46), .second, .val (.long v54), .second, .val (.long v62), .second, .val (.long v70), .second, .val (.ref b3), .val (.ref b9), .val (.int (1 : Int32)), .val (.long v46), .second, .val (.long v54), .second, .val (.int f227_s0), .val (.int f253_s0), .unset] [(.int f270_s0)])) RR := by
                    intro f270_s0 hf270_s0
                    refine own_istore X60 at_270 (pc' := 272) rfl (l' := #[.val (.long p0), .second, .val (.long p1), .second, .val (.long p2), .second, .val (.long p3), .second, .val (.long p4), .second, .val (.long p5), .second, .val (.long v5), .second, .val (.long v12), .second, .val (.int (0 : Int32)), .val (.int (0 : Int32)), .val (.long v46), .second, .val (.long v54), .second, .val (.long v62), .second, .val (.long v70), .second, .val (.ref b3), .val (.ref b9), .val (.int (1 : Int32)), .val (.long v46), .second, .val (.long v54), .second, .val (.int f227_s0), .val (.int f253_s0), .val (.int f270_s0)]) rfl ?_
                    refine own_aload X60 at_272 (pc' := 274) rfl rfl rfl ?_
                    refine own_iload X60 at_274 (pc' := 276) rfl rfl ?_
                    refine own_lload X60 at_276 (pc' := 278) rfl rfl ?_
                    refine own_lload X60 at_278 (pc' := 280) rfl rfl ?_
                    refine own_callV (a := b9) (argsL := [(.int (0 : Int32)), (.long v62), (.long v70)]) X60 at_280 (y := (⟨"com/example/packhouse/packhouse/Hosts", "fits", "(IJJ)Z"⟩ : MethodName)) (by decide) (hw _ (List.mem_of_getElem? (i := 125) rfl)) (hw _ (List.mem_of_getElem? (i := 126) rfl)) (hw _ (List.mem_of_getElem? (i := 128) rfl)) (hw _ (List.mem_of_getElem? (i := 127) rfl)) (hw _ (List.mem_of_getElem? (i := 129) rfl)) (hw _ (List.mem_of_getElem? (i := 86) rfl)) A9_60 (own_rm16_0 l Z a0 hw b9 v5 v12 b1_10 b2_10 (((0 : Int64) + v46)) (0 : Int64) (((0 : Int64) + v54)) (0 : Int64) v62 v70 h60 n0 Z60 FF12q0_60 FF12q1_60 FF12q4_60 FF12q5_60 FF60q0 FF60q1) own_pd10 rfl (S := []) rfl (pc' := 283) rfl rfl (W := 0) (Nat.le_of_eq rfl) (by decide) (by decide) (by decide) (by decide) ?_
                    intro T64 h64 v64_ X64 q64_
                    obtain ⟨rfl, rfl⟩ := q64_
                    obtain ⟨r64, hr64⟩ : ∃ z, z = (if (v5 - ((0 : Int64) + v46)) < v62 then (0 : Int32) else (if (v12 - ((0 : Int64) + v54)) < v70 then (0 : Int32) else (1 : Int32))) := ⟨_, rfl⟩
                    show OwnGo p e below (T64.setTop (mkF m 283 #[.val (.long p0), .second, .val (.long p1), .second, .val (.long p2), .second, .val (.long p3), .second, .val (.long p4), .second, .val (.long p5), .second, .val (.long v5), .second, .val (.long v12), .second, .val (.int (0 : Int32)), .val (.int (0 : Int32)), .val (.long v46), .second, .val (.long v54), .second, .val (.long v62), .second, .val (.long v70), .second, .val (.ref b3), .val (.ref b9), .val (.int (1 : Int32)), .val (.long v46), .second, .val (.long v54), .second, .val (.int f227_s0), .val (.int f253_s0), .val (.int f270_s0)] [(.int (if (v5 - ((0 : Int64) + v46)) < v62 then (0 : Int32) else (if (v12 - ((0 : Int64) + v54)) < v70 then (0 : Int32) else (1 : Int32))))])) RR
                    rw [← hr64]
                    refine own_iload X64 at_283 (pc' := 285) rfl rfl ?_
                    refine own_icN X64 at_285 (teq ((own_fin (own_msk hv5) (own_msk hv12) (own_msk hv62) (own_msk hv70) (Int64.zero_add _) (Int64.zero_add _) (own_msk hv46) (own_msk hv54) hc132 hc140 hr64 hf227_s0 hf253_s0 hf270_s0 : r64 = f270_s0))).2 (pc' := 288) rfl ?_
                    refine own_iconst X64 at_288 (pc' := 289) rfl (v := (1 : Int32)) (by decide) ?_
                    refine own_goto X64 at_289 (pc' := 293) (by decide) (by decide) ?_
                    exact own_retZ X64 at_293 (by decide) rfl (by decide) (by decide)
                  by_cases hc257 : f227_s0 = (0 : Int32)
                  · refine own_ifY X60 at_257 (teq (hc257)).1 (pc' := 269) (by decide) (by decide) ?_
                    refine own_iconst X60 at_269 (pc' := 270) rfl (v := (0 : Int32)) (by decide) ?_
                    exact j270_63 _ (by rw [if_pos hc257])
                  · refine own_ifN X60 at_257 (feq (hc257)).1 (pc' := 260) rfl ?_
                    refine own_iload X60 at_260 (pc' := 262) rfl rfl ?_
                    by_cases hc262 : f253_s0 = (0 : Int32)
                    · refine own_ifY X60 at_262 (teq (hc262)).1 (pc' := 269) (by decide) (by decide) ?_
                      refine own_iconst X60 at_269 (pc' := 270) rfl (v := (0 : Int32)) (by decide) ?_
                      exact j270_63 _ (by rw [if_neg hc257, if_pos hc262])
                    · refine own_ifN X60 at_262 (feq (hc262)).1 (pc' := 265) rfl ?_
                      refine own_iconst X60 at_265 (pc' := 266) rfl (v := (1 : Int32)) (by decide) ?_
                      refine own_goto X60 at_266 (pc' := 270) (by decide) (by decide) ?_
                      exact j270_63 _ (by rw [if_neg hc257, if_neg hc262])
                by_cases hc234 : v12 < v70
                · refine own_ljY X60 at_233 at_234 (own_tltL (hc234)).2.2.1 (pc' := 252) (by decide) (by decide) ?_
                  refine own_iconst X60 at_252 (pc' := 253) rfl (v := (0 : Int32)) (by decide) ?_
                  exact j253_62 _ (by rw [if_pos hc234])
                · refine own_ljN X60 at_233 at_234 (own_fltL (hc234)).2.2.1 (pc' := 237) rfl ?_
                  refine own_lload X60 at_237 (pc' := 239) rfl rfl ?_
                  refine own_lload X60 at_239 (pc' := 241) rfl rfl ?_
                  refine own_lload X60 at_241 (pc' := 243) rfl rfl ?_
                  refine own_lsub X60 at_243 (pc' := 244) rfl ?_
                  by_cases hc245 : (v12 - v70) < v54
                  · refine own_ljY X60 at_244 at_245 (own_tltL (hc245)).2.2.1 (pc' := 252) (by decide) (by decide) ?_
                    refine own_iconst X60 at_252 (pc' := 253) rfl (v := (0 : Int32)) (by decide) ?_
                    exact j253_62 _ (by rw [if_neg hc234, if_pos hc245])
                  · refine own_ljN X60 at_244 at_245 (own_fltL (hc245)).2.2.1 (pc' := 248) rfl ?_
                    refine own_iconst X60 at_248 (pc' := 249) rfl (v := (1 : Int32)) (by decide) ?_
                    refine own_goto X60 at_249 (pc' := 253) (by decide) (by decide) ?_
                    exact j253_62 _ (by rw [if_neg hc234, if_neg hc245])
              by_cases hc208 : v5 < v62
              · refine own_ljY X60 at_207 at_208 (own_tltL (hc208)).2.2.1 (pc' := 226) (by decide) (by decide) ?_
                refine own_iconst X60 at_226 (pc' := 227) rfl (v := (0 : Int32)) (by decide) ?_
                exact j227_61 _ (by rw [if_pos hc208])
              · refine own_ljN X60 at_207 at_208 (own_fltL (hc208)).2.2.1 (pc' := 211) rfl ?_
                refine own_lload X60 at_211 (pc' := 213) rfl rfl ?_
                refine own_lload X60 at_213 (pc' := 215) rfl rfl ?_
                refine own_lload X60 at_215 (pc' := 217) rfl rfl ?_
                refine own_lsub X60 at_217 (pc' := 218) rfl ?_
                by_cases hc219 : (v5 - v62) < v46
                · refine own_ljY X60 at_218 at_219 (own_tltL (hc219)).2.2.1 (pc' := 226) (by decide) (by decide) ?_
                  refine own_iconst X60 at_226 (pc' := 227) rfl (v := (0 : Int32)) (by decide) ?_
                  exact j227_61 _ (by rw [if_neg hc208, if_pos hc219])
                · refine own_ljN X60 at_218 at_219 (own_fltL (hc219)).2.2.1 (pc' := 222) rfl ?_
                  refine own_iconst X60 at_222 (pc' := 223) rfl (v := (1 : Int32)) (by decide) ?_
                  refine own_goto X60 at_223 (pc' := 227) (by decide) (by decide) ?_
                  exact j227_61 _ (by rw [if_neg hc208, if_neg hc219])
    by_cases hc30 : p1 < (0 : Int64)
    · refine own_ljN X0 at_29 at_30 (own_tltL (hc30)).2.1 (pc' := 33) rfl ?_
      refine own_iconst X0 at_33 (pc' := 34) rfl (v := (1 : Int32)) (by decide) ?_
      refine own_goto X0 at_34 (pc' := 38) (by decide) (by decide) ?_
      exact j38_2 _ (by rw [if_pos hc30])
    · refine own_ljY X0 at_29 at_30 (own_fltL (hc30)).2.1 (pc' := 37) (by decide) (by decide) ?_
      refine own_iconst X0 at_37 (pc' := 38) rfl (v := (0 : Int32)) (by decide) ?_
      exact j38_2 _ (by rw [if_neg hc30])
  by_cases hc17 : p0 < (0 : Int64)
  · refine own_ljN X0 at_16 at_17 (own_tltL (hc17)).2.1 (pc' := 20) rfl ?_
    refine own_iconst X0 at_20 (pc' := 21) rfl (v := (1 : Int32)) (by decide) ?_
    refine own_goto X0 at_21 (pc' := 25) (by decide) (by decide) ?_
    exact j25_1 _ (by rw [if_pos hc17])
  · refine own_ljY X0 at_16 at_17 (own_fltL (hc17)).2.1 (pc' := 24) (by decide) (by decide) ?_
    refine own_iconst X0 at_24 (pc' := 25) rfl (v := (0 : Int32)) (by decide) ?_
    exact j25_1 _ (by rw [if_neg hc17])
set_option maxRecDepth 65536 in
set_option maxHeartbeats 40000000 in
theorem own_comes {Post : Tables → Env → Array Value → State → Outcome → State → Prop} (hpost : ∀ tb e args s v u, (limb_1_1.after args s (.returned v) u = true ∧ limb_1_2.after args s (.returned v) u = true ∧ True) → ReturnedEndW s (.returned v) u (Jvm.fieldLocs frame_1_writes args s ++ Jvm.arrayLocs frame_1_arrays args s ++ Jvm.staticLocs frame_1_statics s) 24 1216 → Post tb e args s (.returned v) u) :
    ArmFor flags0 classFile x code maxLocals ret World_1 tables_1 room_1 Calls_1 rest_1 Pre_1 Post := by
  intro l hfl _ _ p e ha hc hk s m args below hf hA hF happ hP
  obtain ⟨hcalls, hrest, hpre⟩ := hP
  obtain ⟨-, -, -, hnamed, -, -, -, hat⟩ := (Spec.applies_iff hf).mp happ
  obtain ⟨hg, hn⟩ := and_e (Cond.before_iff.mp (show (Jvm.Cond.and given_1 narrow_1).before args s = true from hpre))
  obtain ⟨gc, g0⟩ := and_e hg
  obtain ⟨w0_, g1⟩ := and_e g0
  obtain ⟨w1_, g2⟩ := and_e g1
  obtain ⟨w2_, g3⟩ := and_e g2
  obtain ⟨w3_, g4⟩ := and_e g3
  obtain ⟨w4_, g5⟩ := and_e g4
  obtain ⟨z0, z1, z2, z3, z4, z5, rfl⟩ : ∃ z0 z1 z2 z3 z4 z5 : Value, args = #[z0, z1, z2, z3, z4, z5] := by
    have hs : args.size = 6 := by simpa [Cond.value, given_1] using gc
    obtain ⟨L⟩ := args
    match L, hs with
    | [z0, z1, z2, z3, z4, z5], _ => exact ⟨z0, z1, z2, z3, z4, z5, rfl⟩
  have hw := fun d (hd : d ∈ tables_1) => atoms_spec (ws := Jvm.Cond.code x code maxLocals ret :: tables_1) hat d (List.mem_cons_of_mem _ hd)
  obtain ⟨i0, ei0⟩ := isL_v w0_
  obtain rfl : z0 = (.long i0) := Option.some.inj ei0
  obtain ⟨i1, ei1⟩ := isL_v w1_
  obtain rfl : z1 = (.long i1) := Option.some.inj ei1
  obtain ⟨i2, ei2⟩ := isL_v w2_
  obtain rfl : z2 = (.long i2) := Option.some.inj ei2
  obtain ⟨i3, ei3⟩ := isL_v w3_
  obtain rfl : z3 = (.long i3) := Option.some.inj ei3
  obtain ⟨i4, ei4⟩ := isL_v w4_
  obtain rfl : z4 = (.long i4) := Option.some.inj ei4
  obtain ⟨i5, ei5⟩ := isL_v g5
  obtain rfl : z5 = (.long i5) := Option.some.inj ei5
  obtain ⟨r0_, s0_⟩ := and_e (Cond.before_iff.mp (show rest_1_c.before _ s = true from hrest))
  obtain ⟨r1_, s1_⟩ := and_e s0_
  obtain ⟨r2_, s2_⟩ := and_e s1_
  obtain ⟨r3_, s3_⟩ := and_e s2_
  obtain ⟨r4_, s4_⟩ := and_e s3_
  obtain ⟨r5_, s5_⟩ := and_e s4_
  obtain ⟨r6_, s6_⟩ := and_e s5_
  obtain ⟨r7_, s7_⟩ := and_e s6_
  obtain ⟨r8_, s8_⟩ := and_e s7_
  obtain ⟨d0, e0⟩ := arr_v r6_
  obtain ⟨cl, A⟩ := Arr.start e0 r6_
  have hsz := own_len e0 A r8_
  have S0 := Sta.start e0 (Or.inr ⟨(hw _ (List.mem_of_getElem? (i := 3) rfl)), Cond.before_iff.mpr r2_⟩)
  have hvs : cl.slots.size = 0 := by have e := len_toInt hsz.1; rw [hsz.2] at e; have e2 : (0 : Int32).toInt = 0 := rfl; omega
  have V0 : OwnAr s s.heap d0 (.object "java/lang/Object") [] := ⟨cl, A, Array.eq_empty_of_size_eq_zero hvs, by decide⟩
  obtain ⟨n, o, h1, h2, h3, _, L, rfl, ⟨⟨rfl, -⟩, N⟩, hq⟩ := own_rm0 l s _ hw i0 i1 i2 i3 i4 i5 d0 s.heap s.heap.size (Nat.le_refl _) S0 V0 tables_1 p e ha hc hk s m _ below hf ((Spec.applies_iff_loose hf).mp happ).1 ⟨rfl, State.Warmed39.refl s, rfl⟩ trivial
  exact ⟨n, _, h1, h2, h3, hpost _ _ _ _ _ _ ⟨Cond.after_iff.mpr rfl, Cond.after_iff.mpr (eq_i res_at (Term.int_eval (1)) rfl), trivial⟩ ⟨hq.1, hq.2.1, hq.2.2.1, (hq.2.2.2.sift fun y hy => Or.inr (N y hy)).mono (by decide) (by decide)⟩⟩
theorem main_1_1 : Claimed_1_1 := own_comes fun _ _ _ _ _ _ h hF => ⟨h.1, hF⟩
theorem main_1_2 : Claimed_1_2 := own_comes fun _ _ _ _ _ _ h hF => ⟨h.2.1, hF⟩
end Jvm.Pilot.@@N@@
namespace Jvm.Pilot.@@N@@
open Jvm Jvm.ClassFile Sem Op Lib Jvm.Free Jvm.Stand Jvm.Pilot.@@N@@.Jvm.D
/-! MADE BY PROGRAM (witnessworld.py) out of the Statement's table words and the real class files: 31 classes; the members and pool entries that the words name. The judged class is class 1, her method 1. -/
namespace start1
open Jvm.ClassFile
def u (s : String) : CpInfo := .utf8 (stringToUtf16 s)
/-- a pool by its gaps: so many unusable entries, then the entry; so many at the end -/
def gap : Nat → List CpInfo → List CpInfo
  | 0, r => r
  | n + 1, r => .unusable :: gap n r
def poolList (es : List (Nat × CpInfo)) (last : Nat) : List CpInfo := es.foldr (fun e r => gap e.1 (e.2 :: r)) (gap last [])
def pool (es : List (Nat × CpInfo)) (last : Nat) : Array CpInfo := ⟨poolList es last⟩
def fileOf (pool : Array CpInfo) (this : Nat) (attrs : Array Attribute := #[]) (ms : Array MethodInfo := #[]) (fl : Nat := 33) (sup : Nat := 0) (ifs : Array Nat := #[]) (fds : Array FieldInfo := #[]) : ClassFile where
  minorVersion := 0
  majorVersion := 65
  constantPool := pool
  accessFlags := fl
  thisClass := this
  superClass := sup
  interfaces := ifs
  fields := fds
  methods := ms
  attributes := attrs
def plain (name : String) (sup : Option ClassId) : Class where
  name := name
  kind := .ordinary
  loader := none
  accessFlags := 33
  super := sup
  interfaces := #[]
  cf := none
  fields := #[]
  methods := #[]
  instanceTypes := #[]
  staticTypes := #[]
  resolved := #[]
  callSites := []
  init := .initialized
  statics := none
  mirror := none

def pool0 : Array CpInfo := pool [(5, u "<init>"), (0, u "()V"), (1, .class_ 10), (1, u "java/lang/Object")] 113

def k0c0 : Code := { maxStack := 0, maxLocals := 1, code := object_method_1_code, exceptionTable := #[], attributes := #[] }
def k0m0 : Method := { name := "<init>", desc := "()V", sig := { parameters := [], returnType := none }, accessFlags := 1, code := some k0c0 }
/-- java/lang/Object -/
def k0 : Class := { plain "java/lang/Object" none with
  accessFlags := 33
  interfaces := #[]
  cf := some (fileOf pool0 8 #[] #[{ accessFlags := 1, nameIndex := 5, descriptorIndex := 6, attributes := #[] }] 33 0 #[] #[])
  fields := #[]
  methods := #[k0m0]
  instanceTypes := #[]
  staticTypes := #[]
  resolved := Array.replicate 124 none
  statics := none }

def pool1 : Array CpInfo := pool [(2, .class_ 4), (0, .nameAndType 5 6), (0, u "java/lang/Object"), (0, u "<init>"), (0, u "()V"), (2, .long 9223372036854775807), (1, .class_ 12), (0, u "java/util/ArrayList"), (0, .methodref 11 3), (0, .class_ 15), (0, u "com/example/packhouse/packhouse/Vm"), (0, .string 17), (0, u "v"), (0, .methodref 14 19), (0, .nameAndType 5 20), (0, u "(Ljava/lang/String;JJ)V"), (0, .methodref 11 22), (0, .nameAndType 23 24), (0, u "add"), (0, u "(Ljava/lang/Object;)Z"), (0, .class_ 26), (0, u "com/example/packhouse/packhouse/Hosts"), (0, .methodref 25 28), (0, .nameAndType 5 29), (0, u "(JJLjava/util/List;)V"), (0, .methodref 25 31), (0, .nameAndType 32 33), (0, u "open"), (0, u "()I"), (0, .methodref 25 35), (0, .nameAndType 36 37), (0, u "put"), (0, u "(II)V"), (0, .methodref 25 39), (0, .nameAndType 40 41), (0, u "fits"), (0, u "(IJJ)Z"), (0, .class_ 43), (0, u "com/example/packhouse/packhouse/HostsFitsPinLaw"), (2, u "law"), (0, u "(JJJJJJ)Z")] 3

def k1m0 : Method := { name := "<init>", desc := "()V", sig := { parameters := [], returnType := none }, accessFlags := 1, code := none }
def k1c1 : Code := { maxStack := 8, maxLocals := 36, code := code, exceptionTable := #[], attributes := #[] }
def k1m1 : Method := { name := "law", desc := "(JJJJJJ)Z", sig := { parameters := [.long, .long, .long, .long, .long, .long], returnType := some .boolean }, accessFlags := 9, code := some k1c1 }
/-- com/example/packhouse/packhouse/HostsFitsPinLaw -/
def k1 : Class := { plain "com/example/packhouse/packhouse/HostsFitsPinLaw" (some 0) with
  accessFlags := 49
  interfaces := #[]
  cf := some (fileOf pool1 42 #[] #[{ accessFlags := 1, nameIndex := 5, descriptorIndex := 6, attributes := #[] }, { accessFlags := 9, nameIndex := 46, descriptorIndex := 47, attributes := #[] }] 49 2 #[] #[])
  fields := #[]
  methods := #[k1m0, k1m1]
  instanceTypes := #[]
  staticTypes := #[]
  resolved := Array.replicate 51 none
  statics := none }

def pool2 : Array CpInfo := pool [(8, .class_ 10), (1, u "java/lang/Iterable"), (24, .class_ 36), (0, u "java/lang/Object")] 25

/-- java/lang/Iterable -/
def k2 : Class := { plain "java/lang/Iterable" (some 0) with
  accessFlags := 1537
  interfaces := #[]
  cf := some (fileOf pool2 8 #[] #[] 1537 35 #[] #[])
  fields := #[]
  methods := #[]
  instanceTypes := #[]
  staticTypes := #[]
  resolved := Array.replicate 62 none
  statics := none }

def pool3 : Array CpInfo := pool [(10, .class_ 12), (1, u "java/util/Collection"), (47, .class_ 61), (0, u "java/lang/Object"), (0, .class_ 63), (0, u "java/lang/Iterable")] 51

/-- java/util/Collection -/
def k3 : Class := { plain "java/util/Collection" (some 0) with
  accessFlags := 1537
  interfaces := #[2]
  cf := some (fileOf pool3 10 #[] #[] 1537 60 #[62] #[])
  fields := #[]
  methods := #[]
  instanceTypes := #[]
  staticTypes := #[]
  resolved := Array.replicate 115 none
  statics := none }

def pool4 : Array CpInfo := pool [(1, .methodref 2 3), (0, .class_ 4), (0, .nameAndType 5 6), (0, u "java/lang/Object"), (0, u "<init>"), (0, u "()V"), (1, .class_ 10), (1, u "java/util/AbstractCollection"), (66, .class_ 78), (0, u "java/util/Collection")] 81

def k4c0 : Code := { maxStack := 1, maxLocals := 1, code := jdk_22_method_1_code, exceptionTable := #[], attributes := #[] }
def k4m0 : Method := { name := "<init>", desc := "()V", sig := { parameters := [], returnType := none }, accessFlags := 4, code := some k4c0 }
/-- java/util/AbstractCollection -/
def k4 : Class := { plain "java/util/AbstractCollection" (some 0) with
  accessFlags := 1057
  interfaces := #[3]
  cf := some (fileOf pool4 8 #[] #[{ accessFlags := 4, nameIndex := 5, descriptorIndex := 6, attributes := #[] }] 1057 2 #[77] #[])
  fields := #[]
  methods := #[k4m0]
  instanceTypes := #[]
  staticTypes := #[]
  resolved := Array.replicate 160 none
  statics := none }

def pool5 : Array CpInfo := pool [(8, .class_ 10), (1, u "java/util/SequencedCollection"), (15, .class_ 27), (0, u "java/lang/Object"), (0, .class_ 29), (0, u "java/util/Collection")] 27

/-- java/util/SequencedCollection -/
def k5 : Class := { plain "java/util/SequencedCollection" (some 0) with
  accessFlags := 1537
  interfaces := #[3]
  cf := some (fileOf pool5 8 #[] #[] 1537 26 #[28] #[])
  fields := #[]
  methods := #[]
  instanceTypes := #[]
  staticTypes := #[]
  resolved := Array.replicate 57 none
  statics := none }

def pool6 : Array CpInfo := pool [(8, .class_ 10), (1, u "java/util/List"), (64, u "get"), (0, u "(I)Ljava/lang/Object;"), (2, u "size"), (0, u "()I"), (22, .class_ 104), (0, u "java/lang/Object"), (15, .class_ 121), (0, u "java/util/SequencedCollection")] 129

def k6m0 : Method := { name := "size", desc := "()I", sig := { parameters := [], returnType := some .int }, accessFlags := 1025, code := none }
def k6m1 : Method := { name := "get", desc := "(I)Ljava/lang/Object;", sig := { parameters := [.int], returnType := some (.object "java/lang/Object") }, accessFlags := 1025, code := none }
/-- java/util/List -/
def k6 : Class := { plain "java/util/List" (some 0) with
  accessFlags := 1537
  interfaces := #[5]
  cf := some (fileOf pool6 8 #[] #[{ accessFlags := 1025, nameIndex := 79, descriptorIndex := 80, attributes := #[] }, { accessFlags := 1025, nameIndex := 75, descriptorIndex := 76, attributes := #[] }] 1537 103 #[120] #[])
  fields := #[]
  methods := #[k6m0, k6m1]
  instanceTypes := #[]
  staticTypes := #[]
  resolved := Array.replicate 251 none
  statics := none }

def pool7 : Array CpInfo := pool [(1, .methodref 2 3), (0, .class_ 4), (0, .nameAndType 5 6), (0, u "java/util/AbstractCollection"), (0, u "<init>"), (0, u "()V"), (0, .fieldref 8 9), (0, .class_ 10), (0, .nameAndType 11 12), (0, u "java/util/AbstractList"), (0, u "modCount"), (0, u "I"), (64, .class_ 78), (0, u "java/util/AbstractList$Itr"), (3, .class_ 83), (0, u "java/util/AbstractList$ListItr"), (9, .class_ 94), (0, u "java/util/AbstractList$RandomAccessSubList"), (3, .class_ 99), (0, u "java/util/AbstractList$SubList"), (33, .class_ 134), (0, u "java/util/List"), (73, .class_ 209), (0, u "java/util/AbstractList$SubList$1"), (0, .class_ 211), (0, u "java/util/AbstractList$RandomAccessSpliterator")] 6

def k7c0 : Code := { maxStack := 2, maxLocals := 1, code := jdk_39_method_1_code, exceptionTable := #[], attributes := #[] }
def k7m0 : Method := { name := "<init>", desc := "()V", sig := { parameters := [], returnType := none }, accessFlags := 4, code := some k7c0 }
/-- java/util/AbstractList -/
def k7 : Class := { plain "java/util/AbstractList" (some 4) with
  accessFlags := 1057
  interfaces := #[6]
  cf := some (fileOf pool7 8 #[.nestMembers #[93, 98, 208, 210, 82, 77]] #[{ accessFlags := 4, nameIndex := 5, descriptorIndex := 6, attributes := #[] }] 1057 2 #[133] #[{ accessFlags := 132, nameIndex := 11, descriptorIndex := 12, attributes := #[] }])
  fields := #[{ name := "modCount", type := .int, accessFlags := 132, slot := 0, constantValue := 0 }]
  methods := #[k7m0]
  instanceTypes := #[.int]
  staticTypes := #[]
  resolved := Array.replicate 218 none
  statics := none }

def pool8 : Array CpInfo := pool [(1, .class_ 2), (0, u "java/util/RandomAccess"), (0, .class_ 4), (0, u "java/lang/Object")] 2

/-- java/util/RandomAccess -/
def k8 : Class := { plain "java/util/RandomAccess" (some 0) with
  accessFlags := 1537
  interfaces := #[]
  cf := some (fileOf pool8 1 #[] #[] 1537 3 #[] #[])
  fields := #[]
  methods := #[]
  instanceTypes := #[]
  staticTypes := #[]
  resolved := Array.replicate 7 none
  statics := none }

def pool9 : Array CpInfo := pool [(1, .class_ 2), (0, u "java/lang/Cloneable"), (0, .class_ 4), (0, u "java/lang/Object")] 2

/-- java/lang/Cloneable -/
def k9 : Class := { plain "java/lang/Cloneable" (some 0) with
  accessFlags := 1537
  interfaces := #[]
  cf := some (fileOf pool9 1 #[] #[] 1537 3 #[] #[])
  fields := #[]
  methods := #[]
  instanceTypes := #[]
  staticTypes := #[]
  resolved := Array.replicate 7 none
  statics := none }

def pool10 : Array CpInfo := pool [(1, .class_ 2), (0, u "java/io/Serializable"), (0, .class_ 4), (0, u "java/lang/Object")] 2

/-- java/io/Serializable -/
def k10 : Class := { plain "java/io/Serializable" (some 0) with
  accessFlags := 1537
  interfaces := #[]
  cf := some (fileOf pool10 1 #[] #[] 1537 3 #[] #[])
  fields := #[]
  methods := #[]
  instanceTypes := #[]
  staticTypes := #[]
  resolved := Array.replicate 7 none
  statics := none }

def pool11 : Array CpInfo := pool [(1, .methodref 2 3), (0, .class_ 4), (0, .nameAndType 5 6), (0, u "java/util/AbstractList"), (0, u "<init>"), (0, u "()V"), (0, .class_ 8), (0, u "java/lang/Object"), (0, .fieldref 10 11), (0, .class_ 12), (0, .nameAndType 13 14), (0, u "java/util/ArrayList"), (0, u "elementData"), (0, u "[Ljava/lang/Object;"), (2, u "EMPTY_ELEMENTDATA"), (21, .fieldref 10 40), (0, .nameAndType 41 14), (0, u "DEFAULTCAPACITY_EMPTY_ELEMENTDATA"), (5, u "()[Ljava/lang/Object;"), (0, .fieldref 10 49), (0, .nameAndType 50 51), (0, u "size"), (0, u "I"), (11, .fieldref 10 64), (0, .nameAndType 65 51), (0, u "modCount"), (3, .methodref 10 70), (0, .nameAndType 71 72), (0, u "grow"), (0, u "(I)[Ljava/lang/Object;"), (6, .methodref 80 81), (0, .class_ 82), (0, .nameAndType 83 84), (0, u "java/lang/Math"), (0, u "max"), (0, u "(II)I"), (11, u "(Ljava/lang/Object;)Z"), (21, .methodref 119 120), (0, .class_ 121), (0, .nameAndType 122 84), (0, u "java/util/Objects"), (0, u "checkIndex"), (0, .methodref 10 124), (0, .nameAndType 13 125), (0, u "(I)Ljava/lang/Object;"), (3, .methodref 10 130), (0, .nameAndType 71 47), (0, .methodref 10 132), (0, .nameAndType 133 134), (0, u "add"), (0, u "(Ljava/lang/Object;[Ljava/lang/Object;I)V"), (13, .class_ 149), (0, u "java/util/List"), (36, u "()I"), (75, .class_ 263), (0, u "java/util/ArrayList$ListItr"), (3, .class_ 268), (0, u "java/util/ArrayList$Itr"), (7, .class_ 277), (0, u "java/util/ArrayList$SubList"), (12, .class_ 291), (0, u "java/util/ArrayList$ArrayListSpliterator"), (37, .class_ 330), (0, u "java/util/RandomAccess"), (0, .class_ 332), (0, u "java/lang/Cloneable"), (0, .class_ 334), (0, u "java/io/Serializable"), (0, u "serialVersionUID"), (0, u "J"), (3, u "DEFAULT_CAPACITY"), (40, u "get"), (118, .class_ 501), (0, u "java/util/ArrayList$SubList$2"), (0, .class_ 503), (0, u "java/util/ArrayList$SubList$1")] 5

def k11c0 : Code := { maxStack := 2, maxLocals := 1, code := jdk_38_method_2_code, exceptionTable := #[], attributes := #[] }
def k11m0 : Method := { name := "<init>", desc := "()V", sig := { parameters := [], returnType := none }, accessFlags := 1, code := some k11c0 }
def k11c1 : Code := { maxStack := 4, maxLocals := 4, code := jdk_38_method_6_code, exceptionTable := #[], attributes := #[] }
def k11m1 : Method := { name := "grow", desc := "(I)[Ljava/lang/Object;", sig := { parameters := [.int], returnType := some (.array (.object "java/lang/Object")) }, accessFlags := 2, code := some k11c1 }
def k11c2 : Code := { maxStack := 3, maxLocals := 1, code := jdk_38_method_7_code, exceptionTable := #[], attributes := #[] }
def k11m2 : Method := { name := "grow", desc := "()[Ljava/lang/Object;", sig := { parameters := [], returnType := some (.array (.object "java/lang/Object")) }, accessFlags := 2, code := some k11c2 }
def k11c3 : Code := { maxStack := 1, maxLocals := 1, code := jdk_38_method_8_code, exceptionTable := #[], attributes := #[] }
def k11m3 : Method := { name := "size", desc := "()I", sig := { parameters := [], returnType := some .int }, accessFlags := 1, code := some k11c3 }
def k11c4 : Code := { maxStack := 2, maxLocals := 2, code := jdk_38_method_18_code, exceptionTable := #[], attributes := #[] }
def k11m4 : Method := { name := "elementData", desc := "(I)Ljava/lang/Object;", sig := { parameters := [.int], returnType := some (.object "java/lang/Object") }, accessFlags := 0, code := some k11c4 }
def k11c5 : Code := { maxStack := 2, maxLocals := 2, code := jdk_38_method_20_code, exceptionTable := #[], attributes := #[] }
def k11m5 : Method := { name := "get", desc := "(I)Ljava/lang/Object;", sig := { parameters := [.int], returnType := some (.object "java/lang/Object") }, accessFlags := 1, code := some k11c5 }
def k11c6 : Code := { maxStack := 3, maxLocals := 4, code := jdk_38_method_24_code, exceptionTable := #[], attributes := #[] }
def k11m6 : Method := { name := "add", desc := "(Ljava/lang/Object;[Ljava/lang/Object;I)V", sig := { parameters := [(.object "java/lang/Object"), (.array (.object "java/lang/Object")), .int], returnType := none }, accessFlags := 2, code := some k11c6 }
def k11c7 : Code := { maxStack := 4, maxLocals := 2, code := jdk_38_method_25_code, exceptionTable := #[], attributes := #[] }
def k11m7 : Method := { name := "add", desc := "(Ljava/lang/Object;)Z", sig := { parameters := [(.object "java/lang/Object")], returnType := some .boolean }, accessFlags := 1, code := some k11c7 }
/-- java/util/ArrayList -/
def k11 : Class := { plain "java/util/ArrayList" (some 7) with
  accessFlags := 33
  interfaces := #[6, 8, 9, 10]
  cf := some (fileOf pool11 10 #[.nestMembers #[290, 276, 500, 502, 262, 267]] #[{ accessFlags := 1, nameIndex := 5, descriptorIndex := 6, attributes := #[] }, { accessFlags := 2, nameIndex := 71, descriptorIndex := 72, attributes := #[] }, { accessFlags := 2, nameIndex := 71, descriptorIndex := 47, attributes := #[] }, { accessFlags := 1, nameIndex := 50, descriptorIndex := 186, attributes := #[] }, { accessFlags := 0, nameIndex := 13, descriptorIndex := 125, attributes := #[] }, { accessFlags := 1, nameIndex := 381, descriptorIndex := 125, attributes := #[] }, { accessFlags := 2, nameIndex := 133, descriptorIndex := 134, attributes := #[] }, { accessFlags := 1, nameIndex := 133, descriptorIndex := 96, attributes := #[] }] 33 2 #[148, 329, 331, 333] #[{ accessFlags := 26, nameIndex := 335, descriptorIndex := 336, attributes := #[] }, { accessFlags := 26, nameIndex := 340, descriptorIndex := 51, attributes := #[] }, { accessFlags := 26, nameIndex := 17, descriptorIndex := 14, attributes := #[] }, { accessFlags := 26, nameIndex := 41, descriptorIndex := 14, attributes := #[] }, { accessFlags := 128, nameIndex := 13, descriptorIndex := 14, attributes := #[] }, { accessFlags := 2, nameIndex := 50, descriptorIndex := 51, attributes := #[] }])
  fields := #[{ name := "serialVersionUID", type := .long, accessFlags := 26, slot := 0, constantValue := 0 }, { name := "DEFAULT_CAPACITY", type := .int, accessFlags := 26, slot := 1, constantValue := 0 }, { name := "EMPTY_ELEMENTDATA", type := (.array (.object "java/lang/Object")), accessFlags := 26, slot := 2, constantValue := 0 }, { name := "DEFAULTCAPACITY_EMPTY_ELEMENTDATA", type := (.array (.object "java/lang/Object")), accessFlags := 26, slot := 3, constantValue := 0 }, { name := "elementData", type := (.array (.object "java/lang/Object")), accessFlags := 128, slot := 1, constantValue := 0 }, { name := "size", type := .int, accessFlags := 2, slot := 2, constantValue := 0 }]
  methods := #[k11m0, k11m1, k11m2, k11m3, k11m4, k11m5, k11m6, k11m7]
  instanceTypes := #[.int, (.array (.object "java/lang/Object")), .int]
  staticTypes := #[.long, .int, (.array (.object "java/lang/Object")), (.array (.object "java/lang/Object"))]
  resolved := Array.replicate 509 none
  statics := some 0 }

def pool12 : Array CpInfo := pool [(1, .methodref 2 3), (0, .class_ 4), (0, .nameAndType 5 6), (0, u "java/lang/Object"), (0, u "<init>"), (0, u "()V"), (0, .class_ 8), (0, u "java/lang/Record")] 13

def k12c0 : Code := { maxStack := 1, maxLocals := 1, code := jdk_30_method_1_code, exceptionTable := #[], attributes := #[] }
def k12m0 : Method := { name := "<init>", desc := "()V", sig := { parameters := [], returnType := none }, accessFlags := 4, code := some k12c0 }
/-- java/lang/Record -/
def k12 : Class := { plain "java/lang/Record" (some 0) with
  accessFlags := 1057
  interfaces := #[]
  cf := some (fileOf pool12 7 #[] #[{ accessFlags := 4, nameIndex := 5, descriptorIndex := 6, attributes := #[] }] 1057 2 #[] #[])
  fields := #[]
  methods := #[k12m0]
  instanceTypes := #[]
  staticTypes := #[]
  resolved := Array.replicate 22 none
  statics := none }

def pool13 : Array CpInfo := pool [(1, .methodref 2 3), (0, .class_ 4), (0, .nameAndType 5 6), (0, u "java/lang/Record"), (0, u "<init>"), (0, u "()V"), (0, .fieldref 8 9), (0, .class_ 10), (0, .nameAndType 11 12), (0, u "com/example/packhouse/packhouse/Vm"), (0, u "id"), (0, u "Ljava/lang/String;"), (0, .fieldref 8 14), (0, .nameAndType 15 16), (0, u "cpu"), (0, u "J"), (0, .fieldref 8 18), (0, .nameAndType 19 16), (0, u "mem"), (12, u "(Ljava/lang/String;JJ)V"), (9, u "()J")] 22

def k13c0 : Code := { maxStack := 3, maxLocals := 6, code := prog_37_method_1_code, exceptionTable := #[], attributes := #[] }
def k13m0 : Method := { name := "<init>", desc := "(Ljava/lang/String;JJ)V", sig := { parameters := [(.object "java/lang/String"), .long, .long], returnType := none }, accessFlags := 0, code := some k13c0 }
def k13c1 : Code := { maxStack := 2, maxLocals := 1, code := prog_37_method_7_code, exceptionTable := #[], attributes := #[] }
def k13m1 : Method := { name := "cpu", desc := "()J", sig := { parameters := [], returnType := some .long }, accessFlags := 1, code := some k13c1 }
def k13c2 : Code := { maxStack := 2, maxLocals := 1, code := prog_37_method_8_code, exceptionTable := #[], attributes := #[] }
def k13m2 : Method := { name := "mem", desc := "()J", sig := { parameters := [], returnType := some .long }, accessFlags := 1, code := some k13c2 }
/-- com/example/packhouse/packhouse/Vm -/
def k13 : Class := { plain "com/example/packhouse/packhouse/Vm" (some 12) with
  accessFlags := 48
  interfaces := #[]
  cf := some (fileOf pool13 8 #[] #[{ accessFlags := 0, nameIndex := 5, descriptorIndex := 32, attributes := #[] }, { accessFlags := 1, nameIndex := 15, descriptorIndex := 42, attributes := #[] }, { accessFlags := 1, nameIndex := 19, descriptorIndex := 42, attributes := #[] }] 48 2 #[] #[{ accessFlags := 18, nameIndex := 11, descriptorIndex := 12, attributes := #[] }, { accessFlags := 18, nameIndex := 15, descriptorIndex := 16, attributes := #[] }, { accessFlags := 18, nameIndex := 19, descriptorIndex := 16, attributes := #[] }])
  fields := #[{ name := "id", type := (.object "java/lang/String"), accessFlags := 18, slot := 0, constantValue := 0 }, { name := "cpu", type := .long, accessFlags := 18, slot := 1, constantValue := 0 }, { name := "mem", type := .long, accessFlags := 18, slot := 2, constantValue := 0 }]
  methods := #[k13m0, k13m1, k13m2]
  instanceTypes := #[(.object "java/lang/String"), .long, .long]
  staticTypes := #[]
  resolved := Array.replicate 65 none
  statics := none }

def pool14 : Array CpInfo := pool [(1, .class_ 2), (0, u "java/lang/Comparable"), (0, .class_ 4), (0, u "java/lang/Object")] 7

/-- java/lang/Comparable -/
def k14 : Class := { plain "java/lang/Comparable" (some 0) with
  accessFlags := 1537
  interfaces := #[]
  cf := some (fileOf pool14 1 #[] #[] 1537 3 #[] #[])
  fields := #[]
  methods := #[]
  instanceTypes := #[]
  staticTypes := #[]
  resolved := Array.replicate 12 none
  statics := none }

def pool15 : Array CpInfo := pool [(2, .class_ 4), (1, u "java/lang/CharSequence"), (42, .class_ 48), (0, u "java/lang/CharSequence$1CodePointIterator"), (10, .class_ 60), (0, u "java/lang/CharSequence$1CharIterator"), (5, .class_ 67), (0, u "java/lang/Object")] 63

/-- java/lang/CharSequence -/
def k15 : Class := { plain "java/lang/CharSequence" (some 0) with
  accessFlags := 1537
  interfaces := #[]
  cf := some (fileOf pool15 2 #[.nestMembers #[47, 59]] #[] 1537 66 #[] #[])
  fields := #[]
  methods := #[]
  instanceTypes := #[]
  staticTypes := #[]
  resolved := Array.replicate 131 none
  statics := none }

def pool16 : Array CpInfo := pool [(1, .class_ 2), (0, u "java/lang/constant/Constable"), (0, .class_ 4), (0, u "java/lang/Object")] 6

/-- java/lang/constant/Constable -/
def k16 : Class := { plain "java/lang/constant/Constable" (some 0) with
  accessFlags := 1537
  interfaces := #[]
  cf := some (fileOf pool16 1 #[] #[] 1537 3 #[] #[])
  fields := #[]
  methods := #[]
  instanceTypes := #[]
  staticTypes := #[]
  resolved := Array.replicate 11 none
  statics := none }

def pool17 : Array CpInfo := pool [(1, .class_ 2), (0, u "java/lang/constant/ConstantDesc"), (0, .class_ 4), (0, u "java/lang/Object")] 32

/-- java/lang/constant/ConstantDesc -/
def k17 : Class := { plain "java/lang/constant/ConstantDesc" (some 0) with
  accessFlags := 1537
  interfaces := #[]
  cf := some (fileOf pool17 1 #[] #[] 1537 3 #[] #[])
  fields := #[]
  methods := #[]
  instanceTypes := #[]
  staticTypes := #[]
  resolved := Array.replicate 37 none
  statics := none }

def pool18 : Array CpInfo := pool [(2, .class_ 4), (1, u "java/lang/Object"), (0, u "<init>"), (0, u "()V"), (3, .class_ 12), (1, u "java/lang/String"), (0, u "value"), (0, u "[B"), (2, u "coder"), (0, u "B"), (2, u "hash"), (0, u "I"), (2, u "hashIsZero"), (0, u "Z"), (13, u "COMPACT_STRINGS"), (534, .class_ 576), (0, u "java/lang/CharSequence"), (22, u "CASE_INSENSITIVE_ORDER"), (0, u "Ljava/util/Comparator;"), (500, u "serialPersistentFields"), (0, u "[Ljava/io/ObjectStreamField;"), (0, .class_ 1104), (0, u "java/lang/String$CaseInsensitiveComparator"), (1, .class_ 1107), (0, u "java/io/Serializable"), (0, .class_ 1109), (0, u "java/lang/Comparable"), (0, .class_ 1111), (0, u "java/lang/constant/Constable"), (0, .class_ 1113), (0, u "java/lang/constant/ConstantDesc"), (2, u "serialVersionUID"), (0, u "J"), (3, u "REPL"), (0, u "C"), (2, u "LATIN1"), (1, u "UTF16")] 323

def k18m0 : Method := { name := "<init>", desc := "()V", sig := { parameters := [], returnType := none }, accessFlags := 1, code := none }
/-- java/lang/String -/
def k18 : Class := { plain "java/lang/String" (some 0) with
  accessFlags := 49
  interfaces := #[10, 14, 15, 16, 17]
  cf := some (fileOf pool18 10 #[.nestMembers #[1103]] #[{ accessFlags := 1, nameIndex := 5, descriptorIndex := 6, attributes := #[] }] 49 2 #[1106, 1108, 575, 1110, 1112] #[{ accessFlags := 18, nameIndex := 13, descriptorIndex := 14, attributes := #[] }, { accessFlags := 18, nameIndex := 17, descriptorIndex := 18, attributes := #[] }, { accessFlags := 2, nameIndex := 21, descriptorIndex := 22, attributes := #[] }, { accessFlags := 2, nameIndex := 25, descriptorIndex := 26, attributes := #[] }, { accessFlags := 26, nameIndex := 1116, descriptorIndex := 1117, attributes := #[] }, { accessFlags := 24, nameIndex := 40, descriptorIndex := 26, attributes := #[] }, { accessFlags := 26, nameIndex := 1101, descriptorIndex := 1102, attributes := #[] }, { accessFlags := 26, nameIndex := 1121, descriptorIndex := 1122, attributes := #[] }, { accessFlags := 25, nameIndex := 599, descriptorIndex := 600, attributes := #[] }, { accessFlags := 24, nameIndex := 1125, descriptorIndex := 18, attributes := #[] }, { accessFlags := 24, nameIndex := 1127, descriptorIndex := 18, attributes := #[] }])
  fields := #[{ name := "value", type := (.array .byte), accessFlags := 18, slot := 0, constantValue := 0 }, { name := "coder", type := .byte, accessFlags := 18, slot := 1, constantValue := 0 }, { name := "hash", type := .int, accessFlags := 2, slot := 2, constantValue := 0 }, { name := "hashIsZero", type := .boolean, accessFlags := 2, slot := 3, constantValue := 0 }, { name := "serialVersionUID", type := .long, accessFlags := 26, slot := 0, constantValue := 0 }, { name := "COMPACT_STRINGS", type := .boolean, accessFlags := 24, slot := 1, constantValue := 0 }, { name := "serialPersistentFields", type := (.array (.object "java/io/ObjectStreamField")), accessFlags := 26, slot := 2, constantValue := 0 }, { name := "REPL", type := .char, accessFlags := 26, slot := 3, constantValue := 0 }, { name := "CASE_INSENSITIVE_ORDER", type := (.object "java/util/Comparator"), accessFlags := 25, slot := 4, constantValue := 0 }, { name := "LATIN1", type := .byte, accessFlags := 24, slot := 5, constantValue := 0 }, { name := "UTF16", type := .byte, accessFlags := 24, slot := 6, constantValue := 0 }]
  methods := #[k18m0]
  instanceTypes := #[(.array .byte), .byte, .int, .boolean]
  staticTypes := #[.long, .boolean, (.array (.object "java/io/ObjectStreamField")), .char, (.object "java/util/Comparator"), .byte, .byte]
  resolved := Array.replicate 1451 none
  statics := none }

def pool19 : Array CpInfo := pool [(1, .class_ 2), (0, u "java/lang/Math"), (1, .class_ 6), (1, u "java/lang/Object"), (0, u "<init>"), (0, u "()V"), (89, .class_ 100), (1, u "java/lang/Math$RandomNumberGeneratorHolder"), (71, u "negativeZeroFloatBits"), (0, u "J"), (2, u "negativeZeroDoubleBits"), (21, u "max"), (46, u "$assertionsDisabled"), (0, u "Z"), (88, u "(II)I"), (2, u "twoToTheDoubleScaleDown"), (0, u "D"), (4, u "twoToTheDoubleScaleUp"), (9, u "E"), (3, u "PI"), (2, u "TAU"), (2, u "DEGREES_TO_RADIANS"), (0, u "RADIANS_TO_DEGREES")] 94

def k19m0 : Method := { name := "<init>", desc := "()V", sig := { parameters := [], returnType := none }, accessFlags := 2, code := none }
def k19c1 : Code := { maxStack := 2, maxLocals := 2, code := jdk_29_method_65_code, exceptionTable := #[], attributes := #[] }
def k19m1 : Method := { name := "max", desc := "(II)I", sig := { parameters := [.int, .int], returnType := some .int }, accessFlags := 9, code := some k19c1 }
/-- java/lang/Math -/
def k19 : Class := { plain "java/lang/Math" (some 0) with
  accessFlags := 49
  interfaces := #[]
  cf := some (fileOf pool19 1 #[.nestMembers #[98]] #[{ accessFlags := 2, nameIndex := 7, descriptorIndex := 8, attributes := #[] }, { accessFlags := 9, nameIndex := 198, descriptorIndex := 335, attributes := #[] }] 49 4 #[] #[{ accessFlags := 25, nameIndex := 354, descriptorIndex := 339, attributes := #[] }, { accessFlags := 25, nameIndex := 358, descriptorIndex := 339, attributes := #[] }, { accessFlags := 25, nameIndex := 361, descriptorIndex := 339, attributes := #[] }, { accessFlags := 26, nameIndex := 364, descriptorIndex := 339, attributes := #[] }, { accessFlags := 26, nameIndex := 365, descriptorIndex := 339, attributes := #[] }, { accessFlags := 26, nameIndex := 172, descriptorIndex := 173, attributes := #[] }, { accessFlags := 26, nameIndex := 176, descriptorIndex := 173, attributes := #[] }, { accessFlags := 8, nameIndex := 344, descriptorIndex := 339, attributes := #[] }, { accessFlags := 8, nameIndex := 338, descriptorIndex := 339, attributes := #[] }, { accessFlags := 4120, nameIndex := 245, descriptorIndex := 246, attributes := #[] }])
  fields := #[{ name := "E", type := .double, accessFlags := 25, slot := 0, constantValue := 0 }, { name := "PI", type := .double, accessFlags := 25, slot := 1, constantValue := 0 }, { name := "TAU", type := .double, accessFlags := 25, slot := 2, constantValue := 0 }, { name := "DEGREES_TO_RADIANS", type := .double, accessFlags := 26, slot := 3, constantValue := 0 }, { name := "RADIANS_TO_DEGREES", type := .double, accessFlags := 26, slot := 4, constantValue := 0 }, { name := "negativeZeroFloatBits", type := .long, accessFlags := 26, slot := 5, constantValue := 0 }, { name := "negativeZeroDoubleBits", type := .long, accessFlags := 26, slot := 6, constantValue := 0 }, { name := "twoToTheDoubleScaleUp", type := .double, accessFlags := 8, slot := 7, constantValue := 0 }, { name := "twoToTheDoubleScaleDown", type := .double, accessFlags := 8, slot := 8, constantValue := 0 }, { name := "$assertionsDisabled", type := .boolean, accessFlags := 4120, slot := 9, constantValue := 0 }]
  methods := #[k19m0, k19m1]
  instanceTypes := #[]
  staticTypes := #[.double, .double, .double, .double, .double, .long, .long, .double, .double, .boolean]
  resolved := Array.replicate 460 none
  statics := none }

def pool20 : Array CpInfo := pool [(1, .methodref 2 3), (0, .class_ 4), (0, .nameAndType 5 6), (0, u "java/lang/Object"), (0, u "<init>"), (0, u "()V"), (0, .class_ 8), (0, u "com/example/packhouse/packhouse/Hosts"), (0, .fieldref 7 10), (0, .nameAndType 11 12), (0, u "usedCpu"), (0, u "[J"), (0, .fieldref 7 14), (0, .nameAndType 15 12), (0, u "usedMem"), (0, .fieldref 7 17), (0, .nameAndType 18 19), (0, u "hostCpu"), (0, u "J"), (0, .fieldref 7 21), (0, .nameAndType 22 19), (0, u "hostMem"), (0, .fieldref 7 24), (0, .nameAndType 25 26), (0, u "vms"), (0, u "Ljava/util/List;"), (0, .interfaceMethodref 28 29), (0, .class_ 30), (0, .nameAndType 31 32), (0, u "java/util/List"), (0, u "size"), (0, u "()I"), (0, .fieldref 7 34), (0, .nameAndType 35 36), (0, u "hostOf"), (0, u "[I"), (0, .methodref 38 39), (0, .class_ 40), (0, .nameAndType 41 42), (0, u "java/util/Arrays"), (0, u "fill"), (0, u "([II)V"), (0, .fieldref 7 44), (0, .nameAndType 45 46), (0, u "count"), (0, u "I"), (4, .interfaceMethodref 28 52), (0, .nameAndType 53 54), (0, u "get"), (0, u "(I)Ljava/lang/Object;"), (0, .class_ 56), (0, u "com/example/packhouse/packhouse/Vm"), (0, .methodref 55 58), (0, .nameAndType 59 60), (0, u "cpu"), (0, u "()J"), (0, .methodref 55 62), (0, .nameAndType 63 60), (0, u "mem"), (0, .methodref 7 65), (0, .nameAndType 66 67), (0, u "fits"), (0, u "(IJJ)Z"), (21, u "INITIAL_HOSTS"), (4, u "(JJLjava/util/List;)V"), (5, u "open"), (4, u "put"), (0, u "(II)V")] 21

def k20c0 : Code := { maxStack := 3, maxLocals := 6, code := prog_11_method_1_code, exceptionTable := #[], attributes := #[] }
def k20m0 : Method := { name := "<init>", desc := "(JJLjava/util/List;)V", sig := { parameters := [.long, .long, (.object "java/util/List")], returnType := none }, accessFlags := 0, code := some k20c0 }
def k20c1 : Code := { maxStack := 4, maxLocals := 1, code := prog_11_method_6_code, exceptionTable := #[], attributes := #[] }
def k20m1 : Method := { name := "open", desc := "()I", sig := { parameters := [], returnType := some .int }, accessFlags := 0, code := some k20c1 }
def k20c2 : Code := { maxStack := 6, maxLocals := 6, code := prog_11_method_7_code, exceptionTable := #[], attributes := #[] }
def k20m2 : Method := { name := "fits", desc := "(IJJ)Z", sig := { parameters := [.int, .long, .long], returnType := some .boolean }, accessFlags := 0, code := some k20c2 }
def k20c3 : Code := { maxStack := 6, maxLocals := 4, code := prog_11_method_10_code, exceptionTable := #[], attributes := #[] }
def k20m3 : Method := { name := "put", desc := "(II)V", sig := { parameters := [.int, .int], returnType := none }, accessFlags := 0, code := some k20c3 }
/-- com/example/packhouse/packhouse/Hosts -/
def k20 : Class := { plain "com/example/packhouse/packhouse/Hosts" (some 0) with
  accessFlags := 48
  interfaces := #[]
  cf := some (fileOf pool20 7 #[] #[{ accessFlags := 0, nameIndex := 5, descriptorIndex := 94, attributes := #[] }, { accessFlags := 0, nameIndex := 100, descriptorIndex := 32, attributes := #[] }, { accessFlags := 0, nameIndex := 66, descriptorIndex := 67, attributes := #[] }, { accessFlags := 0, nameIndex := 105, descriptorIndex := 106, attributes := #[] }] 48 2 #[] #[{ accessFlags := 26, nameIndex := 89, descriptorIndex := 46, attributes := #[] }, { accessFlags := 18, nameIndex := 18, descriptorIndex := 19, attributes := #[] }, { accessFlags := 18, nameIndex := 22, descriptorIndex := 19, attributes := #[] }, { accessFlags := 18, nameIndex := 25, descriptorIndex := 26, attributes := #[] }, { accessFlags := 18, nameIndex := 35, descriptorIndex := 36, attributes := #[] }, { accessFlags := 2, nameIndex := 11, descriptorIndex := 12, attributes := #[] }, { accessFlags := 2, nameIndex := 15, descriptorIndex := 12, attributes := #[] }, { accessFlags := 2, nameIndex := 45, descriptorIndex := 46, attributes := #[] }])
  fields := #[{ name := "INITIAL_HOSTS", type := .int, accessFlags := 26, slot := 0, constantValue := 0 }, { name := "hostCpu", type := .long, accessFlags := 18, slot := 0, constantValue := 0 }, { name := "hostMem", type := .long, accessFlags := 18, slot := 1, constantValue := 0 }, { name := "vms", type := (.object "java/util/List"), accessFlags := 18, slot := 2, constantValue := 0 }, { name := "hostOf", type := (.array .int), accessFlags := 18, slot := 3, constantValue := 0 }, { name := "usedCpu", type := (.array .long), accessFlags := 2, slot := 4, constantValue := 0 }, { name := "usedMem", type := (.array .long), accessFlags := 2, slot := 5, constantValue := 0 }, { name := "count", type := .int, accessFlags := 2, slot := 6, constantValue := 0 }]
  methods := #[k20m0, k20m1, k20m2, k20m3]
  instanceTypes := #[.long, .long, (.object "java/util/List"), (.array .int), (.array .long), (.array .long), .int]
  staticTypes := #[.int]
  resolved := Array.replicate 128 none
  statics := none }

def pool21 : Array CpInfo := pool [(2, .class_ 4), (1, u "java/lang/Object"), (0, u "<init>"), (0, u "()V"), (7, .class_ 16), (1, u "java/util/Arrays"), (57, .class_ 76), (1, u "java/util/Arrays$NaturalOrder"), (36, .class_ 115), (1, u "java/util/Arrays$LegacyMergeSort"), (1, u "Z"), (257, .class_ 376), (0, u "java/util/Arrays$ArrayList"), (68, u "$assertionsDisabled"), (269, u "MIN_ARRAY_SORT_GRAN"), (0, u "I"), (2, u "INSERTIONSORT_THRESHOLD"), (120, u "fill"), (4, u "([II)V"), (129, .class_ 976), (0, u "java/util/Arrays$ArrayItr")] 52

def k21m0 : Method := { name := "<init>", desc := "()V", sig := { parameters := [], returnType := none }, accessFlags := 2, code := none }
def k21c1 : Code := { maxStack := 3, maxLocals := 4, code := jdk_65_method_103_code, exceptionTable := #[], attributes := #[] }
def k21m1 : Method := { name := "fill", desc := "([II)V", sig := { parameters := [(.array .int), .int], returnType := none }, accessFlags := 9, code := some k21c1 }
/-- java/util/Arrays -/
def k21 : Class := { plain "java/util/Arrays" (some 0) with
  accessFlags := 49
  interfaces := #[]
  cf := some (fileOf pool21 14 #[.nestMembers #[975, 375, 113, 74]] #[{ accessFlags := 2, nameIndex := 5, descriptorIndex := 6, attributes := #[] }, { accessFlags := 9, nameIndex := 840, descriptorIndex := 845, attributes := #[] }] 49 2 #[] #[{ accessFlags := 26, nameIndex := 715, descriptorIndex := 716, attributes := #[] }, { accessFlags := 26, nameIndex := 719, descriptorIndex := 716, attributes := #[] }, { accessFlags := 4120, nameIndex := 445, descriptorIndex := 117, attributes := #[] }])
  fields := #[{ name := "MIN_ARRAY_SORT_GRAN", type := .int, accessFlags := 26, slot := 0, constantValue := 0 }, { name := "INSERTIONSORT_THRESHOLD", type := .int, accessFlags := 26, slot := 1, constantValue := 0 }, { name := "$assertionsDisabled", type := .boolean, accessFlags := 4120, slot := 2, constantValue := 0 }]
  methods := #[k21m0, k21m1]
  instanceTypes := #[]
  staticTypes := #[.int, .int, .boolean]
  resolved := Array.replicate 1029 none
  statics := none }

def pool22 : Array CpInfo := pool [(2, .class_ 4), (1, u "java/lang/Object"), (0, u "<init>"), (0, u "()V"), (35, .class_ 44), (1, u "java/util/Objects"), (60, .methodref 106 107), (0, .class_ 108), (0, .nameAndType 109 110), (0, u "jdk/internal/util/Preconditions"), (0, u "checkIndex"), (0, u "(IILjava/util/function/BiFunction;)I"), (60, u "(II)I")] 12

def k22m0 : Method := { name := "<init>", desc := "()V", sig := { parameters := [], returnType := none }, accessFlags := 2, code := none }
def k22c1 : Code := { maxStack := 3, maxLocals := 2, code := jdk_31_method_17_code, exceptionTable := #[], attributes := #[] }
def k22m1 : Method := { name := "checkIndex", desc := "(II)I", sig := { parameters := [.int, .int], returnType := some .int }, accessFlags := 9, code := some k22c1 }
/-- java/util/Objects -/
def k22 : Class := { plain "java/util/Objects" (some 0) with
  accessFlags := 49
  interfaces := #[]
  cf := some (fileOf pool22 42 #[] #[{ accessFlags := 2, nameIndex := 5, descriptorIndex := 6, attributes := #[] }, { accessFlags := 9, nameIndex := 109, descriptorIndex := 171, attributes := #[] }] 49 2 #[] #[])
  fields := #[]
  methods := #[k22m0, k22m1]
  instanceTypes := #[]
  staticTypes := #[]
  resolved := Array.replicate 184 none
  statics := none }

def pool23 : Array CpInfo := pool [(2, .class_ 4), (1, u "java/lang/Object"), (0, u "<init>"), (0, u "()V"), (17, .class_ 26), (1, u "jdk/internal/util/Preconditions"), (6, u "checkIndex"), (21, .class_ 56), (0, u "jdk/internal/util/Preconditions$4"), (57, .class_ 115), (0, u "jdk/internal/util/Preconditions$1"), (7, u "SIOOBE_FORMATTER"), (0, u "Ljava/util/function/BiFunction;"), (0, .class_ 126), (0, u "jdk/internal/util/Preconditions$2"), (3, u "AIOOBE_FORMATTER"), (0, .class_ 132), (0, u "jdk/internal/util/Preconditions$3"), (3, u "IOOBE_FORMATTER"), (41, u "(IILjava/util/function/BiFunction;)I")] 15

def k23m0 : Method := { name := "<init>", desc := "()V", sig := { parameters := [], returnType := none }, accessFlags := 1, code := none }
def k23c1 : Code := { maxStack := 3, maxLocals := 3, code := jdk_41_method_11_code, exceptionTable := #[], attributes := #[] }
def k23m1 : Method := { name := "checkIndex", desc := "(IILjava/util/function/BiFunction;)I", sig := { parameters := [.int, .int, (.object "java/util/function/BiFunction")], returnType := some .int }, accessFlags := 9, code := some k23c1 }
/-- jdk/internal/util/Preconditions -/
def k23 : Class := { plain "jdk/internal/util/Preconditions" (some 0) with
  accessFlags := 33
  interfaces := #[]
  cf := some (fileOf pool23 24 #[.nestMembers #[55, 131, 125, 114]] #[{ accessFlags := 1, nameIndex := 5, descriptorIndex := 6, attributes := #[] }, { accessFlags := 9, nameIndex := 33, descriptorIndex := 178, attributes := #[] }] 33 2 #[] #[{ accessFlags := 25, nameIndex := 123, descriptorIndex := 124, attributes := #[] }, { accessFlags := 25, nameIndex := 130, descriptorIndex := 124, attributes := #[] }, { accessFlags := 25, nameIndex := 136, descriptorIndex := 124, attributes := #[] }])
  fields := #[{ name := "SIOOBE_FORMATTER", type := (.object "java/util/function/BiFunction"), accessFlags := 25, slot := 0, constantValue := 0 }, { name := "AIOOBE_FORMATTER", type := (.object "java/util/function/BiFunction"), accessFlags := 25, slot := 1, constantValue := 0 }, { name := "IOOBE_FORMATTER", type := (.object "java/util/function/BiFunction"), accessFlags := 25, slot := 2, constantValue := 0 }]
  methods := #[k23m0, k23m1]
  instanceTypes := #[]
  staticTypes := #[(.object "java/util/function/BiFunction"), (.object "java/util/function/BiFunction"), (.object "java/util/function/BiFunction")]
  resolved := Array.replicate 194 none
  statics := none }

/-- the primitive byte -/
def k24 : Class := { plain "byte" none with kind := .primitive 'B', accessFlags := 0x411 }
/-- [B -/
def k25 : Class := { plain "[B" (some 0) with kind := .array 24 .byte, interfaces := #[9, 10], accessFlags := 1041 }

/-- the primitive int -/
def k26 : Class := { plain "int" none with kind := .primitive 'I', accessFlags := 0x411 }
/-- [I -/
def k27 : Class := { plain "[I" (some 0) with kind := .array 26 .int, interfaces := #[9, 10], accessFlags := 1041 }

/-- the primitive long -/
def k28 : Class := { plain "long" none with kind := .primitive 'J', accessFlags := 0x411 }
/-- [J -/
def k29 : Class := { plain "[J" (some 0) with kind := .array 28 .long, interfaces := #[9, 10], accessFlags := 1041 }

/-- [Ljava/lang/Object; -/
def k30 : Class := { plain "[Ljava/lang/Object;" (some 0) with kind := .array 0 (.object "java/lang/Object"), interfaces := #[9, 10], accessFlags := 1041 }

def heap : Heap := #[{ cls := 11, slots := #[.long 0, .int 0, .ref 1, .ref 1], vm := .statics 11 },
  { cls := 30, slots := #[], vm := .none }]
def classes : Array Class := #[k0, k1, k2, k3, k4, k5, k6, k7, k8, k9, k10, k11, k12, k13, k14, k15, k16, k17, k18, k19, k20, k21, k22, k23, k24, k25, k26, k27, k28, k29, k30]
def interned : List (Array UInt16 × Addr) := []
def slotsUsed : Nat := 4
def theMethod : MethodId := ⟨1, 1⟩
def args0 : Array Value := #[.long 5, .long 5, .long 5, .long 5, .long 5, .long 5]
def aboutOver (below : List Frame) : State where
  vm := { classes := classes, interned := interned.toArray }
  heap := heap
  slotsUsed := slotsUsed
  threads := #[{ frames := .invoking theMethod args0 :: below }]
def below0 : List Frame := [.native { method := ⟨0, 0⟩, args := #[] }]
def about1 : State := aboutOver below0
def p0 : Program := .bare "" "" ""
def e0 : Env := launch0.env 0 0 0
theorem w_frames : about1.frames = Frame.invoking theMethod args0 :: below0 := rfl
set_option maxRecDepth 65536 in
theorem w_args : argsFit about1.vm theMethod args0 = true := by decide +kernel
set_option maxRecDepth 65536 in
theorem w_heap : heapFits about1 = true := by decide +kernel
set_option maxRecDepth 65536 in
theorem w_runnable : about1.curStatus? = some .runnable := by decide +kernel
set_option maxRecDepth 65536 in
theorem w_alone : about1.alone = true := by decide +kernel
set_option maxRecDepth 65536 in
theorem w_named : about1.methodNamed? x = some theMethod := by decide +kernel
set_option maxRecDepth 65536 in
theorem w_hears : about1.hears theMethod below0 = true := by decide +kernel
set_option maxRecDepth 65536 in
theorem w_ripe : about1.ripe theMethod args0 below0 = true := by decide +kernel
theorem w_running : about1.status = .running := rfl
set_option maxRecDepth 65536 in
theorem w_room : about1.hasRoom e0.platform room_1 = true :=
  launch0.hasRoom_least _ room_1 (by decide +kernel) (by decide +kernel) (by decide +kernel) (by decide +kernel) (by decide +kernel) (by decide +kernel)
theorem allAtoms_all (ts : List Jvm.Cond) (a : Array Jvm.Value) (st : Jvm.State) : (allAtoms ts).before a st = ts.all (fun c => c.before a st) := by
  induction ts with
  | nil => rfl
  | cons c t ih =>
    show (Jvm.Cond.and c (allAtoms t)).before a st = _
    rw [Jvm.Cond.before_and, ih, List.all_cons]
def words1 : List Jvm.Cond := Jvm.Cond.code x code maxLocals ret :: tables_1
/-- a 'code' word, met by the world's own term for the bytes: nothing is compared byte by byte -/
theorem code_word {y : MethodName} {bytes : ByteArray} {mx : Nat} {rt : Option FieldType} {a : Array Value} {s : State} {m : MethodId} {meth : Method} {c : Code} (h1 : s.methodNamed? y = some m) (h2 : s.vm.method? m = some meth) (h3 : meth.code = some c) (h4 : c.code = bytes)
    (h5 : (c.maxLocals == mx && c.exceptionTable.isEmpty && decide (c.maxStack ≤ mostOperands) && decide (meth.sig.returnType = rt) && !meth.locks && decide (parseMethodDescriptor y.desc = some meth.sig)) = true) : (Jvm.Cond.code y bytes mx rt).before a s = true := by
  simp only [Bool.and_eq_true, beq_iff_eq, Bool.not_eq_true', decide_eq_true_eq] at h5
  obtain ⟨⟨⟨⟨⟨g1, g2⟩, g3⟩, g4⟩, g5⟩, g6⟩ := h5
  simp [Cond.before, Cond.holds, Cond.value, h1, h2, h3, h4, g1, g2, g3, g4, g5, g6]
def isCode : Jvm.Cond → Bool
  | .code _ _ _ _ => true
  | _ => false
theorem all_split {L : List Jvm.Cond} {P : Jvm.Cond → Bool} (h1 : L.all (fun c => isCode c || P c) = true) (h2 : ∀ c ∈ L.filter isCode, P c = true) : L.all P = true := by
  refine List.all_eq_true.mpr fun c hc => ?_
  have h := List.all_eq_true.mp h1 c hc
  rcases Bool.eq_false_or_eq_true (isCode c) with hi | hi
  · exact h2 c (List.mem_filter.mpr ⟨hc, hi⟩)
  · simpa [hi] using h
set_option maxRecDepth 65536 in
theorem w_c0 : (Jvm.Cond.code x code maxLocals ret).before args0 about1 = true := code_word (m := ⟨1, 1⟩) (meth := k1m1) (c := k1c1) (by decide +kernel) rfl rfl rfl (by decide +kernel)
set_option maxRecDepth 65536 in
theorem w_c1 : (Jvm.Cond.code ({ cls := "java/util/ArrayList", name := "<init>", desc := "()V" } : Jvm.MethodName) jdk_38_method_2_code (1 : Nat) (Option.none : Option Jvm.ClassFile.FieldType)).before args0 about1 = true := code_word (m := ⟨11, 0⟩) (meth := k11m0) (c := k11c0) (by decide +kernel) rfl rfl rfl (by decide +kernel)
set_option maxRecDepth 65536 in
theorem w_c2 : (Jvm.Cond.code ({ cls := "java/util/AbstractList", name := "<init>", desc := "()V" } : Jvm.MethodName) jdk_39_method_1_code (1 : Nat) (Option.none : Option Jvm.ClassFile.FieldType)).before args0 about1 = true := code_word (m := ⟨7, 0⟩) (meth := k7m0) (c := k7c0) (by decide +kernel) rfl rfl rfl (by decide +kernel)
set_option maxRecDepth 65536 in
theorem w_c3 : (Jvm.Cond.code ({ cls := "java/util/AbstractCollection", name := "<init>", desc := "()V" } : Jvm.MethodName) jdk_22_method_1_code (1 : Nat) (Option.none : Option Jvm.ClassFile.FieldType)).before args0 about1 = true := code_word (m := ⟨4, 0⟩) (meth := k4m0) (c := k4c0) (by decide +kernel) rfl rfl rfl (by decide +kernel)
set_option maxRecDepth 65536 in
theorem w_c4 : (Jvm.Cond.code ({ cls := "java/lang/Object", name := "<init>", desc := "()V" } : Jvm.MethodName) object_method_1_code (1 : Nat) (Option.none : Option Jvm.ClassFile.FieldType)).before args0 about1 = true := code_word (m := ⟨0, 0⟩) (meth := k0m0) (c := k0c0) (by decide +kernel) rfl rfl rfl (by decide +kernel)
set_option maxRecDepth 65536 in
theorem w_c5 : (Jvm.Cond.code ({ cls := "com/example/packhouse/packhouse/Vm", name := "<init>", desc := "(Ljava/lang/String;JJ)V" } : Jvm.MethodName) prog_37_method_1_code (6 : Nat) (Option.none : Option Jvm.ClassFile.FieldType)).before args0 about1 = true := code_word (m := ⟨13, 0⟩) (meth := k13m0) (c := k13c0) (by decide +kernel) rfl rfl rfl (by decide +kernel)
set_option maxRecDepth 65536 in
theorem w_c6 : (Jvm.Cond.code ({ cls := "java/lang/Record", name := "<init>", desc := "()V" } : Jvm.MethodName) jdk_30_method_1_code (1 : Nat) (Option.none : Option Jvm.ClassFile.FieldType)).before args0 about1 = true := code_word (m := ⟨12, 0⟩) (meth := k12m0) (c := k12c0) (by decide +kernel) rfl rfl rfl (by decide +kernel)
set_option maxRecDepth 65536 in
theorem w_c7 : (Jvm.Cond.code ({ cls := "java/util/ArrayList", name := "add", desc := "(Ljava/lang/Object;)Z" } : Jvm.MethodName) jdk_38_method_25_code (2 : Nat) (Option.some Jvm.ClassFile.FieldType.boolean)).before args0 about1 = true := code_word (m := ⟨11, 7⟩) (meth := k11m7) (c := k11c7) (by decide +kernel) rfl rfl rfl (by decide +kernel)
set_option maxRecDepth 65536 in
theorem w_c8 : (Jvm.Cond.code ({ cls := "java/util/ArrayList", name := "add", desc := "(Ljava/lang/Object;[Ljava/lang/Object;I)V" } : Jvm.MethodName) jdk_38_method_24_code (4 : Nat) (Option.none : Option Jvm.ClassFile.FieldType)).before args0 about1 = true := code_word (m := ⟨11, 6⟩) (meth := k11m6) (c := k11c6) (by decide +kernel) rfl rfl rfl (by decide +kernel)
set_option maxRecDepth 65536 in
theorem w_c9 : (Jvm.Cond.code ({ cls := "java/util/ArrayList", name := "grow", desc := "()[Ljava/lang/Object;" } : Jvm.MethodName) jdk_38_method_7_code (1 : Nat) (Option.some (Jvm.ClassFile.FieldType.array (Jvm.ClassFile.FieldType.object "java/lang/Object")))).before args0 about1 = true := code_word (m := ⟨11, 2⟩) (meth := k11m2) (c := k11c2) (by decide +kernel) rfl rfl rfl (by decide +kernel)
set_option maxRecDepth 65536 in
theorem w_c10 : (Jvm.Cond.code ({ cls := "java/util/ArrayList", name := "grow", desc := "(I)[Ljava/lang/Object;" } : Jvm.MethodName) jdk_38_method_6_code (4 : Nat) (Option.some (Jvm.ClassFile.FieldType.array (Jvm.ClassFile.FieldType.object "java/lang/Object")))).before args0 about1 = true := code_word (m := ⟨11, 1⟩) (meth := k11m1) (c := k11c1) (by decide +kernel) rfl rfl rfl (by decide +kernel)
set_option maxRecDepth 65536 in
theorem w_c11 : (Jvm.Cond.code ({ cls := "java/lang/Math", name := "max", desc := "(II)I" } : Jvm.MethodName) jdk_29_method_65_code (2 : Nat) (Option.some Jvm.ClassFile.FieldType.int)).before args0 about1 = true := code_word (m := ⟨19, 1⟩) (meth := k19m1) (c := k19c1) (by decide +kernel) rfl rfl rfl (by decide +kernel)
set_option maxRecDepth 65536 in
theorem w_c12 : (Jvm.Cond.code ({ cls := "com/example/packhouse/packhouse/Hosts", name := "<init>", desc := "(JJLjava/util/List;)V" } : Jvm.MethodName) prog_11_method_1_code (6 : Nat) (Option.none : Option Jvm.ClassFile.FieldType)).before args0 about1 = true := code_word (m := ⟨20, 0⟩) (meth := k20m0) (c := k20c0) (by decide +kernel) rfl rfl rfl (by decide +kernel)
set_option maxRecDepth 65536 in
theorem w_c13 : (Jvm.Cond.code ({ cls := "java/util/ArrayList", name := "size", desc := "()I" } : Jvm.MethodName) jdk_38_method_8_code (1 : Nat) (Option.some Jvm.ClassFile.FieldType.int)).before args0 about1 = true := code_word (m := ⟨11, 3⟩) (meth := k11m3) (c := k11c3) (by decide +kernel) rfl rfl rfl (by decide +kernel)
set_option maxRecDepth 65536 in
theorem w_c14 : (Jvm.Cond.code ({ cls := "java/util/Arrays", name := "fill", desc := "([II)V" } : Jvm.MethodName) jdk_65_method_103_code (4 : Nat) (Option.none : Option Jvm.ClassFile.FieldType)).before args0 about1 = true := code_word (m := ⟨21, 1⟩) (meth := k21m1) (c := k21c1) (by decide +kernel) rfl rfl rfl (by decide +kernel)
set_option maxRecDepth 65536 in
theorem w_c15 : (Jvm.Cond.code ({ cls := "com/example/packhouse/packhouse/Hosts", name := "open", desc := "()I" } : Jvm.MethodName) prog_11_method_6_code (1 : Nat) (Option.some Jvm.ClassFile.FieldType.int)).before args0 about1 = true := code_word (m := ⟨20, 1⟩) (meth := k20m1) (c := k20c1) (by decide +kernel) rfl rfl rfl (by decide +kernel)
set_option maxRecDepth 65536 in
theorem w_c16 : (Jvm.Cond.code ({ cls := "com/example/packhouse/packhouse/Hosts", name := "fits", desc := "(IJJ)Z" } : Jvm.MethodName) prog_11_method_7_code (6 : Nat) (Option.some Jvm.ClassFile.FieldType.boolean)).before args0 about1 = true := code_word (m := ⟨20, 2⟩) (meth := k20m2) (c := k20c2) (by decide +kernel) rfl rfl rfl (by decide +kernel)
set_option maxRecDepth 65536 in
theorem w_c17 : (Jvm.Cond.code ({ cls := "com/example/packhouse/packhouse/Hosts", name := "put", desc := "(II)V" } : Jvm.MethodName) prog_11_method_10_code (4 : Nat) (Option.none : Option Jvm.ClassFile.FieldType)).before args0 about1 = true := code_word (m := ⟨20, 3⟩) (meth := k20m3) (c := k20c3) (by decide +kernel) rfl rfl rfl (by decide +kernel)
set_option maxRecDepth 65536 in
theorem w_c18 : (Jvm.Cond.code ({ cls := "java/util/ArrayList", name := "get", desc := "(I)Ljava/lang/Object;" } : Jvm.MethodName) jdk_38_method_20_code (2 : Nat) (Option.some (Jvm.ClassFile.FieldType.object "java/lang/Object"))).before args0 about1 = true := code_word (m := ⟨11, 5⟩) (meth := k11m5) (c := k11c5) (by decide +kernel) rfl rfl rfl (by decide +kernel)
set_option maxRecDepth 65536 in
theorem w_c19 : (Jvm.Cond.code ({ cls := "java/util/Objects", name := "checkIndex", desc := "(II)I" } : Jvm.MethodName) jdk_31_method_17_code (2 : Nat) (Option.some Jvm.ClassFile.FieldType.int)).before args0 about1 = true := code_word (m := ⟨22, 1⟩) (meth := k22m1) (c := k22c1) (by decide +kernel) rfl rfl rfl (by decide +kernel)
set_option maxRecDepth 65536 in
theorem w_c20 : (Jvm.Cond.code ({ cls := "jdk/internal/util/Preconditions", name := "checkIndex", desc := "(IILjava/util/function/BiFunction;)I" } : Jvm.MethodName) jdk_41_method_11_code (3 : Nat) (Option.some Jvm.ClassFile.FieldType.int)).before args0 about1 = true := code_word (m := ⟨23, 1⟩) (meth := k23m1) (c := k23c1) (by decide +kernel) rfl rfl rfl (by decide +kernel)
set_option maxRecDepth 65536 in
theorem w_c21 : (Jvm.Cond.code ({ cls := "java/util/ArrayList", name := "elementData", desc := "(I)Ljava/lang/Object;" } : Jvm.MethodName) jdk_38_method_18_code (2 : Nat) (Option.some (Jvm.ClassFile.FieldType.object "java/lang/Object"))).before args0 about1 = true := code_word (m := ⟨11, 4⟩) (meth := k11m4) (c := k11c4) (by decide +kernel) rfl rfl rfl (by decide +kernel)
set_option maxRecDepth 65536 in
theorem w_c22 : (Jvm.Cond.code ({ cls := "com/example/packhouse/packhouse/Vm", name := "cpu", desc := "()J" } : Jvm.MethodName) prog_37_method_7_code (1 : Nat) (Option.some Jvm.ClassFile.FieldType.long)).before args0 about1 = true := code_word (m := ⟨13, 1⟩) (meth := k13m1) (c := k13c1) (by decide +kernel) rfl rfl rfl (by decide +kernel)
set_option maxRecDepth 65536 in
theorem w_c23 : (Jvm.Cond.code ({ cls := "com/example/packhouse/packhouse/Vm", name := "mem", desc := "()J" } : Jvm.MethodName) prog_37_method_8_code (1 : Nat) (Option.some Jvm.ClassFile.FieldType.long)).before args0 about1 = true := code_word (m := ⟨13, 2⟩) (meth := k13m2) (c := k13c2) (by decide +kernel) rfl rfl rfl (by decide +kernel)
def codes1 : List Jvm.Cond := [Jvm.Cond.code x code maxLocals ret, Jvm.Cond.code ({ cls := "java/util/ArrayList", name := "<init>", desc := "()V" } : Jvm.MethodName) jdk_38_method_2_code (1 : Nat) (Option.none : Option Jvm.ClassFile.FieldType), Jvm.Cond.code ({ cls := "java/util/AbstractList", name := "<init>", desc := "()V" } : Jvm.MethodName) jdk_39_method_1_code (1 : Nat) (Option.none : Option Jvm.ClassFile.FieldType), Jvm.Cond.code ({ cls := "java/util/AbstractCollection", name := "<init>", desc := "()V" } : Jvm.MethodName) jdk_22_method_1_code (1 : Nat) (Option.none : Option Jvm.ClassFile.FieldType), Jvm.Cond.code ({ cls := "java/lang/Object", name := "<init>", desc := "()V" } : Jvm.MethodName) object_method_1_code (1 : Nat) (Option.none : Option Jvm.ClassFile.FieldType), Jvm.Cond.code ({ cls := "com/example/packhouse/packhouse/Vm", name := "<init>", desc := "(Ljava/lang/String;JJ)V" } : Jvm.MethodName) prog_37_method_1_code (6 : Nat) (Option.none : Option Jvm.ClassFile.FieldType), Jvm.Cond.code ({ cls := "java/lang/Record", name := "<init>", desc := "()V" } : Jvm.MethodName) jdk_30_method_1_code (1 : Nat) (Option.none : Option Jvm.ClassFile.FieldType), Jvm.Cond.code ({ cls := "java/util/ArrayList", name := "add", desc := "(Ljava/lang/Object;)Z" } : Jvm.MethodName) jdk_38_method_25_code (2 : Nat) (Option.some Jvm.ClassFile.FieldType.boolean), Jvm.Cond.code ({ cls := "java/util/ArrayList", name := "add", desc := "(Ljava/lang/Object;[Ljava/lang/Object;I)V" } : Jvm.MethodName) jdk_38_method_24_code (4 : Nat) (Option.none : Option Jvm.ClassFile.FieldType), Jvm.Cond.code ({ cls := "java/util/ArrayList", name := "grow", desc := "()[Ljava/lang/Object;" } : Jvm.MethodName) jdk_38_method_7_code (1 : Nat) (Option.some (Jvm.ClassFile.FieldType.array (Jvm.ClassFile.FieldType.object "java/lang/Object"))), Jvm.Cond.code ({ cls := "java/util/ArrayList", name := "grow", desc := "(I)[Ljava/lang/Object;" } : Jvm.MethodName) jdk_38_method_6_code (4 : Nat) (Option.some (Jvm.ClassFile.FieldType.array (Jvm.ClassFile.FieldType.object "java/lang/Object"))), Jvm.Cond.code ({ cls := "java/lang/Math", name := "max", desc := "(II)I" } : Jvm.MethodName) jdk_29_method_65_code (2 : Nat) (Option.some Jvm.ClassFile.FieldType.int), Jvm.Cond.code ({ cls := "com/example/packhouse/packhouse/Hosts", name := "<init>", desc := "(JJLjava/util/List;)V" } : Jvm.MethodName) prog_11_method_1_code (6 : Nat) (Option.none : Option Jvm.ClassFile.FieldType), Jvm.Cond.code ({ cls := "java/util/ArrayList", name := "size", desc := "()I" } : Jvm.MethodName) jdk_38_method_8_code (1 : Nat) (Option.some Jvm.ClassFile.FieldType.int), Jvm.Cond.code ({ cls := "java/util/Arrays", name := "fill", desc := "([II)V" } : Jvm.MethodName) jdk_65_method_103_code (4 : Nat) (Option.none : Option Jvm.ClassFile.FieldType), Jvm.Cond.code ({ cls := "com/example/packhouse/packhouse/Hosts", name := "open", desc := "()I" } : Jvm.MethodName) prog_11_method_6_code (1 : Nat) (Option.some Jvm.ClassFile.FieldType.int), Jvm.Cond.code ({ cls := "com/example/packhouse/packhouse/Hosts", name := "fits", desc := "(IJJ)Z" } : Jvm.MethodName) prog_11_method_7_code (6 : Nat) (Option.some Jvm.ClassFile.FieldType.boolean), Jvm.Cond.code ({ cls := "com/example/packhouse/packhouse/Hosts", name := "put", desc := "(II)V" } : Jvm.MethodName) prog_11_method_10_code (4 : Nat) (Option.none : Option Jvm.ClassFile.FieldType), Jvm.Cond.code ({ cls := "java/util/ArrayList", name := "get", desc := "(I)Ljava/lang/Object;" } : Jvm.MethodName) jdk_38_method_20_code (2 : Nat) (Option.some (Jvm.ClassFile.FieldType.object "java/lang/Object")), Jvm.Cond.code ({ cls := "java/util/Objects", name := "checkIndex", desc := "(II)I" } : Jvm.MethodName) jdk_31_method_17_code (2 : Nat) (Option.some Jvm.ClassFile.FieldType.int), Jvm.Cond.code ({ cls := "jdk/internal/util/Preconditions", name := "checkIndex", desc := "(IILjava/util/function/BiFunction;)I" } : Jvm.MethodName) jdk_41_method_11_code (3 : Nat) (Option.some Jvm.ClassFile.FieldType.int), Jvm.Cond.code ({ cls := "java/util/ArrayList", name := "elementData", desc := "(I)Ljava/lang/Object;" } : Jvm.MethodName) jdk_38_method_18_code (2 : Nat) (Option.some (Jvm.ClassFile.FieldType.object "java/lang/Object")), Jvm.Cond.code ({ cls := "com/example/packhouse/packhouse/Vm", name := "cpu", desc := "()J" } : Jvm.MethodName) prog_37_method_7_code (1 : Nat) (Option.some Jvm.ClassFile.FieldType.long), Jvm.Cond.code ({ cls := "com/example/packhouse/packhouse/Vm", name := "mem", desc := "()J" } : Jvm.MethodName) prog_37_method_8_code (1 : Nat) (Option.some Jvm.ClassFile.FieldType.long)]
set_option maxRecDepth 65536 in
theorem codes_eq : words1.filter isCode = codes1 := rfl
theorem w_codes : ∀ c ∈ words1.filter isCode, c.before args0 about1 = true := by
  rw [codes_eq]
  intro c hc
  simp only [codes1, List.mem_cons, List.not_mem_nil, or_false] at hc
  rcases hc with rfl | rfl | rfl | rfl | rfl | rfl | rfl | rfl | rfl | rfl | rfl | rfl | rfl | rfl | rfl | rfl | rfl | rfl | rfl | rfl | rfl | rfl | rfl | rfl
  · exact w_c0
  · exact w_c1
  · exact w_c2
  · exact w_c3
  · exact w_c4
  · exact w_c5
  · exact w_c6
  · exact w_c7
  · exact w_c8
  · exact w_c9
  · exact w_c10
  · exact w_c11
  · exact w_c12
  · exact w_c13
  · exact w_c14
  · exact w_c15
  · exact w_c16
  · exact w_c17
  · exact w_c18
  · exact w_c19
  · exact w_c20
  · exact w_c21
  · exact w_c22
  · exact w_c23
set_option maxRecDepth 65536 in
theorem w_t1 : (words1.take 24).all (fun c => isCode c || c.before args0 about1) = true := by decide +kernel
set_option maxRecDepth 65536 in
theorem w_t2 : ((words1.drop 24).take 24).all (fun c => isCode c || c.before args0 about1) = true := by decide +kernel
set_option maxRecDepth 65536 in
theorem w_t3 : (((words1.drop 24).drop 24).take 24).all (fun c => isCode c || c.before args0 about1) = true := by decide +kernel
set_option maxRecDepth 65536 in
theorem w_t4 : ((((words1.drop 24).drop 24).drop 24).take 24).all (fun c => isCode c || c.before args0 about1) = true := by decide +kernel
set_option maxRecDepth 65536 in
theorem w_t5 : (((((words1.drop 24).drop 24).drop 24).drop 24).take 24).all (fun c => isCode c || c.before args0 about1) = true := by decide +kernel
set_option maxRecDepth 65536 in
theorem w_t6 : ((((((words1.drop 24).drop 24).drop 24).drop 24).drop 24).take 24).all (fun c => isCode c || c.before args0 about1) = true := by decide +kernel
set_option maxRecDepth 65536 in
theorem w_t7 : (((((((words1.drop 24).drop 24).drop 24).drop 24).drop 24).drop 24).take 24).all (fun c => isCode c || c.before args0 about1) = true := by decide +kernel
set_option maxRecDepth 65536 in
theorem w_t8 : (((((((words1.drop 24).drop 24).drop 24).drop 24).drop 24).drop 24).drop 24).all (fun c => isCode c || c.before args0 about1) = true := by decide +kernel
theorem w_tables : (allAtoms (Jvm.Cond.code x code maxLocals ret :: tables_1)).before args0 about1 = true := by
  rw [allAtoms_all]
  show words1.all (fun c => c.before args0 about1) = true
  refine all_split ?_ w_codes
  rw [← List.take_append_drop 24 words1, List.all_append, w_t1, ← List.take_append_drop 24 (words1.drop 24), List.all_append, w_t2, ← List.take_append_drop 24 ((words1.drop 24).drop 24), List.all_append, w_t3, ← List.take_append_drop 24 (((words1.drop 24).drop 24).drop 24), List.all_append, w_t4, ← List.take_append_drop 24 ((((words1.drop 24).drop 24).drop 24).drop 24), List.all_append, w_t5, ← List.take_append_drop 24 (((((words1.drop 24).drop 24).drop 24).drop 24).drop 24), List.all_append, w_t6, ← List.take_append_drop 24 ((((((words1.drop 24).drop 24).drop 24).drop 24).drop 24).drop 24), List.all_append, w_t7, w_t8]
  rfl
set_option maxRecDepth 65536 in
theorem w_rest : rest_1_c.before args0 about1 = true := by decide +kernel
set_option maxRecDepth 65536 in
theorem w_case : (Jvm.Cond.and given_1 narrow_1).before args0 about1 = true := by decide +kernel
theorem w_applies : (headSpec (Jvm.Cond.code x code maxLocals ret :: tables_1) room_1).applies x e0.platform about1 = true :=
  (Spec.applies_iff w_frames).mpr ⟨w_running, w_runnable, w_alone, w_named, w_hears, w_ripe, w_room, w_tables⟩
theorem atStart : AtStart classFile x code maxLocals ret World_1 tables_1 room_1 Calls_1 rest_1 Pre_1 launch0 p0 e0 about1 theMethod args0 below0 :=
  ⟨lists_1, trivial, launch0.admits_env _ _ _, launch0.least_env, fairChoices_fair.cas, fairChoices_fair.clock, w_frames, w_args, w_heap, w_applies, trivial, w_rest, w_case⟩
end start1
theorem witness_1 : WitnessClaimed_1 := ⟨start1.p0, start1.e0, start1.about1, start1.theMethod, start1.args0, start1.below0, start1.atStart⟩
end Jvm.Pilot.@@N@@
