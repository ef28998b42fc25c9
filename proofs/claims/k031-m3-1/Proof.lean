import JvmDerived
import JvmDerived.Pilot.@@N@@Statement
import JvmDerived.Pilot.@@N@@Code
set_option linter.unusedVariables false
set_option linter.unusedSimpArgs false
namespace Jvm.Pilot.@@N@@
open Jvm Jvm.ClassFile Sem Op Lib Jvm.Free Jvm.Stand Jvm.LawKit Jvm.RoadKit Bundle Jvm.Pilot.@@N@@.Jvm.D
/-! ## own kit: one walk of a body in continuation style; the library's step laws of one family behind it -/
section OwnKit
variable {p : Program} {l : Launch} {e : Env} {R : Room} {s : State} {m : MethodId} {args : Array Value} {below : List Frame} {meth : Method} {c : Code} {Z : State} {own : String} {bytes : ByteArray} {maxL : Nat} {ret : Option FieldType} {nm : String} {n0 km : Nat} {Q : Option Value → Heap → Prop} {RR : State → Outcome → Prop} {T : State} {h : Heap} {cells slots : Nat} {a0 : Array Value} {pc pc' : Nat} {Ls : Array Slot} {S : List Value}
def OwnGo (p : Program) (e : Env) (below : List Frame) (S : State) (RR : State → Outcome → Prop) : Prop :=
  ∃ s₂ o, Steps p.tables e below S s₂ ∧ s₂.status = .running ∧ Ended s₂ below o ∧ RR s₂ o
theorem own_step {S S' : State} (k : OwnGo p e below S' RR) (h : ∀ t, Steps p.tables e below S' t → Steps p.tables e below S t) : OwnGo p e below S RR := by
  obtain ⟨s₂, o, h1, h2⟩ := k
  exact ⟨s₂, o, h _ h1, h2⟩
/-- the context of one body: what holds all along its walk -/
def OwnCx (p : Program) (l : Launch) (e : Env) (R : Room) (s : State) (m : MethodId) (meth : Method) (c : Code) (Z : State) (own : String) (bytes : ByteArray) (maxL : Nat) (ret : Option FieldType) (nm : String) (n0 km : Nat) (Q : Option Value → Heap → Prop) (RR : State → Outcome → Prop) : Prop :=
  p.tables.exec = Jvm.exec ∧ c.code = bytes ∧ c.maxLocals = maxL ∧ Z.Warmed39 s.vm ∧ s.vm.findClass own = some m.cls ∧ meth.name = nm ∧ meth.sig.returnType = ret ∧ meth.locks = false ∧
  ∀ (U : State) (v : Option Value) (L : List Loc), Q v U.heap → km ≤ U.heap.size → Fr n0 L → s.WarmedH U.vm → s.sameButNew ({ U with vm := s.vm } : State) L R.cells R.slots → RR U (.returned v)
/-- where the walk stands: the state T, its heap h, so many cells and slots made -/
def OwnSt (p : Program) (l : Launch) (e : Env) (R : Room) (s : State) (m : MethodId) (args : Array Value) (below : List Frame) (meth : Method) (c : Code) (Z : State) (own : String) (bytes : ByteArray) (maxL : Nat) (ret : Option FieldType) (nm : String) (n0 km : Nat) (Q : Option Value → Heap → Prop) (RR : State → Outcome → Prop) (T : State) (h : Heap) (cells slots : Nat) : Prop :=
  OwnCx p l e R s m meth c Z own bytes maxL ret nm n0 km Q RR ∧ T.heap = h ∧ km ≤ h.size ∧ ∃ locs, Stand p l e R s m args below meth c T locs cells slots ∧ Fr n0 locs
/-- a body's contract: called with these arguments at the heap h it returns v and leaves a heap, with Q -/
def OwnMet (l : Launch) (Z : State) (y : MethodName) (bytes : ByteArray) (maxL : Nat) (ret : Option FieldType) (rm : Room) (as' : Array Value) (h : Heap) (n0 : Nat) (Q : Option Value → Heap → Prop) : Prop :=
  ∀ ws : List Jvm.Cond, MetFree l y (head1 (Jvm.Cond.code y bytes maxL ret :: ws) rm) (fun a U => a = as' ∧ Z.Warmed39 U.vm ∧ U.heap = h) (fun _ _ _ _ _ => True) (fun _ U o U' => ∃ v L, o = .returned v ∧ ((Q v U'.heap ∧ h.size ≤ U'.heap.size) ∧ Fr n0 L) ∧ FrameEnd U o U' L rm.cells rm.slots)
theorem own_body {y : MethodName} {rm : Room} {as' : Array Value} (hpl : plainFor y = true)
    (body : ∀ (p : Program) (e : Env) (s : State) (m : MethodId) (below : List Frame) (meth : Method) (c : Code) (s₁ : State) (RR : State → Outcome → Prop), OwnSt p l e rm s m as' below meth c Z y.cls bytes maxL ret y.name n0 0 Q RR s₁ h 0 0 → OwnGo p e below (s₁.setTop (entryFrame m as' maxL)) RR) :
    OwnMet l Z y bytes maxL ret rm as' h n0 Q := by
  intro ws
  refine MetFree.of_bodySF hpl hisR ?_
  intro p e s m args below meth c s₁ Bd hml0 hP hK
  obtain ⟨rfl, hZ, hh⟩ := hP
  refine body p e s m below meth c s₁ _ ⟨⟨Bd.exec, Bd.bytes, hml0, hZ, findClass_of_methodNamed Bd.named, (name_of_methodNamed Bd.named Bd.method).1, Bd.returns, Bd.notSynchronized, ?_⟩, by rw [← hh, Bd.state]; rfl, Nat.zero_le _, [], Stand.of_body Bd, Fr.nil n0⟩
  intro U v L hQ _ hN hW hs
  exact ⟨v, L, rfl, ⟨⟨hQ, by rw [← hh]; exact hs.2.1⟩, hN⟩, ⟨_, rfl⟩, hW, hs⟩
theorem own_enter {g g' : JFrame} (q : g = g') (k : OwnGo p e below (T.setTop g') RR) : OwnGo p e below (T.setTop g) RR := q ▸ k
theorem own_ret {v : Option Value} {g : State} (X : OwnSt p l e R s m args below meth c Z own bytes maxL ret nm n0 km Q RR T h cells slots) (hv : ret = none → v = none) (hQ : Q v h) (hc : cells ≤ R.cells) (hl : slots ≤ R.slots)
    (k : ∀ locs, Stand p l e R s m args below meth c T locs cells slots → ∀ fs, (∀ (f : JFrame) (acts : List Action), f.method = m → f.locked = none → f.entered = [] → (doReturn e (T.setTop f) acts v).1 = T.setFrames fs) → Steps p.tables e below g (T.setFrames fs)) : OwnGo p e below g RR := by
  obtain ⟨⟨hx, hby, hml, hZ, hown, hnm, hret, hlk, hR⟩, hh, hkm, locs, X0, N⟩ := X
  obtain ⟨fs, hr, hrun, hended, hW, hsame⟩ := X0.leave (v := v) (fun q => hv (hret ▸ q)) hlk
  exact ⟨_, _, k _ X0 fs hr, hrun, hended, hR _ _ _ (by show Q v T.heap; rw [hh]; exact hQ) (by show km ≤ T.heap.size; rw [hh]; exact hkm) N hW (hsame.mono hc hl)⟩
theorem own_retV (X : OwnSt p l e R s m args below meth c Z own bytes maxL none nm n0 km Q RR T h cells slots) (hd : decode bytes pc = .ok (.return_, 1)) (hQ : Q none h) (hc : cells ≤ R.cells) (hl : slots ≤ R.slots) : OwnGo p e below (T.setTop (mkF m pc Ls [])) RR := by
  refine own_ret X (fun _ => rfl) hQ hc hl fun locs X0 fs hr => ?_
  obtain ⟨⟨hx, hby, hml, hZ, hown, hnm, hret, hlk, hR⟩, hh, -⟩ := X
  exact X0.returnOut hx hret (hb hby hd) hr
theorem own_retI {z : Int32} {rest : List Value} (X : OwnSt p l e R s m args below meth c Z own bytes maxL (some .int) nm n0 km Q RR T h cells slots) (hd : decode bytes pc = .ok (.ireturn, 1)) (hQ : Q (some (.int z)) h) (hc : cells ≤ R.cells) (hl : slots ≤ R.slots) : OwnGo p e below (T.setTop (mkF m pc Ls (.int z :: rest))) RR := by
  refine own_ret X (fun q => nomatch q) hQ hc hl fun locs X0 fs hr => ?_
  obtain ⟨⟨hx, hby, hml, hZ, hown, hnm, hret, hlk, hR⟩, hh, -⟩ := X
  exact retOut X0 hx hret rfl (Or.inl ⟨rfl, Or.inl rfl, z, rfl⟩) (hb hby hd) hr
theorem own_retJ {z : Int64} {rest : List Value} (X : OwnSt p l e R s m args below meth c Z own bytes maxL (some .long) nm n0 km Q RR T h cells slots) (hd : decode bytes pc = .ok (.lreturn, 1)) (hQ : Q (some (.long z)) h) (hc : cells ≤ R.cells) (hl : slots ≤ R.slots) : OwnGo p e below (T.setTop (mkF m pc Ls (.long z :: rest))) RR := by
  refine own_ret X (fun q => nomatch q) hQ hc hl fun locs X0 fs hr => ?_
  obtain ⟨⟨hx, hby, hml, hZ, hown, hnm, hret, hlk, hR⟩, hh, -⟩ := X
  exact retOut X0 hx hret rfl (Or.inr (Or.inl ⟨rfl, rfl, z, rfl⟩)) (hb hby hd) hr
theorem own_retA {v : Value} {t : FieldType} {rest : List Value} (X : OwnSt p l e R s m args below meth c Z own bytes maxL (some t) nm n0 km Q RR T h cells slots) (ht : t.isReference = true) (hv : v.isRef = true) (hn : narrow t v = v) (hd : decode bytes pc = .ok (.areturn, 1)) (hQ : Q (some v) h) (hc : cells ≤ R.cells) (hl : slots ≤ R.slots) : OwnGo p e below (T.setTop (mkF m pc Ls (v :: rest))) RR := by
  refine own_ret X (fun q => nomatch q) hQ hc hl fun locs X0 fs hr => ?_
  obtain ⟨⟨hx, hby, hml, hZ, hown, hnm, hret, hlk, hR⟩, hh, -⟩ := X
  exact retOut X0 hx hret hn (Or.inr (Or.inr (Or.inr (Or.inr ⟨rfl, ht, hv⟩)))) (hb hby hd) hr
theorem own_retZ {z : Int32} {rest : List Value} (X : OwnSt p l e R s m args below meth c Z own bytes maxL (some .boolean) nm n0 km Q RR T h cells slots) (hd : decode bytes pc = .ok (.ireturn, 1)) (hz : z &&& 1 = z) (hQ : Q (some (.int z)) h) (hc : cells ≤ R.cells) (hl : slots ≤ R.slots) : OwnGo p e below (T.setTop (mkF m pc Ls (.int z :: rest))) RR := by
  refine own_ret X (fun q => nomatch q) hQ hc hl fun locs X0 fs hr => ?_
  obtain ⟨⟨hx, hby, hml, hZ, hown, hnm, hret, hlk, hR⟩, hh, -⟩ := X
  exact retOut X0 hx hret (by show Value.int (z &&& 1) = _; rw [hz]) (Or.inl ⟨rfl, Or.inr (Or.inl rfl), z, rfl⟩) (hb hby hd) hr
theorem OwnSt.here (X : OwnSt p l e R s m args below meth c Z own bytes maxL ret nm n0 km Q RR T h cells slots) : At T m c below := X.2.2.2.elim fun _ q => q.1.here
theorem OwnSt.hx (X : OwnSt p l e R s m args below meth c Z own bytes maxL ret nm n0 km Q RR T h cells slots) : p.tables.exec = Jvm.exec := X.1.1
theorem OwnSt.by' (X : OwnSt p l e R s m args below meth c Z own bytes maxL ret nm n0 km Q RR T h cells slots) : c.code = bytes := X.1.2.1
theorem OwnSt.hZ (X : OwnSt p l e R s m args below meth c Z own bytes maxL ret nm n0 km Q RR T h cells slots) : Z.Warmed39 s.vm := X.1.2.2.2.1
theorem own_aloadN {k : Fin 4} {v : Value} (X : OwnSt p l e R s m args below meth c Z own bytes maxL ret nm n0 km Q RR T h cells slots) (hd : decode bytes pc = .ok (.aload_n k, 1)) (hp : pc + 1 = pc') (hl : Ls[k.val]? = some (.val v)) (hv : v.isRef = true) (k : OwnGo p e below (T.setTop (mkF m pc' Ls (v :: S))) RR) : OwnGo p e below (T.setTop (mkF m pc Ls (S))) RR := by
  subst hp
  exact own_step k fun t k => XS.aloadN X.here X.hx rfl (hb X.by' hd) hl hv k
theorem own_aload {k : Nat} {v : Value} (X : OwnSt p l e R s m args below meth c Z own bytes maxL ret nm n0 km Q RR T h cells slots) (hd : decode bytes pc = .ok (.aload k, 2)) (hp : pc + 2 = pc') (hl : Ls[k]? = some (.val v)) (hv : v.isRef = true) (k : OwnGo p e below (T.setTop (mkF m pc' Ls (v :: S))) RR) : OwnGo p e below (T.setTop (mkF m pc Ls (S))) RR := by
  subst hp
  exact own_step k fun t k => XS.aload X.here X.hx rfl (hb X.by' hd) hl hv k
theorem own_iloadN {k : Fin 4} {v : Int32} (X : OwnSt p l e R s m args below meth c Z own bytes maxL ret nm n0 km Q RR T h cells slots) (hd : decode bytes pc = .ok (.iload_n k, 1)) (hp : pc + 1 = pc') (hl : Ls[k.val]? = some (.val (.int v))) (k : OwnGo p e below (T.setTop (mkF m pc' Ls (.int v :: S))) RR) : OwnGo p e below (T.setTop (mkF m pc Ls (S))) RR := by
  subst hp
  exact own_step k fun t k => XS.iloadN X.here X.hx rfl (hb X.by' hd) hl k
theorem own_iload {k : Nat} {v : Int32} (X : OwnSt p l e R s m args below meth c Z own bytes maxL ret nm n0 km Q RR T h cells slots) (hd : decode bytes pc = .ok (.iload k, 2)) (hp : pc + 2 = pc') (hl : Ls[k]? = some (.val (.int v))) (k : OwnGo p e below (T.setTop (mkF m pc' Ls (.int v :: S))) RR) : OwnGo p e below (T.setTop (mkF m pc Ls (S))) RR := by
  subst hp
  exact own_step k fun t k => XS.iload X.here X.hx rfl (hb X.by' hd) hl k
theorem own_lloadN {k : Fin 4} {v : Int64} (X : OwnSt p l e R s m args below meth c Z own bytes maxL ret nm n0 km Q RR T h cells slots) (hd : decode bytes pc = .ok (.lload_n k, 1)) (hp : pc + 1 = pc') (hl : Ls[k.val]? = some (.val (.long v))) (k : OwnGo p e below (T.setTop (mkF m pc' Ls (.long v :: S))) RR) : OwnGo p e below (T.setTop (mkF m pc Ls (S))) RR := by
  subst hp
  exact own_step k fun t k => XS.lloadN X.here X.hx rfl (hb X.by' hd) hl k
theorem own_lload {k : Nat} {v : Int64} (X : OwnSt p l e R s m args below meth c Z own bytes maxL ret nm n0 km Q RR T h cells slots) (hd : decode bytes pc = .ok (.lload k, 2)) (hp : pc + 2 = pc') (hl : Ls[k]? = some (.val (.long v))) (k : OwnGo p e below (T.setTop (mkF m pc' Ls (.long v :: S))) RR) : OwnGo p e below (T.setTop (mkF m pc Ls (S))) RR := by
  subst hp
  exact own_step k fun t k => XS.lload X.here X.hx rfl (hb X.by' hd) hl k
theorem own_iconst {i : Int} {v : Int32} (X : OwnSt p l e R s m args below meth c Z own bytes maxL ret nm n0 km Q RR T h cells slots) (hd : decode bytes pc = .ok (.iconst i, 1)) (hp : pc + 1 = pc') (hv : Int32.ofInt i = v) (k : OwnGo p e below (T.setTop (mkF m pc' Ls (.int v :: S))) RR) : OwnGo p e below (T.setTop (mkF m pc Ls (S))) RR := by
  subst hp
  subst hv
  exact own_step k fun t k => XS.iconst X.here X.hx rfl (hb X.by' hd) k
theorem own_bipush {i : Int} {v : Int32} (X : OwnSt p l e R s m args below meth c Z own bytes maxL ret nm n0 km Q RR T h cells slots) (hd : decode bytes pc = .ok (.bipush i, 2)) (hp : pc + 2 = pc') (hv : (Int8.ofInt i).toInt32 = v) (k : OwnGo p e below (T.setTop (mkF m pc' Ls (.int v :: S))) RR) : OwnGo p e below (T.setTop (mkF m pc Ls (S))) RR := by
  subst hp
  subst hv
  exact own_step k fun t k => XS.bipush X.here X.hx rfl (hb X.by' hd) k
theorem own_sipush {i : Int} {v : Int32} (X : OwnSt p l e R s m args below meth c Z own bytes maxL ret nm n0 km Q RR T h cells slots) (hd : decode bytes pc = .ok (.sipush i, 3)) (hp : pc + 3 = pc') (hv : (Int16.ofInt i).toInt32 = v) (k : OwnGo p e below (T.setTop (mkF m pc' Ls (.int v :: S))) RR) : OwnGo p e below (T.setTop (mkF m pc Ls (S))) RR := by
  subst hp
  subst hv
  exact own_step k fun t k => XS.sipush X.here X.hx rfl (hb X.by' hd) k
theorem own_lconst {i : Fin 2} {v : Int64} (X : OwnSt p l e R s m args below meth c Z own bytes maxL ret nm n0 km Q RR T h cells slots) (hd : decode bytes pc = .ok (.lconst i, 1)) (hp : pc + 1 = pc') (hv : Int64.ofNat i = v) (k : OwnGo p e below (T.setTop (mkF m pc' Ls (.long v :: S))) RR) : OwnGo p e below (T.setTop (mkF m pc Ls (S))) RR := by
  subst hp
  subst hv
  exact own_step k fun t k => XS.lconst X.here X.hx rfl (hb X.by' hd) k
theorem own_aconst_null  (X : OwnSt p l e R s m args below meth c Z own bytes maxL ret nm n0 km Q RR T h cells slots) (hd : decode bytes pc = .ok (.aconst_null, 1)) (hp : pc + 1 = pc')  (k : OwnGo p e below (T.setTop (mkF m pc' Ls (.null :: S))) RR) : OwnGo p e below (T.setTop (mkF m pc Ls (S))) RR := by
  subst hp
  exact own_step k fun t k => XS.aconstNull X.here X.hx rfl (hb X.by' hd) k
theorem own_iadd {x y : Int32} (X : OwnSt p l e R s m args below meth c Z own bytes maxL ret nm n0 km Q RR T h cells slots) (hd : decode bytes pc = .ok (.iadd, 1)) (hp : pc + 1 = pc')  (k : OwnGo p e below (T.setTop (mkF m pc' Ls (.int (x + y) :: S))) RR) : OwnGo p e below (T.setTop (mkF m pc Ls (.int y :: .int x :: S))) RR := by
  subst hp
  exact own_step k fun t k => XS.iadd X.here X.hx rfl (hb X.by' hd) rfl k
theorem own_isub {x y : Int32} (X : OwnSt p l e R s m args below meth c Z own bytes maxL ret nm n0 km Q RR T h cells slots) (hd : decode bytes pc = .ok (.isub, 1)) (hp : pc + 1 = pc')  (k : OwnGo p e below (T.setTop (mkF m pc' Ls (.int (x - y) :: S))) RR) : OwnGo p e below (T.setTop (mkF m pc Ls (.int y :: .int x :: S))) RR := by
  subst hp
  exact own_step k fun t k => XS.isub X.here X.hx rfl (hb X.by' hd) rfl k
theorem own_imul {x y : Int32} (X : OwnSt p l e R s m args below meth c Z own bytes maxL ret nm n0 km Q RR T h cells slots) (hd : decode bytes pc = .ok (.imul, 1)) (hp : pc + 1 = pc')  (k : OwnGo p e below (T.setTop (mkF m pc' Ls (.int (x * y) :: S))) RR) : OwnGo p e below (T.setTop (mkF m pc Ls (.int y :: .int x :: S))) RR := by
  subst hp
  exact own_step k fun t k => XS.imul X.here X.hx rfl (hb X.by' hd) rfl k
theorem own_iand {x y : Int32} (X : OwnSt p l e R s m args below meth c Z own bytes maxL ret nm n0 km Q RR T h cells slots) (hd : decode bytes pc = .ok (.iand, 1)) (hp : pc + 1 = pc')  (k : OwnGo p e below (T.setTop (mkF m pc' Ls (.int (x &&& y) :: S))) RR) : OwnGo p e below (T.setTop (mkF m pc Ls (.int y :: .int x :: S))) RR := by
  subst hp
  exact own_step k fun t k => XS.iand X.here X.hx rfl (hb X.by' hd) rfl k
theorem own_ior {x y : Int32} (X : OwnSt p l e R s m args below meth c Z own bytes maxL ret nm n0 km Q RR T h cells slots) (hd : decode bytes pc = .ok (.ior, 1)) (hp : pc + 1 = pc')  (k : OwnGo p e below (T.setTop (mkF m pc' Ls (.int (x ||| y) :: S))) RR) : OwnGo p e below (T.setTop (mkF m pc Ls (.int y :: .int x :: S))) RR := by
  subst hp
  exact own_step k fun t k => XS.ior X.here X.hx rfl (hb X.by' hd) rfl k
theorem own_ixor {x y : Int32} (X : OwnSt p l e R s m args below meth c Z own bytes maxL ret nm n0 km Q RR T h cells slots) (hd : decode bytes pc = .ok (.ixor, 1)) (hp : pc + 1 = pc')  (k : OwnGo p e below (T.setTop (mkF m pc' Ls (.int (x ^^^ y) :: S))) RR) : OwnGo p e below (T.setTop (mkF m pc Ls (.int y :: .int x :: S))) RR := by
  subst hp
  exact own_step k fun t k => XS.ixor X.here X.hx rfl (hb X.by' hd) rfl k
theorem own_ishl {x y : Int32} (X : OwnSt p l e R s m args below meth c Z own bytes maxL ret nm n0 km Q RR T h cells slots) (hd : decode bytes pc = .ok (.ishl, 1)) (hp : pc + 1 = pc')  (k : OwnGo p e below (T.setTop (mkF m pc' Ls (.int (x <<< (y &&& 31)) :: S))) RR) : OwnGo p e below (T.setTop (mkF m pc Ls (.int y :: .int x :: S))) RR := by
  subst hp
  exact own_step k fun t k => XS.ishl X.here X.hx rfl (hb X.by' hd) rfl k
theorem own_ishr {x y : Int32} (X : OwnSt p l e R s m args below meth c Z own bytes maxL ret nm n0 km Q RR T h cells slots) (hd : decode bytes pc = .ok (.ishr, 1)) (hp : pc + 1 = pc')  (k : OwnGo p e below (T.setTop (mkF m pc' Ls (.int (x >>> (y &&& 31)) :: S))) RR) : OwnGo p e below (T.setTop (mkF m pc Ls (.int y :: .int x :: S))) RR := by
  subst hp
  exact own_step k fun t k => XS.ishr X.here X.hx rfl (hb X.by' hd) rfl k
theorem own_iushr {x y : Int32} (X : OwnSt p l e R s m args below meth c Z own bytes maxL ret nm n0 km Q RR T h cells slots) (hd : decode bytes pc = .ok (.iushr, 1)) (hp : pc + 1 = pc')  (k : OwnGo p e below (T.setTop (mkF m pc' Ls (.int ((x.toUInt32 >>> (y &&& 31).toUInt32).toInt32) :: S))) RR) : OwnGo p e below (T.setTop (mkF m pc Ls (.int y :: .int x :: S))) RR := by
  subst hp
  exact own_step k fun t k => XS.iushr X.here X.hx rfl (hb X.by' hd) rfl k
theorem own_idiv {x y : Int32} (X : OwnSt p l e R s m args below meth c Z own bytes maxL ret nm n0 km Q RR T h cells slots) (hd : decode bytes pc = .ok (.idiv, 1)) (hp : pc + 1 = pc') (hy : y ≠ 0) (k : OwnGo p e below (T.setTop (mkF m pc' Ls (.int (x / y) :: S))) RR) : OwnGo p e below (T.setTop (mkF m pc Ls (.int y :: .int x :: S))) RR := by
  subst hp
  exact own_step k fun t k => XS.idiv X.here X.hx rfl (hb X.by' hd) rfl hy k
theorem own_irem {x y : Int32} (X : OwnSt p l e R s m args below meth c Z own bytes maxL ret nm n0 km Q RR T h cells slots) (hd : decode bytes pc = .ok (.irem, 1)) (hp : pc + 1 = pc') (hy : y ≠ 0) (k : OwnGo p e below (T.setTop (mkF m pc' Ls (.int (x % y) :: S))) RR) : OwnGo p e below (T.setTop (mkF m pc Ls (.int y :: .int x :: S))) RR := by
  subst hp
  exact own_step k fun t k => XS.irem X.here X.hx rfl (hb X.by' hd) rfl hy (by rw [irem_eq_mod]; exact k)
theorem own_ladd {x y : Int64} (X : OwnSt p l e R s m args below meth c Z own bytes maxL ret nm n0 km Q RR T h cells slots) (hd : decode bytes pc = .ok (.ladd, 1)) (hp : pc + 1 = pc')  (k : OwnGo p e below (T.setTop (mkF m pc' Ls (.long (x + y) :: S))) RR) : OwnGo p e below (T.setTop (mkF m pc Ls (.long y :: .long x :: S))) RR := by
  subst hp
  exact own_step k fun t k => XS.ladd X.here X.hx rfl (hb X.by' hd) rfl k
theorem own_lsub {x y : Int64} (X : OwnSt p l e R s m args below meth c Z own bytes maxL ret nm n0 km Q RR T h cells slots) (hd : decode bytes pc = .ok (.lsub, 1)) (hp : pc + 1 = pc')  (k : OwnGo p e below (T.setTop (mkF m pc' Ls (.long (x - y) :: S))) RR) : OwnGo p e below (T.setTop (mkF m pc Ls (.long y :: .long x :: S))) RR := by
  subst hp
  exact own_step k fun t k => XS.lsub X.here X.hx rfl (hb X.by' hd) rfl k
theorem own_lmul {x y : Int64} (X : OwnSt p l e R s m args below meth c Z own bytes maxL ret nm n0 km Q RR T h cells slots) (hd : decode bytes pc = .ok (.lmul, 1)) (hp : pc + 1 = pc')  (k : OwnGo p e below (T.setTop (mkF m pc' Ls (.long (x * y) :: S))) RR) : OwnGo p e below (T.setTop (mkF m pc Ls (.long y :: .long x :: S))) RR := by
  subst hp
  exact own_step k fun t k => XS.lmul X.here X.hx rfl (hb X.by' hd) rfl k
theorem own_land {x y : Int64} (X : OwnSt p l e R s m args below meth c Z own bytes maxL ret nm n0 km Q RR T h cells slots) (hd : decode bytes pc = .ok (.land, 1)) (hp : pc + 1 = pc')  (k : OwnGo p e below (T.setTop (mkF m pc' Ls (.long (x &&& y) :: S))) RR) : OwnGo p e below (T.setTop (mkF m pc Ls (.long y :: .long x :: S))) RR := by
  subst hp
  exact own_step k fun t k => XS.land X.here X.hx rfl (hb X.by' hd) rfl k
theorem own_lor {x y : Int64} (X : OwnSt p l e R s m args below meth c Z own bytes maxL ret nm n0 km Q RR T h cells slots) (hd : decode bytes pc = .ok (.lor, 1)) (hp : pc + 1 = pc')  (k : OwnGo p e below (T.setTop (mkF m pc' Ls (.long (x ||| y) :: S))) RR) : OwnGo p e below (T.setTop (mkF m pc Ls (.long y :: .long x :: S))) RR := by
  subst hp
  exact own_step k fun t k => XS.lor X.here X.hx rfl (hb X.by' hd) rfl k
theorem own_lxor {x y : Int64} (X : OwnSt p l e R s m args below meth c Z own bytes maxL ret nm n0 km Q RR T h cells slots) (hd : decode bytes pc = .ok (.lxor, 1)) (hp : pc + 1 = pc')  (k : OwnGo p e below (T.setTop (mkF m pc' Ls (.long (x ^^^ y) :: S))) RR) : OwnGo p e below (T.setTop (mkF m pc Ls (.long y :: .long x :: S))) RR := by
  subst hp
  exact own_step k fun t k => XS.lxor X.here X.hx rfl (hb X.by' hd) rfl k
theorem own_ldiv {x y : Int64} (X : OwnSt p l e R s m args below meth c Z own bytes maxL ret nm n0 km Q RR T h cells slots) (hd : decode bytes pc = .ok (.ldiv, 1)) (hp : pc + 1 = pc') (hy : y ≠ 0) (k : OwnGo p e below (T.setTop (mkF m pc' Ls (.long (x / y) :: S))) RR) : OwnGo p e below (T.setTop (mkF m pc Ls (.long y :: .long x :: S))) RR := by
  subst hp
  exact own_step k fun t k => XS.ldiv X.here X.hx rfl (hb X.by' hd) rfl hy k
theorem own_lrem {x y : Int64} (X : OwnSt p l e R s m args below meth c Z own bytes maxL ret nm n0 km Q RR T h cells slots) (hd : decode bytes pc = .ok (.lrem, 1)) (hp : pc + 1 = pc') (hy : y ≠ 0) (k : OwnGo p e below (T.setTop (mkF m pc' Ls (.long (x - (x / y) * y) :: S))) RR) : OwnGo p e below (T.setTop (mkF m pc Ls (.long y :: .long x :: S))) RR := by
  subst hp
  exact own_step k fun t k => XS.lrem X.here X.hx rfl (hb X.by' hd) rfl hy k
theorem own_lshl {x : Int64} {y : Int32} (X : OwnSt p l e R s m args below meth c Z own bytes maxL ret nm n0 km Q RR T h cells slots) (hd : decode bytes pc = .ok (.lshl, 1)) (hp : pc + 1 = pc')  (k : OwnGo p e below (T.setTop (mkF m pc' Ls (.long (x <<< (y &&& 0x3f).toInt64) :: S))) RR) : OwnGo p e below (T.setTop (mkF m pc Ls (.int y :: .long x :: S))) RR := by
  subst hp
  exact own_step k fun t k => XS.lshl X.here X.hx rfl (hb X.by' hd) rfl k
theorem own_lshr {x : Int64} {y : Int32} (X : OwnSt p l e R s m args below meth c Z own bytes maxL ret nm n0 km Q RR T h cells slots) (hd : decode bytes pc = .ok (.lshr, 1)) (hp : pc + 1 = pc')  (k : OwnGo p e below (T.setTop (mkF m pc' Ls (.long (x >>> (y &&& 0x3f).toInt64) :: S))) RR) : OwnGo p e below (T.setTop (mkF m pc Ls (.int y :: .long x :: S))) RR := by
  subst hp
  exact own_step k fun t k => XS.lshr X.here X.hx rfl (hb X.by' hd) rfl k
theorem own_lushr {x : Int64} {y : Int32} (X : OwnSt p l e R s m args below meth c Z own bytes maxL ret nm n0 km Q RR T h cells slots) (hd : decode bytes pc = .ok (.lushr, 1)) (hp : pc + 1 = pc')  (k : OwnGo p e below (T.setTop (mkF m pc' Ls (.long ((x.toUInt64 >>> (y &&& 0x3f).toInt64.toUInt64).toInt64) :: S))) RR) : OwnGo p e below (T.setTop (mkF m pc Ls (.int y :: .long x :: S))) RR := by
  subst hp
  exact own_step k fun t k => XS.lushr X.here X.hx rfl (hb X.by' hd) rfl k
theorem own_ineg {x : Int32} (X : OwnSt p l e R s m args below meth c Z own bytes maxL ret nm n0 km Q RR T h cells slots) (hd : decode bytes pc = .ok (.ineg, 1)) (hp : pc + 1 = pc')  (k : OwnGo p e below (T.setTop (mkF m pc' Ls (.int (-x) :: S))) RR) : OwnGo p e below (T.setTop (mkF m pc Ls (.int x :: S))) RR := by
  subst hp
  exact own_step k fun t k => XS.ineg X.here X.hx rfl (hb X.by' hd) rfl k
theorem own_lneg {x : Int64} (X : OwnSt p l e R s m args below meth c Z own bytes maxL ret nm n0 km Q RR T h cells slots) (hd : decode bytes pc = .ok (.lneg, 1)) (hp : pc + 1 = pc')  (k : OwnGo p e below (T.setTop (mkF m pc' Ls (.long (-x) :: S))) RR) : OwnGo p e below (T.setTop (mkF m pc Ls (.long x :: S))) RR := by
  subst hp
  exact own_step k fun t k => XS.lneg X.here X.hx rfl (hb X.by' hd) rfl k
theorem own_i2l {x : Int32} (X : OwnSt p l e R s m args below meth c Z own bytes maxL ret nm n0 km Q RR T h cells slots) (hd : decode bytes pc = .ok (.i2l, 1)) (hp : pc + 1 = pc')  (k : OwnGo p e below (T.setTop (mkF m pc' Ls (.long (x.toInt64) :: S))) RR) : OwnGo p e below (T.setTop (mkF m pc Ls (.int x :: S))) RR := by
  subst hp
  exact own_step k fun t k => XS.i2l X.here X.hx rfl (hb X.by' hd) rfl k
theorem own_l2i {x : Int64} (X : OwnSt p l e R s m args below meth c Z own bytes maxL ret nm n0 km Q RR T h cells slots) (hd : decode bytes pc = .ok (.l2i, 1)) (hp : pc + 1 = pc')  (k : OwnGo p e below (T.setTop (mkF m pc' Ls (.int (x.toInt32) :: S))) RR) : OwnGo p e below (T.setTop (mkF m pc Ls (.long x :: S))) RR := by
  subst hp
  exact own_step k fun t k => XS.l2i X.here X.hx rfl (hb X.by' hd) rfl k
theorem own_i2b {x : Int32} (X : OwnSt p l e R s m args below meth c Z own bytes maxL ret nm n0 km Q RR T h cells slots) (hd : decode bytes pc = .ok (.i2b, 1)) (hp : pc + 1 = pc')  (k : OwnGo p e below (T.setTop (mkF m pc' Ls (.int (x.toInt8.toInt32) :: S))) RR) : OwnGo p e below (T.setTop (mkF m pc Ls (.int x :: S))) RR := by
  subst hp
  exact own_step k fun t k => XS.i2b X.here X.hx rfl (hb X.by' hd) rfl k
theorem own_i2s {x : Int32} (X : OwnSt p l e R s m args below meth c Z own bytes maxL ret nm n0 km Q RR T h cells slots) (hd : decode bytes pc = .ok (.i2s, 1)) (hp : pc + 1 = pc')  (k : OwnGo p e below (T.setTop (mkF m pc' Ls (.int (x.toInt16.toInt32) :: S))) RR) : OwnGo p e below (T.setTop (mkF m pc Ls (.int x :: S))) RR := by
  subst hp
  exact own_step k fun t k => XS.i2s X.here X.hx rfl (hb X.by' hd) rfl k
theorem own_i2c {x : Int32} (X : OwnSt p l e R s m args below meth c Z own bytes maxL ret nm n0 km Q RR T h cells slots) (hd : decode bytes pc = .ok (.i2c, 1)) (hp : pc + 1 = pc')  (k : OwnGo p e below (T.setTop (mkF m pc' Ls (.int (x.toUInt32.toUInt16.toUInt32.toInt32) :: S))) RR) : OwnGo p e below (T.setTop (mkF m pc Ls (.int x :: S))) RR := by
  subst hp
  exact own_step k fun t k => XS.i2c X.here X.hx rfl (hb X.by' hd) rfl k
theorem own_dup {x : Value} (X : OwnSt p l e R s m args below meth c Z own bytes maxL ret nm n0 km Q RR T h cells slots) (hd : decode bytes pc = .ok (.dup, 1)) (hp : pc + 1 = pc') (hc : x.category = 1) (k : OwnGo p e below (T.setTop (mkF m pc' Ls (x :: x :: S))) RR) : OwnGo p e below (T.setTop (mkF m pc Ls (x :: S))) RR := by
  subst hp
  exact own_step k fun t k => XS.dup X.here X.hx rfl (hb X.by' hd) rfl hc k
theorem own_pop {x : Value} (X : OwnSt p l e R s m args below meth c Z own bytes maxL ret nm n0 km Q RR T h cells slots) (hd : decode bytes pc = .ok (.pop, 1)) (hp : pc + 1 = pc') (hc : x.category = 1) (k : OwnGo p e below (T.setTop (mkF m pc' Ls (S))) RR) : OwnGo p e below (T.setTop (mkF m pc Ls (x :: S))) RR := by
  subst hp
  exact own_step k fun t k => XS.pop X.here X.hx rfl (hb X.by' hd) rfl hc k
theorem own_dup_x1 {x y : Value} (X : OwnSt p l e R s m args below meth c Z own bytes maxL ret nm n0 km Q RR T h cells slots) (hd : decode bytes pc = .ok (.dup_x1, 1)) (hp : pc + 1 = pc') (hc : x.category = 1) (hc' : y.category = 1) (k : OwnGo p e below (T.setTop (mkF m pc' Ls (x :: y :: x :: S))) RR) : OwnGo p e below (T.setTop (mkF m pc Ls (x :: y :: S))) RR := by
  subst hp
  exact own_step k fun t k => XS.dupX1 X.here X.hx rfl (hb X.by' hd) rfl hc hc' k
theorem own_istoreN {k : Fin 4} {x : Int32} {l' : Array Slot} (X : OwnSt p l e R s m args below meth c Z own bytes maxL ret nm n0 km Q RR T h cells slots) (hd : decode bytes pc = .ok (.istore_n k, 1)) (hp : pc + 1 = pc') (hl : storeLocals Ls k.val (.int x) = some l') (k : OwnGo p e below (T.setTop (mkF m pc' l' (S))) RR) : OwnGo p e below (T.setTop (mkF m pc Ls (.int x :: S))) RR := by
  subst hp
  exact own_step k fun t k => XS.istoreN X.here X.hx rfl (hb X.by' hd) rfl hl k
theorem own_istoreNV {k : Fin 4} {x : Int32} {l' : Int32 → Array Slot} (X : OwnSt p l e R s m args below meth c Z own bytes maxL ret nm n0 km Q RR T h cells slots) (hd : decode bytes pc = .ok (.istore_n k, 1)) (hp : pc + 1 = pc') (hl : ∀ v, storeLocals Ls k.val (.int v) = some (l' v)) (k : ∀ v, v = x → OwnGo p e below (T.setTop (mkF m pc' (l' v) (S))) RR) : OwnGo p e below (T.setTop (mkF m pc Ls (.int x :: S))) RR := by
  subst hp
  exact own_step (k _ rfl) fun t k => XS.istoreN X.here X.hx rfl (hb X.by' hd) rfl (hl _) k
theorem own_istore {k : Nat} {x : Int32} {l' : Array Slot} (X : OwnSt p l e R s m args below meth c Z own bytes maxL ret nm n0 km Q RR T h cells slots) (hd : decode bytes pc = .ok (.istore k, 2)) (hp : pc + 2 = pc') (hl : storeLocals Ls k (.int x) = some l') (k : OwnGo p e below (T.setTop (mkF m pc' l' (S))) RR) : OwnGo p e below (T.setTop (mkF m pc Ls (.int x :: S))) RR := by
  subst hp
  exact own_step k fun t k => XS.istore X.here X.hx rfl (hb X.by' hd) rfl hl k
theorem own_istoreV {k : Nat} {x : Int32} {l' : Int32 → Array Slot} (X : OwnSt p l e R s m args below meth c Z own bytes maxL ret nm n0 km Q RR T h cells slots) (hd : decode bytes pc = .ok (.istore k, 2)) (hp : pc + 2 = pc') (hl : ∀ v, storeLocals Ls k (.int v) = some (l' v)) (k : ∀ v, v = x → OwnGo p e below (T.setTop (mkF m pc' (l' v) (S))) RR) : OwnGo p e below (T.setTop (mkF m pc Ls (.int x :: S))) RR := by
  subst hp
  exact own_step (k _ rfl) fun t k => XS.istore X.here X.hx rfl (hb X.by' hd) rfl (hl _) k
theorem own_lstoreN {k : Fin 4} {x : Int64} {l' : Array Slot} (X : OwnSt p l e R s m args below meth c Z own bytes maxL ret nm n0 km Q RR T h cells slots) (hd : decode bytes pc = .ok (.lstore_n k, 1)) (hp : pc + 1 = pc') (hl : storeLocals Ls k.val (.long x) = some l') (k : OwnGo p e below (T.setTop (mkF m pc' l' (S))) RR) : OwnGo p e below (T.setTop (mkF m pc Ls (.long x :: S))) RR := by
  subst hp
  exact own_step k fun t k => XS.lstoreN X.here X.hx rfl (hb X.by' hd) rfl hl k
theorem own_lstoreNV {k : Fin 4} {x : Int64} {l' : Int64 → Array Slot} (X : OwnSt p l e R s m args below meth c Z own bytes maxL ret nm n0 km Q RR T h cells slots) (hd : decode bytes pc = .ok (.lstore_n k, 1)) (hp : pc + 1 = pc') (hl : ∀ v, storeLocals Ls k.val (.long v) = some (l' v)) (k : ∀ v, v = x → OwnGo p e below (T.setTop (mkF m pc' (l' v) (S))) RR) : OwnGo p e below (T.setTop (mkF m pc Ls (.long x :: S))) RR := by
  subst hp
  exact own_step (k _ rfl) fun t k => XS.lstoreN X.here X.hx rfl (hb X.by' hd) rfl (hl _) k
theorem own_lstore {k : Nat} {x : Int64} {l' : Array Slot} (X : OwnSt p l e R s m args below meth c Z own bytes maxL ret nm n0 km Q RR T h cells slots) (hd : decode bytes pc = .ok (.lstore k, 2)) (hp : pc + 2 = pc') (hl : storeLocals Ls k (.long x) = some l') (k : OwnGo p e below (T.setTop (mkF m pc' l' (S))) RR) : OwnGo p e below (T.setTop (mkF m pc Ls (.long x :: S))) RR := by
  subst hp
  exact own_step k fun t k => XS.lstore X.here X.hx rfl (hb X.by' hd) rfl hl k
theorem own_lstoreV {k : Nat} {x : Int64} {l' : Int64 → Array Slot} (X : OwnSt p l e R s m args below meth c Z own bytes maxL ret nm n0 km Q RR T h cells slots) (hd : decode bytes pc = .ok (.lstore k, 2)) (hp : pc + 2 = pc') (hl : ∀ v, storeLocals Ls k (.long v) = some (l' v)) (k : ∀ v, v = x → OwnGo p e below (T.setTop (mkF m pc' (l' v) (S))) RR) : OwnGo p e below (T.setTop (mkF m pc Ls (.long x :: S))) RR := by
  subst hp
  exact own_step (k _ rfl) fun t k => XS.lstore X.here X.hx rfl (hb X.by' hd) rfl (hl _) k
theorem own_astoreN {k : Fin 4} {x : Value} {l' : Array Slot} (X : OwnSt p l e R s m args below meth c Z own bytes maxL ret nm n0 km Q RR T h cells slots) (hd : decode bytes pc = .ok (.astore_n k, 1)) (hp : pc + 1 = pc') (hv : x.isRef = true) (hl : storeLocals Ls k.val x = some l') (k : OwnGo p e below (T.setTop (mkF m pc' l' (S))) RR) : OwnGo p e below (T.setTop (mkF m pc Ls (x :: S))) RR := by
  subst hp
  exact own_step k fun t k => XS.astoreN X.here X.hx rfl (hb X.by' hd) rfl hv hl k
theorem own_astore {k : Nat} {x : Value} {l' : Array Slot} (X : OwnSt p l e R s m args below meth c Z own bytes maxL ret nm n0 km Q RR T h cells slots) (hd : decode bytes pc = .ok (.astore k, 2)) (hp : pc + 2 = pc') (hv : x.isRef = true) (hl : storeLocals Ls k x = some l') (k : OwnGo p e below (T.setTop (mkF m pc' l' (S))) RR) : OwnGo p e below (T.setTop (mkF m pc Ls (x :: S))) RR := by
  subst hp
  exact own_step k fun t k => XS.astore X.here X.hx rfl (hb X.by' hd) rfl hv hl k
theorem own_iinc {k : Nat} {d : Int} {x y : Int32} {l' : Array Slot} (X : OwnSt p l e R s m args below meth c Z own bytes maxL ret nm n0 km Q RR T h cells slots) (hd : decode bytes pc = .ok (.iinc k d, 3)) (hp : pc + 3 = pc') (hx' : Ls[k]? = some (.val (.int x))) (hy : x + Int32.ofInt d = y) (hl : storeLocals Ls k (.int y) = some l') (k : OwnGo p e below (T.setTop (mkF m pc' l' (S))) RR) : OwnGo p e below (T.setTop (mkF m pc Ls (S))) RR := by
  subst hp
  subst hy
  exact own_step k fun t k => XS.iinc X.here X.hx rfl (hb X.by' hd) hx' hl k
theorem own_ifnonnullN {o : Int} (X : OwnSt p l e R s m args below meth c Z own bytes maxL ret nm n0 km Q RR T h cells slots) (hd : decode bytes pc = .ok (.ifnonnull o, 3)) (hp : pc + 3 = pc')  (k : OwnGo p e below (T.setTop (mkF m pc' Ls (S))) RR) : OwnGo p e below (T.setTop (mkF m pc Ls (.null :: S))) RR := by
  subst hp
  exact own_step k fun t k => XS.ifnonnullNo X.here X.hx rfl (hb X.by' hd) rfl k
theorem own_ifnullN {o : Int} {b : Addr} (X : OwnSt p l e R s m args below meth c Z own bytes maxL ret nm n0 km Q RR T h cells slots) (hd : decode bytes pc = .ok (.ifnull o, 3)) (hp : pc + 3 = pc')  (k : OwnGo p e below (T.setTop (mkF m pc' Ls (S))) RR) : OwnGo p e below (T.setTop (mkF m pc Ls (.ref b :: S))) RR := by
  subst hp
  exact own_step k fun t k => XS.ifnullNo X.here X.hx rfl (hb X.by' hd) rfl k
theorem own_ifnonnullY {o : Int} {b : Addr} (X : OwnSt p l e R s m args below meth c Z own bytes maxL ret nm n0 km Q RR T h cells slots) (hd : decode bytes pc = .ok (.ifnonnull o, 3)) (hp : ((pc : Int) + o).toNat = pc') (ho : 0 ≤ (pc : Int) + o) (k : OwnGo p e below (T.setTop (mkF m pc' Ls S)) RR) : OwnGo p e below (T.setTop (mkF m pc Ls (.ref b :: S))) RR :=
  own_step k fun t k => XS.ifnonnullYes X.here X.hx rfl (pc0 := pc) rfl (hb X.by' hd) rfl ho hp k
theorem own_ifnullY {o : Int} (X : OwnSt p l e R s m args below meth c Z own bytes maxL ret nm n0 km Q RR T h cells slots) (hd : decode bytes pc = .ok (.ifnull o, 3)) (hp : ((pc : Int) + o).toNat = pc') (ho : 0 ≤ (pc : Int) + o) (k : OwnGo p e below (T.setTop (mkF m pc' Ls S)) RR) : OwnGo p e below (T.setTop (mkF m pc Ls (.null :: S))) RR :=
  own_step k fun t k => XS.ifnullYes X.here X.hx rfl (pc0 := pc) rfl (hb X.by' hd) rfl ho hp k
theorem own_ldcInt {i : Nat} {v : Int32} (X : OwnSt p l e R s m args below meth c Z own bytes maxL ret nm n0 km Q RR T h cells slots) (hd : decode bytes pc = .ok (.ldc i, 2)) (hp : pc + 2 = pc') (w : (Cond.constant own i v).before a0 Z = true) (k : OwnGo p e below (T.setTop (mkF m pc' Ls (.int v :: S))) RR) : OwnGo p e below (T.setTop (mkF m pc Ls S)) RR := by
  subst hp
  obtain ⟨C, hh, hkm, locs, X0, N⟩ := id X
  exact own_step k (X0.ldcInt X.hx C.2.2.2.2.1 (mvT X.hZ w) (g := mkF m pc Ls S) rfl (hb X.by' hd))
theorem own_ldc2Long {i : Nat} {v : Int64} (X : OwnSt p l e R s m args below meth c Z own bytes maxL ret nm n0 km Q RR T h cells slots) (hd : decode bytes pc = .ok (.ldc2_w i, 3)) (hp : pc + 3 = pc') (w : (Cond.constantLong own i v).before a0 Z = true) (k : OwnGo p e below (T.setTop (mkF m pc' Ls (.long v :: S))) RR) : OwnGo p e below (T.setTop (mkF m pc Ls S)) RR := by
  subst hp
  obtain ⟨C, hh, hkm, locs, X0, N⟩ := id X
  exact own_step k (X0.ldc2Long X.hx C.2.2.2.2.1 (mvT X.hZ w) (g := mkF m pc Ls S) rfl (hb X.by' hd))
/-! forks -/
theorem own_ifY {cd : ClassFile.Cond} {x : Int32} {o : Int} (X : OwnSt p l e R s m args below meth c Z own bytes maxL ret nm n0 km Q RR T h cells slots) (hd : decode bytes pc = .ok (.ifCond cd o, 3)) (hc : if_icmp.holds cd x 0 = true) (hp : ((pc : Int) + o).toNat = pc') (ho : 0 ≤ (pc : Int) + o) (k : OwnGo p e below (T.setTop (mkF m pc' Ls S)) RR) : OwnGo p e below (T.setTop (mkF m pc Ls (.int x :: S))) RR :=
  own_step k fun t k => XS.ifYes X.here X.hx rfl (pc0 := pc) rfl (hb X.by' hd) rfl ((if0 _ _).trans hc) ho hp k
theorem own_ifN {cd : ClassFile.Cond} {x : Int32} {o : Int} (X : OwnSt p l e R s m args below meth c Z own bytes maxL ret nm n0 km Q RR T h cells slots) (hd : decode bytes pc = .ok (.ifCond cd o, 3)) (hc : if_icmp.holds cd x 0 = false) (hp : pc + 3 = pc') (k : OwnGo p e below (T.setTop (mkF m pc' Ls S)) RR) : OwnGo p e below (T.setTop (mkF m pc Ls (.int x :: S))) RR := by
  subst hp
  exact own_step k fun t k => XS.ifNo X.here X.hx rfl (hb X.by' hd) rfl ((if0 _ _).trans hc) k
theorem own_icY {cd : ClassFile.Cond} {x y : Int32} {o : Int} (X : OwnSt p l e R s m args below meth c Z own bytes maxL ret nm n0 km Q RR T h cells slots) (hd : decode bytes pc = .ok (.if_icmp cd o, 3)) (hc : if_icmp.holds cd x y = true) (hp : ((pc : Int) + o).toNat = pc') (ho : 0 ≤ (pc : Int) + o) (k : OwnGo p e below (T.setTop (mkF m pc' Ls S)) RR) : OwnGo p e below (T.setTop (mkF m pc Ls (.int y :: .int x :: S))) RR :=
  own_step k fun t k => XS.icmpYes X.here X.hx rfl (pc0 := pc) rfl (hb X.by' hd) rfl hc ho hp k
theorem own_icN {cd : ClassFile.Cond} {x y : Int32} {o : Int} (X : OwnSt p l e R s m args below meth c Z own bytes maxL ret nm n0 km Q RR T h cells slots) (hd : decode bytes pc = .ok (.if_icmp cd o, 3)) (hc : if_icmp.holds cd x y = false) (hp : pc + 3 = pc') (k : OwnGo p e below (T.setTop (mkF m pc' Ls S)) RR) : OwnGo p e below (T.setTop (mkF m pc Ls (.int y :: .int x :: S))) RR := by
  subst hp
  exact own_step k fun t k => XS.icmpNo X.here X.hx rfl (hb X.by' hd) rfl hc k
def ownLc (cd : ClassFile.Cond) (x y : Int64) : Bool := match cd with
  | .eq => decide (x = y) | .ne => !decide (x = y) | .lt => decide (x < y) | .ge => !decide (x < y) | .gt => decide (y < x) | .le => !decide (y < x)
theorem own_lc (cd : ClassFile.Cond) (x y : Int64) : if_icmp.holds cd (lcmpW x y) 0 = ownLc cd x y := by
  rw [lcW]
  have h1 := lc_eq x y
  have h2 := lc_lt x y
  have h3 := lc_gt x y
  cases cd <;> simp only [ownLc]
  · by_cases q : x = y
    · rw [(teq (h1.mpr q)).1]; simp [q]
    · rw [(feq fun w => q (h1.mp w)).1]; simp [q]
  · by_cases q : x = y
    · rw [(teq (h1.mpr q)).2]; simp [q]
    · rw [(feq fun w => q (h1.mp w)).2]; simp [q]
  · by_cases q : x < y
    · rw [(tlt (h2.mpr q)).1]; simp [q]
    · rw [(flt fun w => q (h2.mp w)).1]; simp [q]
  · by_cases q : x < y
    · rw [(tlt (h2.mpr q)).2.1]; simp [q]
    · rw [(flt fun w => q (h2.mp w)).2.1]; simp [q]
  · by_cases q : y < x
    · rw [(tlt (h3.mpr q)).2.2.1]; simp [q]
    · rw [(flt fun w => q (h3.mp w)).2.2.1]; simp [q]
  · by_cases q : y < x
    · rw [(tlt (h3.mpr q)).2.2.2]; simp [q]
    · rw [(flt fun w => q (h3.mp w)).2.2.2]; simp [q]
theorem own_ljY {cd : ClassFile.Cond} {x y : Int64} {o : Int} (X : OwnSt p l e R s m args below meth c Z own bytes maxL ret nm n0 km Q RR T h cells slots) (hd : decode bytes pc = .ok (.lcmp, 1)) (hd2 : decode bytes (pc + 1) = .ok (.ifCond cd o, 3)) (hc : ownLc cd x y = true) (hp : (((pc + 1 : Nat) : Int) + o).toNat = pc') (ho : 0 ≤ ((pc + 1 : Nat) : Int) + o) (k : OwnGo p e below (T.setTop (mkF m pc' Ls S)) RR) : OwnGo p e below (T.setTop (mkF m pc Ls (.long y :: .long x :: S))) RR :=
  own_step (own_ifY (pc := pc + 1) (x := lcmpW x y) X hd2 ((own_lc cd x y).trans hc) hp ho k) fun t k => XS.lcmp X.here X.hx rfl (hb X.by' hd) rfl k
theorem own_ljN {cd : ClassFile.Cond} {x y : Int64} {o : Int} (X : OwnSt p l e R s m args below meth c Z own bytes maxL ret nm n0 km Q RR T h cells slots) (hd : decode bytes pc = .ok (.lcmp, 1)) (hd2 : decode bytes (pc + 1) = .ok (.ifCond cd o, 3)) (hc : ownLc cd x y = false) (hp : pc + 4 = pc') (k : OwnGo p e below (T.setTop (mkF m pc' Ls S)) RR) : OwnGo p e below (T.setTop (mkF m pc Ls (.long y :: .long x :: S))) RR :=
  own_step (own_ifN (pc := pc + 1) (x := lcmpW x y) X hd2 ((own_lc cd x y).trans hc) hp k) fun t k => XS.lcmp X.here X.hx rfl (hb X.by' hd) rfl k
theorem own_teqA {a b : Addr} (h : a = b) : if_acmp.holds .eq (some a) (some b) = true ∧ if_acmp.holds .ne (some a) (some b) = false := by simp [if_acmp.holds, h]
theorem own_feqA {a b : Addr} (h : ¬ a = b) : if_acmp.holds .eq (some a) (some b) = false ∧ if_acmp.holds .ne (some a) (some b) = true := by simp [if_acmp.holds, h]
theorem own_acY {cd : ClassFile.ACond} {a b : Addr} {o : Int} (X : OwnSt p l e R s m args below meth c Z own bytes maxL ret nm n0 km Q RR T h cells slots) (hd : decode bytes pc = .ok (.if_acmp cd o, 3)) (hc : if_acmp.holds cd (some a) (some b) = true) (hp : ((pc : Int) + o).toNat = pc') (ho : 0 ≤ (pc : Int) + o) (k : OwnGo p e below (T.setTop (mkF m pc' Ls S)) RR) : OwnGo p e below (T.setTop (mkF m pc Ls (.ref b :: .ref a :: S))) RR :=
  own_step k fun t k => XS.acmpYes X.here X.hx rfl (pc0 := pc) rfl (hb X.by' hd) rfl hc ho hp k
theorem own_acN {cd : ClassFile.ACond} {a b : Addr} {o : Int} (X : OwnSt p l e R s m args below meth c Z own bytes maxL ret nm n0 km Q RR T h cells slots) (hd : decode bytes pc = .ok (.if_acmp cd o, 3)) (hc : if_acmp.holds cd (some a) (some b) = false) (hp : pc + 3 = pc') (k : OwnGo p e below (T.setTop (mkF m pc' Ls S)) RR) : OwnGo p e below (T.setTop (mkF m pc Ls (.ref b :: .ref a :: S))) RR := by
  subst hp
  exact own_step k fun t k => XS.acmpNo X.here X.hx rfl (hb X.by' hd) rfl hc k
theorem own_goto {o : Int} (X : OwnSt p l e R s m args below meth c Z own bytes maxL ret nm n0 km Q RR T h cells slots) (hd : decode bytes pc = .ok (.goto o, 3)) (hp : ((pc : Int) + o).toNat = pc') (ho : 0 ≤ (pc : Int) + o) (k : OwnGo p e below (T.setTop (mkF m pc' Ls S)) RR) : OwnGo p e below (T.setTop (mkF m pc Ls S)) RR :=
  own_step k fun t k => XS.goto X.here X.hx rfl (pc0 := pc) rfl (hb X.by' hd) ho hp k
theorem own_tltL {x y : Int64} (h : x < y) : ownLc .lt x y = true ∧ ownLc .ge x y = false ∧ ownLc .gt y x = true ∧ ownLc .le y x = false := by simp [ownLc, h]
theorem own_fltL {x y : Int64} (h : ¬ x < y) : ownLc .lt x y = false ∧ ownLc .ge x y = true ∧ ownLc .gt y x = false ∧ ownLc .le y x = true := by simp [ownLc, h]
theorem own_teqL {x y : Int64} (h : x = y) : ownLc .eq x y = true ∧ ownLc .ne x y = false := by simp [ownLc, h]
theorem own_feqL {x y : Int64} (h : ¬ x = y) : ownLc .eq x y = false ∧ ownLc .ne x y = true := by simp [ownLc, h]
/-- the same stand at another state with the same heap; with another heap -/
abbrev OwnAt (X : OwnSt p l e R s m args below meth c Z own bytes maxL ret nm n0 km Q RR T h cells slots) (T' : State) : Prop := OwnSt p l e R s m args below meth c Z own bytes maxL ret nm n0 km Q RR T' h cells slots
abbrev OwnAtH (X : OwnSt p l e R s m args below meth c Z own bytes maxL ret nm n0 km Q RR T h cells slots) (T' : State) (h' : Heap) : Prop := OwnSt p l e R s m args below meth c Z own bytes maxL ret nm n0 km Q RR T' h' cells slots
/-! heap steps -/
theorem own_init {index : Nat} {a : Addr} (X : OwnSt p l e R s m args below meth c Z own bytes maxL ret nm n0 km Q RR T h cells slots) (hd : decode bytes pc = .ok (.invokespecial index, 3)) (w1 : (Cond.methodLink own index Lib.objectInit).before a0 Z = true) (w2 : (Cond.instanceMethod Lib.objectInit).before a0 Z = true) (w3 : (Cond.code Lib.objectInit ⟨#[0xb1]⟩ 1 none).before a0 Z = true)
    (hp : pc + 3 = pc') (hsz : Ls.size = maxL) (hf : 1 ≤ R.frames) {W : Nat} (hW : 0 + (S.map fun v => v.category).sum ≤ W) (hlo : W + 12 ≤ R.locals)
    (k : ∀ T', OwnSt p l e R s m args below meth c Z own bytes maxL ret nm n0 km Q RR T' h cells slots → OwnGo p e below (T'.setTop (mkF m pc' Ls S)) RR) : OwnGo p e below (T.setTop (mkF m pc Ls (.ref a :: S))) RR := by
  subst hp
  obtain ⟨C, hh, hkm, locs, X0, N⟩ := X
  obtain ⟨hx, hby, hml, hZ, hown, hnm, hret, hlk, hR⟩ := id C
  obtain ⟨T', X', e', st⟩ := initO X0 hx hZ hown w1 w2 w3 hh (g := mkF m pc Ls (.ref a :: S)) rfl (hsz.trans hml.symm) rfl (hb hby hd) hf hW hlo
  exact own_step (k T' ⟨C, e', hkm, locs, X', N⟩) st
theorem own_new {index n : Nat} {K : String} (X : OwnSt p l e R s m args below meth c Z own bytes maxL ret nm n0 km Q RR T h cells slots) (hd : decode bytes pc = .ok (.new index, 3)) (w1 : (Cond.classLink own index K).before a0 Z = true) (w2 : (Cond.instantiable K n).before a0 Z = true) (w3 : (Cond.initialized K).before a0 Z = true)
    (hp : pc + 3 = pc') (hc : cells + 1 ≤ R.cells) (hl : slots + n ≤ R.slots)
    (k : ∀ T' h' b, b = h.size → OwnSt p l e R s m args below meth c Z own bytes maxL ret nm n0 km Q RR T' h' (cells + 1) (slots + n) → Ext h h' → Exa Z h' b K → (∀ {O nm d : String} {ty : FieldType}, Laid Z a0 K O nm d → parseFieldDescriptor d = some ty → Fld Z h' b O nm d (defaultValue ty)) → OwnGo p e below (T'.setTop (mkF m pc' Ls (.ref b :: S))) RR) : OwnGo p e below (T.setTop (mkF m pc Ls S)) RR := by
  subst hp
  obtain ⟨C, hh, hkm, locs, X0, N⟩ := X
  obtain ⟨hx, hby, hml, hZ, hown, hnm, hret, hlk, hR⟩ := id C
  obtain ⟨T', h', X', e', E', A', D', -, st⟩ := newO X0 hx hZ hown w1 w2 w3 hh (g := mkF m pc Ls S) rfl (hb hby hd) hc hl
  exact own_step (k T' h' _ rfl ⟨C, e', Nat.le_trans hkm E'.1, locs, X', N⟩ E' A' D') st
theorem own_getF {index : Nat} {O n d R0 : String} {a : Addr} {v : Value} (X : OwnSt p l e R s m args below meth c Z own bytes maxL ret nm n0 km Q RR T h cells slots) (hd : decode bytes pc = .ok (.getfield index, 3)) (w : (Cond.fieldLink own index R0 n d).before a0 Z = true) (via : Via Z R0 O n d) (F : Fld Z h a O n d v) (hp : pc + 3 = pc')
    (k : ∀ T', OwnSt p l e R s m args below meth c Z own bytes maxL ret nm n0 km Q RR T' h cells slots → OwnGo p e below (T'.setTop (mkF m pc' Ls (v :: S))) RR) : OwnGo p e below (T.setTop (mkF m pc Ls (.ref a :: S))) RR := by
  subst hp
  obtain ⟨C, hh, hkm, locs, X0, N⟩ := X
  obtain ⟨hx, hby, hml, hZ, hown, hnm, hret, hlk, hR⟩ := id C
  obtain ⟨T', X', e', st⟩ := getF X0 hx hZ hown (host := "") (Or.inl w) via hh F (g := mkF m pc Ls (.ref a :: S)) rfl rfl (hb hby hd)
  exact own_step (k T' ⟨C, e', hkm, locs, X', N⟩) st
theorem own_getS {index : Nat} {O n d R0 : String} {v : Value} (X : OwnSt p l e R s m args below meth c Z own bytes maxL ret nm n0 km Q RR T h cells slots) (hd : decode bytes pc = .ok (.getstatic index, 3)) (w : (Cond.fieldLink own index R0 n d).before a0 Z = true) (via : Via Z R0 O n d) (F : Sta Z h O n d v) (hp : pc + 3 = pc')
    (k : ∀ T', OwnSt p l e R s m args below meth c Z own bytes maxL ret nm n0 km Q RR T' h cells slots → OwnGo p e below (T'.setTop (mkF m pc' Ls (v :: S))) RR) : OwnGo p e below (T.setTop (mkF m pc Ls S)) RR := by
  subst hp
  obtain ⟨C, hh, hkm, locs, X0, N⟩ := X
  obtain ⟨hx, hby, hml, hZ, hown, hnm, hret, hlk, hR⟩ := id C
  obtain ⟨T', X', e', st⟩ := getS X0 hx hZ (host := "") hown w via hh F (g := mkF m pc Ls S) rfl (hb hby hd)
  exact own_step (k T' ⟨C, e', hkm, locs, X', N⟩) st
theorem own_putF {index kk : Nat} {O n d R0 K : String} {a : Addr} {v v' old : Value} {ty : FieldType} (X : OwnSt p l e R s m args below meth c Z own bytes maxL ret nm n0 km Q RR T h cells slots) (hd : decode bytes pc = .ok (.putfield index, 3)) (w : (Cond.fieldLink own index R0 n d).before a0 Z = true) (via : Via Z R0 O n d) (F : Fld Z h a O n d old) (E : Exa Z h a K) (L : (Cond.lays K O n d).before a0 Z = true ∨ ((Cond.laysFinal K O n d).before a0 Z = true ∧ own = O ∧ nm = "<init>")) (wi : (Cond.instantiable K kk).before a0 Z = true)
    (hty : parseFieldDescriptor d = some ty) (hn : narrow ty v = v') (hf : fits ty v' = true) (hge : n0 ≤ a) (hp : pc + 3 = pc')
    (k : ∀ T' h', OwnSt p l e R s m args below meth c Z own bytes maxL ret nm n0 km Q RR T' h' cells slots → Wr h h' a (Jvm.RoadKit.slotOf Z O n d) v' → OwnGo p e below (T'.setTop (mkF m pc' Ls S)) RR) : OwnGo p e below (T.setTop (mkF m pc Ls (v :: .ref a :: S))) RR := by
  subst hp
  obtain ⟨C, hh, hkm, locs, X0, N⟩ := X
  obtain ⟨hx, hby, hml, hZ, hown, hnm, hret, hlk, hR⟩ := id C
  obtain ⟨T', h', X', e', W', st⟩ := putFN X0 hx hZ hown w via hh F E (L.imp id fun q => ⟨q.1, q.2.1, hnm.trans q.2.2⟩) wi hty hn hf (g := mkF m pc Ls (v :: .ref a :: S)) rfl rfl (hb hby hd)
  exact own_step (k T' h' ⟨C, e', Nat.le_trans hkm (Nat.le_of_eq W'.size.symm), _, X', Fr.snoc X' N hge⟩ W') st
/-! from the case's words to facts -/
theorem own_fldL {st : State} {as' : Array Value} {t : Term} {C n d : String} {x : Addr} {z : Int64} (ht : t.eval as' st none [] st = some (.ref x)) (h : (Cond.eq (.field t C n d) (.long z)).value as' st none st [] = some true) : Fld st st.heap x C n d (.long z) := by
  obtain ⟨a, b, e1, e2, k1, k2⟩ := cmp_v (Or.inl h)
  cases (long_at z).symm.trans e2
  obtain ⟨w, rfl⟩ := k2
  have q := gotT (eq_L e1 e2) h
  subst q
  exact Fld.start ((fld_at ht).symm.trans e1)
theorem own_fldI {st : State} {as' : Array Value} {t : Term} {C n d : String} {x : Addr} {z : Int32} (ht : t.eval as' st none [] st = some (.ref x)) (h : (Cond.eq (.field t C n d) (.int z)).value as' st none st [] = some true) : Fld st st.heap x C n d (.int z) := by
  obtain ⟨a, b, e1, e2, k1, k2⟩ := cmp_v (Or.inl h)
  cases (Term.int_eval z).symm.trans e2
  obtain ⟨w, rfl⟩ := k2
  have q : w = z := by simpa [Cond.value, e1, e2] using h
  subst q
  exact Fld.start ((fld_at ht).symm.trans e1)
/-! calls by contract -/
theorem own_callC {index : Nat} {y : MethodName} {bytes' : ByteArray} {maxL' : Nat} {rm : Room} {a : Addr} {argsL : List Value} {Q' : Option Value → Heap → Prop} {ps : List FieldType} {W : Nat}
    (X : OwnSt p l e R s m args below meth c Z own bytes maxL ret nm n0 km Q RR T h cells slots) (hd : decode bytes pc = .ok (.invokespecial index, 3)) (hy : y.name = "<init>" ∧ y.cls ≠ "java/lang/invoke/MethodHandle" ∧ y.cls ≠ "java/lang/invoke/VarHandle")
    (w1 : (Cond.methodLink own index y).before a0 Z = true) (w2 : (Cond.instanceMethod y).before a0 Z = true) (w3 : (Cond.code y bytes' maxL' none).before a0 Z = true) (w4 : (Cond.initialized y.cls).before a0 Z = true)
    (M : OwnMet l Z y bytes' maxL' none rm (.ref a :: argsL).toArray h n0 Q') (hpd : parseMethodDescriptor y.desc = some ⟨ps, none⟩) (hlen : argsL.length = ps.length) {st : List Value} (hst : st = argsL.reverse ++ .ref a :: S) (hp : pc + 3 = pc') (hsz : Ls.size = maxL)
    (hW : 0 + (S.map fun v => v.category).sum ≤ W) (hf : rm.frames + 1 ≤ R.frames) (hlo : W + (maxL' + 11) + rm.locals ≤ R.locals) (hc : cells + rm.cells ≤ R.cells) (hl : slots + rm.slots ≤ R.slots)
    (k : ∀ T' h' v, OwnSt p l e R s m args below meth c Z own bytes maxL ret nm n0 km Q RR T' h' (cells + rm.cells) (slots + rm.slots) → Q' v h' → OwnGo p e below (T'.setTop (mkF m pc' Ls (v.toList ++ S))) RR) : OwnGo p e below (T.setTop (mkF m pc Ls st)) RR := by
  subst hp hst
  obtain ⟨C, hh, hkm, locs, X0, N⟩ := X
  obtain ⟨hx, hby, hml, hZ, hown, hnm, hret, hlk, hR⟩ := id C
  obtain ⟨v, _, ⟨T', L', c', s'⟩, -, X', ⟨Lc, hQ, e1, e2, e3⟩, st⟩ := X0.specialBack hx hy.1 hown (mvT hZ w1) (mvT hZ w2) (mvT hZ w3) hy.2 (backOf (W := W) (Q := fun v h' L => (Q' v h' ∧ h.size ≤ h'.size) ∧ Fr n0 L) (M []) hZ w3 w4 hf hlo) (g := mkF m pc Ls (argsL.reverse ++ .ref a :: S)) rfl (hsz.trans hml.symm) (Steps.refl _) (a := a) (argsL := argsL) (rest := S) (lenOf hpd hlen) rfl hW (hb hby hd) (fun _ _ => ⟨rfl, hh, hc, hl⟩)
  dsimp only [Pt.U, Pt.locs, Pt.cells, Pt.slots] at X' e1 e2 e3 st hQ
  subst e1 e2 e3
  exact own_step (k T' _ v ⟨C, rfl, Nat.le_trans hkm hQ.1.2, _, X', Fr.app N hQ.2⟩ hQ.1.1) fun t q => st.trans q
theorem own_callV {index : Nat} {y : MethodName} {K : String} {bytes' : ByteArray} {maxL' : Nat} {ret' : Option FieldType} {rm : Room} {a : Addr} {argsL : List Value} {Q' : Option Value → Heap → Prop} {ps : List FieldType} {W : Nat}
    (X : OwnSt p l e R s m args below meth c Z own bytes maxL ret nm n0 km Q RR T h cells slots) (hd : decode bytes pc = .ok (.invokevirtual index, 3)) (hy : y.cls ≠ "java/lang/invoke/MethodHandle" ∧ y.cls ≠ "java/lang/invoke/VarHandle")
    (w1 : (Cond.methodLink own index y).before a0 Z = true) (w2 : (Cond.declares y).before a0 Z = true) (w3 : (Cond.selects K y y).before a0 Z = true) (w4 : (Cond.instanceMethod y).before a0 Z = true) (w5 : (Cond.code y bytes' maxL' ret').before a0 Z = true) (w6 : (Cond.initialized y.cls).before a0 Z = true) (E : Exa Z h a K)
    (M : OwnMet l Z y bytes' maxL' ret' rm (.ref a :: argsL).toArray h n0 Q') {rt : Option FieldType} (hpd : parseMethodDescriptor y.desc = some ⟨ps, rt⟩) (hlen : argsL.length = ps.length) {st : List Value} (hst : st = argsL.reverse ++ .ref a :: S) (hp : pc + 3 = pc') (hsz : Ls.size = maxL)
    (hW : 0 + (S.map fun v => v.category).sum ≤ W) (hf : rm.frames + 1 ≤ R.frames) (hlo : W + (maxL' + 11) + rm.locals ≤ R.locals) (hc : cells + rm.cells ≤ R.cells) (hl : slots + rm.slots ≤ R.slots)
    (k : ∀ T' h' v, OwnSt p l e R s m args below meth c Z own bytes maxL ret nm n0 km Q RR T' h' (cells + rm.cells) (slots + rm.slots) → Q' v h' → OwnGo p e below (T'.setTop (mkF m pc' Ls (v.toList ++ S))) RR) : OwnGo p e below (T.setTop (mkF m pc Ls st)) RR := by
  subst hp hst
  obtain ⟨C, hh, hkm, locs, X0, N⟩ := X
  obtain ⟨hx, hby, hml, hZ, hown, hnm, hret, hlk, hR⟩ := id C
  obtain ⟨cq, kq, qa, qb, qc⟩ := isOf hZ hh E
  obtain ⟨v, _, ⟨T', L', c', s'⟩, -, X', ⟨Lc, hQ, e1, e2, e3⟩, st⟩ := X0.virtualBack hx (y := y) (z := y) hown (mvT hZ w1) (mvT hZ w2) (notFace_of_selects (args := #[]) (mvT hZ w3)) (mvT hZ w3) (mvT hZ w4) hy (backOf (W := W) (Q := fun v h' L => (Q' v h' ∧ h.size ≤ h'.size) ∧ Fr n0 L) (M []) hZ w5 w6 hf hlo) qa qc (g := mkF m pc Ls (argsL.reverse ++ .ref a :: S)) rfl (hsz.trans hml.symm) (Steps.refl _) (argsL := argsL) (rest := S) (lenOf hpd hlen) rfl hW (hb hby hd) (fun _ _ => ⟨rfl, hh, hc, hl⟩)
  dsimp only [Pt.U, Pt.locs, Pt.cells, Pt.slots] at X' e1 e2 e3 st hQ
  subst e1 e2 e3
  exact own_step (k T' _ v ⟨C, rfl, Nat.le_trans hkm hQ.1.2, _, X', Fr.app N hQ.2⟩ hQ.1.1) fun t q => st.trans q
theorem own_callP {index kk : Nat} {y : MethodName} {K : String} {bytes' : ByteArray} {maxL' : Nat} {ret' : Option FieldType} {rm : Room} {a : Addr} {argsL : List Value} {Q' : Option Value → Heap → Prop} {ps : List FieldType} {W : Nat}
    (X : OwnSt p l e R s m args below meth c Z own bytes maxL ret nm n0 km Q RR T h cells slots) (hd : decode bytes pc = .ok (.invokevirtual index, 3)) (hy : y.cls ≠ "java/lang/invoke/MethodHandle" ∧ y.cls ≠ "java/lang/invoke/VarHandle")
    (w1 : (Cond.methodLink own index y).before a0 Z = true) (w2 : (Cond.privateMethod y).before a0 Z = true) (w3 : (Cond.instantiable y.cls kk).before a0 Z = true) (w4 : (Cond.instanceMethod y).before a0 Z = true) (w5 : (Cond.code y bytes' maxL' ret').before a0 Z = true) (w6 : (Cond.initialized y.cls).before a0 Z = true) (E : Exa Z h a K)
    (M : OwnMet l Z y bytes' maxL' ret' rm (.ref a :: argsL).toArray h n0 Q') {rt : Option FieldType} (hpd : parseMethodDescriptor y.desc = some ⟨ps, rt⟩) (hlen : argsL.length = ps.length) {st : List Value} (hst : st = argsL.reverse ++ .ref a :: S) (hp : pc + 3 = pc') (hsz : Ls.size = maxL)
    (hW : 0 + (S.map fun v => v.category).sum ≤ W) (hf : rm.frames + 1 ≤ R.frames) (hlo : W + (maxL' + 11) + rm.locals ≤ R.locals) (hc : cells + rm.cells ≤ R.cells) (hl : slots + rm.slots ≤ R.slots)
    (k : ∀ T' h' v, OwnSt p l e R s m args below meth c Z own bytes maxL ret nm n0 km Q RR T' h' (cells + rm.cells) (slots + rm.slots) → Q' v h' → OwnGo p e below (T'.setTop (mkF m pc' Ls (v.toList ++ S))) RR) : OwnGo p e below (T.setTop (mkF m pc Ls st)) RR := by
  subst hp hst
  obtain ⟨C, hh, hkm, locs, X0, N⟩ := X
  obtain ⟨hx, hby, hml, hZ, hown, hnm, hret, hlk, hR⟩ := id C
  obtain ⟨cl, q, q'⟩ := E.cell
  have hpriv : s.PrivateAt y := Cond.privateMethod_at (mvP hZ w2 (args := #[]))
  have wi : (Cond.instantiable y.cls kk).before args s = true := mvT hZ w3
  obtain ⟨c2, k2, i1, i2, i3, i4, -⟩ := Cond.instantiable_spec wi
  have i5 : k2.isInterface = false := by
    cases hq : k2.isInterface
    · rfl
    · rw [hq] at i4; cases i4
  have hsel : (Cond.selects y.cls y y).before args s = true := selects_self_of_private i1 i2 i5 hpriv (mvT hZ w4) hy
  obtain ⟨v, _, ⟨T', L', c', s'⟩, -, X', ⟨Lc, hQ, e1, e2, e3⟩, st⟩ := X0.privateBack hx (y := y) hown (mvT hZ w1) (mvT hZ w4) hsel hpriv (mvT hZ w5) hy (backOf (W := W) (Q := fun v h' L => (Q' v h' ∧ h.size ≤ h'.size) ∧ Fr n0 L) (M []) hZ w5 w6 hf hlo) (g := mkF m pc Ls (argsL.reverse ++ .ref a :: S)) rfl (hsz.trans hml.symm) (Steps.refl _) (a := a) (by rw [hh]; exact q) q' (argsL := argsL) (rest := S) (lenOf hpd hlen) rfl hW (hb hby hd) (fun _ _ => ⟨rfl, hh, hc, hl⟩)
  dsimp only [Pt.U, Pt.locs, Pt.cells, Pt.slots] at X' e1 e2 e3 st hQ
  subst e1 e2 e3
  exact own_step (k T' _ v ⟨C, rfl, Nat.le_trans hkm hQ.1.2, _, X', Fr.app N hQ.2⟩ hQ.1.1) fun t q => st.trans q
theorem own_callS {index : Nat} {y : MethodName} {bytes' : ByteArray} {maxL' : Nat} {ret' : Option FieldType} {rm : Room} {argsL : List Value} {Q' : Option Value → Heap → Prop} {ps : List FieldType} {W : Nat}
    (X : OwnSt p l e R s m args below meth c Z own bytes maxL ret nm n0 km Q RR T h cells slots) (hd : decode bytes pc = .ok (.invokestatic index, 3)) (hy : y.cls ≠ "java/lang/invoke/MethodHandle" ∧ y.cls ≠ "java/lang/invoke/VarHandle")
    (w1 : (Cond.methodLink own index y).before a0 Z = true) (w2 : (Cond.static y).before a0 Z = true) (w5 : (Cond.code y bytes' maxL' ret').before a0 Z = true) (w6 : (Cond.initialized y.cls).before a0 Z = true)
    (M : OwnMet l Z y bytes' maxL' ret' rm argsL.toArray h n0 Q') {rt : Option FieldType} (hpd : parseMethodDescriptor y.desc = some ⟨ps, rt⟩) (hlen : argsL.length = ps.length) {st : List Value} (hst : st = argsL.reverse ++ S) (hp : pc + 3 = pc') (hsz : Ls.size = maxL)
    (hW : 0 + (S.map fun v => v.category).sum ≤ W) (hf : rm.frames + 1 ≤ R.frames) (hlo : W + (maxL' + 11) + rm.locals ≤ R.locals) (hc : cells + rm.cells ≤ R.cells) (hl : slots + rm.slots ≤ R.slots)
    (k : ∀ T' h' v, OwnSt p l e R s m args below meth c Z own bytes maxL ret nm n0 km Q RR T' h' (cells + rm.cells) (slots + rm.slots) → Q' v h' → OwnGo p e below (T'.setTop (mkF m pc' Ls (v.toList ++ S))) RR) : OwnGo p e below (T.setTop (mkF m pc Ls st)) RR := by
  subst hp hst
  obtain ⟨C, hh, hkm, locs, X0, N⟩ := X
  obtain ⟨hx, hby, hml, hZ, hown, hnm, hret, hlk, hR⟩ := id C
  obtain ⟨v, _, ⟨T', L', c', s'⟩, -, X', ⟨Lc, hQ, e1, e2, e3⟩, st⟩ := Jvm.LawKit.callS X0 hx (y := y) hown (mvT hZ w1) (mvT hZ w2) (mvT hZ w6) (mvT hZ w5) hy (backOf (W := W) (Q := fun v h' L => (Q' v h' ∧ h.size ≤ h'.size) ∧ Fr n0 L) (M []) hZ w5 w6 hf hlo) (g := mkF m pc Ls (argsL.reverse ++ S)) rfl (hsz.trans hml.symm) (argsL := argsL) (rest := S) (lenOf hpd hlen) rfl hW (hb hby hd) (fun _ _ => ⟨rfl, hh, hc, hl⟩)
  dsimp only [Pt.U, Pt.locs, Pt.cells, Pt.slots] at X' e1 e2 e3 st hQ
  subst e1 e2 e3
  exact own_step (k T' _ v ⟨C, rfl, Nat.le_trans hkm hQ.1.2, _, X', Fr.app N hQ.2⟩ hQ.1.1) st
end OwnKit
/-! ## own kit: a body that loads string literals (its tables may intern: the wide end) -/
section OwnW
variable {p : Program} {l : Launch} {e : Env} {R : Room} {s : State} {m : MethodId} {args : Array Value} {below : List Frame} {meth : Method} {c : Code} {Z : State} {own : String} {bytes : ByteArray} {maxL : Nat} {ret : Option FieldType} {nm : String} {n0 km : Nat} {Q : Option Value → Heap → Prop} {RR : State → Outcome → Prop} {T : State} {h : Heap} {cells slots : Nat} {a0 : Array Value} {pc pc' : Nat} {Ls : Array Slot} {S : List Value} {vm0 : Vm}
/-- how a wide walk may end -/
def OwnRW (s : State) (R : Room) (n0 : Nat) (Q : Option Value → Heap → Prop) (RR : State → Outcome → Prop) : Prop :=
  ∀ (U : State) (v : Option Value) (L : List Loc), Q v U.heap → Fr n0 L → ReturnedEndW s (.returned v) U L R.cells R.slots → RR U (.returned v)
def OwnMetW (l : Launch) (Z : State) (y : MethodName) (bytes : ByteArray) (maxL : Nat) (ret : Option FieldType) (rm : Room) (as' : Array Value) (h : Heap) (n0 : Nat) (Q : Option Value → Heap → Prop) : Prop :=
  ∀ ws : List Jvm.Cond, MetFree l y (head1 (Jvm.Cond.code y bytes maxL ret :: ws) rm) (fun a U => a = as' ∧ Z.Warmed39 U.vm ∧ U.heap = h) (fun _ _ _ _ _ => True) (fun _ U o U' => ∃ v L, o = .returned v ∧ ((Q v U'.heap ∧ h.size ≤ U'.heap.size) ∧ Fr n0 L) ∧ ReturnedEndW U o U' L rm.cells rm.slots)
theorem own_close (hS : s.Since vm0 km) (hRW : OwnRW s R n0 Q RR) (U : State) (v : Option Value) (L : List Loc) (hQ : Q v U.heap) (hk : km ≤ U.heap.size) (hN : Fr n0 L) (hW : (s.setVm vm0).WarmedH U.vm) (hs : (s.setVm vm0).sameButNew ({ U with vm := (s.setVm vm0).vm } : State) L R.cells R.slots) : RR U (.returned v) := by
  obtain ⟨a, b, c'⟩ := hS.ended (U := U) hW hk hs
  exact hRW U v L hQ hN ⟨⟨v, rfl⟩, a, b, c'⟩
theorem own_bodyW {y : MethodName} {rm : Room} {as' : Array Value} (hpl : plainFor y = true)
    (body : ∀ (p : Program) (e : Env) (s : State) (m : MethodId) (below : List Frame) (meth : Method) (c : Code) (s₁ : State) (RR : State → Outcome → Prop), OwnRW s rm n0 Q RR → s.Since s.vm h.size → OwnSt p l e rm (s.setVm s.vm) m as' below meth c Z y.cls bytes maxL ret y.name n0 h.size Q RR s₁ h 0 0 → OwnGo p e below (s₁.setTop (entryFrame m as' maxL)) RR) :
    OwnMetW l Z y bytes maxL ret rm as' h n0 Q := by
  intro ws
  refine MetFree.of_bodySF hpl hisR ?_
  intro p e s m args below meth c s₁ Bd hml0 hP hK
  obtain ⟨rfl, hZ, hh⟩ := hP
  have hS : s.Since s.vm h.size := (State.WarmedH.refl s).since _
  have hRW : OwnRW s rm n0 Q (fun s₂ o => ∃ v L, o = .returned v ∧ ((Q v s₂.heap ∧ h.size ≤ s₂.heap.size) ∧ Fr n0 L) ∧ ReturnedEndW s o s₂ L rm.cells rm.slots) := fun U v L hQ hN hE => ⟨v, L, rfl, ⟨⟨hQ, by rw [← hh]; exact hE.2.2.2.2.1⟩, hN⟩, hE⟩
  exact body p e s m below meth c s₁ _ hRW hS ⟨⟨Bd.exec, Bd.bytes, hml0, hZ, findClass_of_methodNamed Bd.named, (name_of_methodNamed Bd.named Bd.method).1, Bd.returns, Bd.notSynchronized, own_close hS hRW⟩, by rw [← hh, Bd.state]; rfl, Nat.le_refl _, [], Stand.of_body Bd, Fr.nil n0⟩
theorem own_ldcS {index n : Nat} {text : String} (X : OwnSt p l e R (s.setVm vm0) m args below meth c Z own bytes maxL ret nm n0 km Q RR T h cells slots) (hS : s.Since vm0 km) (hRW : OwnRW s R n0 Q RR) (hd : decode bytes pc = .ok (.ldc index, 2)) (w : (Cond.stringLink own index text).before a0 Z = true) (wS : ∀ a ∈ Bundle.stringAtoms, a.before a0 Z = true) (hp : pc + 2 = pc') (hn : 4 * text.toList.length ≤ n) (hbig : n ≤ 536870912) (hc : cells + 2 ≤ R.cells) (hl : slots + (n + 4) ≤ R.slots)
    (k : ∀ a T' h' k1, OwnSt p l e R (s.setVm T'.vm) m args below meth c Z own bytes maxL ret nm n0 k1 Q RR T' h' (cells + 2) (slots + (n + 4)) → s.Since T'.vm k1 → Ext h h' → OwnGo p e below (T'.setTop (mkF m pc' Ls (.ref a :: S))) RR) : OwnGo p e below (T.setTop (mkF m pc Ls S)) RR := by
  subst hp
  obtain ⟨C, hh, hkm, locs, X0, N⟩ := X
  obtain ⟨hx, hby, hml, hZ, hown, hnm, hret, hlk, hR⟩ := id C
  obtain ⟨a, T', h', k1, X', e', E', hS', hk', hZ', hown', st⟩ := ldcS X0 hx hZ hown w wS hh hS hkm (g := mkF m pc Ls S) rfl (hb hby hd) hn hbig hc hl
  exact own_step (k a T' h' k1 ⟨⟨hx, hby, hml, hZ', hown', hnm, hret, hlk, own_close hS' hRW⟩, e', hk', locs, X', N⟩ hS' E') st
end OwnW
theorem own_wS {a0 : Array Value} {Z : State} (hw : ∀ d ∈ tables_1, d.before a0 Z = true) : ∀ a ∈ Bundle.stringAtoms, a.before a0 Z = true := by
  intro a ha
  simp only [Bundle.stringAtoms, List.mem_cons, List.not_mem_nil, or_false] at ha
  rcases ha with rfl | rfl | rfl | rfl | rfl | rfl | rfl
  · exact hw _ (List.mem_of_getElem? (i := 5) rfl)
  · exact hw _ (List.mem_of_getElem? (i := 6) rfl)
  · exact hw _ (List.mem_of_getElem? (i := 7) rfl)
  · exact hw _ (List.mem_of_getElem? (i := 8) rfl)
  · exact hw _ (List.mem_of_getElem? (i := 9) rfl)
  · exact hw _ (List.mem_of_getElem? (i := 10) rfl)
  · exact hw _ (List.mem_of_getElem? (i := 11) rfl)
theorem own_d2_0 : decode jdk_30_method_1_code 0 = .ok (.aload_n 0, 1) := by decide +kernel
theorem own_d2_1 : decode jdk_30_method_1_code 1 = .ok (.invokespecial 1, 3) := by decide +kernel
theorem own_d2_4 : decode jdk_30_method_1_code 4 = .ok (.return_, 1) := by decide +kernel
theorem own_ef2 (m : MethodId) (x0 : Addr) : entryFrame m #[(.ref x0)] 1 = mkF m 0 #[.val (.ref x0)] [] := by first | (simp [entryFrame, mkF, argsToLocals, Value.category]; done) | rfl
theorem own_pn2 : plainFor (⟨"java/lang/Record", "<init>", "()V"⟩ : MethodName) = true := by first | exact plainFor_of_name (by first | (simp [plainName, overriddenIn]; done) | decide +kernel) | exact Jvm.Free.JP.mathPlain rfl (by decide +kernel)
set_option maxRecDepth 65536 in
set_option maxHeartbeats 40000000 in
theorem own_rm2 (l : Launch) (Z : State) (a0 : Array Value) (hw : ∀ d ∈ tables_1, d.before a0 Z = true) (a1 : Addr) (h0 : Heap) (n0 : Nat) (Z0 : n0 ≤ h0.size)  :
    OwnMet l Z (⟨"java/lang/Record", "<init>", "()V"⟩ : MethodName) jdk_30_method_1_code 1 none ({ frames := 1, cells := 0, slots := 0, locals := 12 } : Room) #[(.ref a1)] h0 n0 (fun v h => v = none ∧ h0 = h) := by
  refine own_body own_pn2 ?_
  intro p e s m below meth c s₁ RR X0
  refine own_enter (own_ef2 m a1) ?_
  refine own_aloadN X0 own_d2_0 (pc' := 1) rfl rfl rfl ?_
  refine own_init X0 own_d2_1 (hw _ (List.mem_of_getElem? (i := 20) rfl)) (hw _ (List.mem_of_getElem? (i := 21) rfl)) (hw _ (List.mem_of_getElem? (i := 22) rfl)) (pc' := 4) rfl rfl (by decide) (W := 0) (Nat.le_of_eq rfl) (by decide) ?_
  intro T1 X1
  exact own_retV X1 own_d2_4 ⟨rfl, rfl⟩ (by decide) (by decide)
theorem own_pd0 : parseMethodDescriptor "()V" = some ⟨[], none⟩ := by decide +kernel
theorem own_d1_0 : decode prog_36_method_1_code 0 = .ok (.aload_n 0, 1) := by decide +kernel
theorem own_d1_1 : decode prog_36_method_1_code 1 = .ok (.invokespecial 1, 3) := by decide +kernel
theorem own_d1_4 : decode prog_36_method_1_code 4 = .ok (.aload_n 0, 1) := by decide +kernel
theorem own_d1_5 : decode prog_36_method_1_code 5 = .ok (.aload_n 1, 1) := by decide +kernel
theorem own_d1_6 : decode prog_36_method_1_code 6 = .ok (.putfield 7, 3) := by decide +kernel
theorem own_d1_9 : decode prog_36_method_1_code 9 = .ok (.aload_n 0, 1) := by decide +kernel
theorem own_d1_10 : decode prog_36_method_1_code 10 = .ok (.lload_n 2, 1) := by decide +kernel
theorem own_d1_11 : decode prog_36_method_1_code 11 = .ok (.putfield 13, 3) := by decide +kernel
theorem own_d1_14 : decode prog_36_method_1_code 14 = .ok (.aload_n 0, 1) := by decide +kernel
theorem own_d1_15 : decode prog_36_method_1_code 15 = .ok (.lload 4, 2) := by decide +kernel
theorem own_d1_17 : decode prog_36_method_1_code 17 = .ok (.putfield 17, 3) := by decide +kernel
theorem own_d1_20 : decode prog_36_method_1_code 20 = .ok (.return_, 1) := by decide +kernel
theorem own_ef1 (m : MethodId) (x0 : Addr) (x1 : Addr) (x2 : Int64) (x3 : Int64) : entryFrame m #[(.ref x0), (.ref x1), (.long x2), (.long x3)] 6 = mkF m 0 #[.val (.ref x0), .val (.ref x1), .val (.long x2), .second, .val (.long x3), .second] [] := by first | (simp [entryFrame, mkF, argsToLocals, Value.category]; done) | rfl
theorem own_pn1 : plainFor (⟨"com/example/packhouse/packhouse/Vm", "<init>", "(Ljava/lang/String;JJ)V"⟩ : MethodName) = true := by first | exact plainFor_of_name (by first | (simp [plainName, overriddenIn]; done) | decide +kernel) | exact Jvm.Free.JP.mathPlain rfl (by decide +kernel)
set_option maxRecDepth 65536 in
set_option maxHeartbeats 40000000 in
theorem own_rm1 (l : Launch) (Z : State) (a0 : Array Value) (hw : ∀ d ∈ tables_1, d.before a0 Z = true) (a1 : Addr) (p0 : Addr) (p1 : Int64) (p2 : Int64) (u1 : Int64) (u2 : Int64) (h0 : Heap) (n0 : Nat) (Z0 : n0 ≤ h0.size) (E_a1 : Exa Z h0 a1 "com/example/packhouse/packhouse/Vm") (F_id_a1 : Fld Z h0 a1 "com/example/packhouse/packhouse/Vm" "id" "Ljava/lang/String;" .null) (F_cpu_a1 : Fld Z h0 a1 "com/example/packhouse/packhouse/Vm" "cpu" "J" (.long u1)) (F_mem_a1 : Fld Z h0 a1 "com/example/packhouse/packhouse/Vm" "mem" "J" (.long u2)) (g_a1 : n0 ≤ a1) :
    OwnMet l Z (⟨"com/example/packhouse/packhouse/Vm", "<init>", "(Ljava/lang/String;JJ)V"⟩ : MethodName) prog_36_method_1_code 6 none ({ frames := 2, cells := 0, slots := 0, locals := 24 } : Room) #[(.ref a1), (.ref p0), (.long p1), (.long p2)] h0 n0 (fun v h => v = none ∧ Keep h0 h [a1] ∧ Fld Z h a1 "com/example/packhouse/packhouse/Vm" "id" "Ljava/lang/String;" (.ref p0) ∧ Fld Z h a1 "com/example/packhouse/packhouse/Vm" "cpu" "J" (.long p1) ∧ Fld Z h a1 "com/example/packhouse/packhouse/Vm" "mem" "J" (.long p2)) := by
  refine own_body own_pn1 ?_
  intro p e s m below meth c s₁ RR X0
  refine own_enter (own_ef1 m a1 p0 p1 p2) ?_
  refine own_aloadN X0 own_d1_0 (pc' := 1) rfl rfl rfl ?_
  refine own_callC (a := a1) (argsL := []) X0 own_d1_1 (y := (⟨"java/lang/Record", "<init>", "()V"⟩ : MethodName)) (by decide) (hw _ (List.mem_of_getElem? (i := 15) rfl)) (hw _ (List.mem_of_getElem? (i := 16) rfl)) (hw _ (List.mem_of_getElem? (i := 19) rfl)) (hw _ (List.mem_of_getElem? (i := 18) rfl)) (own_rm2 l Z a0 hw a1 h0 n0 Z0 ) own_pd0 rfl (S := []) rfl (pc' := 4) rfl rfl (W := 0) (Nat.le_of_eq rfl) (by decide) (by decide) (by decide) (by decide) ?_
  intro T1 h1 v1_ X1 q1_
  obtain ⟨rfl, rfl⟩ := q1_
  show OwnGo p e below (T1.setTop (mkF m 4 #[.val (.ref a1), .val (.ref p0), .val (.long p1), .second, .val (.long p2), .second] [])) RR
  refine own_aloadN X1 own_d1_4 (pc' := 5) rfl rfl rfl ?_
  refine own_aloadN X1 own_d1_5 (pc' := 6) rfl rfl rfl ?_
  refine own_putF X1 own_d1_6 (hw _ (List.mem_of_getElem? (i := 23) rfl)) Via.refl F_id_a1 E_a1 (Or.inr ⟨(hw _ (List.mem_of_getElem? (i := 24) rfl)), rfl, rfl⟩) (hw _ (List.mem_of_getElem? (i := 2) rfl)) (ty := (.object "java/lang/String")) (v' := (.ref p0)) (by decide) rfl rfl g_a1 (pc' := 9) rfl ?_
  intro T2 h2 X2 W2
  have E_a1_2 := (E_a1).wr W2
  have F_id_a1_2 := (F_id_a1).same W2
  have F_cpu_a1_2 := (F_cpu_a1).other W2 (Or.inr (slot_ne (Or.inr (hw _ (List.mem_of_getElem? (i := 26) rfl))) (Or.inr (hw _ (List.mem_of_getElem? (i := 24) rfl))) (by decide) (t := .long) (t' := (.object "java/lang/String")) (by decide) (by decide)))
  have F_mem_a1_2 := (F_mem_a1).other W2 (Or.inr (slot_ne (Or.inr (hw _ (List.mem_of_getElem? (i := 28) rfl))) (Or.inr (hw _ (List.mem_of_getElem? (i := 24) rfl))) (by decide) (t := .long) (t' := (.object "java/lang/String")) (by decide) (by decide)))
  have Z2 : n0 ≤ h2.size := Nat.le_trans Z0 (Nat.le_of_eq W2.size.symm)
  have K2 := ((Keep.refl h0 [a1])).wr W2 (Or.inl (List.mem_of_getElem? (i := 0) rfl))
  refine own_aloadN X2 own_d1_9 (pc' := 10) rfl rfl rfl ?_
  refine own_lloadN X2 own_d1_10 (pc' := 11) rfl rfl ?_
  refine own_putF X2 own_d1_11 (hw _ (List.mem_of_getElem? (i := 25) rfl)) Via.refl F_cpu_a1_2 E_a1_2 (Or.inr ⟨(hw _ (List.mem_of_getElem? (i := 26) rfl)), rfl, rfl⟩) (hw _ (List.mem_of_getElem? (i := 2) rfl)) (ty := .long) (v' := (.long p1)) (by decide) rfl rfl g_a1 (pc' := 14) rfl ?_
  intro T3 h3 X3 W3
  have E_a1_3 := (E_a1_2).wr W3
  have F_id_a1_3 := (F_id_a1_2).other W3 (Or.inr (slot_ne (Or.inr (hw _ (List.mem_of_getElem? (i := 24) rfl))) (Or.inr (hw _ (List.mem_of_getElem? (i := 26) rfl))) (by decide) (t := (.object "java/lang/String")) (t' := .long) (by decide) (by decide)))
  have F_cpu_a1_3 := (F_cpu_a1_2).same W3
  have F_mem_a1_3 := (F_mem_a1_2).other W3 (Or.inr (slot_ne (Or.inr (hw _ (List.mem_of_getElem? (i := 28) rfl))) (Or.inr (hw _ (List.mem_of_getElem? (i := 26) rfl))) (by decide) (t := .long) (t' := .long) (by decide) (by decide)))
  have Z3 : n0 ≤ h3.size := Nat.le_trans Z2 (Nat.le_of_eq W3.size.symm)
  have K3 := (K2).wr W3 (Or.inl (List.mem_of_getElem? (i := 0) rfl))
  refine own_aloadN X3 own_d1_14 (pc' := 15) rfl rfl rfl ?_
  refine own_lload X3 own_d1_15 (pc' := 17) rfl rfl ?_
  refine own_putF X3 own_d1_17 (hw _ (List.mem_of_getElem? (i := 27) rfl)) Via.refl F_mem_a1_3 E_a1_3 (Or.inr ⟨(hw _ (List.mem_of_getElem? (i := 28) rfl)), rfl, rfl⟩) (hw _ (List.mem_of_getElem? (i := 2) rfl)) (ty := .long) (v' := (.long p2)) (by decide) rfl rfl g_a1 (pc' := 20) rfl ?_
  intro T4 h4 X4 W4
  have E_a1_4 := (E_a1_3).wr W4
  have F_id_a1_4 := (F_id_a1_3).other W4 (Or.inr (slot_ne (Or.inr (hw _ (List.mem_of_getElem? (i := 24) rfl))) (Or.inr (hw _ (List.mem_of_getElem? (i := 28) rfl))) (by decide) (t := (.object "java/lang/String")) (t' := .long) (by decide) (by decide)))
  have F_cpu_a1_4 := (F_cpu_a1_3).other W4 (Or.inr (slot_ne (Or.inr (hw _ (List.mem_of_getElem? (i := 26) rfl))) (Or.inr (hw _ (List.mem_of_getElem? (i := 28) rfl))) (by decide) (t := .long) (t' := .long) (by decide) (by decide)))
  have F_mem_a1_4 := (F_mem_a1_3).same W4
  have Z4 : n0 ≤ h4.size := Nat.le_trans Z3 (Nat.le_of_eq W4.size.symm)
  have K4 := (K3).wr W4 (Or.inl (List.mem_of_getElem? (i := 0) rfl))
  exact own_retV X4 own_d1_20 ⟨rfl, K4, F_id_a1_4, F_cpu_a1_4, F_mem_a1_4⟩ (by decide) (by decide)
theorem own_d4_0 : decode prog_36_method_2_code 0 = .ok (.aload_n 0, 1) := by decide +kernel
theorem own_d4_1 : decode prog_36_method_2_code 1 = .ok (.getfield 13, 3) := by decide +kernel
theorem own_d4_4 : decode prog_36_method_2_code 4 = .ok (.lload_n 1, 1) := by decide +kernel
theorem own_d4_5 : decode prog_36_method_2_code 5 = .ok (.lcmp, 1) := by decide +kernel
theorem own_d4_6 : decode prog_36_method_2_code 6 = .ok (.ifCond .gt 16, 3) := by decide +kernel
theorem own_d4_9 : decode prog_36_method_2_code 9 = .ok (.aload_n 0, 1) := by decide +kernel
theorem own_d4_10 : decode prog_36_method_2_code 10 = .ok (.getfield 17, 3) := by decide +kernel
theorem own_d4_13 : decode prog_36_method_2_code 13 = .ok (.lload_n 3, 1) := by decide +kernel
theorem own_d4_14 : decode prog_36_method_2_code 14 = .ok (.lcmp, 1) := by decide +kernel
theorem own_d4_15 : decode prog_36_method_2_code 15 = .ok (.ifCond .gt 7, 3) := by decide +kernel
theorem own_d4_18 : decode prog_36_method_2_code 18 = .ok (.iconst 1, 1) := by decide +kernel
theorem own_d4_19 : decode prog_36_method_2_code 19 = .ok (.goto 4, 3) := by decide +kernel
theorem own_d4_22 : decode prog_36_method_2_code 22 = .ok (.iconst 0, 1) := by decide +kernel
theorem own_d4_23 : decode prog_36_method_2_code 23 = .ok (.ireturn, 1) := by decide +kernel
theorem own_ef4 (m : MethodId) (x0 : Addr) (x1 : Int64) (x2 : Int64) : entryFrame m #[(.ref x0), (.long x1), (.long x2)] 5 = mkF m 0 #[.val (.ref x0), .val (.long x1), .second, .val (.long x2), .second] [] := by first | (simp [entryFrame, mkF, argsToLocals, Value.category]; done) | rfl
theorem own_pn4 : plainFor (⟨"com/example/packhouse/packhouse/Vm", "fitsOn", "(JJ)Z"⟩ : MethodName) = true := by first | exact plainFor_of_name (by first | (simp [plainName, overriddenIn]; done) | decide +kernel) | exact Jvm.Free.JP.mathPlain rfl (by decide +kernel)
set_option maxRecDepth 65536 in
set_option maxHeartbeats 40000000 in
theorem own_rm4 (l : Launch) (Z : State) (a0 : Array Value) (hw : ∀ d ∈ tables_1, d.before a0 Z = true) (a1 : Addr) (q2 : Int64) (q3 : Int64) (w2 : Int64) (w3 : Int64) (h0 : Heap) (n0 : Nat) (Z0 : n0 ≤ h0.size) (F_cpu_a1 : Fld Z h0 a1 "com/example/packhouse/packhouse/Vm" "cpu" "J" (.long w2)) (F_mem_a1 : Fld Z h0 a1 "com/example/packhouse/packhouse/Vm" "mem" "J" (.long w3)) :
    OwnMet l Z (⟨"com/example/packhouse/packhouse/Vm", "fitsOn", "(JJ)Z"⟩ : MethodName) prog_36_method_2_code 5 (some .boolean) ({ frames := 0, cells := 0, slots := 0, locals := 0 } : Room) #[(.ref a1), (.long q2), (.long q3)] h0 n0 (fun v h => v = some (.int (if q2 < w2 then (0 : Int32) else (if q3 < w3 then (0 : Int32) else (1 : Int32)))) ∧ h0 = h) := by
  refine own_body own_pn4 ?_
  intro p e s m below meth c s₁ RR X0
  refine own_enter (own_ef4 m a1 q2 q3) ?_
  refine own_aloadN X0 own_d4_0 (pc' := 1) rfl rfl rfl ?_
  refine own_getF X0 own_d4_1 (hw _ (List.mem_of_getElem? (i := 25) rfl)) Via.refl F_cpu_a1 (pc' := 4) rfl ?_
  intro T1 X1
  refine own_lloadN X1 own_d4_4 (pc' := 5) rfl rfl ?_
  have j23_2 : ∀ T2, OwnAt X1 T2 → ∀ (f23_s0 : Int32), f23_s0 = (if q2 < w2 then (0 : Int32) else (if q3 < w3 then (0 : Int32) else (1 : Int32))) → OwnGo p e below (T2.setTop (mkF m 23 #[.val (.ref a1), .val (.long q2), .second, .val (.long q3), .second] [(.int f23_s0)])) RR := by
    intro T2 X2 f23_s0 hf23_s0
    exact own_retZ X2 own_d4_23 (by rw [hf23_s0]; (repeat' split) <;> decide) ⟨by rw [hf23_s0], rfl⟩ (by decide) (by decide)
  by_cases hc6 : q2 < w2
  · refine own_ljY X1 own_d4_5 own_d4_6 (own_tltL (hc6)).2.2.1 (pc' := 22) (by decide) (by decide) ?_
    refine own_iconst X1 own_d4_22 (pc' := 23) rfl (v := (0 : Int32)) (by decide) ?_
    exact j23_2 T1 X1 _ (by rw [if_pos hc6])
  · refine own_ljN X1 own_d4_5 own_d4_6 (own_fltL (hc6)).2.2.1 (pc' := 9) rfl ?_
    refine own_aloadN X1 own_d4_9 (pc' := 10) rfl rfl rfl ?_
    refine own_getF X1 own_d4_10 (hw _ (List.mem_of_getElem? (i := 27) rfl)) Via.refl F_mem_a1 (pc' := 13) rfl ?_
    intro T3 X3
    refine own_lloadN X3 own_d4_13 (pc' := 14) rfl rfl ?_
    by_cases hc15 : q3 < w3
    · refine own_ljY X3 own_d4_14 own_d4_15 (own_tltL (hc15)).2.2.1 (pc' := 22) (by decide) (by decide) ?_
      refine own_iconst X3 own_d4_22 (pc' := 23) rfl (v := (0 : Int32)) (by decide) ?_
      exact j23_2 T3 X3 _ (by rw [if_neg hc6, if_pos hc15])
    · refine own_ljN X3 own_d4_14 own_d4_15 (own_fltL (hc15)).2.2.1 (pc' := 18) rfl ?_
      refine own_iconst X3 own_d4_18 (pc' := 19) rfl (v := (1 : Int32)) (by decide) ?_
      refine own_goto X3 own_d4_19 (pc' := 23) (by decide) (by decide) ?_
      exact j23_2 T3 X3 _ (by rw [if_neg hc6, if_neg hc15])
theorem own_mx (x : Int64) : ¬ (9223372036854775807 : Int64) < x := by
  rw [Int64.lt_iff_toInt_lt]
  have := x.toInt_lt
  have e : (9223372036854775807 : Int64).toInt = 9223372036854775807 := rfl
  omega
theorem own_fo (a b c d : Int64) : (if a < b then (0 : Int32) else (if c < d then (0 : Int32) else (1 : Int32))) = (if a < b ∨ c < d then (0 : Int32) else (1 : Int32)) := by
  by_cases h : a < b <;> by_cases g : c < d <;> simp [h, g]
theorem own_as (a b : Int64) : ¬ (a < b ∧ b < a) := by
  rintro ⟨h, g⟩
  rw [Int64.lt_iff_toInt_lt] at h g
  omega
theorem own_eq (a b : Int64) : a = b ↔ ¬ a < b ∧ ¬ b < a := by
  rw [← Int64.toInt_inj, Int64.lt_iff_toInt_lt, Int64.lt_iff_toInt_lt]
  omega
theorem own_v126 (p0 p1 p2 p3 : Int64) (r10 r11 r13 f118 f126 : Int32)
    (hr10 : r10 = (if p2 < p0 then (0 : Int32) else (if p3 < p1 then (0 : Int32) else (1 : Int32)))) (hr11 : r11 = (if p2 < p0 then (0 : Int32) else (if (9223372036854775807 : Int64) < p1 then (0 : Int32) else (1 : Int32)))) (hr13 : r13 = (if (9223372036854775807 : Int64) < p0 then (0 : Int32) else (if p3 < p1 then (0 : Int32) else (1 : Int32))))
    (h118 : f118 = (if r11 = (0 : Int32) then (0 : Int32) else (if r13 = (0 : Int32) then (0 : Int32) else (1 : Int32)))) (h126 : f126 = (if r10 = f118 then (1 : Int32) else (0 : Int32))) : ¬ f126 = 0 := by
  subst h126 h118 hr10 hr11 hr13
  simp only [if_neg (own_mx _)]
  by_cases h : p2 < p0 <;> by_cases g : p3 < p1 <;> simp [h, g]
theorem own_v153 (p0 p1 p2 p3 : Int64) (r11 r12 r13 r14 f : Int32)
    (hr11 : r11 = (if p2 < p0 then (0 : Int32) else (if (9223372036854775807 : Int64) < p1 then (0 : Int32) else (1 : Int32)))) (hr12 : r12 = (if p0 < p2 then (0 : Int32) else (if (9223372036854775807 : Int64) < p3 then (0 : Int32) else (1 : Int32)))) (hr13 : r13 = (if (9223372036854775807 : Int64) < p0 then (0 : Int32) else (if p3 < p1 then (0 : Int32) else (1 : Int32)))) (hr14 : r14 = (if (9223372036854775807 : Int64) < p2 then (0 : Int32) else (if p1 < p3 then (0 : Int32) else (1 : Int32))))
    (hf : f = (if r11 = (0 : Int32) then (if r12 = (0 : Int32) then (0 : Int32) else (if r13 = (0 : Int32) then (if r14 = (0 : Int32) then (0 : Int32) else (1 : Int32)) else (1 : Int32))) else (if r13 = (0 : Int32) then (if r14 = (0 : Int32) then (0 : Int32) else (1 : Int32)) else (1 : Int32)))) : ¬ f = 0 := by
  subst hf hr11 hr12 hr13 hr14
  simp only [if_neg (own_mx _)]
  have a1 := own_as p0 p2
  have a2 := own_as p1 p3
  by_cases h : p2 < p0 <;> by_cases g : p3 < p1 <;> by_cases h' : p0 < p2 <;> by_cases g' : p1 < p3 <;> simp_all
theorem own_v220 (p0 p1 p2 p3 : Int64) (r11 r12 r13 r14 f170 f182 f : Int32)
    (hr11 : r11 = (if p2 < p0 then (0 : Int32) else (if (9223372036854775807 : Int64) < p1 then (0 : Int32) else (1 : Int32)))) (hr12 : r12 = (if p0 < p2 then (0 : Int32) else (if (9223372036854775807 : Int64) < p3 then (0 : Int32) else (1 : Int32)))) (hr13 : r13 = (if (9223372036854775807 : Int64) < p0 then (0 : Int32) else (if p3 < p1 then (0 : Int32) else (1 : Int32)))) (hr14 : r14 = (if (9223372036854775807 : Int64) < p2 then (0 : Int32) else (if p1 < p3 then (0 : Int32) else (1 : Int32))))
    (h170 : f170 = (if r11 = (0 : Int32) then (0 : Int32) else (if r12 = (0 : Int32) then (0 : Int32) else (1 : Int32)))) (h182 : f182 = (if p0 = p2 then (1 : Int32) else (0 : Int32)))
    (hf : f = (if f170 = f182 then (if r13 = (0 : Int32) then (if p1 = p3 then (0 : Int32) else (1 : Int32)) else (if r14 = (0 : Int32) then (if p1 = p3 then (0 : Int32) else (1 : Int32)) else (if p1 = p3 then (1 : Int32) else (0 : Int32)))) else (0 : Int32))) : ¬ f = 0 := by
  subst hf h182 h170 hr11 hr12 hr13 hr14
  simp only [if_neg (own_mx _), own_eq p0 p2, own_eq p1 p3]
  by_cases h : p2 < p0 <;> by_cases g : p3 < p1 <;> by_cases h' : p0 < p2 <;> by_cases g' : p1 < p3 <;> simp [h, g, h', g']
theorem own_v264 (p0 p1 p2 p3 p4 p5 : Int64) (r10 r21 r22 f : Int32)
    (hr10 : r10 = (if p2 < p0 then (0 : Int32) else (if p3 < p1 then (0 : Int32) else (1 : Int32)))) (hr21 : r21 = (if p4 < p2 then (0 : Int32) else (if p5 < p3 then (0 : Int32) else (1 : Int32)))) (hr22 : r22 = (if p4 < p0 then (0 : Int32) else (if p5 < p1 then (0 : Int32) else (1 : Int32))))
    (hf : f = (if r10 = (0 : Int32) then (1 : Int32) else (if r21 = (0 : Int32) then (1 : Int32) else (if r22 = (0 : Int32) then (0 : Int32) else (1 : Int32))))) : ¬ f = 0 := by
  subst hf hr10 hr21 hr22
  by_cases h : p2 < p0
  · simp [h]
  · by_cases g : p3 < p1
    · simp [g]
    · by_cases h2 : p4 < p2
      · simp [h2]
      · by_cases g2 : p5 < p3
        · simp [g2]
        · have h3 : ¬ p4 < p0 := by rw [Int64.lt_iff_toInt_lt] at *; omega
          have g3 : ¬ p5 < p1 := by rw [Int64.lt_iff_toInt_lt] at *; omega
          rw [if_neg h3, if_neg g3]; simp
theorem own_suc (p : Int64) (h : ¬ p = (9223372036854775807 : Int64)) : ¬ (p + (1 : Int64)) < p := by
  have e : (9223372036854775807 : Int64).toInt = 9223372036854775807 := rfl
  have e1 : (1 : Int64).toInt = 1 := rfl
  rw [← Int64.toInt_inj, e] at h
  have := p.toInt_lt; have := p.le_toInt
  rw [Int64.lt_iff_toInt_lt, Int64.toInt_add, e1, Int.bmod_eq_of_le (by omega) (by omega)]
  omega
theorem own_irr (p : Int64) : ¬ p < p := fun h => own_as p p ⟨h, h⟩
theorem own_v290 (p0 p1 : Int64) (f : Int32) (hf : f = (if p0 = (9223372036854775807 : Int64) then (1 : Int32) else (if (if (p0 + (1 : Int64)) < p0 then (0 : Int32) else (if p1 < p1 then (0 : Int32) else (1 : Int32))) = (0 : Int32) then (0 : Int32) else (1 : Int32)))) : ¬ f = 0 := by
  subst hf
  by_cases h : p0 = 9223372036854775807
  · rw [if_pos h]; decide
  · rw [if_neg h, if_neg (own_suc p0 h), if_neg (own_irr p1)]; decide
theorem own_v316 (p0 p1 : Int64) (f : Int32) (hf : f = (if p1 = (9223372036854775807 : Int64) then (1 : Int32) else (if (if p0 < p0 then (0 : Int32) else (if (p1 + (1 : Int64)) < p1 then (0 : Int32) else (1 : Int32))) = (0 : Int32) then (0 : Int32) else (1 : Int32)))) : ¬ f = 0 := by
  subst hf
  by_cases h : p1 = 9223372036854775807
  · rw [if_pos h]; decide
  · rw [if_neg h, if_neg (own_irr p0), if_neg (own_suc p1 h)]; decide
theorem own_pd1 : parseMethodDescriptor "(Ljava/lang/String;JJ)V" = some ⟨[(.object "java/lang/String"), .long, .long], none⟩ := by decide +kernel
theorem own_pd2 : parseMethodDescriptor "(JJ)Z" = some ⟨[.long, .long], some .boolean⟩ := by decide +kernel
theorem own_ef0 (m : MethodId) (x0 : Int64) (x1 : Int64) (x2 : Int64) (x3 : Int64) (x4 : Int64) (x5 : Int64) : entryFrame m #[(.long x0), (.long x1), (.long x2), (.long x3), (.long x4), (.long x5)] maxLocals = mkF m 0 #[.val (.long x0), .second, .val (.long x1), .second, .val (.long x2), .second, .val (.long x3), .second, .val (.long x4), .second, .val (.long x5), .second, .unset, .unset, .unset, .unset, .unset, .unset, .unset, .unset, .unset, .unset, .unset, .unset, .unset, .unset, .unset, .unset, .unset, .unset] [] := by first | (simp [entryFrame, mkF, argsToLocals, Value.category, maxLocals]; done) | rfl
theorem own_pn0 : plainFor x = true := by first | exact plainFor_of_name (by first | (simp [plainName, overriddenIn]; done) | decide +kernel) | exact Jvm.Free.JP.mathPlain rfl (by decide +kernel)
set_option maxRecDepth 65536 in
set_option maxHeartbeats 40000000 in
theorem own_rm0 (l : Launch) (Z : State) (a0 : Array Value) (hw : ∀ d ∈ tables_1, d.before a0 Z = true) (p0 : Int64) (p1 : Int64) (p2 : Int64) (p3 : Int64) (p4 : Int64) (p5 : Int64) (h0 : Heap) (n0 : Nat) (Z0 : n0 ≤ h0.size)  :
    OwnMetW l Z x code maxLocals ret room_1 #[(.long p0), (.long p1), (.long p2), (.long p3), (.long p4), (.long p5)] h0 n0 (fun v h => v = some (.int 1)) := by
  refine own_bodyW own_pn0 ?_
  intro p e s m below meth c s₁ RR hRW hS0 X0
  refine own_enter (own_ef0 m p0 p1 p2 p3 p4 p5) ?_
  refine own_ldc2Long X0 at_0 (pc' := 3) rfl (hw _ (List.mem_of_getElem? (i := 0) rfl)) ?_
  refine own_lstore X0 at_3 (pc' := 5) rfl (l' := #[.val (.long p0), .second, .val (.long p1), .second, .val (.long p2), .second, .val (.long p3), .second, .val (.long p4), .second, .val (.long p5), .second, .val (.long (9223372036854775807 : Int64)), .second, .unset, .unset, .unset, .unset, .unset, .unset, .unset, .unset, .unset, .unset, .unset, .unset, .unset, .unset, .unset, .unset]) rfl ?_
  refine own_new X0 at_5 (hw _ (List.mem_of_getElem? (i := 1) rfl)) (hw _ (List.mem_of_getElem? (i := 2) rfl)) (hw _ (List.mem_of_getElem? (i := 3) rfl)) (pc' := 8) rfl (by decide) (by decide) ?_
  intro T1 h1 b1 hb1 X1 E1 A1 D1
  have g_b1 : n0 ≤ b1 := Nat.le_trans Z0 (Nat.le_of_eq hb1.symm)
  have Z1 : n0 ≤ h1.size := Nat.le_trans Z0 E1.1
  have F_id_b1 : Fld Z h1 b1 "com/example/packhouse/packhouse/Vm" "id" "Ljava/lang/String;" .null := D1 (Or.inr (hw _ (List.mem_of_getElem? (i := 24) rfl))) (ty := (.object "java/lang/String")) (by decide)
  have F_cpu_b1 : Fld Z h1 b1 "com/example/packhouse/packhouse/Vm" "cpu" "J" (.long (0 : Int64)) := D1 (Or.inr (hw _ (List.mem_of_getElem? (i := 26) rfl))) (ty := .long) (by decide)
  have F_mem_b1 : Fld Z h1 b1 "com/example/packhouse/packhouse/Vm" "mem" "J" (.long (0 : Int64)) := D1 (Or.inr (hw _ (List.mem_of_getElem? (i := 28) rfl))) (ty := .long) (by decide)
  refine own_dup X1 at_8 (pc' := 9) rfl rfl ?_
  refine own_ldcS X1 hS0 hRW at_9 (hw _ (List.mem_of_getElem? (i := 4) rfl)) (own_wS hw) (pc' := 11) rfl (n := 4) (by decide) (by decide) (by decide) (by decide) ?_
  intro a2_ T2 h2 k2_ X2 hS2 E2
  have A1_2 := (A1).ext E2
  have F_id_b1_2 := (F_id_b1).ext E2
  have F_cpu_b1_2 := (F_cpu_b1).ext E2
  have F_mem_b1_2 := (F_mem_b1).ext E2
  have Z2 : n0 ≤ h2.size := Nat.le_trans Z1 E2.1
  refine own_lloadN X2 at_11 (pc' := 12) rfl rfl ?_
  refine own_lloadN X2 at_12 (pc' := 13) rfl rfl ?_
  refine own_callC (a := b1) (argsL := [(.ref a2_), (.long p0), (.long p1)]) X2 at_13 (y := (⟨"com/example/packhouse/packhouse/Vm", "<init>", "(Ljava/lang/String;JJ)V"⟩ : MethodName)) (by decide) (hw _ (List.mem_of_getElem? (i := 12) rfl)) (hw _ (List.mem_of_getElem? (i := 13) rfl)) (hw _ (List.mem_of_getElem? (i := 14) rfl)) (hw _ (List.mem_of_getElem? (i := 3) rfl)) (own_rm1 l Z a0 hw b1 a2_ p0 p1 (0 : Int64) (0 : Int64) h2 n0 Z2 A1_2 F_id_b1_2 F_cpu_b1_2 F_mem_b1_2 g_b1) own_pd1 rfl (S := [(.ref b1)]) rfl (pc' := 16) rfl rfl (W := 1) (Nat.le_of_eq rfl) (by decide) (by decide) (by decide) (by decide) ?_
  intro T3 h3 v3_ X3 q3_
  obtain ⟨rfl, KK3, FF3q0, FF3q1, FF3q2⟩ := q3_
  show OwnGo p e below (T3.setTop (mkF m 16 #[.val (.long p0), .second, .val (.long p1), .second, .val (.long p2), .second, .val (.long p3), .second, .val (.long p4), .second, .val (.long p5), .second, .val (.long (9223372036854775807 : Int64)), .second, .unset, .unset, .unset, .unset, .unset, .unset, .unset, .unset, .unset, .unset, .unset, .unset, .unset, .unset, .unset, .unset] [(.ref b1)])) RR
  have Z3 : n0 ≤ h3.size := Nat.le_trans Z2 KK3.1
  have A1_3 := (A1_2).keep KK3
  refine own_astore X3 at_16 (pc' := 18) rfl rfl (l' := #[.val (.long p0), .second, .val (.long p1), .second, .val (.long p2), .second, .val (.long p3), .second, .val (.long p4), .second, .val (.long p5), .second, .val (.long (9223372036854775807 : Int64)), .second, .val (.ref b1), .unset, .unset, .unset, .unset, .unset, .unset, .unset, .unset, .unset, .unset, .unset, .unset, .unset, .unset, .unset]) rfl ?_
  refine own_new X3 at_18 (hw _ (List.mem_of_getElem? (i := 1) rfl)) (hw _ (List.mem_of_getElem? (i := 2) rfl)) (hw _ (List.mem_of_getElem? (i := 3) rfl)) (pc' := 21) rfl (by decide) (by decide) ?_
  intro T4 h4 b4 hb4 X4 E4 A4 D4
  have g_b4 : n0 ≤ b4 := Nat.le_trans Z3 (Nat.le_of_eq hb4.symm)
  have ne_b1_b4 : b1 ≠ b4 := Nat.ne_of_lt (Nat.lt_of_lt_of_le (A1_3).lt (Nat.le_of_eq hb4.symm))
  have A1_4 := (A1_3).ext E4
  have FF3q0_4 := (FF3q0).ext E4
  have FF3q1_4 := (FF3q1).ext E4
  have FF3q2_4 := (FF3q2).ext E4
  have Z4 : n0 ≤ h4.size := Nat.le_trans Z3 E4.1
  have F_id_b4 : Fld Z h4 b4 "com/example/packhouse/packhouse/Vm" "id" "Ljava/lang/String;" .null := D4 (Or.inr (hw _ (List.mem_of_getElem? (i := 24) rfl))) (ty := (.object "java/lang/String")) (by decide)
  have F_cpu_b4 : Fld Z h4 b4 "com/example/packhouse/packhouse/Vm" "cpu" "J" (.long (0 : Int64)) := D4 (Or.inr (hw _ (List.mem_of_getElem? (i := 26) rfl))) (ty := .long) (by decide)
  have F_mem_b4 : Fld Z h4 b4 "com/example/packhouse/packhouse/Vm" "mem" "J" (.long (0 : Int64)) := D4 (Or.inr (hw _ (List.mem_of_getElem? (i := 28) rfl))) (ty := .long) (by decide)
  refine own_dup X4 at_21 (pc' := 22) rfl rfl ?_
  refine own_ldcS X4 hS2 hRW at_22 (hw _ (List.mem_of_getElem? (i := 29) rfl)) (own_wS hw) (pc' := 24) rfl (n := 4) (by decide) (by decide) (by decide) (by decide) ?_
  intro a5_ T5 h5 k5_ X5 hS5 E5
  have A1_5 := (A1_4).ext E5
  have FF3q0_5 := (FF3q0_4).ext E5
  have FF3q1_5 := (FF3q1_4).ext E5
  have FF3q2_5 := (FF3q2_4).ext E5
  have A4_5 := (A4).ext E5
  have F_id_b4_5 := (F_id_b4).ext E5
  have F_cpu_b4_5 := (F_cpu_b4).ext E5
  have F_mem_b4_5 := (F_mem_b4).ext E5
  have Z5 : n0 ≤ h5.size := Nat.le_trans Z4 E5.1
  refine own_lload X5 at_24 (pc' := 26) rfl rfl ?_
  refine own_lload X5 at_26 (pc' := 28) rfl rfl ?_
  refine own_callC (a := b4) (argsL := [(.ref a5_), (.long p2), (.long p3)]) X5 at_28 (y := (⟨"com/example/packhouse/packhouse/Vm", "<init>", "(Ljava/lang/String;JJ)V"⟩ : MethodName)) (by decide) (hw _ (List.mem_of_getElem? (i := 12) rfl)) (hw _ (List.mem_of_getElem? (i := 13) rfl)) (hw _ (List.mem_of_getElem? (i := 14) rfl)) (hw _ (List.mem_of_getElem? (i := 3) rfl)) (own_rm1 l Z a0 hw b4 a5_ p2 p3 (0 : Int64) (0 : Int64) h5 n0 Z5 A4_5 F_id_b4_5 F_cpu_b4_5 F_mem_b4_5 g_b4) own_pd1 rfl (S := [(.ref b4)]) rfl (pc' := 31) rfl rfl (W := 1) (Nat.le_of_eq rfl) (by decide) (by decide) (by decide) (by decide) ?_
  intro T6 h6 v6_ X6 q6_
  obtain ⟨rfl, KK6, FF6q0, FF6q1, FF6q2⟩ := q6_
  show OwnGo p e below (T6.setTop (mkF m 31 #[.val (.long p0), .second, .val (.long p1), .second, .val (.long p2), .second, .val (.long p3), .second, .val (.long p4), .second, .val (.long p5), .second, .val (.long (9223372036854775807 : Int64)), .second, .val (.ref b1), .unset, .unset, .unset, .unset, .unset, .unset, .unset, .unset, .unset, .unset, .unset, .unset, .unset, .unset, .unset] [(.ref b4)])) RR
  have Z6 : n0 ≤ h6.size := Nat.le_trans Z5 KK6.1
  have A1_6 := (A1_5).keep KK6
  have FF3q0_6 := (FF3q0_5).keep KK6 (ninS ne_b1_b4 nin0)
  have FF3q1_6 := (FF3q1_5).keep KK6 (ninS ne_b1_b4 nin0)
  have FF3q2_6 := (FF3q2_5).keep KK6 (ninS ne_b1_b4 nin0)
  have A4_6 := (A4_5).keep KK6
  refine own_astore X6 at_31 (pc' := 33) rfl rfl (l' := #[.val (.long p0), .second, .val (.long p1), .second, .val (.long p2), .second, .val (.long p3), .second, .val (.long p4), .second, .val (.long p5), .second, .val (.long (9223372036854775807 : Int64)), .second, .val (.ref b1), .val (.ref b4), .unset, .unset, .unset, .unset, .unset, .unset, .unset, .unset, .unset, .unset, .unset, .unset, .unset, .unset]) rfl ?_
  refine own_new X6 at_33 (hw _ (List.mem_of_getElem? (i := 1) rfl)) (hw _ (List.mem_of_getElem? (i := 2) rfl)) (hw _ (List.mem_of_getElem? (i := 3) rfl)) (pc' := 36) rfl (by decide) (by decide) ?_
  intro T7 h7 b7 hb7 X7 E7 A7 D7
  have g_b7 : n0 ≤ b7 := Nat.le_trans Z6 (Nat.le_of_eq hb7.symm)
  have ne_b1_b7 : b1 ≠ b7 := Nat.ne_of_lt (Nat.lt_of_lt_of_le (A1_6).lt (Nat.le_of_eq hb7.symm))
  have ne_b4_b7 : b4 ≠ b7 := Nat.ne_of_lt (Nat.lt_of_lt_of_le (A4_6).lt (Nat.le_of_eq hb7.symm))
  have A1_7 := (A1_6).ext E7
  have FF3q0_7 := (FF3q0_6).ext E7
  have FF3q1_7 := (FF3q1_6).ext E7
  have FF3q2_7 := (FF3q2_6).ext E7
  have A4_7 := (A4_6).ext E7
  have FF6q0_7 := (FF6q0).ext E7
  have FF6q1_7 := (FF6q1).ext E7
  have FF6q2_7 := (FF6q2).ext E7
  have Z7 : n0 ≤ h7.size := Nat.le_trans Z6 E7.1
  have F_id_b7 : Fld Z h7 b7 "com/example/packhouse/packhouse/Vm" "id" "Ljava/lang/String;" .null := D7 (Or.inr (hw _ (List.mem_of_getElem? (i := 24) rfl))) (ty := (.object "java/lang/String")) (by decide)
  have F_cpu_b7 : Fld Z h7 b7 "com/example/packhouse/packhouse/Vm" "cpu" "J" (.long (0 : Int64)) := D7 (Or.inr (hw _ (List.mem_of_getElem? (i := 26) rfl))) (ty := .long) (by decide)
  have F_mem_b7 : Fld Z h7 b7 "com/example/packhouse/packhouse/Vm" "mem" "J" (.long (0 : Int64)) := D7 (Or.inr (hw _ (List.mem_of_getElem? (i := 28) rfl))) (ty := .long) (by decide)
  refine own_dup X7 at_36 (pc' := 37) rfl rfl ?_
  refine own_ldcS X7 hS5 hRW at_37 (hw _ (List.mem_of_getElem? (i := 30) rfl)) (own_wS hw) (pc' := 39) rfl (n := 4) (by decide) (by decide) (by decide) (by decide) ?_
  intro a8_ T8 h8 k8_ X8 hS8 E8
  have A1_8 := (A1_7).ext E8
  have FF3q0_8 := (FF3q0_7).ext E8
  have FF3q1_8 := (FF3q1_7).ext E8
  have FF3q2_8 := (FF3q2_7).ext E8
  have A4_8 := (A4_7).ext E8
  have FF6q0_8 := (FF6q0_7).ext E8
  have FF6q1_8 := (FF6q1_7).ext E8
  have FF6q2_8 := (FF6q2_7).ext E8
  have A7_8 := (A7).ext E8
  have F_id_b7_8 := (F_id_b7).ext E8
  have F_cpu_b7_8 := (F_cpu_b7).ext E8
  have F_mem_b7_8 := (F_mem_b7).ext E8
  have Z8 : n0 ≤ h8.size := Nat.le_trans Z7 E8.1
  refine own_lload X8 at_39 (pc' := 41) rfl rfl ?_
  refine own_lload X8 at_41 (pc' := 43) rfl rfl ?_
  refine own_callC (a := b7) (argsL := [(.ref a8_), (.long p4), (.long p5)]) X8 at_43 (y := (⟨"com/example/packhouse/packhouse/Vm", "<init>", "(Ljava/lang/String;JJ)V"⟩ : MethodName)) (by decide) (hw _ (List.mem_of_getElem? (i := 12) rfl)) (hw _ (List.mem_of_getElem? (i := 13) rfl)) (hw _ (List.mem_of_getElem? (i := 14) rfl)) (hw _ (List.mem_of_getElem? (i := 3) rfl)) (own_rm1 l Z a0 hw b7 a8_ p4 p5 (0 : Int64) (0 : Int64) h8 n0 Z8 A7_8 F_id_b7_8 F_cpu_b7_8 F_mem_b7_8 g_b7) own_pd1 rfl (S := [(.ref b7)]) rfl (pc' := 46) rfl rfl (W := 1) (Nat.le_of_eq rfl) (by decide) (by decide) (by decide) (by decide) ?_
  intro T9 h9 v9_ X9 q9_
  obtain ⟨rfl, KK9, FF9q0, FF9q1, FF9q2⟩ := q9_
  show OwnGo p e below (T9.setTop (mkF m 46 #[.val (.long p0), .second, .val (.long p1), .second, .val (.long p2), .second, .val (.long p3), .second, .val (.long p4), .second, .val (.long p5), .second, .val (.long (9223372036854775807 : Int64)), .second, .val (.ref b1), .val (.ref b4), .unset, .unset, .unset, .unset, .unset, .unset, .unset, .unset, .unset, .unset, .unset, .unset, .unset, .unset] [(.ref b7)])) RR
  have Z9 : n0 ≤ h9.size := Nat.le_trans Z8 KK9.1
  have A1_9 := (A1_8).keep KK9
  have FF3q0_9 := (FF3q0_8).keep KK9 (ninS ne_b1_b7 nin0)
  have FF3q1_9 := (FF3q1_8).keep KK9 (ninS ne_b1_b7 nin0)
  have FF3q2_9 := (FF3q2_8).keep KK9 (ninS ne_b1_b7 nin0)
  have A4_9 := (A4_8).keep KK9
  have FF6q0_9 := (FF6q0_8).keep KK9 (ninS ne_b4_b7 nin0)
  have FF6q1_9 := (FF6q1_8).keep KK9 (ninS ne_b4_b7 nin0)
  have FF6q2_9 := (FF6q2_8).keep KK9 (ninS ne_b4_b7 nin0)
  have A7_9 := (A7_8).keep KK9
  refine own_astore X9 at_46 (pc' := 48) rfl rfl (l' := #[.val (.long p0), .second, .val (.long p1), .second, .val (.long p2), .second, .val (.long p3), .second, .val (.long p4), .second, .val (.long p5), .second, .val (.long (9223372036854775807 : Int64)), .second, .val (.ref b1), .val (.ref b4), .val (.ref b7), .unset, .unset, .unset, .unset, .unset, .unset, .unset, .unset, .unset, .unset, .unset, .unset, .unset]) rfl ?_
  refine own_aload X9 at_48 (pc' := 50) rfl rfl rfl ?_
  refine own_lload X9 at_50 (pc' := 52) rfl rfl ?_
  refine own_lload X9 at_52 (pc' := 54) rfl rfl ?_
  refine own_callV (a := b1) (argsL := [(.long p2), (.long p3)]) X9 at_54 (y := (⟨"com/example/packhouse/packhouse/Vm", "fitsOn", "(JJ)Z"⟩ : MethodName)) (by decide) (hw _ (List.mem_of_getElem? (i := 31) rfl)) (hw _ (List.mem_of_getElem? (i := 32) rfl)) (hw _ (List.mem_of_getElem? (i := 34) rfl)) (hw _ (List.mem_of_getElem? (i := 33) rfl)) (hw _ (List.mem_of_getElem? (i := 35) rfl)) (hw _ (List.mem_of_getElem? (i := 3) rfl)) A1_9 (own_rm4 l Z a0 hw b1 p2 p3 p0 p1 h9 n0 Z9 FF3q1_9 FF3q2_9) own_pd2 rfl (S := []) rfl (pc' := 57) rfl rfl (W := 0) (Nat.le_of_eq rfl) (by decide) (by decide) (by decide) (by decide) ?_
  intro T10 h10 v10_ X10 q10_
  obtain ⟨rfl, rfl⟩ := q10_
  obtain ⟨r10, hr10⟩ : ∃ z, z = (if p2 < p0 then (0 : Int32) else (if p3 < p1 then (0 : Int32) else (1 : Int32))) := ⟨_, rfl⟩
  show OwnGo p e below (T10.setTop (mkF m 57 #[.val (.long p0), .second, .val (.long p1), .second, .val (.long p2), .second, .val (.long p3), .second, .val (.long p4), .second, .val (.long p5), .second, .val (.long (9223372036854775807 : Int64)), .second, .val (.ref b1), .val (.ref b4), .val (.ref b7), .unset, .unset, .unset, .unset, .unset, .unset, .unset, .unset, .unset, .unset, .unset, .unset, .unset] [(.int (if p2 < p0 then (0 : Int32) else (if p3 < p1 then (0 : Int32) else (1 : Int32))))])) RR
  rw [← hr10]
  refine own_istore X10 at_57 (pc' := 59) rfl (l' := #[.val (.long p0), .second, .val (.long p1), .second, .val (.long p2), .second, .val (.long p3), .second, .val (.long p4), .second, .val (.long p5), .second, .val (.long (9223372036854775807 : Int64)), .second, .val (.ref b1), .val (.ref b4), .val (.ref b7), .val (.int r10), .unset, .unset, .unset, .unset, .unset, .unset, .unset, .unset, .unset, .unset, .unset, .unset]) rfl ?_
  refine own_aload X10 at_59 (pc' := 61) rfl rfl rfl ?_
  refine own_lload X10 at_61 (pc' := 63) rfl rfl ?_
  refine own_lload X10 at_63 (pc' := 65) rfl rfl ?_
  refine own_callV (a := b1) (argsL := [(.long p2), (.long (9223372036854775807 : Int64))]) X10 at_65 (y := (⟨"com/example/packhouse/packhouse/Vm", "fitsOn", "(JJ)Z"⟩ : MethodName)) (by decide) (hw _ (List.mem_of_getElem? (i := 31) rfl)) (hw _ (List.mem_of_getElem? (i := 32) rfl)) (hw _ (List.mem_of_getElem? (i := 34) rfl)) (hw _ (List.mem_of_getElem? (i := 33) rfl)) (hw _ (List.mem_of_getElem? (i := 35) rfl)) (hw _ (List.mem_of_getElem? (i := 3) rfl)) A1_9 (own_rm4 l Z a0 hw b1 p2 (9223372036854775807 : Int64) p0 p1 h9 n0 Z9 FF3q1_9 FF3q2_9) own_pd2 rfl (S := []) rfl (pc' := 68) rfl rfl (W := 0) (Nat.le_of_eq rfl) (by decide) (by decide) (by decide) (by decide) ?_
  intro T11 h11 v11_ X11 q11_
  obtain ⟨rfl, rfl⟩ := q11_
  obtain ⟨r11, hr11⟩ : ∃ z, z = (if p2 < p0 then (0 : Int32) else (if (9223372036854775807 : Int64) < p1 then (0 : Int32) else (1 : Int32))) := ⟨_, rfl⟩
  show OwnGo p e below (T11.setTop (mkF m 68 #[.val (.long p0), .second, .val (.long p1), .second, .val (.long p2), .second, .val (.long p3), .second, .val (.long p4), .second, .val (.long p5), .second, .val (.long (9223372036854775807 : Int64)), .second, .val (.ref b1), .val (.ref b4), .val (.ref b7), .val (.int r10), .unset, .unset, .unset, .unset, .unset, .unset, .unset, .unset, .unset, .unset, .unset, .unset] [(.int (if p2 < p0 then (0 : Int32) else (if (9223372036854775807 : Int64) < p1 then (0 : Int32) else (1 : Int32))))])) RR
  rw [← hr11]
  refine own_istore X11 at_68 (pc' := 70) rfl (l' := #[.val (.long p0), .second, .val (.long p1), .second, .val (.long p2), .second, .val (.long p3), .second, .val (.long p4), .second, .val (.long p5), .second, .val (.long (9223372036854775807 : Int64)), .second, .val (.ref b1), .val (.ref b4), .val (.ref b7), .val (.int r10), .val (.int r11), .unset, .unset, .unset, .unset, .unset, .unset, .unset, .unset, .unset, .unset, .unset]) rfl ?_
  refine own_aload X11 at_70 (pc' := 72) rfl rfl rfl ?_
  refine own_lloadN X11 at_72 (pc' := 73) rfl rfl ?_
  refine own_lload X11 at_73 (pc' := 75) rfl rfl ?_
  refine own_callV (a := b4) (argsL := [(.long p0), (.long (9223372036854775807 : Int64))]) X11 at_75 (y := (⟨"com/example/packhouse/packhouse/Vm", "fitsOn", "(JJ)Z"⟩ : MethodName)) (by decide) (hw _ (List.mem_of_getElem? (i := 31) rfl)) (hw _ (List.mem_of_getElem? (i := 32) rfl)) (hw _ (List.mem_of_getElem? (i := 34) rfl)) (hw _ (List.mem_of_getElem? (i := 33) rfl)) (hw _ (List.mem_of_getElem? (i := 35) rfl)) (hw _ (List.mem_of_getElem? (i := 3) rfl)) A4_9 (own_rm4 l Z a0 hw b4 p0 (9223372036854775807 : Int64) p2 p3 h9 n0 Z9 FF6q1_9 FF6q2_9) own_pd2 rfl (S := []) rfl (pc' := 78) rfl rfl (W := 0) (Nat.le_of_eq rfl) (by decide) (by decide) (by decide) (by decide) ?_
  intro T12 h12 v12_ X12 q12_
  obtain ⟨rfl, rfl⟩ := q12_
  obtain ⟨r12, hr12⟩ : ∃ z, z = (if p0 < p2 then (0 : Int32) else (if (9223372036854775807 : Int64) < p3 then (0 : Int32) else (1 : Int32))) := ⟨_, rfl⟩
  show OwnGo p e below (T12.setTop (mkF m 78 #[.val (.long p0), .second, .val (.long p1), .second, .val (.long p2), .second, .val (.long p3), .second, .val (.long p4), .second, .val (.long p5), .second, .val (.long (9223372036854775807 : Int64)), .second, .val (.ref b1), .val (.ref b4), .val (.ref b7), .val (.int r10), .val (.int r11), .unset, .unset, .unset, .unset, .unset, .unset, .unset, .unset, .unset, .unset, .unset] [(.int (if p0 < p2 then (0 : Int32) else (if (9223372036854775807 : Int64) < p3 then (0 : Int32) else (1 : Int32))))])) RR
  rw [← hr12]
  refine own_istore X12 at_78 (pc' := 80) rfl (l' := #[.val (.long p0), .second, .val (.long p1), .second, .val (.long p2), .second, .val (.long p3), .second, .val (.long p4), .second, .val (.long p5), .second, .val (.long (9223372036854775807 : Int64)), .second, .val (.ref b1), .val (.ref b4), .val (.ref b7), .val (.int r10), .val (.int r11), .val (.int r12), .unset, .unset, .unset, .unset, .unset, .unset, .unset, .unset, .unset, .unset]) rfl ?_
  refine own_aload X12 at_80 (pc' := 82) rfl rfl rfl ?_
  refine own_lload X12 at_82 (pc' := 84) rfl rfl ?_
  refine own_lload X12 at_84 (pc' := 86) rfl rfl ?_
  refine own_callV (a := b1) (argsL := [(.long (9223372036854775807 : Int64)), (.long p3)]) X12 at_86 (y := (⟨"com/example/packhouse/packhouse/Vm", "fitsOn", "(JJ)Z"⟩ : MethodName)) (by decide) (hw _ (List.mem_of_getElem? (i := 31) rfl)) (hw _ (List.mem_of_getElem? (i := 32) rfl)) (hw _ (List.mem_of_getElem? (i := 34) rfl)) (hw _ (List.mem_of_getElem? (i := 33) rfl)) (hw _ (List.mem_of_getElem? (i := 35) rfl)) (hw _ (List.mem_of_getElem? (i := 3) rfl)) A1_9 (own_rm4 l Z a0 hw b1 (9223372036854775807 : Int64) p3 p0 p1 h9 n0 Z9 FF3q1_9 FF3q2_9) own_pd2 rfl (S := []) rfl (pc' := 89) rfl rfl (W := 0) (Nat.le_of_eq rfl) (by decide) (by decide) (by decide) (by decide) ?_
  intro T13 h13 v13_ X13 q13_
  obtain ⟨rfl, rfl⟩ := q13_
  obtain ⟨r13, hr13⟩ : ∃ z, z = (if (9223372036854775807 : Int64) < p0 then (0 : Int32) else (if p3 < p1 then (0 : Int32) else (1 : Int32))) := ⟨_, rfl⟩
  show OwnGo p e below (T13.setTop (mkF m 89 #[.val (.long p0), .second, .val (.long p1), .second, .val (.long p2), .second, .val (.long p3), .second, .val (.long p4), .second, .val (.long p5), .second, .val (.long (9223372036854775807 : Int64)), .second, .val (.ref b1), .val (.ref b4), .val (.ref b7), .val (.int r10), .val (.int r11), .val (.int r12), .unset, .unset, .unset, .unset, .unset, .unset, .unset, .unset, .unset, .unset] [(.int (if (9223372036854775807 : Int64) < p0 then (0 : Int32) else (if p3 < p1 then (0 : Int32) else (1 : Int32))))])) RR
  rw [← hr13]
  refine own_istore X13 at_89 (pc' := 91) rfl (l' := #[.val (.long p0), .second, .val (.long p1), .second, .val (.long p2), .second, .val (.long p3), .second, .val (.long p4), .second, .val (.long p5), .second, .val (.long (9223372036854775807 : Int64)), .second, .val (.ref b1), .val (.ref b4), .val (.ref b7), .val (.int r10), .val (.int r11), .val (.int r12), .val (.int r13), .unset, .unset, .unset, .unset, .unset, .unset, .unset, .unset, .unset]) rfl ?_
  refine own_aload X13 at_91 (pc' := 93) rfl rfl rfl ?_
  refine own_lload X13 at_93 (pc' := 95) rfl rfl ?_
  refine own_lloadN X13 at_95 (pc' := 96) rfl rfl ?_
  refine own_callV (a := b4) (argsL := [(.long (9223372036854775807 : Int64)), (.long p1)]) X13 at_96 (y := (⟨"com/example/packhouse/packhouse/Vm", "fitsOn", "(JJ)Z"⟩ : MethodName)) (by decide) (hw _ (List.mem_of_getElem? (i := 31) rfl)) (hw _ (List.mem_of_getElem? (i := 32) rfl)) (hw _ (List.mem_of_getElem? (i := 34) rfl)) (hw _ (List.mem_of_getElem? (i := 33) rfl)) (hw _ (List.mem_of_getElem? (i := 35) rfl)) (hw _ (List.mem_of_getElem? (i := 3) rfl)) A4_9 (own_rm4 l Z a0 hw b4 (9223372036854775807 : Int64) p1 p2 p3 h9 n0 Z9 FF6q1_9 FF6q2_9) own_pd2 rfl (S := []) rfl (pc' := 99) rfl rfl (W := 0) (Nat.le_of_eq rfl) (by decide) (by decide) (by decide) (by decide) ?_
  intro T14 h14 v14_ X14 q14_
  obtain ⟨rfl, rfl⟩ := q14_
  obtain ⟨r14, hr14⟩ : ∃ z, z = (if (9223372036854775807 : Int64) < p2 then (0 : Int32) else (if p1 < p3 then (0 : Int32) else (1 : Int32))) := ⟨_, rfl⟩
  show OwnGo p e below (T14.setTop (mkF m 99 #[.val (.long p0), .second, .val (.long p1), .second, .val (.long p2), .second, .val (.long p3), .second, .val (.long p4), .second, .val (.long p5), .second, .val (.long (9223372036854775807 : Int64)), .second, .val (.ref b1), .val (.ref b4), .val (.ref b7), .val (.int r10), .val (.int r11), .val (.int r12), .val (.int r13), .unset, .unset, .unset, .unset, .unset, .unset, .unset, .unset, .unset] [(.int (if (9223372036854775807 : Int64) < p2 then (0 : Int32) else (if p1 < p3 then (0 : Int32) else (1 : Int32))))])) RR
  rw [← hr14]
  refine own_istore X14 at_99 (pc' := 101) rfl (l' := #[.val (.long p0), .second, .val (.long p1), .second, .val (.long p2), .second, .val (.long p3), .second, .val (.long p4), .second, .val (.long p5), .second, .val (.long (9223372036854775807 : Int64)), .second, .val (.ref b1), .val (.ref b4), .val (.ref b7), .val (.int r10), .val (.int r11), .val (.int r12), .val (.int r13), .val (.int r14), .unset, .unset, .unset, .unset, .unset, .unset, .unset, .unset]) rfl ?_
  refine own_iload X14 at_101 (pc' := 103) rfl rfl ?_
  refine own_iload X14 at_103 (pc' := 105) rfl rfl ?_
  have j118_15 : ∀ (f118_s0 : Int32), f118_s0 = (if r11 = (0 : Int32) then (0 : Int32) else (if r13 = (0 : Int32) then (0 : Int32) else (1 : Int32))) → OwnGo p e below (T14.setTop (mkF m 118 #[.val (.long p0), .second, .val (.long p1), .second, .val (.long p2), .second, .val (.long p3), .second, .val (.long p4), .second, .val (.long p5), .second, .val (.long (9223372036854775807 : Int64)), .second, .val (.ref b1), .val (.ref b4), .val (.ref b7), .val (.int r10), .val (.int r11), .val (.int r12), .val (.int r13), .val (.int r14), .unset, .unset, .unset, .unset, .unset, .unset, .unset, .unset] [(.int f118_s0), (.int r10)])) RR := by
    intro f118_s0 hf118_s0
    have j126_16 : ∀ (f126_s0 : Int32), f126_s0 = (if r10 = f118_s0 then (1 : Int32) else (0 : Int32)) → OwnGo p e below (T14.setTop (mkF m 126 #[.val (.long p0), .second, .val (.long p1), .second, .val (.long p2), .second, .val (.long p3), .second, .val (.long p4), .second, .val (.long p5), .second, .val (.long (9223372036854775807 : Int64)), .second, .val (.ref b1), .val (.ref b4), .val (.ref b7), .val (.int r10), .val (.int r11), .val (.int r12), .val (.int r13), .val (.int r14), .unset, .unset, .unset, .unset, .unset, .unset, .unset, .unset] [(.int f126_s0)])) RR := by
      intro f126_s0 hf126_s0
      refine own_istore X14 at_126 (pc' := 128) rfl (l' := #[.val (.long p0), .second, .val (.long p1), .second, .val (.long p2), .second, .val (.long p3), .second, .val (.long p4), .second, .val (.long p5), .second, .val (.long (9223372036854775807 : Int64)), .second, .val (.ref b1), .val (.ref b4), .val (.ref b7), .val (.int r10), .val (.int r11), .val (.int r12), .val (.int r13), .val (.int r14), .val (.int f126_s0), .unset, .unset, .unset, .unset, .unset, .unset, .unset]) rfl ?_
      refine own_iload X14 at_128 (pc' := 130) rfl rfl ?_
      have j153_17 : ∀ (f153_s0 : Int32), f153_s0 = (if r11 = (0 : Int32) then (if r12 = (0 : Int32) then (0 : Int32) else (if r13 = (0 : Int32) then (if r14 = (0 : Int32) then (0 : Int32) else (1 : Int32)) else (1 : Int32))) else (if r13 = (0 : Int32) then (if r14 = (0 : Int32) then (0 : Int32) else (1 : Int32)) else (1 : Int32))) → OwnGo p e below (T14.setTop (mkF m 153 #[.val (.long p0), .second, .val (.long p1), .second, .val (.long p2), .second, .val (.long p3), .second, .val (.long p4), .second, .val (.long p5), .second, .val (.long (9223372036854775807 : Int64)), .second, .val (.ref b1), .val (.ref b4), .val (.ref b7), .val (.int r10), .val (.int r11), .val (.int r12), .val (.int r13), .val (.int r14), .val (.int f126_s0), .unset, .unset, .unset, .unset, .unset, .unset, .unset] [(.int f153_s0)])) RR := by
        intro f153_s0 hf153_s0
        refine own_istore X14 at_153 (pc' := 155) rfl (l' := #[.val (.long p0), .second, .val (.long p1), .second, .val (.long p2), .second, .val (.long p3), .second, .val (.long p4), .second, .val (.long p5), .second, .val (.long (9223372036854775807 : Int64)), .second, .val (.ref b1), .val (.ref b4), .val (.ref b7), .val (.int r10), .val (.int r11), .val (.int r12), .val (.int r13), .val (.int r14), .val (.int f126_s0), .val (.int f153_s0), .unset, .unset, .unset, .unset, .unset, .unset]) rfl ?_
        refine own_iload X14 at_155 (pc' := 157) rfl rfl ?_
        have j170_18 : ∀ (f170_s0 : Int32), f170_s0 = (if r11 = (0 : Int32) then (0 : Int32) else (if r12 = (0 : Int32) then (0 : Int32) else (1 : Int32))) → OwnGo p e below (T14.setTop (mkF m 170 #[.val (.long p0), .second, .val (.long p1), .second, .val (.long p2), .second, .val (.long p3), .second, .val (.long p4), .second, .val (.long p5), .second, .val (.long (9223372036854775807 : Int64)), .second, .val (.ref b1), .val (.ref b4), .val (.ref b7), .val (.int r10), .val (.int r11), .val (.int r12), .val (.int r13), .val (.int r14), .val (.int f126_s0), .val (.int f153_s0), .unset, .unset, .unset, .unset, .unset, .unset] [(.int f170_s0)])) RR := by
          intro f170_s0 hf170_s0
          refine own_lloadN X14 at_170 (pc' := 171) rfl rfl ?_
          refine own_lload X14 at_171 (pc' := 173) rfl rfl ?_
          have j182_19 : ∀ (f182_s0 : Int32), f182_s0 = (if p0 = p2 then (1 : Int32) else (0 : Int32)) → OwnGo p e below (T14.setTop (mkF m 182 #[.val (.long p0), .second, .val (.long p1), .second, .val (.long p2), .second, .val (.long p3), .second, .val (.long p4), .second, .val (.long p5), .second, .val (.long (9223372036854775807 : Int64)), .second, .val (.ref b1), .val (.ref b4), .val (.ref b7), .val (.int r10), .val (.int r11), .val (.int r12), .val (.int r13), .val (.int r14), .val (.int f126_s0), .val (.int f153_s0), .unset, .unset, .unset, .unset, .unset, .unset] [(.int f182_s0), (.int f170_s0)])) RR := by
            intro f182_s0 hf182_s0
            have j220_20 : ∀ (f220_s0 : Int32), f220_s0 = (if f170_s0 = f182_s0 then (if r13 = (0 : Int32) then (if p1 = p3 then (0 : Int32) else (1 : Int32)) else (if r14 = (0 : Int32) then (if p1 = p3 then (0 : Int32) else (1 : Int32)) else (if p1 = p3 then (1 : Int32) else (0 : Int32)))) else (0 : Int32)) → OwnGo p e below (T14.setTop (mkF m 220 #[.val (.long p0), .second, .val (.long p1), .second, .val (.long p2), .second, .val (.long p3), .second, .val (.long p4), .second, .val (.long p5), .second, .val (.long (9223372036854775807 : Int64)), .second, .val (.ref b1), .val (.ref b4), .val (.ref b7), .val (.int r10), .val (.int r11), .val (.int r12), .val (.int r13), .val (.int r14), .val (.int f126_s0), .val (.int f153_s0), .unset, .unset, .unset, .unset, .unset, .unset] [(.int f220_s0)])) RR := by
              intro f220_s0 hf220_s0
              refine own_istore X14 at_220 (pc' := 222) rfl (l' := #[.val (.long p0), .second, .val (.long p1), .second, .val (.long p2), .second, .val (.long p3), .second, .val (.long p4), .second, .val (.long p5), .second, .val (.long (9223372036854775807 : Int64)), .second, .val (.ref b1), .val (.ref b4), .val (.ref b7), .val (.int r10), .val (.int r11), .val (.int r12), .val (.int r13), .val (.int r14), .val (.int f126_s0), .val (.int f153_s0), .val (.int f220_s0), .unset, .unset, .unset, .unset, .unset]) rfl ?_
              refine own_aload X14 at_222 (pc' := 224) rfl rfl rfl ?_
              refine own_lload X14 at_224 (pc' := 226) rfl rfl ?_
              refine own_lload X14 at_226 (pc' := 228) rfl rfl ?_
              refine own_callV (a := b4) (argsL := [(.long p4), (.long p5)]) X14 at_228 (y := (⟨"com/example/packhouse/packhouse/Vm", "fitsOn", "(JJ)Z"⟩ : MethodName)) (by decide) (hw _ (List.mem_of_getElem? (i := 31) rfl)) (hw _ (List.mem_of_getElem? (i := 32) rfl)) (hw _ (List.mem_of_getElem? (i := 34) rfl)) (hw _ (List.mem_of_getElem? (i := 33) rfl)) (hw _ (List.mem_of_getElem? (i := 35) rfl)) (hw _ (List.mem_of_getElem? (i := 3) rfl)) A4_9 (own_rm4 l Z a0 hw b4 p4 p5 p2 p3 h9 n0 Z9 FF6q1_9 FF6q2_9) own_pd2 rfl (S := []) rfl (pc' := 231) rfl rfl (W := 0) (Nat.le_of_eq rfl) (by decide) (by decide) (by decide) (by decide) ?_
              intro T21 h21 v21_ X21 q21_
              obtain ⟨rfl, rfl⟩ := q21_
              obtain ⟨r21, hr21⟩ : ∃ z, z = (if p4 < p2 then (0 : Int32) else (if p5 < p3 then (0 : Int32) else (1 : Int32))) := ⟨_, rfl⟩
              show OwnGo p e below (T21.setTop (mkF m 231 #[.val (.long p0), .second, .val (.long p1), .second, .val (.long p2), .second, .val (.long p3), .second, .val (.long p4), .second, .val (.long p5), .second, .val (.long (9223372036854775807 : Int64)), .second, .val (.ref b1), .val (.ref b4), .val (.ref b7), .val (.int r10), .val (.int r11), .val (.int r12), .val (.int r13), .val (.int r14), .val (.int f126_s0), .val (.int f153_s0), .val (.int f220_s0), .unset, .unset, .unset, .unset, .unset] [(.int (if p4 < p2 then (0 : Int32) else (if p5 < p3 then (0 : Int32) else (1 : Int32))))])) RR
              rw [← hr21]
              refine own_istore X21 at_231 (pc' := 233) rfl (l' := #[.val (.long p0), .second, .val (.long p1), .second, .val (.long p2), .second, .val (.long p3), .second, .val (.long p4), .second, .val (.long p5), .second, .val (.long (9223372036854775807 : Int64)), .second, .val (.ref b1), .val (.ref b4), .val (.ref b7), .val (.int r10), .val (.int r11), .val (.int r12), .val (.int r13), .val (.int r14), .val (.int f126_s0), .val (.int f153_s0), .val (.int f220_s0), .val (.int r21), .unset, .unset, .unset, .unset]) rfl ?_
              refine own_aload X21 at_233 (pc' := 235) rfl rfl rfl ?_
              refine own_lload X21 at_235 (pc' := 237) rfl rfl ?_
              refine own_lload X21 at_237 (pc' := 239) rfl rfl ?_
              refine own_callV (a := b1) (argsL := [(.long p4), (.long p5)]) X21 at_239 (y := (⟨"com/example/packhouse/packhouse/Vm", "fitsOn", "(JJ)Z"⟩ : MethodName)) (by decide) (hw _ (List.mem_of_getElem? (i := 31) rfl)) (hw _ (List.mem_of_getElem? (i := 32) rfl)) (hw _ (List.mem_of_getElem? (i := 34) rfl)) (hw _ (List.mem_of_getElem? (i := 33) rfl)) (hw _ (List.mem_of_getElem? (i := 35) rfl)) (hw _ (List.mem_of_getElem? (i := 3) rfl)) A1_9 (own_rm4 l Z a0 hw b1 p4 p5 p0 p1 h9 n0 Z9 FF3q1_9 FF3q2_9) own_pd2 rfl (S := []) rfl (pc' := 242) rfl rfl (W := 0) (Nat.le_of_eq rfl) (by decide) (by decide) (by decide) (by decide) ?_
              intro T22 h22 v22_ X22 q22_
              obtain ⟨rfl, rfl⟩ := q22_
              obtain ⟨r22, hr22⟩ : ∃ z, z = (if p4 < p0 then (0 : Int32) else (if p5 < p1 then (0 : Int32) else (1 : Int32))) := ⟨_, rfl⟩
              show OwnGo p e below (T22.setTop (mkF m 242 #[.val (.long p0), .second, .val (.long p1), .second, .val (.long p2), .second, .val (.long p3), .second, .val (.long p4), .second, .val (.long p5), .second, .val (.long (9223372036854775807 : Int64)), .second, .val (.ref b1), .val (.ref b4), .val (.ref b7), .val (.int r10), .val (.int r11), .val (.int r12), .val (.int r13), .val (.int r14), .val (.int f126_s0), .val (.int f153_s0), .val (.int f220_s0), .val (.int r21), .unset, .unset, .unset, .unset] [(.int (if p4 < p0 then (0 : Int32) else (if p5 < p1 then (0 : Int32) else (1 : Int32))))])) RR
              rw [← hr22]
              refine own_istore X22 at_242 (pc' := 244) rfl (l' := #[.val (.long p0), .second, .val (.long p1), .second, .val (.long p2), .second, .val (.long p3), .second, .val (.long p4), .second, .val (.long p5), .second, .val (.long (9223372036854775807 : Int64)), .second, .val (.ref b1), .val (.ref b4), .val (.ref b7), .val (.int r10), .val (.int r11), .val (.int r12), .val (.int r13), .val (.int r14), .val (.int f126_s0), .val (.int f153_s0), .val (.int f220_s0), .val (.int r21), .val (.int r22), .unset, .unset, .unset]) rfl ?_
              refine own_iload X22 at_244 (pc' := 246) rfl rfl ?_
              have j264_23 : ∀ (f264_s0 : Int32), f264_s0 = (if r10 = (0 : Int32) then (1 : Int32) else (if r21 = (0 : Int32) then (1 : Int32) else (if r22 = (0 : Int32) then (0 : Int32) else (1 : Int32)))) → OwnGo p e below (T22.setTop (mkF m 264 #[.val (.long p0), .second, .val (.long p1), .second, .val (.long p2), .second, .val (.long p3), .second, .val (.long p4), .second, .val (.long p5), .second, .val (.long (9223372036854775807 : Int64)), .second, .val (.ref b1), .val (.ref b4), .val (.ref b7), .val (.int r10), .val (.int r11), .val (.int r12), .val (.int r13), .val (.int r14), .val (.int f126_s0), .val (.int f153_s0), .val (.int f220_s0), .val (.int r21), .val (.int r22), .unset, .unset, .unset] [(.int f264_s0)])) RR := by
                intro f264_s0 hf264_s0
                refine own_istore X22 at_264 (pc' := 266) rfl (l' := #[.val (.long p0), .second, .val (.long p1), .second, .val (.long p2), .second, .val (.long p3), .second, .val (.long p4), .second, .val (.long p5), .second, .val (.long (9223372036854775807 : Int64)), .second, .val (.ref b1), .val (.ref b4), .val (.ref b7), .val (.int r10), .val (.int r11), .val (.int r12), .val (.int r13), .val (.int r14), .val (.int f126_s0), .val (.int f153_s0), .val (.int f220_s0), .val (.int r21), .val (.int r22), .val (.int f264_s0), .unset, .unset]) rfl ?_
                refine own_lloadN X22 at_266 (pc' := 267) rfl rfl ?_
                refine own_lload X22 at_267 (pc' := 269) rfl rfl ?_
                have j290_24 : ∀ T24, OwnAt X22 T24 → ∀ (f290_s0 : Int32), f290_s0 = (if p0 = (9223372036854775807 : Int64) then (1 : Int32) else (if (if (p0 + (1 : Int64)) < p0 then (0 : Int32) else (if p1 < p1 then (0 : Int32) else (1 : Int32))) = (0 : Int32) then (0 : Int32) else (1 : Int32))) → OwnGo p e below (T24.setTop (mkF m 290 #[.val (.long p0), .second, .val (.long p1), .second, .val (.long p2), .second, .val (.long p3), .second, .val (.long p4), .second, .val (.long p5), .second, .val (.long (9223372036854775807 : Int64)), .second, .val (.ref b1), .val (.ref b4), .val (.ref b7), .val (.int r10), .val (.int r11), .val (.int r12), .val (.int r13), .val (.int r14), .val (.int f126_s0), .val (.int f153_s0), .val (.int f220_s0), .val (.int r21), .val (.int r22), .val (.int f264_s0), .unset, .unset] [(.int f290_s0)])) RR := by
                  intro T24 X24 f290_s0 hf290_s0
                  refine own_istore X24 at_290 (pc' := 292) rfl (l' := #[.val (.long p0), .second, .val (.long p1), .second, .val (.long p2), .second, .val (.long p3), .second, .val (.long p4), .second, .val (.long p5), .second, .val (.long (9223372036854775807 : Int64)), .second, .val (.ref b1), .val (.ref b4), .val (.ref b7), .val (.int r10), .val (.int r11), .val (.int r12), .val (.int r13), .val (.int r14), .val (.int f126_s0), .val (.int f153_s0), .val (.int f220_s0), .val (.int r21), .val (.int r22), .val (.int f264_s0), .val (.int f290_s0), .unset]) rfl ?_
                  refine own_lloadN X24 at_292 (pc' := 293) rfl rfl ?_
                  refine own_lload X24 at_293 (pc' := 295) rfl rfl ?_
                  have j316_25 : ∀ T25, OwnAt X24 T25 → ∀ (f316_s0 : Int32), f316_s0 = (if p1 = (9223372036854775807 : Int64) then (1 : Int32) else (if (if p0 < p0 then (0 : Int32) else (if (p1 + (1 : Int64)) < p1 then (0 : Int32) else (1 : Int32))) = (0 : Int32) then (0 : Int32) else (1 : Int32))) → OwnGo p e below (T25.setTop (mkF m 316 #[.val (.long p0), .second, .val (.long p1), .second, .val (.long p2), .second, .val (.long p3), .second, .val (.long p4), .second, .val (.long p5), .second, .val (.long (9223372036854775807 : Int64)), .second, .val (.ref b1), .val (.ref b4), .val (.ref b7), .val (.int r10), .val (.int r11), .val (.int r12), .val (.int r13), .val (.int r14), .val (.int f126_s0), .val (.int f153_s0), .val (.int f220_s0), .val (.int r21), .val (.int r22), .val (.int f264_s0), .val (.int f290_s0), .unset] [(.int f316_s0)])) RR := by
                    intro T25 X25 f316_s0 hf316_s0
                    refine own_istore X25 at_316 (pc' := 318) rfl (l' := #[.val (.long p0), .second, .val (.long p1), .second, .val (.long p2), .second, .val (.long p3), .second, .val (.long p4), .second, .val (.long p5), .second, .val (.long (9223372036854775807 : Int64)), .second, .val (.ref b1), .val (.ref b4), .val (.ref b7), .val (.int r10), .val (.int r11), .val (.int r12), .val (.int r13), .val (.int r14), .val (.int f126_s0), .val (.int f153_s0), .val (.int f220_s0), .val (.int r21), .val (.int r22), .val (.int f264_s0), .val (.int f290_s0), .val (.int f316_s0)]) rfl ?_
                    refine own_aload X25 at_318 (pc' := 320) rfl rfl rfl ?_
                    refine own_ifnonnullY X25 at_320 (pc' := 325) (by decide) (by decide) ?_
                    refine own_iload X25 at_325 (pc' := 327) rfl rfl ?_
                    refine own_ifN X25 at_327 (feq ((own_v126 _ _ _ _ _ _ _ _ _ hr10 hr11 hr13 hf118_s0 hf126_s0 : ¬ (f126_s0 = (0 : Int32))))).1 (pc' := 330) rfl ?_
                    refine own_iload X25 at_330 (pc' := 332) rfl rfl ?_
                    refine own_ifN X25 at_332 (feq ((own_v153 _ _ _ _ _ _ _ _ _ hr11 hr12 hr13 hr14 hf153_s0 : ¬ (f153_s0 = (0 : Int32))))).1 (pc' := 335) rfl ?_
                    refine own_iload X25 at_335 (pc' := 337) rfl rfl ?_
                    refine own_ifN X25 at_337 (feq ((own_v220 _ _ _ _ _ _ _ _ _ _ _ hr11 hr12 hr13 hr14 hf170_s0 hf182_s0 hf220_s0 : ¬ (f220_s0 = (0 : Int32))))).1 (pc' := 340) rfl ?_
                    refine own_iload X25 at_340 (pc' := 342) rfl rfl ?_
                    refine own_ifN X25 at_342 (feq ((own_v264 _ _ _ _ _ _ _ _ _ _ hr10 hr21 hr22 hf264_s0 : ¬ (f264_s0 = (0 : Int32))))).1 (pc' := 345) rfl ?_
                    refine own_iload X25 at_345 (pc' := 347) rfl rfl ?_
                    refine own_ifN X25 at_347 (feq ((own_v290 _ _ _ hf290_s0 : ¬ (f290_s0 = (0 : Int32))))).1 (pc' := 350) rfl ?_
                    refine own_iload X25 at_350 (pc' := 352) rfl rfl ?_
                    refine own_ifN X25 at_352 (feq ((own_v316 _ _ _ hf316_s0 : ¬ (f316_s0 = (0 : Int32))))).1 (pc' := 355) rfl ?_
                    refine own_iconst X25 at_355 (pc' := 356) rfl (v := (1 : Int32)) (by decide) ?_
                    refine own_goto X25 at_356 (pc' := 360) (by decide) (by decide) ?_
                    exact own_retZ X25 at_360 (by decide) rfl (by decide) (by decide)
                  by_cases hc296 : p1 = (9223372036854775807 : Int64)
                  · refine own_ljY X24 at_295 at_296 (own_teqL (hc296)).1 (pc' := 311) (by decide) (by decide) ?_
                    refine own_iconst X24 at_311 (pc' := 312) rfl (v := (1 : Int32)) (by decide) ?_
                    refine own_goto X24 at_312 (pc' := 316) (by decide) (by decide) ?_
                    exact j316_25 T24 X24 _ (by rw [if_pos hc296])
                  · refine own_ljN X24 at_295 at_296 (own_feqL (hc296)).1 (pc' := 299) rfl ?_
                    refine own_aload X24 at_299 (pc' := 301) rfl rfl rfl ?_
                    refine own_lloadN X24 at_301 (pc' := 302) rfl rfl ?_
                    refine own_lloadN X24 at_302 (pc' := 303) rfl rfl ?_
                    refine own_lconst X24 at_303 (pc' := 304) rfl (v := (1 : Int64)) (by decide) ?_
                    refine own_ladd X24 at_304 (pc' := 305) rfl ?_
                    refine own_callV (a := b1) (argsL := [(.long p0), (.long (p1 + (1 : Int64)))]) X24 at_305 (y := (⟨"com/example/packhouse/packhouse/Vm", "fitsOn", "(JJ)Z"⟩ : MethodName)) (by decide) (hw _ (List.mem_of_getElem? (i := 31) rfl)) (hw _ (List.mem_of_getElem? (i := 32) rfl)) (hw _ (List.mem_of_getElem? (i := 34) rfl)) (hw _ (List.mem_of_getElem? (i := 33) rfl)) (hw _ (List.mem_of_getElem? (i := 35) rfl)) (hw _ (List.mem_of_getElem? (i := 3) rfl)) A1_9 (own_rm4 l Z a0 hw b1 p0 ((p1 + (1 : Int64))) p0 p1 h9 n0 Z9 FF3q1_9 FF3q2_9) own_pd2 rfl (S := []) rfl (pc' := 308) rfl rfl (W := 0) (Nat.le_of_eq rfl) (by decide) (by decide) (by decide) (by decide) ?_
                    intro T26 h26 v26_ X26 q26_
                    obtain ⟨rfl, rfl⟩ := q26_
                    show OwnGo p e below (T26.setTop (mkF m 308 #[.val (.long p0), .second, .val (.long p1), .second, .val (.long p2), .second, .val (.long p3), .second, .val (.long p4), .second, .val (.long p5), .second, .val (.long (9223372036854775807 : Int64)), .second, .val (.ref b1), .val (.ref b4), .val (.ref b7), .val (.int r10), .val (.int r11), .val (.int r12), .val (.int r13), .val (.int r14), .val (.int f126_s0), .val (.int f153_s0), .val (.int f220_s0), .val (.int r21), .val (.int r22), .val (.int f264_s0), .val (.int f290_s0), .unset] [(.int (if p0 < p0 then (0 : Int32) else (if (p1 + (1 : Int64)) < p1 then (0 : Int32) else (1 : Int32))))])) RR
                    by_cases hc308 : (if p0 < p0 then (0 : Int32) else (if (p1 + (1 : Int64)) < p1 then (0 : Int32) else (1 : Int32))) = (0 : Int32)
                    · refine own_ifY X26 at_308 (teq (hc308)).1 (pc' := 315) (by decide) (by decide) ?_
                      refine own_iconst X26 at_315 (pc' := 316) rfl (v := (0 : Int32)) (by decide) ?_
                      exact j316_25 T26 X26 _ (by rw [if_neg hc296, if_pos hc308])
                    · refine own_ifN X26 at_308 (feq (hc308)).1 (pc' := 311) rfl ?_
                      refine own_iconst X26 at_311 (pc' := 312) rfl (v := (1 : Int32)) (by decide) ?_
                      refine own_goto X26 at_312 (pc' := 316) (by decide) (by decide) ?_
                      exact j316_25 T26 X26 _ (by rw [if_neg hc296, if_neg hc308])
                by_cases hc270 : p0 = (9223372036854775807 : Int64)
                · refine own_ljY X22 at_269 at_270 (own_teqL (hc270)).1 (pc' := 285) (by decide) (by decide) ?_
                  refine own_iconst X22 at_285 (pc' := 286) rfl (v := (1 : Int32)) (by decide) ?_
                  refine own_goto X22 at_286 (pc' := 290) (by decide) (by decide) ?_
                  exact j290_24 T22 X22 _ (by rw [if_pos hc270])
                · refine own_ljN X22 at_269 at_270 (own_feqL (hc270)).1 (pc' := 273) rfl ?_
                  refine own_aload X22 at_273 (pc' := 275) rfl rfl rfl ?_
                  refine own_lloadN X22 at_275 (pc' := 276) rfl rfl ?_
                  refine own_lconst X22 at_276 (pc' := 277) rfl (v := (1 : Int64)) (by decide) ?_
                  refine own_ladd X22 at_277 (pc' := 278) rfl ?_
                  refine own_lloadN X22 at_278 (pc' := 279) rfl rfl ?_
                  refine own_callV (a := b1) (argsL := [(.long (p0 + (1 : Int64))), (.long p1)]) X22 at_279 (y := (⟨"com/example/packhouse/packhouse/Vm", "fitsOn", "(JJ)Z"⟩ : MethodName)) (by decide) (hw _ (List.mem_of_getElem? (i := 31) rfl)) (hw _ (List.mem_of_getElem? (i := 32) rfl)) (hw _ (List.mem_of_getElem? (i := 34) rfl)) (hw _ (List.mem_of_getElem? (i := 33) rfl)) (hw _ (List.mem_of_getElem? (i := 35) rfl)) (hw _ (List.mem_of_getElem? (i := 3) rfl)) A1_9 (own_rm4 l Z a0 hw b1 ((p0 + (1 : Int64))) p1 p0 p1 h9 n0 Z9 FF3q1_9 FF3q2_9) own_pd2 rfl (S := []) rfl (pc' := 282) rfl rfl (W := 0) (Nat.le_of_eq rfl) (by decide) (by decide) (by decide) (by decide) ?_
                  intro T27 h27 v27_ X27 q27_
                  obtain ⟨rfl, rfl⟩ := q27_
                  show OwnGo p e below (T27.setTop (mkF m 282 #[.val (.long p0), .second, .val (.long p1), .second, .val (.long p2), .second, .val (.long p3), .second, .val (.long p4), .second, .val (.long p5), .second, .val (.long (9223372036854775807 : Int64)), .second, .val (.ref b1), .val (.ref b4), .val (.ref b7), .val (.int r10), .val (.int r11), .val (.int r12), .val (.int r13), .val (.int r14), .val (.int f126_s0), .val (.int f153_s0), .val (.int f220_s0), .val (.int r21), .val (.int r22), .val (.int f264_s0), .unset, .unset] [(.int (if (p0 + (1 : Int64)) < p0 then (0 : Int32) else (if p1 < p1 then (0 : Int32) else (1 : Int32))))])) RR
                  by_cases hc282 : (if (p0 + (1 : Int64)) < p0 then (0 : Int32) else (if p1 < p1 then (0 : Int32) else (1 : Int32))) = (0 : Int32)
                  · refine own_ifY X27 at_282 (teq (hc282)).1 (pc' := 289) (by decide) (by decide) ?_
                    refine own_iconst X27 at_289 (pc' := 290) rfl (v := (0 : Int32)) (by decide) ?_
                    exact j290_24 T27 X27 _ (by rw [if_neg hc270, if_pos hc282])
                  · refine own_ifN X27 at_282 (feq (hc282)).1 (pc' := 285) rfl ?_
                    refine own_iconst X27 at_285 (pc' := 286) rfl (v := (1 : Int32)) (by decide) ?_
                    refine own_goto X27 at_286 (pc' := 290) (by decide) (by decide) ?_
                    exact j290_24 T27 X27 _ (by rw [if_neg hc270, if_neg hc282])
              by_cases hc246 : r10 = (0 : Int32)
              · refine own_ifY X22 at_246 (teq (hc246)).1 (pc' := 259) (by decide) (by decide) ?_
                refine own_iconst X22 at_259 (pc' := 260) rfl (v := (1 : Int32)) (by decide) ?_
                refine own_goto X22 at_260 (pc' := 264) (by decide) (by decide) ?_
                exact j264_23 _ (by rw [if_pos hc246])
              · refine own_ifN X22 at_246 (feq (hc246)).1 (pc' := 249) rfl ?_
                refine own_iload X22 at_249 (pc' := 251) rfl rfl ?_
                by_cases hc251 : r21 = (0 : Int32)
                · refine own_ifY X22 at_251 (teq (hc251)).1 (pc' := 259) (by decide) (by decide) ?_
                  refine own_iconst X22 at_259 (pc' := 260) rfl (v := (1 : Int32)) (by decide) ?_
                  refine own_goto X22 at_260 (pc' := 264) (by decide) (by decide) ?_
                  exact j264_23 _ (by rw [if_neg hc246, if_pos hc251])
                · refine own_ifN X22 at_251 (feq (hc251)).1 (pc' := 254) rfl ?_
                  refine own_iload X22 at_254 (pc' := 256) rfl rfl ?_
                  by_cases hc256 : r22 = (0 : Int32)
                  · refine own_ifY X22 at_256 (teq (hc256)).1 (pc' := 263) (by decide) (by decide) ?_
                    refine own_iconst X22 at_263 (pc' := 264) rfl (v := (0 : Int32)) (by decide) ?_
                    exact j264_23 _ (by rw [if_neg hc246, if_neg hc251, if_pos hc256])
                  · refine own_ifN X22 at_256 (feq (hc256)).1 (pc' := 259) rfl ?_
                    refine own_iconst X22 at_259 (pc' := 260) rfl (v := (1 : Int32)) (by decide) ?_
                    refine own_goto X22 at_260 (pc' := 264) (by decide) (by decide) ?_
                    exact j264_23 _ (by rw [if_neg hc246, if_neg hc251, if_neg hc256])
            by_cases hc182 : f170_s0 = f182_s0
            · refine own_icN X14 at_182 (teq (hc182)).2 (pc' := 185) rfl ?_
              refine own_iload X14 at_185 (pc' := 187) rfl rfl ?_
              by_cases hc187 : r13 = (0 : Int32)
              · refine own_ifY X14 at_187 (teq (hc187)).1 (pc' := 199) (by decide) (by decide) ?_
                refine own_iconst X14 at_199 (pc' := 200) rfl (v := (0 : Int32)) (by decide) ?_
                refine own_lloadN X14 at_200 (pc' := 201) rfl rfl ?_
                refine own_lload X14 at_201 (pc' := 203) rfl rfl ?_
                by_cases hc204 : p1 = p3
                · refine own_ljN X14 at_203 at_204 (own_teqL (hc204)).2 (pc' := 207) rfl ?_
                  refine own_iconst X14 at_207 (pc' := 208) rfl (v := (1 : Int32)) (by decide) ?_
                  refine own_goto X14 at_208 (pc' := 212) (by decide) (by decide) ?_
                  refine own_icY X14 at_212 (feq ((by decide : ¬ ((0 : Int32) = (1 : Int32))))).2 (pc' := 219) (by decide) (by decide) ?_
                  refine own_iconst X14 at_219 (pc' := 220) rfl (v := (0 : Int32)) (by decide) ?_
                  exact j220_20 _ (by rw [if_pos hc182, if_pos hc187, if_pos hc204])
                · refine own_ljY X14 at_203 at_204 (own_feqL (hc204)).2 (pc' := 211) (by decide) (by decide) ?_
                  refine own_iconst X14 at_211 (pc' := 212) rfl (v := (0 : Int32)) (by decide) ?_
                  refine own_icN X14 at_212 (teq ((rfl : (0 : Int32) = (0 : Int32)))).2 (pc' := 215) rfl ?_
                  refine own_iconst X14 at_215 (pc' := 216) rfl (v := (1 : Int32)) (by decide) ?_
                  refine own_goto X14 at_216 (pc' := 220) (by decide) (by decide) ?_
                  exact j220_20 _ (by rw [if_pos hc182, if_pos hc187, if_neg hc204])
              · refine own_ifN X14 at_187 (feq (hc187)).1 (pc' := 190) rfl ?_
                refine own_iload X14 at_190 (pc' := 192) rfl rfl ?_
                by_cases hc192 : r14 = (0 : Int32)
                · refine own_ifY X14 at_192 (teq (hc192)).1 (pc' := 199) (by decide) (by decide) ?_
                  refine own_iconst X14 at_199 (pc' := 200) rfl (v := (0 : Int32)) (by decide) ?_
                  refine own_lloadN X14 at_200 (pc' := 201) rfl rfl ?_
                  refine own_lload X14 at_201 (pc' := 203) rfl rfl ?_
                  by_cases hc204 : p1 = p3
                  · refine own_ljN X14 at_203 at_204 (own_teqL (hc204)).2 (pc' := 207) rfl ?_
                    refine own_iconst X14 at_207 (pc' := 208) rfl (v := (1 : Int32)) (by decide) ?_
                    refine own_goto X14 at_208 (pc' := 212) (by decide) (by decide) ?_
                    refine own_icY X14 at_212 (feq ((by decide : ¬ ((0 : Int32) = (1 : Int32))))).2 (pc' := 219) (by decide) (by decide) ?_
                    refine own_iconst X14 at_219 (pc' := 220) rfl (v := (0 : Int32)) (by decide) ?_
                    exact j220_20 _ (by rw [if_pos hc182, if_neg hc187, if_pos hc192, if_pos hc204])
                  · refine own_ljY X14 at_203 at_204 (own_feqL (hc204)).2 (pc' := 211) (by decide) (by decide) ?_
                    refine own_iconst X14 at_211 (pc' := 212) rfl (v := (0 : Int32)) (by decide) ?_
                    refine own_icN X14 at_212 (teq ((rfl : (0 : Int32) = (0 : Int32)))).2 (pc' := 215) rfl ?_
                    refine own_iconst X14 at_215 (pc' := 216) rfl (v := (1 : Int32)) (by decide) ?_
                    refine own_goto X14 at_216 (pc' := 220) (by decide) (by decide) ?_
                    exact j220_20 _ (by rw [if_pos hc182, if_neg hc187, if_pos hc192, if_neg hc204])
                · refine own_ifN X14 at_192 (feq (hc192)).1 (pc' := 195) rfl ?_
                  refine own_iconst X14 at_195 (pc' := 196) rfl (v := (1 : Int32)) (by decide) ?_
                  refine own_goto X14 at_196 (pc' := 200) (by decide) (by decide) ?_
                  refine own_lloadN X14 at_200 (pc' := 201) rfl rfl ?_
                  refine own_lload X14 at_201 (pc' := 203) rfl rfl ?_
                  by_cases hc204 : p1 = p3
                  · refine own_ljN X14 at_203 at_204 (own_teqL (hc204)).2 (pc' := 207) rfl ?_
                    refine own_iconst X14 at_207 (pc' := 208) rfl (v := (1 : Int32)) (by decide) ?_
                    refine own_goto X14 at_208 (pc' := 212) (by decide) (by decide) ?_
                    refine own_icN X14 at_212 (teq ((rfl : (1 : Int32) = (1 : Int32)))).2 (pc' := 215) rfl ?_
                    refine own_iconst X14 at_215 (pc' := 216) rfl (v := (1 : Int32)) (by decide) ?_
                    refine own_goto X14 at_216 (pc' := 220) (by decide) (by decide) ?_
                    exact j220_20 _ (by rw [if_pos hc182, if_neg hc187, if_neg hc192, if_pos hc204])
                  · refine own_ljY X14 at_203 at_204 (own_feqL (hc204)).2 (pc' := 211) (by decide) (by decide) ?_
                    refine own_iconst X14 at_211 (pc' := 212) rfl (v := (0 : Int32)) (by decide) ?_
                    refine own_icY X14 at_212 (feq ((by decide : ¬ ((1 : Int32) = (0 : Int32))))).2 (pc' := 219) (by decide) (by decide) ?_
                    refine own_iconst X14 at_219 (pc' := 220) rfl (v := (0 : Int32)) (by decide) ?_
                    exact j220_20 _ (by rw [if_pos hc182, if_neg hc187, if_neg hc192, if_neg hc204])
            · refine own_icY X14 at_182 (feq (hc182)).2 (pc' := 219) (by decide) (by decide) ?_
              refine own_iconst X14 at_219 (pc' := 220) rfl (v := (0 : Int32)) (by decide) ?_
              exact j220_20 _ (by rw [if_neg hc182])
          by_cases hc174 : p0 = p2
          · refine own_ljN X14 at_173 at_174 (own_teqL (hc174)).2 (pc' := 177) rfl ?_
            refine own_iconst X14 at_177 (pc' := 178) rfl (v := (1 : Int32)) (by decide) ?_
            refine own_goto X14 at_178 (pc' := 182) (by decide) (by decide) ?_
            exact j182_19 _ (by rw [if_pos hc174])
          · refine own_ljY X14 at_173 at_174 (own_feqL (hc174)).2 (pc' := 181) (by decide) (by decide) ?_
            refine own_iconst X14 at_181 (pc' := 182) rfl (v := (0 : Int32)) (by decide) ?_
            exact j182_19 _ (by rw [if_neg hc174])
        by_cases hc157 : r11 = (0 : Int32)
        · refine own_ifY X14 at_157 (teq (hc157)).1 (pc' := 169) (by decide) (by decide) ?_
          refine own_iconst X14 at_169 (pc' := 170) rfl (v := (0 : Int32)) (by decide) ?_
          exact j170_18 _ (by rw [if_pos hc157])
        · refine own_ifN X14 at_157 (feq (hc157)).1 (pc' := 160) rfl ?_
          refine own_iload X14 at_160 (pc' := 162) rfl rfl ?_
          by_cases hc162 : r12 = (0 : Int32)
          · refine own_ifY X14 at_162 (teq (hc162)).1 (pc' := 169) (by decide) (by decide) ?_
            refine own_iconst X14 at_169 (pc' := 170) rfl (v := (0 : Int32)) (by decide) ?_
            exact j170_18 _ (by rw [if_neg hc157, if_pos hc162])
          · refine own_ifN X14 at_162 (feq (hc162)).1 (pc' := 165) rfl ?_
            refine own_iconst X14 at_165 (pc' := 166) rfl (v := (1 : Int32)) (by decide) ?_
            refine own_goto X14 at_166 (pc' := 170) (by decide) (by decide) ?_
            exact j170_18 _ (by rw [if_neg hc157, if_neg hc162])
      by_cases hc130 : r11 = (0 : Int32)
      · refine own_ifN X14 at_130 (teq (hc130)).2 (pc' := 133) rfl ?_
        refine own_iload X14 at_133 (pc' := 135) rfl rfl ?_
        by_cases hc135 : r12 = (0 : Int32)
        · refine own_ifY X14 at_135 (teq (hc135)).1 (pc' := 152) (by decide) (by decide) ?_
          refine own_iconst X14 at_152 (pc' := 153) rfl (v := (0 : Int32)) (by decide) ?_
          exact j153_17 _ (by rw [if_pos hc130, if_pos hc135])
        · refine own_ifN X14 at_135 (feq (hc135)).1 (pc' := 138) rfl ?_
          refine own_iload X14 at_138 (pc' := 140) rfl rfl ?_
          by_cases hc140 : r13 = (0 : Int32)
          · refine own_ifN X14 at_140 (teq (hc140)).2 (pc' := 143) rfl ?_
            refine own_iload X14 at_143 (pc' := 145) rfl rfl ?_
            by_cases hc145 : r14 = (0 : Int32)
            · refine own_ifY X14 at_145 (teq (hc145)).1 (pc' := 152) (by decide) (by decide) ?_
              refine own_iconst X14 at_152 (pc' := 153) rfl (v := (0 : Int32)) (by decide) ?_
              exact j153_17 _ (by rw [if_pos hc130, if_neg hc135, if_pos hc140, if_pos hc145])
            · refine own_ifN X14 at_145 (feq (hc145)).1 (pc' := 148) rfl ?_
              refine own_iconst X14 at_148 (pc' := 149) rfl (v := (1 : Int32)) (by decide) ?_
              refine own_goto X14 at_149 (pc' := 153) (by decide) (by decide) ?_
              exact j153_17 _ (by rw [if_pos hc130, if_neg hc135, if_pos hc140, if_neg hc145])
          · refine own_ifY X14 at_140 (feq (hc140)).2 (pc' := 148) (by decide) (by decide) ?_
            refine own_iconst X14 at_148 (pc' := 149) rfl (v := (1 : Int32)) (by decide) ?_
            refine own_goto X14 at_149 (pc' := 153) (by decide) (by decide) ?_
            exact j153_17 _ (by rw [if_pos hc130, if_neg hc135, if_neg hc140])
      · refine own_ifY X14 at_130 (feq (hc130)).2 (pc' := 138) (by decide) (by decide) ?_
        refine own_iload X14 at_138 (pc' := 140) rfl rfl ?_
        by_cases hc140 : r13 = (0 : Int32)
        · refine own_ifN X14 at_140 (teq (hc140)).2 (pc' := 143) rfl ?_
          refine own_iload X14 at_143 (pc' := 145) rfl rfl ?_
          by_cases hc145 : r14 = (0 : Int32)
          · refine own_ifY X14 at_145 (teq (hc145)).1 (pc' := 152) (by decide) (by decide) ?_
            refine own_iconst X14 at_152 (pc' := 153) rfl (v := (0 : Int32)) (by decide) ?_
            exact j153_17 _ (by rw [if_neg hc130, if_pos hc140, if_pos hc145])
          · refine own_ifN X14 at_145 (feq (hc145)).1 (pc' := 148) rfl ?_
            refine own_iconst X14 at_148 (pc' := 149) rfl (v := (1 : Int32)) (by decide) ?_
            refine own_goto X14 at_149 (pc' := 153) (by decide) (by decide) ?_
            exact j153_17 _ (by rw [if_neg hc130, if_pos hc140, if_neg hc145])
        · refine own_ifY X14 at_140 (feq (hc140)).2 (pc' := 148) (by decide) (by decide) ?_
          refine own_iconst X14 at_148 (pc' := 149) rfl (v := (1 : Int32)) (by decide) ?_
          refine own_goto X14 at_149 (pc' := 153) (by decide) (by decide) ?_
          exact j153_17 _ (by rw [if_neg hc130, if_neg hc140])
    by_cases hc118 : r10 = f118_s0
    · refine own_icN X14 at_118 (teq (hc118)).2 (pc' := 121) rfl ?_
      refine own_iconst X14 at_121 (pc' := 122) rfl (v := (1 : Int32)) (by decide) ?_
      refine own_goto X14 at_122 (pc' := 126) (by decide) (by decide) ?_
      exact j126_16 _ (by rw [if_pos hc118])
    · refine own_icY X14 at_118 (feq (hc118)).2 (pc' := 125) (by decide) (by decide) ?_
      refine own_iconst X14 at_125 (pc' := 126) rfl (v := (0 : Int32)) (by decide) ?_
      exact j126_16 _ (by rw [if_neg hc118])
  by_cases hc105 : r11 = (0 : Int32)
  · refine own_ifY X14 at_105 (teq (hc105)).1 (pc' := 117) (by decide) (by decide) ?_
    refine own_iconst X14 at_117 (pc' := 118) rfl (v := (0 : Int32)) (by decide) ?_
    exact j118_15 _ (by rw [if_pos hc105])
  · refine own_ifN X14 at_105 (feq (hc105)).1 (pc' := 108) rfl ?_
    refine own_iload X14 at_108 (pc' := 110) rfl rfl ?_
    by_cases hc110 : r13 = (0 : Int32)
    · refine own_ifY X14 at_110 (teq (hc110)).1 (pc' := 117) (by decide) (by decide) ?_
      refine own_iconst X14 at_117 (pc' := 118) rfl (v := (0 : Int32)) (by decide) ?_
      exact j118_15 _ (by rw [if_neg hc105, if_pos hc110])
    · refine own_ifN X14 at_110 (feq (hc110)).1 (pc' := 113) rfl ?_
      refine own_iconst X14 at_113 (pc' := 114) rfl (v := (1 : Int32)) (by decide) ?_
      refine own_goto X14 at_114 (pc' := 118) (by decide) (by decide) ?_
      exact j118_15 _ (by rw [if_neg hc105, if_neg hc110])
set_option maxRecDepth 65536 in
set_option maxHeartbeats 40000000 in
theorem own_comes {Post : Tables → Env → Array Value → State → Outcome → State → Prop} (hpost : ∀ tb e args s v u, (limb_1_1.after args s (.returned v) u = true ∧ limb_1_2.after args s (.returned v) u = true ∧ True) → ReturnedEndW s (.returned v) u (Jvm.fieldLocs frame_1_writes args s ++ Jvm.arrayLocs frame_1_arrays args s ++ Jvm.staticLocs frame_1_statics s) 24 3200 → Post tb e args s (.returned v) u) :
    ArmFor flags0 classFile x code maxLocals ret World_1 tables_1 room_1 Calls_1 rest_1 Pre_1 Post := by
  intro l hfl _ _ p e ha hc hk s m args below hf hA hF happ hP
  obtain ⟨hcalls, hrest, hpre⟩ := hP
  obtain ⟨-, -, -, hnamed, -, -, -, hat⟩ := (Spec.applies_iff hf).mp happ
  obtain ⟨hg, hn⟩ := and_e (Cond.before_iff.mp (show (Jvm.Cond.and given_1 narrow_1).before args s = true from hpre))
  obtain ⟨gc, g0⟩ := and_e hg
  obtain ⟨w0_, g1⟩ := and_e g0
  obtain ⟨w1_, g2⟩ := and_e g1
  obtain ⟨w2_, g3⟩ := and_e g2
  obtain ⟨w3_, g4⟩ := and_e g3
  obtain ⟨w4_, g5⟩ := and_e g4
  obtain ⟨z0, z1, z2, z3, z4, z5, rfl⟩ : ∃ z0 z1 z2 z3 z4 z5 : Value, args = #[z0, z1, z2, z3, z4, z5] := by
    have hs : args.size = 6 := by simpa [Cond.value, given_1] using gc
    obtain ⟨L⟩ := args
    match L, hs with
    | [z0, z1, z2, z3, z4, z5], _ => exact ⟨z0, z1, z2, z3, z4, z5, rfl⟩
  have hw := fun d (hd : d ∈ tables_1) => atoms_spec (ws := Jvm.Cond.code x code maxLocals ret :: tables_1) hat d (List.mem_cons_of_mem _ hd)
  obtain ⟨i0, ei0⟩ := isL_v w0_
  obtain rfl : z0 = (.long i0) := Option.some.inj ei0
  obtain ⟨i1, ei1⟩ := isL_v w1_
  obtain rfl : z1 = (.long i1) := Option.some.inj ei1
  obtain ⟨i2, ei2⟩ := isL_v w2_
  obtain rfl : z2 = (.long i2) := Option.some.inj ei2
  obtain ⟨i3, ei3⟩ := isL_v w3_
  obtain rfl : z3 = (.long i3) := Option.some.inj ei3
  obtain ⟨i4, ei4⟩ := isL_v w4_
  obtain rfl : z4 = (.long i4) := Option.some.inj ei4
  obtain ⟨i5, ei5⟩ := isL_v g5
  obtain rfl : z5 = (.long i5) := Option.some.inj ei5
  obtain ⟨n, o, h1, h2, h3, _, L, rfl, ⟨⟨rfl, -⟩, N⟩, hq⟩ := own_rm0 l s _ hw i0 i1 i2 i3 i4 i5  s.heap s.heap.size (Nat.le_refl _)  tables_1 p e ha hc hk s m _ below hf ((Spec.applies_iff_loose hf).mp happ).1 ⟨rfl, State.Warmed39.refl s, rfl⟩ trivial
  exact ⟨n, _, h1, h2, h3, hpost _ _ _ _ _ _ ⟨Cond.after_iff.mpr rfl, Cond.after_iff.mpr (eq_i res_at (Term.int_eval (1)) rfl), trivial⟩ ⟨hq.1, hq.2.1, hq.2.2.1, (hq.2.2.2.sift fun y hy => Or.inr (N y hy)).mono (by decide) (by decide)⟩⟩
theorem main_1_1 : Claimed_1_1 := own_comes fun _ _ _ _ _ _ h hF => ⟨h.1, hF⟩
theorem main_1_2 : Claimed_1_2 := own_comes fun _ _ _ _ _ _ h hF => ⟨h.2.1, hF⟩
end Jvm.Pilot.@@N@@
namespace Jvm.Pilot.@@N@@
open Jvm Jvm.ClassFile Sem Op Lib Jvm.Free Jvm.Stand Jvm.Pilot.@@N@@.Jvm.D
/-! MADE BY PROGRAM (witnessworld.py) out of the Statement's table words and the real class files: 15 classes; the members and pool entries that the words name. The judged class is class 1, her method 1. -/
namespace start1
open Jvm.ClassFile
def u (s : String) : CpInfo := .utf8 (stringToUtf16 s)
/-- a pool by its gaps: so many unusable entries, then the entry; so many at the end -/
def gap : Nat → List CpInfo → List CpInfo
  | 0, r => r
  | n + 1, r => .unusable :: gap n r
def poolList (es : List (Nat × CpInfo)) (last : Nat) : List CpInfo := es.foldr (fun e r => gap e.1 (e.2 :: r)) (gap last [])
def pool (es : List (Nat × CpInfo)) (last : Nat) : Array CpInfo := ⟨poolList es last⟩
def fileOf (pool : Array CpInfo) (this : Nat) (attrs : Array Attribute := #[]) (ms : Array MethodInfo := #[]) (fl : Nat := 33) (sup : Nat := 0) (ifs : Array Nat := #[]) (fds : Array FieldInfo := #[]) : ClassFile where
  minorVersion := 0
  majorVersion := 65
  constantPool := pool
  accessFlags := fl
  thisClass := this
  superClass := sup
  interfaces := ifs
  fields := fds
  methods := ms
  attributes := attrs
def plain (name : String) (sup : Option ClassId) : Class where
  name := name
  kind := .ordinary
  loader := none
  accessFlags := 33
  super := sup
  interfaces := #[]
  cf := none
  fields := #[]
  methods := #[]
  instanceTypes := #[]
  staticTypes := #[]
  resolved := #[]
  callSites := []
  init := .initialized
  statics := none
  mirror := none

def pool0 : Array CpInfo := pool [(5, u "<init>"), (0, u "()V"), (1, .class_ 10), (1, u "java/lang/Object")] 113

def k0c0 : Code := { maxStack := 0, maxLocals := 1, code := object_method_1_code, exceptionTable := #[], attributes := #[] }
def k0m0 : Method := { name := "<init>", desc := "()V", sig := { parameters := [], returnType := none }, accessFlags := 1, code := some k0c0 }
/-- java/lang/Object -/
def k0 : Class := { plain "java/lang/Object" none with
  accessFlags := 33
  interfaces := #[]
  cf := some (fileOf pool0 8 #[] #[{ accessFlags := 1, nameIndex := 5, descriptorIndex := 6, attributes := #[] }] 33 0 #[] #[])
  fields := #[]
  methods := #[k0m0]
  instanceTypes := #[]
  staticTypes := #[]
  resolved := Array.replicate 124 none
  statics := none }

def pool1 : Array CpInfo := pool [(2, .class_ 4), (1, u "java/lang/Object"), (0, u "<init>"), (0, u "()V"), (2, .long 9223372036854775807), (1, .class_ 12), (0, u "com/example/packhouse/packhouse/Vm"), (0, .string 14), (0, u "v"), (0, .methodref 11 16), (0, .nameAndType 5 17), (0, u "(Ljava/lang/String;JJ)V"), (0, .string 19), (0, u "w"), (0, .string 21), (0, u "u"), (0, .methodref 11 23), (0, .nameAndType 24 25), (0, u "fitsOn"), (0, u "(JJ)Z"), (0, .class_ 27), (0, u "com/example/packhouse/packhouse/VmFitsOnPinLaw"), (2, u "law"), (0, u "(JJJJJJ)Z")] 3

def k1m0 : Method := { name := "<init>", desc := "()V", sig := { parameters := [], returnType := none }, accessFlags := 2, code := none }
def k1c1 : Code := { maxStack := 7, maxLocals := 30, code := code, exceptionTable := #[], attributes := #[] }
def k1m1 : Method := { name := "law", desc := "(JJJJJJ)Z", sig := { parameters := [.long, .long, .long, .long, .long, .long], returnType := some .boolean }, accessFlags := 9, code := some k1c1 }
/-- com/example/packhouse/packhouse/VmFitsOnPinLaw -/
def k1 : Class := { plain "com/example/packhouse/packhouse/VmFitsOnPinLaw" (some 0) with
  accessFlags := 49
  interfaces := #[]
  cf := some (fileOf pool1 26 #[] #[{ accessFlags := 2, nameIndex := 5, descriptorIndex := 6, attributes := #[] }, { accessFlags := 9, nameIndex := 30, descriptorIndex := 31, attributes := #[] }] 49 2 #[] #[])
  fields := #[]
  methods := #[k1m0, k1m1]
  instanceTypes := #[]
  staticTypes := #[]
  resolved := Array.replicate 35 none
  statics := none }

def pool2 : Array CpInfo := pool [(1, .methodref 2 3), (0, .class_ 4), (0, .nameAndType 5 6), (0, u "java/lang/Object"), (0, u "<init>"), (0, u "()V"), (0, .class_ 8), (0, u "java/lang/Record")] 13

def k2c0 : Code := { maxStack := 1, maxLocals := 1, code := jdk_30_method_1_code, exceptionTable := #[], attributes := #[] }
def k2m0 : Method := { name := "<init>", desc := "()V", sig := { parameters := [], returnType := none }, accessFlags := 4, code := some k2c0 }
/-- java/lang/Record -/
def k2 : Class := { plain "java/lang/Record" (some 0) with
  accessFlags := 1057
  interfaces := #[]
  cf := some (fileOf pool2 7 #[] #[{ accessFlags := 4, nameIndex := 5, descriptorIndex := 6, attributes := #[] }] 1057 2 #[] #[])
  fields := #[]
  methods := #[k2m0]
  instanceTypes := #[]
  staticTypes := #[]
  resolved := Array.replicate 22 none
  statics := none }

def pool3 : Array CpInfo := pool [(1, .methodref 2 3), (0, .class_ 4), (0, .nameAndType 5 6), (0, u "java/lang/Record"), (0, u "<init>"), (0, u "()V"), (0, .fieldref 8 9), (0, .class_ 10), (0, .nameAndType 11 12), (0, u "com/example/packhouse/packhouse/Vm"), (0, u "id"), (0, u "Ljava/lang/String;"), (0, .fieldref 8 14), (0, .nameAndType 15 16), (0, u "cpu"), (0, u "J"), (0, .fieldref 8 18), (0, .nameAndType 19 16), (0, u "mem"), (12, u "(Ljava/lang/String;JJ)V"), (3, u "fitsOn"), (0, u "(JJ)Z")] 27

def k3c0 : Code := { maxStack := 3, maxLocals := 6, code := prog_36_method_1_code, exceptionTable := #[], attributes := #[] }
def k3m0 : Method := { name := "<init>", desc := "(Ljava/lang/String;JJ)V", sig := { parameters := [(.object "java/lang/String"), .long, .long], returnType := none }, accessFlags := 0, code := some k3c0 }
def k3c1 : Code := { maxStack := 4, maxLocals := 5, code := prog_36_method_2_code, exceptionTable := #[], attributes := #[] }
def k3m1 : Method := { name := "fitsOn", desc := "(JJ)Z", sig := { parameters := [.long, .long], returnType := some .boolean }, accessFlags := 0, code := some k3c1 }
/-- com/example/packhouse/packhouse/Vm -/
def k3 : Class := { plain "com/example/packhouse/packhouse/Vm" (some 2) with
  accessFlags := 48
  interfaces := #[]
  cf := some (fileOf pool3 8 #[] #[{ accessFlags := 0, nameIndex := 5, descriptorIndex := 32, attributes := #[] }, { accessFlags := 0, nameIndex := 36, descriptorIndex := 37, attributes := #[] }] 48 2 #[] #[{ accessFlags := 18, nameIndex := 11, descriptorIndex := 12, attributes := #[] }, { accessFlags := 18, nameIndex := 15, descriptorIndex := 16, attributes := #[] }, { accessFlags := 18, nameIndex := 19, descriptorIndex := 16, attributes := #[] }])
  fields := #[{ name := "id", type := (.object "java/lang/String"), accessFlags := 18, slot := 0, constantValue := 0 }, { name := "cpu", type := .long, accessFlags := 18, slot := 1, constantValue := 0 }, { name := "mem", type := .long, accessFlags := 18, slot := 2, constantValue := 0 }]
  methods := #[k3m0, k3m1]
  instanceTypes := #[(.object "java/lang/String"), .long, .long]
  staticTypes := #[]
  resolved := Array.replicate 65 none
  statics := none }

def pool4 : Array CpInfo := pool [(1, .class_ 2), (0, u "java/io/Serializable"), (0, .class_ 4), (0, u "java/lang/Object")] 2

/-- java/io/Serializable -/
def k4 : Class := { plain "java/io/Serializable" (some 0) with
  accessFlags := 1537
  interfaces := #[]
  cf := some (fileOf pool4 1 #[] #[] 1537 3 #[] #[])
  fields := #[]
  methods := #[]
  instanceTypes := #[]
  staticTypes := #[]
  resolved := Array.replicate 7 none
  statics := none }

def pool5 : Array CpInfo := pool [(1, .class_ 2), (0, u "java/lang/Comparable"), (0, .class_ 4), (0, u "java/lang/Object")] 7

/-- java/lang/Comparable -/
def k5 : Class := { plain "java/lang/Comparable" (some 0) with
  accessFlags := 1537
  interfaces := #[]
  cf := some (fileOf pool5 1 #[] #[] 1537 3 #[] #[])
  fields := #[]
  methods := #[]
  instanceTypes := #[]
  staticTypes := #[]
  resolved := Array.replicate 12 none
  statics := none }

def pool6 : Array CpInfo := pool [(2, .class_ 4), (1, u "java/lang/CharSequence"), (42, .class_ 48), (0, u "java/lang/CharSequence$1CodePointIterator"), (10, .class_ 60), (0, u "java/lang/CharSequence$1CharIterator"), (5, .class_ 67), (0, u "java/lang/Object")] 63

/-- java/lang/CharSequence -/
def k6 : Class := { plain "java/lang/CharSequence" (some 0) with
  accessFlags := 1537
  interfaces := #[]
  cf := some (fileOf pool6 2 #[.nestMembers #[47, 59]] #[] 1537 66 #[] #[])
  fields := #[]
  methods := #[]
  instanceTypes := #[]
  staticTypes := #[]
  resolved := Array.replicate 131 none
  statics := none }

def pool7 : Array CpInfo := pool [(1, .class_ 2), (0, u "java/lang/constant/Constable"), (0, .class_ 4), (0, u "java/lang/Object")] 6

/-- java/lang/constant/Constable -/
def k7 : Class := { plain "java/lang/constant/Constable" (some 0) with
  accessFlags := 1537
  interfaces := #[]
  cf := some (fileOf pool7 1 #[] #[] 1537 3 #[] #[])
  fields := #[]
  methods := #[]
  instanceTypes := #[]
  staticTypes := #[]
  resolved := Array.replicate 11 none
  statics := none }

def pool8 : Array CpInfo := pool [(1, .class_ 2), (0, u "java/lang/constant/ConstantDesc"), (0, .class_ 4), (0, u "java/lang/Object")] 32

/-- java/lang/constant/ConstantDesc -/
def k8 : Class := { plain "java/lang/constant/ConstantDesc" (some 0) with
  accessFlags := 1537
  interfaces := #[]
  cf := some (fileOf pool8 1 #[] #[] 1537 3 #[] #[])
  fields := #[]
  methods := #[]
  instanceTypes := #[]
  staticTypes := #[]
  resolved := Array.replicate 37 none
  statics := none }

def pool9 : Array CpInfo := pool [(2, .class_ 4), (1, u "java/lang/Object"), (0, u "<init>"), (0, u "()V"), (3, .class_ 12), (1, u "java/lang/String"), (0, u "value"), (0, u "[B"), (2, u "coder"), (0, u "B"), (2, u "hash"), (0, u "I"), (2, u "hashIsZero"), (0, u "Z"), (13, u "COMPACT_STRINGS"), (534, .class_ 576), (0, u "java/lang/CharSequence"), (22, u "CASE_INSENSITIVE_ORDER"), (0, u "Ljava/util/Comparator;"), (500, u "serialPersistentFields"), (0, u "[Ljava/io/ObjectStreamField;"), (0, .class_ 1104), (0, u "java/lang/String$CaseInsensitiveComparator"), (1, .class_ 1107), (0, u "java/io/Serializable"), (0, .class_ 1109), (0, u "java/lang/Comparable"), (0, .class_ 1111), (0, u "java/lang/constant/Constable"), (0, .class_ 1113), (0, u "java/lang/constant/ConstantDesc"), (2, u "serialVersionUID"), (0, u "J"), (3, u "REPL"), (0, u "C"), (2, u "LATIN1"), (1, u "UTF16")] 323

def k9m0 : Method := { name := "<init>", desc := "()V", sig := { parameters := [], returnType := none }, accessFlags := 1, code := none }
/-- java/lang/String -/
def k9 : Class := { plain "java/lang/String" (some 0) with
  accessFlags := 49
  interfaces := #[4, 5, 6, 7, 8]
  cf := some (fileOf pool9 10 #[.nestMembers #[1103]] #[{ accessFlags := 1, nameIndex := 5, descriptorIndex := 6, attributes := #[] }] 49 2 #[1106, 1108, 575, 1110, 1112] #[{ accessFlags := 18, nameIndex := 13, descriptorIndex := 14, attributes := #[] }, { accessFlags := 18, nameIndex := 17, descriptorIndex := 18, attributes := #[] }, { accessFlags := 2, nameIndex := 21, descriptorIndex := 22, attributes := #[] }, { accessFlags := 2, nameIndex := 25, descriptorIndex := 26, attributes := #[] }, { accessFlags := 26, nameIndex := 1116, descriptorIndex := 1117, attributes := #[] }, { accessFlags := 24, nameIndex := 40, descriptorIndex := 26, attributes := #[] }, { accessFlags := 26, nameIndex := 1101, descriptorIndex := 1102, attributes := #[] }, { accessFlags := 26, nameIndex := 1121, descriptorIndex := 1122, attributes := #[] }, { accessFlags := 25, nameIndex := 599, descriptorIndex := 600, attributes := #[] }, { accessFlags := 24, nameIndex := 1125, descriptorIndex := 18, attributes := #[] }, { accessFlags := 24, nameIndex := 1127, descriptorIndex := 18, attributes := #[] }])
  fields := #[{ name := "value", type := (.array .byte), accessFlags := 18, slot := 0, constantValue := 0 }, { name := "coder", type := .byte, accessFlags := 18, slot := 1, constantValue := 0 }, { name := "hash", type := .int, accessFlags := 2, slot := 2, constantValue := 0 }, { name := "hashIsZero", type := .boolean, accessFlags := 2, slot := 3, constantValue := 0 }, { name := "serialVersionUID", type := .long, accessFlags := 26, slot := 0, constantValue := 0 }, { name := "COMPACT_STRINGS", type := .boolean, accessFlags := 24, slot := 1, constantValue := 0 }, { name := "serialPersistentFields", type := (.array (.object "java/io/ObjectStreamField")), accessFlags := 26, slot := 2, constantValue := 0 }, { name := "REPL", type := .char, accessFlags := 26, slot := 3, constantValue := 0 }, { name := "CASE_INSENSITIVE_ORDER", type := (.object "java/util/Comparator"), accessFlags := 25, slot := 4, constantValue := 0 }, { name := "LATIN1", type := .byte, accessFlags := 24, slot := 5, constantValue := 0 }, { name := "UTF16", type := .byte, accessFlags := 24, slot := 6, constantValue := 0 }]
  methods := #[k9m0]
  instanceTypes := #[(.array .byte), .byte, .int, .boolean]
  staticTypes := #[.long, .boolean, (.array (.object "java/io/ObjectStreamField")), .char, (.object "java/util/Comparator"), .byte, .byte]
  resolved := Array.replicate 1451 none
  statics := none }

def pool10 : Array CpInfo := pool [(1, u "java/lang/Cloneable"), (0, .class_ 1), (0, u "java/lang/Object"), (0, .class_ 3)] 3

/-- java/lang/Cloneable -/
def k10 : Class := { plain "java/lang/Cloneable" (some 0) with
  accessFlags := 1537
  interfaces := #[]
  cf := some (fileOf pool10 2 #[] #[] 1537 4 #[] #[])
  fields := #[]
  methods := #[]
  instanceTypes := #[]
  staticTypes := #[]
  resolved := Array.replicate 8 none
  statics := none }

/-- the primitive byte -/
def k11 : Class := { plain "byte" none with kind := .primitive 'B', accessFlags := 0x411 }
/-- [B -/
def k12 : Class := { plain "[B" (some 0) with kind := .array 11 .byte, interfaces := #[10, 4], accessFlags := 1041 }

/-- the primitive int -/
def k13 : Class := { plain "int" none with kind := .primitive 'I', accessFlags := 0x411 }
/-- [I -/
def k14 : Class := { plain "[I" (some 0) with kind := .array 13 .int, interfaces := #[10, 4], accessFlags := 1041 }

def heap : Heap := #[]
def classes : Array Class := #[k0, k1, k2, k3, k4, k5, k6, k7, k8, k9, k10, k11, k12, k13, k14]
def interned : List (Array UInt16 × Addr) := []
def slotsUsed : Nat := 0
def theMethod : MethodId := ⟨1, 1⟩
def args0 : Array Value := #[.long 5, .long 5, .long 5, .long 5, .long 5, .long 5]
def aboutOver (below : List Frame) : State where
  vm := { classes := classes, interned := interned.toArray }
  heap := heap
  slotsUsed := slotsUsed
  threads := #[{ frames := .invoking theMethod args0 :: below }]
def below0 : List Frame := [.native { method := ⟨0, 0⟩, args := #[] }]
def about1 : State := aboutOver below0
def p0 : Program := .bare "" "" ""
def e0 : Env := launch0.env 0 0 0
theorem w_frames : about1.frames = Frame.invoking theMethod args0 :: below0 := rfl
set_option maxRecDepth 65536 in
theorem w_args : argsFit about1.vm theMethod args0 = true := by decide +kernel
set_option maxRecDepth 65536 in
theorem w_heap : heapFits about1 = true := by decide +kernel
set_option maxRecDepth 65536 in
theorem w_runnable : about1.curStatus? = some .runnable := by decide +kernel
set_option maxRecDepth 65536 in
theorem w_alone : about1.alone = true := by decide +kernel
set_option maxRecDepth 65536 in
theorem w_named : about1.methodNamed? x = some theMethod := by decide +kernel
set_option maxRecDepth 65536 in
theorem w_hears : about1.hears theMethod below0 = true := by decide +kernel
set_option maxRecDepth 65536 in
theorem w_ripe : about1.ripe theMethod args0 below0 = true := by decide +kernel
theorem w_running : about1.status = .running := rfl
set_option maxRecDepth 65536 in
theorem w_room : about1.hasRoom e0.platform room_1 = true :=
  launch0.hasRoom_least _ room_1 (by decide +kernel) (by decide +kernel) (by decide +kernel) (by decide +kernel) (by decide +kernel) (by decide +kernel)
theorem allAtoms_all (ts : List Jvm.Cond) (a : Array Jvm.Value) (st : Jvm.State) : (allAtoms ts).before a st = ts.all (fun c => c.before a st) := by
  induction ts with
  | nil => rfl
  | cons c t ih =>
    show (Jvm.Cond.and c (allAtoms t)).before a st = _
    rw [Jvm.Cond.before_and, ih, List.all_cons]
def words1 : List Jvm.Cond := Jvm.Cond.code x code maxLocals ret :: tables_1
/-- a 'code' word, met by the world's own term for the bytes: nothing is compared byte by byte -/
theorem code_word {y : MethodName} {bytes : ByteArray} {mx : Nat} {rt : Option FieldType} {a : Array Value} {s : State} {m : MethodId} {meth : Method} {c : Code} (h1 : s.methodNamed? y = some m) (h2 : s.vm.method? m = some meth) (h3 : meth.code = some c) (h4 : c.code = bytes)
    (h5 : (c.maxLocals == mx && c.exceptionTable.isEmpty && decide (c.maxStack ≤ mostOperands) && decide (meth.sig.returnType = rt) && !meth.locks && decide (parseMethodDescriptor y.desc = some meth.sig)) = true) : (Jvm.Cond.code y bytes mx rt).before a s = true := by
  simp only [Bool.and_eq_true, beq_iff_eq, Bool.not_eq_true', decide_eq_true_eq] at h5
  obtain ⟨⟨⟨⟨⟨g1, g2⟩, g3⟩, g4⟩, g5⟩, g6⟩ := h5
  simp [Cond.before, Cond.holds, Cond.value, h1, h2, h3, h4, g1, g2, g3, g4, g5, g6]
def isCode : Jvm.Cond → Bool
  | .code _ _ _ _ => true
  | _ => false
theorem all_split {L : List Jvm.Cond} {P : Jvm.Cond → Bool} (h1 : L.all (fun c => isCode c || P c) = true) (h2 : ∀ c ∈ L.filter isCode, P c = true) : L.all P = true := by
  refine List.all_eq_true.mpr fun c hc => ?_
  have h := List.all_eq_true.mp h1 c hc
  rcases Bool.eq_false_or_eq_true (isCode c) with hi | hi
  · exact h2 c (List.mem_filter.mpr ⟨hc, hi⟩)
  · simpa [hi] using h
set_option maxRecDepth 65536 in
theorem w_c0 : (Jvm.Cond.code x code maxLocals ret).before args0 about1 = true := code_word (m := ⟨1, 1⟩) (meth := k1m1) (c := k1c1) (by decide +kernel) rfl rfl rfl (by decide +kernel)
set_option maxRecDepth 65536 in
theorem w_c1 : (Jvm.Cond.code ({ cls := "com/example/packhouse/packhouse/Vm", name := "<init>", desc := "(Ljava/lang/String;JJ)V" } : Jvm.MethodName) prog_36_method_1_code (6 : Nat) (Option.none : Option Jvm.ClassFile.FieldType)).before args0 about1 = true := code_word (m := ⟨3, 0⟩) (meth := k3m0) (c := k3c0) (by decide +kernel) rfl rfl rfl (by decide +kernel)
set_option maxRecDepth 65536 in
theorem w_c2 : (Jvm.Cond.code ({ cls := "java/lang/Record", name := "<init>", desc := "()V" } : Jvm.MethodName) jdk_30_method_1_code (1 : Nat) (Option.none : Option Jvm.ClassFile.FieldType)).before args0 about1 = true := code_word (m := ⟨2, 0⟩) (meth := k2m0) (c := k2c0) (by decide +kernel) rfl rfl rfl (by decide +kernel)
set_option maxRecDepth 65536 in
theorem w_c3 : (Jvm.Cond.code ({ cls := "java/lang/Object", name := "<init>", desc := "()V" } : Jvm.MethodName) object_method_1_code (1 : Nat) (Option.none : Option Jvm.ClassFile.FieldType)).before args0 about1 = true := code_word (m := ⟨0, 0⟩) (meth := k0m0) (c := k0c0) (by decide +kernel) rfl rfl rfl (by decide +kernel)
set_option maxRecDepth 65536 in
theorem w_c4 : (Jvm.Cond.code ({ cls := "com/example/packhouse/packhouse/Vm", name := "fitsOn", desc := "(JJ)Z" } : Jvm.MethodName) prog_36_method_2_code (5 : Nat) (Option.some Jvm.ClassFile.FieldType.boolean)).before args0 about1 = true := code_word (m := ⟨3, 1⟩) (meth := k3m1) (c := k3c1) (by decide +kernel) rfl rfl rfl (by decide +kernel)
def codes1 : List Jvm.Cond := [Jvm.Cond.code x code maxLocals ret, Jvm.Cond.code ({ cls := "com/example/packhouse/packhouse/Vm", name := "<init>", desc := "(Ljava/lang/String;JJ)V" } : Jvm.MethodName) prog_36_method_1_code (6 : Nat) (Option.none : Option Jvm.ClassFile.FieldType), Jvm.Cond.code ({ cls := "java/lang/Record", name := "<init>", desc := "()V" } : Jvm.MethodName) jdk_30_method_1_code (1 : Nat) (Option.none : Option Jvm.ClassFile.FieldType), Jvm.Cond.code ({ cls := "java/lang/Object", name := "<init>", desc := "()V" } : Jvm.MethodName) object_method_1_code (1 : Nat) (Option.none : Option Jvm.ClassFile.FieldType), Jvm.Cond.code ({ cls := "com/example/packhouse/packhouse/Vm", name := "fitsOn", desc := "(JJ)Z" } : Jvm.MethodName) prog_36_method_2_code (5 : Nat) (Option.some Jvm.ClassFile.FieldType.boolean)]
set_option maxRecDepth 65536 in
theorem codes_eq : words1.filter isCode = codes1 := rfl
theorem w_codes : ∀ c ∈ words1.filter isCode, c.before args0 about1 = true := by
  rw [codes_eq]
  intro c hc
  simp only [codes1, List.mem_cons, List.not_mem_nil, or_false] at hc
  rcases hc with rfl | rfl | rfl | rfl | rfl
  · exact w_c0
  · exact w_c1
  · exact w_c2
  · exact w_c3
  · exact w_c4
set_option maxRecDepth 65536 in
theorem w_t1 : (words1.take 24).all (fun c => isCode c || c.before args0 about1) = true := by decide +kernel
set_option maxRecDepth 65536 in
theorem w_t2 : (words1.drop 24).all (fun c => isCode c || c.before args0 about1) = true := by decide +kernel
theorem w_tables : (allAtoms (Jvm.Cond.code x code maxLocals ret :: tables_1)).before args0 about1 = true := by
  rw [allAtoms_all]
  show words1.all (fun c => c.before args0 about1) = true
  refine all_split ?_ w_codes
  rw [← List.take_append_drop 24 words1, List.all_append, w_t1, w_t2]
  rfl
set_option maxRecDepth 65536 in
theorem w_case : (Jvm.Cond.and given_1 narrow_1).before args0 about1 = true := by decide +kernel
theorem w_applies : (headSpec (Jvm.Cond.code x code maxLocals ret :: tables_1) room_1).applies x e0.platform about1 = true :=
  (Spec.applies_iff w_frames).mpr ⟨w_running, w_runnable, w_alone, w_named, w_hears, w_ripe, w_room, w_tables⟩
theorem atStart : AtStart classFile x code maxLocals ret World_1 tables_1 room_1 Calls_1 rest_1 Pre_1 launch0 p0 e0 about1 theMethod args0 below0 :=
  ⟨lists_1, trivial, launch0.admits_env _ _ _, launch0.least_env, fairChoices_fair.cas, fairChoices_fair.clock, w_frames, w_args, w_heap, w_applies, trivial, trivial, w_case⟩
end start1
theorem witness_1 : WitnessClaimed_1 := ⟨start1.p0, start1.e0, start1.about1, start1.theMethod, start1.args0, start1.below0, start1.atStart⟩
end Jvm.Pilot.@@N@@
