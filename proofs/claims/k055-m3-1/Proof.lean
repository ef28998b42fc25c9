import JvmDerived
import JvmDerived.Pilot.@@N@@Statement
import JvmDerived.Pilot.@@N@@Code
set_option linter.unusedVariables false
set_option linter.unusedSimpArgs false
namespace Jvm.Pilot.@@N@@
open Jvm Jvm.ClassFile Sem Op Lib Jvm.Free Jvm.Stand Jvm.LawKit Jvm.RoadKit Bundle Jvm.Pilot.@@N@@.Jvm.D
/-! ## own kit: one walk of a body in continuation style; the library's step laws of one family behind it -/
section OwnKit
variable {p : Program} {l : Launch} {e : Env} {R : Room} {s : State} {m : MethodId} {args : Array Value} {below : List Frame} {meth : Method} {c : Code} {Z : State} {own : String} {bytes : ByteArray} {maxL : Nat} {ret : Option FieldType} {nm : String} {n0 km : Nat} {Q : Option Value → Heap → Prop} {RR : State → Outcome → Prop} {T : State} {h : Heap} {cells slots : Nat} {a0 : Array Value} {pc pc' : Nat} {Ls : Array Slot} {S : List Value}
def OwnGo (p : Program) (e : Env) (below : List Frame) (S : State) (RR : State → Outcome → Prop) : Prop :=
  ∃ s₂ o, Steps p.tables e below S s₂ ∧ s₂.status = .running ∧ Ended s₂ below o ∧ RR s₂ o
theorem own_step {S S' : State} (k : OwnGo p e below S' RR) (h : ∀ t, Steps p.tables e below S' t → Steps p.tables e below S t) : OwnGo p e below S RR := by
  obtain ⟨s₂, o, h1, h2⟩ := k
  exact ⟨s₂, o, h _ h1, h2⟩
/-- the context of one body: what holds all along its walk -/
def OwnCx (p : Program) (l : Launch) (e : Env) (R : Room) (s : State) (m : MethodId) (meth : Method) (c : Code) (Z : State) (own : String) (bytes : ByteArray) (maxL : Nat) (ret : Option FieldType) (nm : String) (n0 km : Nat) (Q : Option Value → Heap → Prop) (RR : State → Outcome → Prop) : Prop :=
  p.tables.exec = Jvm.exec ∧ c.code = bytes ∧ c.maxLocals = maxL ∧ Z.Warmed39 s.vm ∧ s.vm.findClass own = some m.cls ∧ meth.name = nm ∧ meth.sig.returnType = ret ∧ meth.locks = false ∧
  ∀ (U : State) (v : Option Value) (L : List Loc), Q v U.heap → km ≤ U.heap.size → Fr n0 L → s.WarmedH U.vm → s.sameButNew ({ U with vm := s.vm } : State) L R.cells R.slots → RR U (.returned v)
/-- where the walk stands: the state T, its heap h, so many cells and slots made -/
def OwnSt (p : Program) (l : Launch) (e : Env) (R : Room) (s : State) (m : MethodId) (args : Array Value) (below : List Frame) (meth : Method) (c : Code) (Z : State) (own : String) (bytes : ByteArray) (maxL : Nat) (ret : Option FieldType) (nm : String) (n0 km : Nat) (Q : Option Value → Heap → Prop) (RR : State → Outcome → Prop) (T : State) (h : Heap) (cells slots : Nat) : Prop :=
  OwnCx p l e R s m meth c Z own bytes maxL ret nm n0 km Q RR ∧ T.heap = h ∧ km ≤ h.size ∧ ∃ locs, Stand p l e R s m args below meth c T locs cells slots ∧ Fr n0 locs
/-- a body's contract: called with these arguments at the heap h it returns v and leaves a heap, with Q -/
def OwnMet (l : Launch) (Z : State) (y : MethodName) (bytes : ByteArray) (maxL : Nat) (ret : Option FieldType) (rm : Room) (as' : Array Value) (h : Heap) (n0 : Nat) (Q : Option Value → Heap → Prop) : Prop :=
  ∀ ws : List Jvm.Cond, MetFree l y (head1 (Jvm.Cond.code y bytes maxL ret :: ws) rm) (fun a U => a = as' ∧ Z.Warmed39 U.vm ∧ U.heap = h) (fun _ _ _ _ _ => True) (fun _ U o U' => ∃ v L, o = .returned v ∧ ((Q v U'.heap ∧ h.size ≤ U'.heap.size) ∧ Fr n0 L) ∧ FrameEnd U o U' L rm.cells rm.slots)
theorem own_body {y : MethodName} {rm : Room} {as' : Array Value} (hpl : plainFor y = true)
    (body : ∀ (p : Program) (e : Env) (s : State) (m : MethodId) (below : List Frame) (meth : Method) (c : Code) (s₁ : State) (RR : State → Outcome → Prop), OwnSt p l e rm s m as' below meth c Z y.cls bytes maxL ret y.name n0 0 Q RR s₁ h 0 0 → OwnGo p e below (s₁.setTop (entryFrame m as' maxL)) RR) :
    OwnMet l Z y bytes maxL ret rm as' h n0 Q := by
  intro ws
  refine MetFree.of_bodySF hpl hisR ?_
  intro p e s m args below meth c s₁ Bd hml0 hP hK
  obtain ⟨rfl, hZ, hh⟩ := hP
  refine body p e s m below meth c s₁ _ ⟨⟨Bd.exec, Bd.bytes, hml0, hZ, findClass_of_methodNamed Bd.named, (name_of_methodNamed Bd.named Bd.method).1, Bd.returns, Bd.notSynchronized, ?_⟩, by rw [← hh, Bd.state]; rfl, Nat.zero_le _, [], Stand.of_body Bd, Fr.nil n0⟩
  intro U v L hQ _ hN hW hs
  exact ⟨v, L, rfl, ⟨⟨hQ, by rw [← hh]; exact hs.2.1⟩, hN⟩, ⟨_, rfl⟩, hW, hs⟩
theorem own_enter {g g' : JFrame} (q : g = g') (k : OwnGo p e below (T.setTop g') RR) : OwnGo p e below (T.setTop g) RR := q ▸ k
theorem own_ret {v : Option Value} {g : State} (X : OwnSt p l e R s m args below meth c Z own bytes maxL ret nm n0 km Q RR T h cells slots) (hv : ret = none → v = none) (hQ : Q v h) (hc : cells ≤ R.cells) (hl : slots ≤ R.slots)
    (k : ∀ locs, Stand p l e R s m args below meth c T locs cells slots → ∀ fs, (∀ (f : JFrame) (acts : List Action), f.method = m → f.locked = none → f.entered = [] → (doReturn e (T.setTop f) acts v).1 = T.setFrames fs) → Steps p.tables e below g (T.setFrames fs)) : OwnGo p e below g RR := by
  obtain ⟨⟨hx, hby, hml, hZ, hown, hnm, hret, hlk, hR⟩, hh, hkm, locs, X0, N⟩ := X
  obtain ⟨fs, hr, hrun, hended, hW, hsame⟩ := X0.leave (v := v) (fun q => hv (hret ▸ q)) hlk
  exact ⟨_, _, k _ X0 fs hr, hrun, hended, hR _ _ _ (by show Q v T.heap; rw [hh]; exact hQ) (by show km ≤ T.heap.size; rw [hh]; exact hkm) N hW (hsame.mono hc hl)⟩
theorem own_retV (X : OwnSt p l e R s m args below meth c Z own bytes maxL none nm n0 km Q RR T h cells slots) (hd : decode bytes pc = .ok (.return_, 1)) (hQ : Q none h) (hc : cells ≤ R.cells) (hl : slots ≤ R.slots) : OwnGo p e below (T.setTop (mkF m pc Ls [])) RR := by
  refine own_ret X (fun _ => rfl) hQ hc hl fun locs X0 fs hr => ?_
  obtain ⟨⟨hx, hby, hml, hZ, hown, hnm, hret, hlk, hR⟩, hh, -⟩ := X
  exact X0.returnOut hx hret (hb hby hd) hr
theorem own_retI {z : Int32} {rest : List Value} (X : OwnSt p l e R s m args below meth c Z own bytes maxL (some .int) nm n0 km Q RR T h cells slots) (hd : decode bytes pc = .ok (.ireturn, 1)) (hQ : Q (some (.int z)) h) (hc : cells ≤ R.cells) (hl : slots ≤ R.slots) : OwnGo p e below (T.setTop (mkF m pc Ls (.int z :: rest))) RR := by
  refine own_ret X (fun q => nomatch q) hQ hc hl fun locs X0 fs hr => ?_
  obtain ⟨⟨hx, hby, hml, hZ, hown, hnm, hret, hlk, hR⟩, hh, -⟩ := X
  exact retOut X0 hx hret rfl (Or.inl ⟨rfl, Or.inl rfl, z, rfl⟩) (hb hby hd) hr
theorem own_retJ {z : Int64} {rest : List Value} (X : OwnSt p l e R s m args below meth c Z own bytes maxL (some .long) nm n0 km Q RR T h cells slots) (hd : decode bytes pc = .ok (.lreturn, 1)) (hQ : Q (some (.long z)) h) (hc : cells ≤ R.cells) (hl : slots ≤ R.slots) : OwnGo p e below (T.setTop (mkF m pc Ls (.long z :: rest))) RR := by
  refine own_ret X (fun q => nomatch q) hQ hc hl fun locs X0 fs hr => ?_
  obtain ⟨⟨hx, hby, hml, hZ, hown, hnm, hret, hlk, hR⟩, hh, -⟩ := X
  exact retOut X0 hx hret rfl (Or.inr (Or.inl ⟨rfl, rfl, z, rfl⟩)) (hb hby hd) hr
theorem own_retA {v : Value} {t : FieldType} {rest : List Value} (X : OwnSt p l e R s m args below meth c Z own bytes maxL (some t) nm n0 km Q RR T h cells slots) (ht : t.isReference = true) (hv : v.isRef = true) (hn : narrow t v = v) (hd : decode bytes pc = .ok (.areturn, 1)) (hQ : Q (some v) h) (hc : cells ≤ R.cells) (hl : slots ≤ R.slots) : OwnGo p e below (T.setTop (mkF m pc Ls (v :: rest))) RR := by
  refine own_ret X (fun q => nomatch q) hQ hc hl fun locs X0 fs hr => ?_
  obtain ⟨⟨hx, hby, hml, hZ, hown, hnm, hret, hlk, hR⟩, hh, -⟩ := X
  exact retOut X0 hx hret hn (Or.inr (Or.inr (Or.inr (Or.inr ⟨rfl, ht, hv⟩)))) (hb hby hd) hr
theorem own_retZ {z : Int32} {rest : List Value} (X : OwnSt p l e R s m args below meth c Z own bytes maxL (some .boolean) nm n0 km Q RR T h cells slots) (hd : decode bytes pc = .ok (.ireturn, 1)) (hz : z &&& 1 = z) (hQ : Q (some (.int z)) h) (hc : cells ≤ R.cells) (hl : slots ≤ R.slots) : OwnGo p e below (T.setTop (mkF m pc Ls (.int z :: rest))) RR := by
  refine own_ret X (fun q => nomatch q) hQ hc hl fun locs X0 fs hr => ?_
  obtain ⟨⟨hx, hby, hml, hZ, hown, hnm, hret, hlk, hR⟩, hh, -⟩ := X
  exact retOut X0 hx hret (by show Value.int (z &&& 1) = _; rw [hz]) (Or.inl ⟨rfl, Or.inr (Or.inl rfl), z, rfl⟩) (hb hby hd) hr
theorem OwnSt.here (X : OwnSt p l e R s m args below meth c Z own bytes maxL ret nm n0 km Q RR T h cells slots) : At T m c below := X.2.2.2.elim fun _ q => q.1.here
theorem OwnSt.hx (X : OwnSt p l e R s m args below meth c Z own bytes maxL ret nm n0 km Q RR T h cells slots) : p.tables.exec = Jvm.exec := X.1.1
theorem OwnSt.by' (X : OwnSt p l e R s m args below meth c Z own bytes maxL ret nm n0 km Q RR T h cells slots) : c.code = bytes := X.1.2.1
theorem OwnSt.hZ (X : OwnSt p l e R s m args below meth c Z own bytes maxL ret nm n0 km Q RR T h cells slots) : Z.Warmed39 s.vm := X.1.2.2.2.1
theorem own_aloadN {k : Fin 4} {v : Value} (X : OwnSt p l e R s m args below meth c Z own bytes maxL ret nm n0 km Q RR T h cells slots) (hd : decode bytes pc = .ok (.aload_n k, 1)) (hp : pc + 1 = pc') (hl : Ls[k.val]? = some (.val v)) (hv : v.isRef = true) (k : OwnGo p e below (T.setTop (mkF m pc' Ls (v :: S))) RR) : OwnGo p e below (T.setTop (mkF m pc Ls (S))) RR := by
  subst hp
  exact own_step k fun t k => XS.aloadN X.here X.hx rfl (hb X.by' hd) hl hv k
theorem own_aload {k : Nat} {v : Value} (X : OwnSt p l e R s m args below meth c Z own bytes maxL ret nm n0 km Q RR T h cells slots) (hd : decode bytes pc = .ok (.aload k, 2)) (hp : pc + 2 = pc') (hl : Ls[k]? = some (.val v)) (hv : v.isRef = true) (k : OwnGo p e below (T.setTop (mkF m pc' Ls (v :: S))) RR) : OwnGo p e below (T.setTop (mkF m pc Ls (S))) RR := by
  subst hp
  exact own_step k fun t k => XS.aload X.here X.hx rfl (hb X.by' hd) hl hv k
theorem own_iloadN {k : Fin 4} {v : Int32} (X : OwnSt p l e R s m args below meth c Z own bytes maxL ret nm n0 km Q RR T h cells slots) (hd : decode bytes pc = .ok (.iload_n k, 1)) (hp : pc + 1 = pc') (hl : Ls[k.val]? = some (.val (.int v))) (k : OwnGo p e below (T.setTop (mkF m pc' Ls (.int v :: S))) RR) : OwnGo p e below (T.setTop (mkF m pc Ls (S))) RR := by
  subst hp
  exact own_step k fun t k => XS.iloadN X.here X.hx rfl (hb X.by' hd) hl k
theorem own_iload {k : Nat} {v : Int32} (X : OwnSt p l e R s m args below meth c Z own bytes maxL ret nm n0 km Q RR T h cells slots) (hd : decode bytes pc = .ok (.iload k, 2)) (hp : pc + 2 = pc') (hl : Ls[k]? = some (.val (.int v))) (k : OwnGo p e below (T.setTop (mkF m pc' Ls (.int v :: S))) RR) : OwnGo p e below (T.setTop (mkF m pc Ls (S))) RR := by
  subst hp
  exact own_step k fun t k => XS.iload X.here X.hx rfl (hb X.by' hd) hl k
theorem own_lloadN {k : Fin 4} {v : Int64} (X : OwnSt p l e R s m args below meth c Z own bytes maxL ret nm n0 km Q RR T h cells slots) (hd : decode bytes pc = .ok (.lload_n k, 1)) (hp : pc + 1 = pc') (hl : Ls[k.val]? = some (.val (.long v))) (k : OwnGo p e below (T.setTop (mkF m pc' Ls (.long v :: S))) RR) : OwnGo p e below (T.setTop (mkF m pc Ls (S))) RR := by
  subst hp
  exact own_step k fun t k => XS.lloadN X.here X.hx rfl (hb X.by' hd) hl k
theorem own_lload {k : Nat} {v : Int64} (X : OwnSt p l e R s m args below meth c Z own bytes maxL ret nm n0 km Q RR T h cells slots) (hd : decode bytes pc = .ok (.lload k, 2)) (hp : pc + 2 = pc') (hl : Ls[k]? = some (.val (.long v))) (k : OwnGo p e below (T.setTop (mkF m pc' Ls (.long v :: S))) RR) : OwnGo p e below (T.setTop (mkF m pc Ls (S))) RR := by
  subst hp
  exact own_step k fun t k => XS.lload X.here X.hx rfl (hb X.by' hd) hl k
theorem own_iconst {i : Int} {v : Int32} (X : OwnSt p l e R s m args below meth c Z own bytes maxL ret nm n0 km Q RR T h cells slots) (hd : decode bytes pc = .ok (.iconst i, 1)) (hp : pc + 1 = pc') (hv : Int32.ofInt i = v) (k : OwnGo p e below (T.setTop (mkF m pc' Ls (.int v :: S))) RR) : OwnGo p e below (T.setTop (mkF m pc Ls (S))) RR := by
  subst hp
  subst hv
  exact own_step k fun t k => XS.iconst X.here X.hx rfl (hb X.by' hd) k
theorem own_bipush {i : Int} {v : Int32} (X : OwnSt p l e R s m args below meth c Z own bytes maxL ret nm n0 km Q RR T h cells slots) (hd : decode bytes pc = .ok (.bipush i, 2)) (hp : pc + 2 = pc') (hv : (Int8.ofInt i).toInt32 = v) (k : OwnGo p e below (T.setTop (mkF m pc' Ls (.int v :: S))) RR) : OwnGo p e below (T.setTop (mkF m pc Ls (S))) RR := by
  subst hp
  subst hv
  exact own_step k fun t k => XS.bipush X.here X.hx rfl (hb X.by' hd) k
theorem own_sipush {i : Int} {v : Int32} (X : OwnSt p l e R s m args below meth c Z own bytes maxL ret nm n0 km Q RR T h cells slots) (hd : decode bytes pc = .ok (.sipush i, 3)) (hp : pc + 3 = pc') (hv : (Int16.ofInt i).toInt32 = v) (k : OwnGo p e below (T.setTop (mkF m pc' Ls (.int v :: S))) RR) : OwnGo p e below (T.setTop (mkF m pc Ls (S))) RR := by
  subst hp
  subst hv
  exact own_step k fun t k => XS.sipush X.here X.hx rfl (hb X.by' hd) k
theorem own_lconst {i : Fin 2} {v : Int64} (X : OwnSt p l e R s m args below meth c Z own bytes maxL ret nm n0 km Q RR T h cells slots) (hd : decode bytes pc = .ok (.lconst i, 1)) (hp : pc + 1 = pc') (hv : Int64.ofNat i = v) (k : OwnGo p e below (T.setTop (mkF m pc' Ls (.long v :: S))) RR) : OwnGo p e below (T.setTop (mkF m pc Ls (S))) RR := by
  subst hp
  subst hv
  exact own_step k fun t k => XS.lconst X.here X.hx rfl (hb X.by' hd) k
theorem own_aconst_null  (X : OwnSt p l e R s m args below meth c Z own bytes maxL ret nm n0 km Q RR T h cells slots) (hd : decode bytes pc = .ok (.aconst_null, 1)) (hp : pc + 1 = pc')  (k : OwnGo p e below (T.setTop (mkF m pc' Ls (.null :: S))) RR) : OwnGo p e below (T.setTop (mkF m pc Ls (S))) RR := by
  subst hp
  exact own_step k fun t k => XS.aconstNull X.here X.hx rfl (hb X.by' hd) k
theorem own_iadd {x y : Int32} (X : OwnSt p l e R s m args below meth c Z own bytes maxL ret nm n0 km Q RR T h cells slots) (hd : decode bytes pc = .ok (.iadd, 1)) (hp : pc + 1 = pc')  (k : OwnGo p e below (T.setTop (mkF m pc' Ls (.int (x + y) :: S))) RR) : OwnGo p e below (T.setTop (mkF m pc Ls (.int y :: .int x :: S))) RR := by
  subst hp
  exact own_step k fun t k => XS.iadd X.here X.hx rfl (hb X.by' hd) rfl k
theorem own_isub {x y : Int32} (X : OwnSt p l e R s m args below meth c Z own bytes maxL ret nm n0 km Q RR T h cells slots) (hd : decode bytes pc = .ok (.isub, 1)) (hp : pc + 1 = pc')  (k : OwnGo p e below (T.setTop (mkF m pc' Ls (.int (x - y) :: S))) RR) : OwnGo p e below (T.setTop (mkF m pc Ls (.int y :: .int x :: S))) RR := by
  subst hp
  exact own_step k fun t k => XS.isub X.here X.hx rfl (hb X.by' hd) rfl k
theorem own_imul {x y : Int32} (X : OwnSt p l e R s m args below meth c Z own bytes maxL ret nm n0 km Q RR T h cells slots) (hd : decode bytes pc = .ok (.imul, 1)) (hp : pc + 1 = pc')  (k : OwnGo p e below (T.setTop (mkF m pc' Ls (.int (x * y) :: S))) RR) : OwnGo p e below (T.setTop (mkF m pc Ls (.int y :: .int x :: S))) RR := by
  subst hp
  exact own_step k fun t k => XS.imul X.here X.hx rfl (hb X.by' hd) rfl k
theorem own_iand {x y : Int32} (X : OwnSt p l e R s m args below meth c Z own bytes maxL ret nm n0 km Q RR T h cells slots) (hd : decode bytes pc = .ok (.iand, 1)) (hp : pc + 1 = pc')  (k : OwnGo p e below (T.setTop (mkF m pc' Ls (.int (x &&& y) :: S))) RR) : OwnGo p e below (T.setTop (mkF m pc Ls (.int y :: .int x :: S))) RR := by
  subst hp
  exact own_step k fun t k => XS.iand X.here X.hx rfl (hb X.by' hd) rfl k
theorem own_ior {x y : Int32} (X : OwnSt p l e R s m args below meth c Z own bytes maxL ret nm n0 km Q RR T h cells slots) (hd : decode bytes pc = .ok (.ior, 1)) (hp : pc + 1 = pc')  (k : OwnGo p e below (T.setTop (mkF m pc' Ls (.int (x ||| y) :: S))) RR) : OwnGo p e below (T.setTop (mkF m pc Ls (.int y :: .int x :: S))) RR := by
  subst hp
  exact own_step k fun t k => XS.ior X.here X.hx rfl (hb X.by' hd) rfl k
theorem own_ixor {x y : Int32} (X : OwnSt p l e R s m args below meth c Z own bytes maxL ret nm n0 km Q RR T h cells slots) (hd : decode bytes pc = .ok (.ixor, 1)) (hp : pc + 1 = pc')  (k : OwnGo p e below (T.setTop (mkF m pc' Ls (.int (x ^^^ y) :: S))) RR) : OwnGo p e below (T.setTop (mkF m pc Ls (.int y :: .int x :: S))) RR := by
  subst hp
  exact own_step k fun t k => XS.ixor X.here X.hx rfl (hb X.by' hd) rfl k
theorem own_ishl {x y : Int32} (X : OwnSt p l e R s m args below meth c Z own bytes maxL ret nm n0 km Q RR T h cells slots) (hd : decode bytes pc = .ok (.ishl, 1)) (hp : pc + 1 = pc')  (k : OwnGo p e below (T.setTop (mkF m pc' Ls (.int (x <<< (y &&& 31)) :: S))) RR) : OwnGo p e below (T.setTop (mkF m pc Ls (.int y :: .int x :: S))) RR := by
  subst hp
  exact own_step k fun t k => XS.ishl X.here X.hx rfl (hb X.by' hd) rfl k
theorem own_ishr {x y : Int32} (X : OwnSt p l e R s m args below meth c Z own bytes maxL ret nm n0 km Q RR T h cells slots) (hd : decode bytes pc = .ok (.ishr, 1)) (hp : pc + 1 = pc')  (k : OwnGo p e below (T.setTop (mkF m pc' Ls (.int (x >>> (y &&& 31)) :: S))) RR) : OwnGo p e below (T.setTop (mkF m pc Ls (.int y :: .int x :: S))) RR := by
  subst hp
  exact own_step k fun t k => XS.ishr X.here X.hx rfl (hb X.by' hd) rfl k
theorem own_iushr {x y : Int32} (X : OwnSt p l e R s m args below meth c Z own bytes maxL ret nm n0 km Q RR T h cells slots) (hd : decode bytes pc = .ok (.iushr, 1)) (hp : pc + 1 = pc')  (k : OwnGo p e below (T.setTop (mkF m pc' Ls (.int ((x.toUInt32 >>> (y &&& 31).toUInt32).toInt32) :: S))) RR) : OwnGo p e below (T.setTop (mkF m pc Ls (.int y :: .int x :: S))) RR := by
  subst hp
  exact own_step k fun t k => XS.iushr X.here X.hx rfl (hb X.by' hd) rfl k
theorem own_idiv {x y : Int32} (X : OwnSt p l e R s m args below meth c Z own bytes maxL ret nm n0 km Q RR T h cells slots) (hd : decode bytes pc = .ok (.idiv, 1)) (hp : pc + 1 = pc') (hy : y ≠ 0) (k : OwnGo p e below (T.setTop (mkF m pc' Ls (.int (x / y) :: S))) RR) : OwnGo p e below (T.setTop (mkF m pc Ls (.int y :: .int x :: S))) RR := by
  subst hp
  exact own_step k fun t k => XS.idiv X.here X.hx rfl (hb X.by' hd) rfl hy k
theorem own_irem {x y : Int32} (X : OwnSt p l e R s m args below meth c Z own bytes maxL ret nm n0 km Q RR T h cells slots) (hd : decode bytes pc = .ok (.irem, 1)) (hp : pc + 1 = pc') (hy : y ≠ 0) (k : OwnGo p e below (T.setTop (mkF m pc' Ls (.int (x % y) :: S))) RR) : OwnGo p e below (T.setTop (mkF m pc Ls (.int y :: .int x :: S))) RR := by
  subst hp
  exact own_step k fun t k => XS.irem X.here X.hx rfl (hb X.by' hd) rfl hy (by rw [irem_eq_mod]; exact k)
theorem own_ladd {x y : Int64} (X : OwnSt p l e R s m args below meth c Z own bytes maxL ret nm n0 km Q RR T h cells slots) (hd : decode bytes pc = .ok (.ladd, 1)) (hp : pc + 1 = pc')  (k : OwnGo p e below (T.setTop (mkF m pc' Ls (.long (x + y) :: S))) RR) : OwnGo p e below (T.setTop (mkF m pc Ls (.long y :: .long x :: S))) RR := by
  subst hp
  exact own_step k fun t k => XS.ladd X.here X.hx rfl (hb X.by' hd) rfl k
theorem own_lsub {x y : Int64} (X : OwnSt p l e R s m args below meth c Z own bytes maxL ret nm n0 km Q RR T h cells slots) (hd : decode bytes pc = .ok (.lsub, 1)) (hp : pc + 1 = pc')  (k : OwnGo p e below (T.setTop (mkF m pc' Ls (.long (x - y) :: S))) RR) : OwnGo p e below (T.setTop (mkF m pc Ls (.long y :: .long x :: S))) RR := by
  subst hp
  exact own_step k fun t k => XS.lsub X.here X.hx rfl (hb X.by' hd) rfl k
theorem own_lmul {x y : Int64} (X : OwnSt p l e R s m args below meth c Z own bytes maxL ret nm n0 km Q RR T h cells slots) (hd : decode bytes pc = .ok (.lmul, 1)) (hp : pc + 1 = pc')  (k : OwnGo p e below (T.setTop (mkF m pc' Ls (.long (x * y) :: S))) RR) : OwnGo p e below (T.setTop (mkF m pc Ls (.long y :: .long x :: S))) RR := by
  subst hp
  exact own_step k fun t k => XS.lmul X.here X.hx rfl (hb X.by' hd) rfl k
theorem own_land {x y : Int64} (X : OwnSt p l e R s m args below meth c Z own bytes maxL ret nm n0 km Q RR T h cells slots) (hd : decode bytes pc = .ok (.land, 1)) (hp : pc + 1 = pc')  (k : OwnGo p e below (T.setTop (mkF m pc' Ls (.long (x &&& y) :: S))) RR) : OwnGo p e below (T.setTop (mkF m pc Ls (.long y :: .long x :: S))) RR := by
  subst hp
  exact own_step k fun t k => XS.land X.here X.hx rfl (hb X.by' hd) rfl k
theorem own_lor {x y : Int64} (X : OwnSt p l e R s m args below meth c Z own bytes maxL ret nm n0 km Q RR T h cells slots) (hd : decode bytes pc = .ok (.lor, 1)) (hp : pc + 1 = pc')  (k : OwnGo p e below (T.setTop (mkF m pc' Ls (.long (x ||| y) :: S))) RR) : OwnGo p e below (T.setTop (mkF m pc Ls (.long y :: .long x :: S))) RR := by
  subst hp
  exact own_step k fun t k => XS.lor X.here X.hx rfl (hb X.by' hd) rfl k
theorem own_lxor {x y : Int64} (X : OwnSt p l e R s m args below meth c Z own bytes maxL ret nm n0 km Q RR T h cells slots) (hd : decode bytes pc = .ok (.lxor, 1)) (hp : pc + 1 = pc')  (k : OwnGo p e below (T.setTop (mkF m pc' Ls (.long (x ^^^ y) :: S))) RR) : OwnGo p e below (T.setTop (mkF m pc Ls (.long y :: .long x :: S))) RR := by
  subst hp
  exact own_step k fun t k => XS.lxor X.here X.hx rfl (hb X.by' hd) rfl k
theorem own_ldiv {x y : Int64} (X : OwnSt p l e R s m args below meth c Z own bytes maxL ret nm n0 km Q RR T h cells slots) (hd : decode bytes pc = .ok (.ldiv, 1)) (hp : pc + 1 = pc') (hy : y ≠ 0) (k : OwnGo p e below (T.setTop (mkF m pc' Ls (.long (x / y) :: S))) RR) : OwnGo p e below (T.setTop (mkF m pc Ls (.long y :: .long x :: S))) RR := by
  subst hp
  exact own_step k fun t k => XS.ldiv X.here X.hx rfl (hb X.by' hd) rfl hy k
theorem own_lrem {x y : Int64} (X : OwnSt p l e R s m args below meth c Z own bytes maxL ret nm n0 km Q RR T h cells slots) (hd : decode bytes pc = .ok (.lrem, 1)) (hp : pc + 1 = pc') (hy : y ≠ 0) (k : OwnGo p e below (T.setTop (mkF m pc' Ls (.long (x - (x / y) * y) :: S))) RR) : OwnGo p e below (T.setTop (mkF m pc Ls (.long y :: .long x :: S))) RR := by
  subst hp
  exact own_step k fun t k => XS.lrem X.here X.hx rfl (hb X.by' hd) rfl hy k
theorem own_lshl {x : Int64} {y : Int32} (X : OwnSt p l e R s m args below meth c Z own bytes maxL ret nm n0 km Q RR T h cells slots) (hd : decode bytes pc = .ok (.lshl, 1)) (hp : pc + 1 = pc')  (k : OwnGo p e below (T.setTop (mkF m pc' Ls (.long (x <<< (y &&& 0x3f).toInt64) :: S))) RR) : OwnGo p e below (T.setTop (mkF m pc Ls (.int y :: .long x :: S))) RR := by
  subst hp
  exact own_step k fun t k => XS.lshl X.here X.hx rfl (hb X.by' hd) rfl k
theorem own_lshr {x : Int64} {y : Int32} (X : OwnSt p l e R s m args below meth c Z own bytes maxL ret nm n0 km Q RR T h cells slots) (hd : decode bytes pc = .ok (.lshr, 1)) (hp : pc + 1 = pc')  (k : OwnGo p e below (T.setTop (mkF m pc' Ls (.long (x >>> (y &&& 0x3f).toInt64) :: S))) RR) : OwnGo p e below (T.setTop (mkF m pc Ls (.int y :: .long x :: S))) RR := by
  subst hp
  exact own_step k fun t k => XS.lshr X.here X.hx rfl (hb X.by' hd) rfl k
theorem own_lushr {x : Int64} {y : Int32} (X : OwnSt p l e R s m args below meth c Z own bytes maxL ret nm n0 km Q RR T h cells slots) (hd : decode bytes pc = .ok (.lushr, 1)) (hp : pc + 1 = pc')  (k : OwnGo p e below (T.setTop (mkF m pc' Ls (.long ((x.toUInt64 >>> (y &&& 0x3f).toInt64.toUInt64).toInt64) :: S))) RR) : OwnGo p e below (T.setTop (mkF m pc Ls (.int y :: .long x :: S))) RR := by
  subst hp
  exact own_step k fun t k => XS.lushr X.here X.hx rfl (hb X.by' hd) rfl k
theorem own_ineg {x : Int32} (X : OwnSt p l e R s m args below meth c Z own bytes maxL ret nm n0 km Q RR T h cells slots) (hd : decode bytes pc = .ok (.ineg, 1)) (hp : pc + 1 = pc')  (k : OwnGo p e below (T.setTop (mkF m pc' Ls (.int (-x) :: S))) RR) : OwnGo p e below (T.setTop (mkF m pc Ls (.int x :: S))) RR := by
  subst hp
  exact own_step k fun t k => XS.ineg X.here X.hx rfl (hb X.by' hd) rfl k
theorem own_lneg {x : Int64} (X : OwnSt p l e R s m args below meth c Z own bytes maxL ret nm n0 km Q RR T h cells slots) (hd : decode bytes pc = .ok (.lneg, 1)) (hp : pc + 1 = pc')  (k : OwnGo p e below (T.setTop (mkF m pc' Ls (.long (-x) :: S))) RR) : OwnGo p e below (T.setTop (mkF m pc Ls (.long x :: S))) RR := by
  subst hp
  exact own_step k fun t k => XS.lneg X.here X.hx rfl (hb X.by' hd) rfl k
theorem own_i2l {x : Int32} (X : OwnSt p l e R s m args below meth c Z own bytes maxL ret nm n0 km Q RR T h cells slots) (hd : decode bytes pc = .ok (.i2l, 1)) (hp : pc + 1 = pc')  (k : OwnGo p e below (T.setTop (mkF m pc' Ls (.long (x.toInt64) :: S))) RR) : OwnGo p e below (T.setTop (mkF m pc Ls (.int x :: S))) RR := by
  subst hp
  exact own_step k fun t k => XS.i2l X.here X.hx rfl (hb X.by' hd) rfl k
theorem own_l2i {x : Int64} (X : OwnSt p l e R s m args below meth c Z own bytes maxL ret nm n0 km Q RR T h cells slots) (hd : decode bytes pc = .ok (.l2i, 1)) (hp : pc + 1 = pc')  (k : OwnGo p e below (T.setTop (mkF m pc' Ls (.int (x.toInt32) :: S))) RR) : OwnGo p e below (T.setTop (mkF m pc Ls (.long x :: S))) RR := by
  subst hp
  exact own_step k fun t k => XS.l2i X.here X.hx rfl (hb X.by' hd) rfl k
theorem own_i2b {x : Int32} (X : OwnSt p l e R s m args below meth c Z own bytes maxL ret nm n0 km Q RR T h cells slots) (hd : decode bytes pc = .ok (.i2b, 1)) (hp : pc + 1 = pc')  (k : OwnGo p e below (T.setTop (mkF m pc' Ls (.int (x.toInt8.toInt32) :: S))) RR) : OwnGo p e below (T.setTop (mkF m pc Ls (.int x :: S))) RR := by
  subst hp
  exact own_step k fun t k => XS.i2b X.here X.hx rfl (hb X.by' hd) rfl k
theorem own_i2s {x : Int32} (X : OwnSt p l e R s m args below meth c Z own bytes maxL ret nm n0 km Q RR T h cells slots) (hd : decode bytes pc = .ok (.i2s, 1)) (hp : pc + 1 = pc')  (k : OwnGo p e below (T.setTop (mkF m pc' Ls (.int (x.toInt16.toInt32) :: S))) RR) : OwnGo p e below (T.setTop (mkF m pc Ls (.int x :: S))) RR := by
  subst hp
  exact own_step k fun t k => XS.i2s X.here X.hx rfl (hb X.by' hd) rfl k
theorem own_i2c {x : Int32} (X : OwnSt p l e R s m args below meth c Z own bytes maxL ret nm n0 km Q RR T h cells slots) (hd : decode bytes pc = .ok (.i2c, 1)) (hp : pc + 1 = pc')  (k : OwnGo p e below (T.setTop (mkF m pc' Ls (.int (x.toUInt32.toUInt16.toUInt32.toInt32) :: S))) RR) : OwnGo p e below (T.setTop (mkF m pc Ls (.int x :: S))) RR := by
  subst hp
  exact own_step k fun t k => XS.i2c X.here X.hx rfl (hb X.by' hd) rfl k
theorem own_dup {x : Value} (X : OwnSt p l e R s m args below meth c Z own bytes maxL ret nm n0 km Q RR T h cells slots) (hd : decode bytes pc = .ok (.dup, 1)) (hp : pc + 1 = pc') (hc : x.category = 1) (k : OwnGo p e below (T.setTop (mkF m pc' Ls (x :: x :: S))) RR) : OwnGo p e below (T.setTop (mkF m pc Ls (x :: S))) RR := by
  subst hp
  exact own_step k fun t k => XS.dup X.here X.hx rfl (hb X.by' hd) rfl hc k
theorem own_pop {x : Value} (X : OwnSt p l e R s m args below meth c Z own bytes maxL ret nm n0 km Q RR T h cells slots) (hd : decode bytes pc = .ok (.pop, 1)) (hp : pc + 1 = pc') (hc : x.category = 1) (k : OwnGo p e below (T.setTop (mkF m pc' Ls (S))) RR) : OwnGo p e below (T.setTop (mkF m pc Ls (x :: S))) RR := by
  subst hp
  exact own_step k fun t k => XS.pop X.here X.hx rfl (hb X.by' hd) rfl hc k
theorem own_dup_x1 {x y : Value} (X : OwnSt p l e R s m args below meth c Z own bytes maxL ret nm n0 km Q RR T h cells slots) (hd : decode bytes pc = .ok (.dup_x1, 1)) (hp : pc + 1 = pc') (hc : x.category = 1) (hc' : y.category = 1) (k : OwnGo p e below (T.setTop (mkF m pc' Ls (x :: y :: x :: S))) RR) : OwnGo p e below (T.setTop (mkF m pc Ls (x :: y :: S))) RR := by
  subst hp
  exact own_step k fun t k => XS.dupX1 X.here X.hx rfl (hb X.by' hd) rfl hc hc' k
theorem own_istoreN {k : Fin 4} {x : Int32} {l' : Array Slot} (X : OwnSt p l e R s m args below meth c Z own bytes maxL ret nm n0 km Q RR T h cells slots) (hd : decode bytes pc = .ok (.istore_n k, 1)) (hp : pc + 1 = pc') (hl : storeLocals Ls k.val (.int x) = some l') (k : OwnGo p e below (T.setTop (mkF m pc' l' (S))) RR) : OwnGo p e below (T.setTop (mkF m pc Ls (.int x :: S))) RR := by
  subst hp
  exact own_step k fun t k => XS.istoreN X.here X.hx rfl (hb X.by' hd) rfl hl k
theorem own_istoreNV {k : Fin 4} {x : Int32} {l' : Int32 → Array Slot} (X : OwnSt p l e R s m args below meth c Z own bytes maxL ret nm n0 km Q RR T h cells slots) (hd : decode bytes pc = .ok (.istore_n k, 1)) (hp : pc + 1 = pc') (hl : ∀ v, storeLocals Ls k.val (.int v) = some (l' v)) (k : ∀ v, v = x → OwnGo p e below (T.setTop (mkF m pc' (l' v) (S))) RR) : OwnGo p e below (T.setTop (mkF m pc Ls (.int x :: S))) RR := by
  subst hp
  exact own_step (k _ rfl) fun t k => XS.istoreN X.here X.hx rfl (hb X.by' hd) rfl (hl _) k
theorem own_istore {k : Nat} {x : Int32} {l' : Array Slot} (X : OwnSt p l e R s m args below meth c Z own bytes maxL ret nm n0 km Q RR T h cells slots) (hd : decode bytes pc = .ok (.istore k, 2)) (hp : pc + 2 = pc') (hl : storeLocals Ls k (.int x) = some l') (k : OwnGo p e below (T.setTop (mkF m pc' l' (S))) RR) : OwnGo p e below (T.setTop (mkF m pc Ls (.int x :: S))) RR := by
  subst hp
  exact own_step k fun t k => XS.istore X.here X.hx rfl (hb X.by' hd) rfl hl k
theorem own_istoreV {k : Nat} {x : Int32} {l' : Int32 → Array Slot} (X : OwnSt p l e R s m args below meth c Z own bytes maxL ret nm n0 km Q RR T h cells slots) (hd : decode bytes pc = .ok (.istore k, 2)) (hp : pc + 2 = pc') (hl : ∀ v, storeLocals Ls k (.int v) = some (l' v)) (k : ∀ v, v = x → OwnGo p e below (T.setTop (mkF m pc' (l' v) (S))) RR) : OwnGo p e below (T.setTop (mkF m pc Ls (.int x :: S))) RR := by
  subst hp
  exact own_step (k _ rfl) fun t k => XS.istore X.here X.hx rfl (hb X.by' hd) rfl (hl _) k
theorem own_lstoreN {k : Fin 4} {x : Int64} {l' : Array Slot} (X : OwnSt p l e R s m args below meth c Z own bytes maxL ret nm n0 km Q RR T h cells slots) (hd : decode bytes pc = .ok (.lstore_n k, 1)) (hp : pc + 1 = pc') (hl : storeLocals Ls k.val (.long x) = some l') (k : OwnGo p e below (T.setTop (mkF m pc' l' (S))) RR) : OwnGo p e below (T.setTop (mkF m pc Ls (.long x :: S))) RR := by
  subst hp
  exact own_step k fun t k => XS.lstoreN X.here X.hx rfl (hb X.by' hd) rfl hl k
theorem own_lstoreNV {k : Fin 4} {x : Int64} {l' : Int64 → Array Slot} (X : OwnSt p l e R s m args below meth c Z own bytes maxL ret nm n0 km Q RR T h cells slots) (hd : decode bytes pc = .ok (.lstore_n k, 1)) (hp : pc + 1 = pc') (hl : ∀ v, storeLocals Ls k.val (.long v) = some (l' v)) (k : ∀ v, v = x → OwnGo p e below (T.setTop (mkF m pc' (l' v) (S))) RR) : OwnGo p e below (T.setTop (mkF m pc Ls (.long x :: S))) RR := by
  subst hp
  exact own_step (k _ rfl) fun t k => XS.lstoreN X.here X.hx rfl (hb X.by' hd) rfl (hl _) k
theorem own_lstore {k : Nat} {x : Int64} {l' : Array Slot} (X : OwnSt p l e R s m args below meth c Z own bytes maxL ret nm n0 km Q RR T h cells slots) (hd : decode bytes pc = .ok (.lstore k, 2)) (hp : pc + 2 = pc') (hl : storeLocals Ls k (.long x) = some l') (k : OwnGo p e below (T.setTop (mkF m pc' l' (S))) RR) : OwnGo p e below (T.setTop (mkF m pc Ls (.long x :: S))) RR := by
  subst hp
  exact own_step k fun t k => XS.lstore X.here X.hx rfl (hb X.by' hd) rfl hl k
theorem own_lstoreV {k : Nat} {x : Int64} {l' : Int64 → Array Slot} (X : OwnSt p l e R s m args below meth c Z own bytes maxL ret nm n0 km Q RR T h cells slots) (hd : decode bytes pc = .ok (.lstore k, 2)) (hp : pc + 2 = pc') (hl : ∀ v, storeLocals Ls k (.long v) = some (l' v)) (k : ∀ v, v = x → OwnGo p e below (T.setTop (mkF m pc' (l' v) (S))) RR) : OwnGo p e below (T.setTop (mkF m pc Ls (.long x :: S))) RR := by
  subst hp
  exact own_step (k _ rfl) fun t k => XS.lstore X.here X.hx rfl (hb X.by' hd) rfl (hl _) k
theorem own_astoreN {k : Fin 4} {x : Value} {l' : Array Slot} (X : OwnSt p l e R s m args below meth c Z own bytes maxL ret nm n0 km Q RR T h cells slots) (hd : decode bytes pc = .ok (.astore_n k, 1)) (hp : pc + 1 = pc') (hv : x.isRef = true) (hl : storeLocals Ls k.val x = some l') (k : OwnGo p e below (T.setTop (mkF m pc' l' (S))) RR) : OwnGo p e below (T.setTop (mkF m pc Ls (x :: S))) RR := by
  subst hp
  exact own_step k fun t k => XS.astoreN X.here X.hx rfl (hb X.by' hd) rfl hv hl k
theorem own_astore {k : Nat} {x : Value} {l' : Array Slot} (X : OwnSt p l e R s m args below meth c Z own bytes maxL ret nm n0 km Q RR T h cells slots) (hd : decode bytes pc = .ok (.astore k, 2)) (hp : pc + 2 = pc') (hv : x.isRef = true) (hl : storeLocals Ls k x = some l') (k : OwnGo p e below (T.setTop (mkF m pc' l' (S))) RR) : OwnGo p e below (T.setTop (mkF m pc Ls (x :: S))) RR := by
  subst hp
  exact own_step k fun t k => XS.astore X.here X.hx rfl (hb X.by' hd) rfl hv hl k
theorem own_iinc {k : Nat} {d : Int} {x y : Int32} {l' : Array Slot} (X : OwnSt p l e R s m args below meth c Z own bytes maxL ret nm n0 km Q RR T h cells slots) (hd : decode bytes pc = .ok (.iinc k d, 3)) (hp : pc + 3 = pc') (hx' : Ls[k]? = some (.val (.int x))) (hy : x + Int32.ofInt d = y) (hl : storeLocals Ls k (.int y) = some l') (k : OwnGo p e below (T.setTop (mkF m pc' l' (S))) RR) : OwnGo p e below (T.setTop (mkF m pc Ls (S))) RR := by
  subst hp
  subst hy
  exact own_step k fun t k => XS.iinc X.here X.hx rfl (hb X.by' hd) hx' hl k
theorem own_ifnonnullN {o : Int} (X : OwnSt p l e R s m args below meth c Z own bytes maxL ret nm n0 km Q RR T h cells slots) (hd : decode bytes pc = .ok (.ifnonnull o, 3)) (hp : pc + 3 = pc')  (k : OwnGo p e below (T.setTop (mkF m pc' Ls (S))) RR) : OwnGo p e below (T.setTop (mkF m pc Ls (.null :: S))) RR := by
  subst hp
  exact own_step k fun t k => XS.ifnonnullNo X.here X.hx rfl (hb X.by' hd) rfl k
theorem own_ifnullN {o : Int} {b : Addr} (X : OwnSt p l e R s m args below meth c Z own bytes maxL ret nm n0 km Q RR T h cells slots) (hd : decode bytes pc = .ok (.ifnull o, 3)) (hp : pc + 3 = pc')  (k : OwnGo p e below (T.setTop (mkF m pc' Ls (S))) RR) : OwnGo p e below (T.setTop (mkF m pc Ls (.ref b :: S))) RR := by
  subst hp
  exact own_step k fun t k => XS.ifnullNo X.here X.hx rfl (hb X.by' hd) rfl k
theorem own_ifnonnullY {o : Int} {b : Addr} (X : OwnSt p l e R s m args below meth c Z own bytes maxL ret nm n0 km Q RR T h cells slots) (hd : decode bytes pc = .ok (.ifnonnull o, 3)) (hp : ((pc : Int) + o).toNat = pc') (ho : 0 ≤ (pc : Int) + o) (k : OwnGo p e below (T.setTop (mkF m pc' Ls S)) RR) : OwnGo p e below (T.setTop (mkF m pc Ls (.ref b :: S))) RR :=
  own_step k fun t k => XS.ifnonnullYes X.here X.hx rfl (pc0 := pc) rfl (hb X.by' hd) rfl ho hp k
theorem own_ifnullY {o : Int} (X : OwnSt p l e R s m args below meth c Z own bytes maxL ret nm n0 km Q RR T h cells slots) (hd : decode bytes pc = .ok (.ifnull o, 3)) (hp : ((pc : Int) + o).toNat = pc') (ho : 0 ≤ (pc : Int) + o) (k : OwnGo p e below (T.setTop (mkF m pc' Ls S)) RR) : OwnGo p e below (T.setTop (mkF m pc Ls (.null :: S))) RR :=
  own_step k fun t k => XS.ifnullYes X.here X.hx rfl (pc0 := pc) rfl (hb X.by' hd) rfl ho hp k
theorem own_ldcInt {i : Nat} {v : Int32} (X : OwnSt p l e R s m args below meth c Z own bytes maxL ret nm n0 km Q RR T h cells slots) (hd : decode bytes pc = .ok (.ldc i, 2)) (hp : pc + 2 = pc') (w : (Cond.constant own i v).before a0 Z = true) (k : OwnGo p e below (T.setTop (mkF m pc' Ls (.int v :: S))) RR) : OwnGo p e below (T.setTop (mkF m pc Ls S)) RR := by
  subst hp
  obtain ⟨C, hh, hkm, locs, X0, N⟩ := id X
  exact own_step k (X0.ldcInt X.hx C.2.2.2.2.1 (mvT X.hZ w) (g := mkF m pc Ls S) rfl (hb X.by' hd))
theorem own_ldc2Long {i : Nat} {v : Int64} (X : OwnSt p l e R s m args below meth c Z own bytes maxL ret nm n0 km Q RR T h cells slots) (hd : decode bytes pc = .ok (.ldc2_w i, 3)) (hp : pc + 3 = pc') (w : (Cond.constantLong own i v).before a0 Z = true) (k : OwnGo p e below (T.setTop (mkF m pc' Ls (.long v :: S))) RR) : OwnGo p e below (T.setTop (mkF m pc Ls S)) RR := by
  subst hp
  obtain ⟨C, hh, hkm, locs, X0, N⟩ := id X
  exact own_step k (X0.ldc2Long X.hx C.2.2.2.2.1 (mvT X.hZ w) (g := mkF m pc Ls S) rfl (hb X.by' hd))
/-! forks -/
theorem own_ifY {cd : ClassFile.Cond} {x : Int32} {o : Int} (X : OwnSt p l e R s m args below meth c Z own bytes maxL ret nm n0 km Q RR T h cells slots) (hd : decode bytes pc = .ok (.ifCond cd o, 3)) (hc : if_icmp.holds cd x 0 = true) (hp : ((pc : Int) + o).toNat = pc') (ho : 0 ≤ (pc : Int) + o) (k : OwnGo p e below (T.setTop (mkF m pc' Ls S)) RR) : OwnGo p e below (T.setTop (mkF m pc Ls (.int x :: S))) RR :=
  own_step k fun t k => XS.ifYes X.here X.hx rfl (pc0 := pc) rfl (hb X.by' hd) rfl ((if0 _ _).trans hc) ho hp k
theorem own_ifN {cd : ClassFile.Cond} {x : Int32} {o : Int} (X : OwnSt p l e R s m args below meth c Z own bytes maxL ret nm n0 km Q RR T h cells slots) (hd : decode bytes pc = .ok (.ifCond cd o, 3)) (hc : if_icmp.holds cd x 0 = false) (hp : pc + 3 = pc') (k : OwnGo p e below (T.setTop (mkF m pc' Ls S)) RR) : OwnGo p e below (T.setTop (mkF m pc Ls (.int x :: S))) RR := by
  subst hp
  exact own_step k fun t k => XS.ifNo X.here X.hx rfl (hb X.by' hd) rfl ((if0 _ _).trans hc) k
theorem own_icY {cd : ClassFile.Cond} {x y : Int32} {o : Int} (X : OwnSt p l e R s m args below meth c Z own bytes maxL ret nm n0 km Q RR T h cells slots) (hd : decode bytes pc = .ok (.if_icmp cd o, 3)) (hc : if_icmp.holds cd x y = true) (hp : ((pc : Int) + o).toNat = pc') (ho : 0 ≤ (pc : Int) + o) (k : OwnGo p e below (T.setTop (mkF m pc' Ls S)) RR) : OwnGo p e below (T.setTop (mkF m pc Ls (.int y :: .int x :: S))) RR :=
  own_step k fun t k => XS.icmpYes X.here X.hx rfl (pc0 := pc) rfl (hb X.by' hd) rfl hc ho hp k
theorem own_icN {cd : ClassFile.Cond} {x y : Int32} {o : Int} (X : OwnSt p l e R s m args below meth c Z own bytes maxL ret nm n0 km Q RR T h cells slots) (hd : decode bytes pc = .ok (.if_icmp cd o, 3)) (hc : if_icmp.holds cd x y = false) (hp : pc + 3 = pc') (k : OwnGo p e below (T.setTop (mkF m pc' Ls S)) RR) : OwnGo p e below (T.setTop (mkF m pc Ls (.int y :: .int x :: S))) RR := by
  subst hp
  exact own_step k fun t k => XS.icmpNo X.here X.hx rfl (hb X.by' hd) rfl hc k
def ownLc (cd : ClassFile.Cond) (x y : Int64) : Bool := match cd with
  | .eq => decide (x = y) | .ne => !decide (x = y) | .lt => decide (x < y) | .ge => !decide (x < y) | .gt => decide (y < x) | .le => !decide (y < x)
theorem own_lc (cd : ClassFile.Cond) (x y : Int64) : if_icmp.holds cd (lcmpW x y) 0 = ownLc cd x y := by
  rw [lcW]
  have h1 := lc_eq x y
  have h2 := lc_lt x y
  have h3 := lc_gt x y
  cases cd <;> simp only [ownLc]
  · by_cases q : x = y
    · rw [(teq (h1.mpr q)).1]; simp [q]
    · rw [(feq fun w => q (h1.mp w)).1]; simp [q]
  · by_cases q : x = y
    · rw [(teq (h1.mpr q)).2]; simp [q]
    · rw [(feq fun w => q (h1.mp w)).2]; simp [q]
  · by_cases q : x < y
    · rw [(tlt (h2.mpr q)).1]; simp [q]
    · rw [(flt fun w => q (h2.mp w)).1]; simp [q]
  · by_cases q : x < y
    · rw [(tlt (h2.mpr q)).2.1]; simp [q]
    · rw [(flt fun w => q (h2.mp w)).2.1]; simp [q]
  · by_cases q : y < x
    · rw [(tlt (h3.mpr q)).2.2.1]; simp [q]
    · rw [(flt fun w => q (h3.mp w)).2.2.1]; simp [q]
  · by_cases q : y < x
    · rw [(tlt (h3.mpr q)).2.2.2]; simp [q]
    · rw [(flt fun w => q (h3.mp w)).2.2.2]; simp [q]
theorem own_ljY {cd : ClassFile.Cond} {x y : Int64} {o : Int} (X : OwnSt p l e R s m args below meth c Z own bytes maxL ret nm n0 km Q RR T h cells slots) (hd : decode bytes pc = .ok (.lcmp, 1)) (hd2 : decode bytes (pc + 1) = .ok (.ifCond cd o, 3)) (hc : ownLc cd x y = true) (hp : (((pc + 1 : Nat) : Int) + o).toNat = pc') (ho : 0 ≤ ((pc + 1 : Nat) : Int) + o) (k : OwnGo p e below (T.setTop (mkF m pc' Ls S)) RR) : OwnGo p e below (T.setTop (mkF m pc Ls (.long y :: .long x :: S))) RR :=
  own_step (own_ifY (pc := pc + 1) (x := lcmpW x y) X hd2 ((own_lc cd x y).trans hc) hp ho k) fun t k => XS.lcmp X.here X.hx rfl (hb X.by' hd) rfl k
theorem own_ljN {cd : ClassFile.Cond} {x y : Int64} {o : Int} (X : OwnSt p l e R s m args below meth c Z own bytes maxL ret nm n0 km Q RR T h cells slots) (hd : decode bytes pc = .ok (.lcmp, 1)) (hd2 : decode bytes (pc + 1) = .ok (.ifCond cd o, 3)) (hc : ownLc cd x y = false) (hp : pc + 4 = pc') (k : OwnGo p e below (T.setTop (mkF m pc' Ls S)) RR) : OwnGo p e below (T.setTop (mkF m pc Ls (.long y :: .long x :: S))) RR :=
  own_step (own_ifN (pc := pc + 1) (x := lcmpW x y) X hd2 ((own_lc cd x y).trans hc) hp k) fun t k => XS.lcmp X.here X.hx rfl (hb X.by' hd) rfl k
theorem own_teqA {a b : Addr} (h : a = b) : if_acmp.holds .eq (some a) (some b) = true ∧ if_acmp.holds .ne (some a) (some b) = false := by simp [if_acmp.holds, h]
theorem own_feqA {a b : Addr} (h : ¬ a = b) : if_acmp.holds .eq (some a) (some b) = false ∧ if_acmp.holds .ne (some a) (some b) = true := by simp [if_acmp.holds, h]
theorem own_acY {cd : ClassFile.ACond} {a b : Addr} {o : Int} (X : OwnSt p l e R s m args below meth c Z own bytes maxL ret nm n0 km Q RR T h cells slots) (hd : decode bytes pc = .ok (.if_acmp cd o, 3)) (hc : if_acmp.holds cd (some a) (some b) = true) (hp : ((pc : Int) + o).toNat = pc') (ho : 0 ≤ (pc : Int) + o) (k : OwnGo p e below (T.setTop (mkF m pc' Ls S)) RR) : OwnGo p e below (T.setTop (mkF m pc Ls (.ref b :: .ref a :: S))) RR :=
  own_step k fun t k => XS.acmpYes X.here X.hx rfl (pc0 := pc) rfl (hb X.by' hd) rfl hc ho hp k
theorem own_acN {cd : ClassFile.ACond} {a b : Addr} {o : Int} (X : OwnSt p l e R s m args below meth c Z own bytes maxL ret nm n0 km Q RR T h cells slots) (hd : decode bytes pc = .ok (.if_acmp cd o, 3)) (hc : if_acmp.holds cd (some a) (some b) = false) (hp : pc + 3 = pc') (k : OwnGo p e below (T.setTop (mkF m pc' Ls S)) RR) : OwnGo p e below (T.setTop (mkF m pc Ls (.ref b :: .ref a :: S))) RR := by
  subst hp
  exact own_step k fun t k => XS.acmpNo X.here X.hx rfl (hb X.by' hd) rfl hc k
theorem own_goto {o : Int} (X : OwnSt p l e R s m args below meth c Z own bytes maxL ret nm n0 km Q RR T h cells slots) (hd : decode bytes pc = .ok (.goto o, 3)) (hp : ((pc : Int) + o).toNat = pc') (ho : 0 ≤ (pc : Int) + o) (k : OwnGo p e below (T.setTop (mkF m pc' Ls S)) RR) : OwnGo p e below (T.setTop (mkF m pc Ls S)) RR :=
  own_step k fun t k => XS.goto X.here X.hx rfl (pc0 := pc) rfl (hb X.by' hd) ho hp k
theorem own_tltL {x y : Int64} (h : x < y) : ownLc .lt x y = true ∧ ownLc .ge x y = false ∧ ownLc .gt y x = true ∧ ownLc .le y x = false := by simp [ownLc, h]
theorem own_fltL {x y : Int64} (h : ¬ x < y) : ownLc .lt x y = false ∧ ownLc .ge x y = true ∧ ownLc .gt y x = false ∧ ownLc .le y x = true := by simp [ownLc, h]
theorem own_teqL {x y : Int64} (h : x = y) : ownLc .eq x y = true ∧ ownLc .ne x y = false := by simp [ownLc, h]
theorem own_feqL {x y : Int64} (h : ¬ x = y) : ownLc .eq x y = false ∧ ownLc .ne x y = true := by simp [ownLc, h]
/-- the same stand at another state with the same heap; with another heap -/
abbrev OwnAt (X : OwnSt p l e R s m args below meth c Z own bytes maxL ret nm n0 km Q RR T h cells slots) (T' : State) : Prop := OwnSt p l e R s m args below meth c Z own bytes maxL ret nm n0 km Q RR T' h cells slots
abbrev OwnAtH (X : OwnSt p l e R s m args below meth c Z own bytes maxL ret nm n0 km Q RR T h cells slots) (T' : State) (h' : Heap) : Prop := OwnSt p l e R s m args below meth c Z own bytes maxL ret nm n0 km Q RR T' h' cells slots
/-! heap steps -/
theorem own_init {index : Nat} {a : Addr} (X : OwnSt p l e R s m args below meth c Z own bytes maxL ret nm n0 km Q RR T h cells slots) (hd : decode bytes pc = .ok (.invokespecial index, 3)) (w1 : (Cond.methodLink own index Lib.objectInit).before a0 Z = true) (w2 : (Cond.instanceMethod Lib.objectInit).before a0 Z = true) (w3 : (Cond.code Lib.objectInit ⟨#[0xb1]⟩ 1 none).before a0 Z = true)
    (hp : pc + 3 = pc') (hsz : Ls.size = maxL) (hf : 1 ≤ R.frames) {W : Nat} (hW : 0 + (S.map fun v => v.category).sum ≤ W) (hlo : W + 12 ≤ R.locals)
    (k : ∀ T', OwnSt p l e R s m args below meth c Z own bytes maxL ret nm n0 km Q RR T' h cells slots → OwnGo p e below (T'.setTop (mkF m pc' Ls S)) RR) : OwnGo p e below (T.setTop (mkF m pc Ls (.ref a :: S))) RR := by
  subst hp
  obtain ⟨C, hh, hkm, locs, X0, N⟩ := X
  obtain ⟨hx, hby, hml, hZ, hown, hnm, hret, hlk, hR⟩ := id C
  obtain ⟨T', X', e', st⟩ := initO X0 hx hZ hown w1 w2 w3 hh (g := mkF m pc Ls (.ref a :: S)) rfl (hsz.trans hml.symm) rfl (hb hby hd) hf hW hlo
  exact own_step (k T' ⟨C, e', hkm, locs, X', N⟩) st
theorem own_new {index n : Nat} {K : String} (X : OwnSt p l e R s m args below meth c Z own bytes maxL ret nm n0 km Q RR T h cells slots) (hd : decode bytes pc = .ok (.new index, 3)) (w1 : (Cond.classLink own index K).before a0 Z = true) (w2 : (Cond.instantiable K n).before a0 Z = true) (w3 : (Cond.initialized K).before a0 Z = true)
    (hp : pc + 3 = pc') (hc : cells + 1 ≤ R.cells) (hl : slots + n ≤ R.slots)
    (k : ∀ T' h' b, b = h.size → OwnSt p l e R s m args below meth c Z own bytes maxL ret nm n0 km Q RR T' h' (cells + 1) (slots + n) → Ext h h' → Exa Z h' b K → (∀ {O nm d : String} {ty : FieldType}, Laid Z a0 K O nm d → parseFieldDescriptor d = some ty → Fld Z h' b O nm d (defaultValue ty)) → OwnGo p e below (T'.setTop (mkF m pc' Ls (.ref b :: S))) RR) : OwnGo p e below (T.setTop (mkF m pc Ls S)) RR := by
  subst hp
  obtain ⟨C, hh, hkm, locs, X0, N⟩ := X
  obtain ⟨hx, hby, hml, hZ, hown, hnm, hret, hlk, hR⟩ := id C
  obtain ⟨T', h', X', e', E', A', D', -, st⟩ := newO X0 hx hZ hown w1 w2 w3 hh (g := mkF m pc Ls S) rfl (hb hby hd) hc hl
  exact own_step (k T' h' _ rfl ⟨C, e', Nat.le_trans hkm E'.1, locs, X', N⟩ E' A' D') st
theorem own_getF {index : Nat} {O n d R0 : String} {a : Addr} {v : Value} (X : OwnSt p l e R s m args below meth c Z own bytes maxL ret nm n0 km Q RR T h cells slots) (hd : decode bytes pc = .ok (.getfield index, 3)) (w : (Cond.fieldLink own index R0 n d).before a0 Z = true) (via : Via Z R0 O n d) (F : Fld Z h a O n d v) (hp : pc + 3 = pc')
    (k : ∀ T', OwnSt p l e R s m args below meth c Z own bytes maxL ret nm n0 km Q RR T' h cells slots → OwnGo p e below (T'.setTop (mkF m pc' Ls (v :: S))) RR) : OwnGo p e below (T.setTop (mkF m pc Ls (.ref a :: S))) RR := by
  subst hp
  obtain ⟨C, hh, hkm, locs, X0, N⟩ := X
  obtain ⟨hx, hby, hml, hZ, hown, hnm, hret, hlk, hR⟩ := id C
  obtain ⟨T', X', e', st⟩ := getF X0 hx hZ hown (host := "") (Or.inl w) via hh F (g := mkF m pc Ls (.ref a :: S)) rfl rfl (hb hby hd)
  exact own_step (k T' ⟨C, e', hkm, locs, X', N⟩) st
theorem own_getS {index : Nat} {O n d R0 : String} {v : Value} (X : OwnSt p l e R s m args below meth c Z own bytes maxL ret nm n0 km Q RR T h cells slots) (hd : decode bytes pc = .ok (.getstatic index, 3)) (w : (Cond.fieldLink own index R0 n d).before a0 Z = true) (via : Via Z R0 O n d) (F : Sta Z h O n d v) (hp : pc + 3 = pc')
    (k : ∀ T', OwnSt p l e R s m args below meth c Z own bytes maxL ret nm n0 km Q RR T' h cells slots → OwnGo p e below (T'.setTop (mkF m pc' Ls (v :: S))) RR) : OwnGo p e below (T.setTop (mkF m pc Ls S)) RR := by
  subst hp
  obtain ⟨C, hh, hkm, locs, X0, N⟩ := X
  obtain ⟨hx, hby, hml, hZ, hown, hnm, hret, hlk, hR⟩ := id C
  obtain ⟨T', X', e', st⟩ := getS X0 hx hZ (host := "") hown w via hh F (g := mkF m pc Ls S) rfl (hb hby hd)
  exact own_step (k T' ⟨C, e', hkm, locs, X', N⟩) st
theorem own_putF {index kk : Nat} {O n d R0 K : String} {a : Addr} {v v' old : Value} {ty : FieldType} (X : OwnSt p l e R s m args below meth c Z own bytes maxL ret nm n0 km Q RR T h cells slots) (hd : decode bytes pc = .ok (.putfield index, 3)) (w : (Cond.fieldLink own index R0 n d).before a0 Z = true) (via : Via Z R0 O n d) (F : Fld Z h a O n d old) (E : Exa Z h a K) (L : (Cond.lays K O n d).before a0 Z = true ∨ ((Cond.laysFinal K O n d).before a0 Z = true ∧ own = O ∧ nm = "<init>")) (wi : (Cond.instantiable K kk).before a0 Z = true)
    (hty : parseFieldDescriptor d = some ty) (hn : narrow ty v = v') (hf : fits ty v' = true) (hge : n0 ≤ a) (hp : pc + 3 = pc')
    (k : ∀ T' h', OwnSt p l e R s m args below meth c Z own bytes maxL ret nm n0 km Q RR T' h' cells slots → Wr h h' a (Jvm.RoadKit.slotOf Z O n d) v' → OwnGo p e below (T'.setTop (mkF m pc' Ls S)) RR) : OwnGo p e below (T.setTop (mkF m pc Ls (v :: .ref a :: S))) RR := by
  subst hp
  obtain ⟨C, hh, hkm, locs, X0, N⟩ := X
  obtain ⟨hx, hby, hml, hZ, hown, hnm, hret, hlk, hR⟩ := id C
  obtain ⟨T', h', X', e', W', st⟩ := putFN X0 hx hZ hown w via hh F E (L.imp id fun q => ⟨q.1, q.2.1, hnm.trans q.2.2⟩) wi hty hn hf (g := mkF m pc Ls (v :: .ref a :: S)) rfl rfl (hb hby hd)
  exact own_step (k T' h' ⟨C, e', Nat.le_trans hkm (Nat.le_of_eq W'.size.symm), _, X', Fr.snoc X' N hge⟩ W') st
/-! from the case's words to facts -/
theorem own_fldL {st : State} {as' : Array Value} {t : Term} {C n d : String} {x : Addr} {z : Int64} (ht : t.eval as' st none [] st = some (.ref x)) (h : (Cond.eq (.field t C n d) (.long z)).value as' st none st [] = some true) : Fld st st.heap x C n d (.long z) := by
  obtain ⟨a, b, e1, e2, k1, k2⟩ := cmp_v (Or.inl h)
  cases (long_at z).symm.trans e2
  obtain ⟨w, rfl⟩ := k2
  have q := gotT (eq_L e1 e2) h
  subst q
  exact Fld.start ((fld_at ht).symm.trans e1)
theorem own_fldI {st : State} {as' : Array Value} {t : Term} {C n d : String} {x : Addr} {z : Int32} (ht : t.eval as' st none [] st = some (.ref x)) (h : (Cond.eq (.field t C n d) (.int z)).value as' st none st [] = some true) : Fld st st.heap x C n d (.int z) := by
  obtain ⟨a, b, e1, e2, k1, k2⟩ := cmp_v (Or.inl h)
  cases (Term.int_eval z).symm.trans e2
  obtain ⟨w, rfl⟩ := k2
  have q : w = z := by simpa [Cond.value, e1, e2] using h
  subst q
  exact Fld.start ((fld_at ht).symm.trans e1)
/-! calls by contract -/
theorem own_callC {index : Nat} {y : MethodName} {bytes' : ByteArray} {maxL' : Nat} {rm : Room} {a : Addr} {argsL : List Value} {Q' : Option Value → Heap → Prop} {ps : List FieldType} {W : Nat}
    (X : OwnSt p l e R s m args below meth c Z own bytes maxL ret nm n0 km Q RR T h cells slots) (hd : decode bytes pc = .ok (.invokespecial index, 3)) (hy : y.name = "<init>" ∧ y.cls ≠ "java/lang/invoke/MethodHandle" ∧ y.cls ≠ "java/lang/invoke/VarHandle")
    (w1 : (Cond.methodLink own index y).before a0 Z = true) (w2 : (Cond.instanceMethod y).before a0 Z = true) (w3 : (Cond.code y bytes' maxL' none).before a0 Z = true) (w4 : (Cond.initialized y.cls).before a0 Z = true)
    (M : OwnMet l Z y bytes' maxL' none rm (.ref a :: argsL).toArray h n0 Q') (hpd : parseMethodDescriptor y.desc = some ⟨ps, none⟩) (hlen : argsL.length = ps.length) {st : List Value} (hst : st = argsL.reverse ++ .ref a :: S) (hp : pc + 3 = pc') (hsz : Ls.size = maxL)
    (hW : 0 + (S.map fun v => v.category).sum ≤ W) (hf : rm.frames + 1 ≤ R.frames) (hlo : W + (maxL' + 11) + rm.locals ≤ R.locals) (hc : cells + rm.cells ≤ R.cells) (hl : slots + rm.slots ≤ R.slots)
    (k : ∀ T' h' v, OwnSt p l e R s m args below meth c Z own bytes maxL ret nm n0 km Q RR T' h' (cells + rm.cells) (slots + rm.slots) → Q' v h' → OwnGo p e below (T'.setTop (mkF m pc' Ls (v.toList ++ S))) RR) : OwnGo p e below (T.setTop (mkF m pc Ls st)) RR := by
  subst hp hst
  obtain ⟨C, hh, hkm, locs, X0, N⟩ := X
  obtain ⟨hx, hby, hml, hZ, hown, hnm, hret, hlk, hR⟩ := id C
  obtain ⟨v, _, ⟨T', L', c', s'⟩, -, X', ⟨Lc, hQ, e1, e2, e3⟩, st⟩ := X0.specialBack hx hy.1 hown (mvT hZ w1) (mvT hZ w2) (mvT hZ w3) hy.2 (backOf (W := W) (Q := fun v h' L => (Q' v h' ∧ h.size ≤ h'.size) ∧ Fr n0 L) (M []) hZ w3 w4 hf hlo) (g := mkF m pc Ls (argsL.reverse ++ .ref a :: S)) rfl (hsz.trans hml.symm) (Steps.refl _) (a := a) (argsL := argsL) (rest := S) (lenOf hpd hlen) rfl hW (hb hby hd) (fun _ _ => ⟨rfl, hh, hc, hl⟩)
  dsimp only [Pt.U, Pt.locs, Pt.cells, Pt.slots] at X' e1 e2 e3 st hQ
  subst e1 e2 e3
  exact own_step (k T' _ v ⟨C, rfl, Nat.le_trans hkm hQ.1.2, _, X', Fr.app N hQ.2⟩ hQ.1.1) fun t q => st.trans q
theorem own_callV {index : Nat} {y : MethodName} {K : String} {bytes' : ByteArray} {maxL' : Nat} {ret' : Option FieldType} {rm : Room} {a : Addr} {argsL : List Value} {Q' : Option Value → Heap → Prop} {ps : List FieldType} {W : Nat}
    (X : OwnSt p l e R s m args below meth c Z own bytes maxL ret nm n0 km Q RR T h cells slots) (hd : decode bytes pc = .ok (.invokevirtual index, 3)) (hy : y.cls ≠ "java/lang/invoke/MethodHandle" ∧ y.cls ≠ "java/lang/invoke/VarHandle")
    (w1 : (Cond.methodLink own index y).before a0 Z = true) (w2 : (Cond.declares y).before a0 Z = true) (w3 : (Cond.selects K y y).before a0 Z = true) (w4 : (Cond.instanceMethod y).before a0 Z = true) (w5 : (Cond.code y bytes' maxL' ret').before a0 Z = true) (w6 : (Cond.initialized y.cls).before a0 Z = true) (E : Exa Z h a K)
    (M : OwnMet l Z y bytes' maxL' ret' rm (.ref a :: argsL).toArray h n0 Q') {rt : Option FieldType} (hpd : parseMethodDescriptor y.desc = some ⟨ps, rt⟩) (hlen : argsL.length = ps.length) {st : List Value} (hst : st = argsL.reverse ++ .ref a :: S) (hp : pc + 3 = pc') (hsz : Ls.size = maxL)
    (hW : 0 + (S.map fun v => v.category).sum ≤ W) (hf : rm.frames + 1 ≤ R.frames) (hlo : W + (maxL' + 11) + rm.locals ≤ R.locals) (hc : cells + rm.cells ≤ R.cells) (hl : slots + rm.slots ≤ R.slots)
    (k : ∀ T' h' v, OwnSt p l e R s m args below meth c Z own bytes maxL ret nm n0 km Q RR T' h' (cells + rm.cells) (slots + rm.slots) → Q' v h' → OwnGo p e below (T'.setTop (mkF m pc' Ls (v.toList ++ S))) RR) : OwnGo p e below (T.setTop (mkF m pc Ls st)) RR := by
  subst hp hst
  obtain ⟨C, hh, hkm, locs, X0, N⟩ := X
  obtain ⟨hx, hby, hml, hZ, hown, hnm, hret, hlk, hR⟩ := id C
  obtain ⟨cq, kq, qa, qb, qc⟩ := isOf hZ hh E
  obtain ⟨v, _, ⟨T', L', c', s'⟩, -, X', ⟨Lc, hQ, e1, e2, e3⟩, st⟩ := X0.virtualBack hx (y := y) (z := y) hown (mvT hZ w1) (mvT hZ w2) (notFace_of_selects (args := #[]) (mvT hZ w3)) (mvT hZ w3) (mvT hZ w4) hy (backOf (W := W) (Q := fun v h' L => (Q' v h' ∧ h.size ≤ h'.size) ∧ Fr n0 L) (M []) hZ w5 w6 hf hlo) qa qc (g := mkF m pc Ls (argsL.reverse ++ .ref a :: S)) rfl (hsz.trans hml.symm) (Steps.refl _) (argsL := argsL) (rest := S) (lenOf hpd hlen) rfl hW (hb hby hd) (fun _ _ => ⟨rfl, hh, hc, hl⟩)
  dsimp only [Pt.U, Pt.locs, Pt.cells, Pt.slots] at X' e1 e2 e3 st hQ
  subst e1 e2 e3
  exact own_step (k T' _ v ⟨C, rfl, Nat.le_trans hkm hQ.1.2, _, X', Fr.app N hQ.2⟩ hQ.1.1) fun t q => st.trans q
theorem own_callP {index kk : Nat} {y : MethodName} {K : String} {bytes' : ByteArray} {maxL' : Nat} {ret' : Option FieldType} {rm : Room} {a : Addr} {argsL : List Value} {Q' : Option Value → Heap → Prop} {ps : List FieldType} {W : Nat}
    (X : OwnSt p l e R s m args below meth c Z own bytes maxL ret nm n0 km Q RR T h cells slots) (hd : decode bytes pc = .ok (.invokevirtual index, 3)) (hy : y.cls ≠ "java/lang/invoke/MethodHandle" ∧ y.cls ≠ "java/lang/invoke/VarHandle")
    (w1 : (Cond.methodLink own index y).before a0 Z = true) (w2 : (Cond.privateMethod y).before a0 Z = true) (w3 : (Cond.instantiable y.cls kk).before a0 Z = true) (w4 : (Cond.instanceMethod y).before a0 Z = true) (w5 : (Cond.code y bytes' maxL' ret').before a0 Z = true) (w6 : (Cond.initialized y.cls).before a0 Z = true) (E : Exa Z h a K)
    (M : OwnMet l Z y bytes' maxL' ret' rm (.ref a :: argsL).toArray h n0 Q') {rt : Option FieldType} (hpd : parseMethodDescriptor y.desc = some ⟨ps, rt⟩) (hlen : argsL.length = ps.length) {st : List Value} (hst : st = argsL.reverse ++ .ref a :: S) (hp : pc + 3 = pc') (hsz : Ls.size = maxL)
    (hW : 0 + (S.map fun v => v.category).sum ≤ W) (hf : rm.frames + 1 ≤ R.frames) (hlo : W + (maxL' + 11) + rm.locals ≤ R.locals) (hc : cells + rm.cells ≤ R.cells) (hl : slots + rm.slots ≤ R.slots)
    (k : ∀ T' h' v, OwnSt p l e R s m args below meth c Z own bytes maxL ret nm n0 km Q RR T' h' (cells + rm.cells) (slots + rm.slots) → Q' v h' → OwnGo p e below (T'.setTop (mkF m pc' Ls (v.toList ++ S))) RR) : OwnGo p e below (T.setTop (mkF m pc Ls st)) RR := by
  subst hp hst
  obtain ⟨C, hh, hkm, locs, X0, N⟩ := X
  obtain ⟨hx, hby, hml, hZ, hown, hnm, hret, hlk, hR⟩ := id C
  obtain ⟨cl, q, q'⟩ := E.cell
  have hpriv : s.PrivateAt y := Cond.privateMethod_at (mvP hZ w2 (args := #[]))
  have wi : (Cond.instantiable y.cls kk).before args s = true := mvT hZ w3
  obtain ⟨c2, k2, i1, i2, i3, i4, -⟩ := Cond.instantiable_spec wi
  have i5 : k2.isInterface = false := by
    cases hq : k2.isInterface
    · rfl
    · rw [hq] at i4; cases i4
  have hsel : (Cond.selects y.cls y y).before args s = true := selects_self_of_private i1 i2 i5 hpriv (mvT hZ w4) hy
  obtain ⟨v, _, ⟨T', L', c', s'⟩, -, X', ⟨Lc, hQ, e1, e2, e3⟩, st⟩ := X0.privateBack hx (y := y) hown (mvT hZ w1) (mvT hZ w4) hsel hpriv (mvT hZ w5) hy (backOf (W := W) (Q := fun v h' L => (Q' v h' ∧ h.size ≤ h'.size) ∧ Fr n0 L) (M []) hZ w5 w6 hf hlo) (g := mkF m pc Ls (argsL.reverse ++ .ref a :: S)) rfl (hsz.trans hml.symm) (Steps.refl _) (a := a) (by rw [hh]; exact q) q' (argsL := argsL) (rest := S) (lenOf hpd hlen) rfl hW (hb hby hd) (fun _ _ => ⟨rfl, hh, hc, hl⟩)
  dsimp only [Pt.U, Pt.locs, Pt.cells, Pt.slots] at X' e1 e2 e3 st hQ
  subst e1 e2 e3
  exact own_step (k T' _ v ⟨C, rfl, Nat.le_trans hkm hQ.1.2, _, X', Fr.app N hQ.2⟩ hQ.1.1) fun t q => st.trans q
theorem own_callS {index : Nat} {y : MethodName} {bytes' : ByteArray} {maxL' : Nat} {ret' : Option FieldType} {rm : Room} {argsL : List Value} {Q' : Option Value → Heap → Prop} {ps : List FieldType} {W : Nat}
    (X : OwnSt p l e R s m args below meth c Z own bytes maxL ret nm n0 km Q RR T h cells slots) (hd : decode bytes pc = .ok (.invokestatic index, 3)) (hy : y.cls ≠ "java/lang/invoke/MethodHandle" ∧ y.cls ≠ "java/lang/invoke/VarHandle")
    (w1 : (Cond.methodLink own index y).before a0 Z = true) (w2 : (Cond.static y).before a0 Z = true) (w5 : (Cond.code y bytes' maxL' ret').before a0 Z = true) (w6 : (Cond.initialized y.cls).before a0 Z = true)
    (M : OwnMet l Z y bytes' maxL' ret' rm argsL.toArray h n0 Q') {rt : Option FieldType} (hpd : parseMethodDescriptor y.desc = some ⟨ps, rt⟩) (hlen : argsL.length = ps.length) {st : List Value} (hst : st = argsL.reverse ++ S) (hp : pc + 3 = pc') (hsz : Ls.size = maxL)
    (hW : 0 + (S.map fun v => v.category).sum ≤ W) (hf : rm.frames + 1 ≤ R.frames) (hlo : W + (maxL' + 11) + rm.locals ≤ R.locals) (hc : cells + rm.cells ≤ R.cells) (hl : slots + rm.slots ≤ R.slots)
    (k : ∀ T' h' v, OwnSt p l e R s m args below meth c Z own bytes maxL ret nm n0 km Q RR T' h' (cells + rm.cells) (slots + rm.slots) → Q' v h' → OwnGo p e below (T'.setTop (mkF m pc' Ls (v.toList ++ S))) RR) : OwnGo p e below (T.setTop (mkF m pc Ls st)) RR := by
  subst hp hst
  obtain ⟨C, hh, hkm, locs, X0, N⟩ := X
  obtain ⟨hx, hby, hml, hZ, hown, hnm, hret, hlk, hR⟩ := id C
  obtain ⟨v, _, ⟨T', L', c', s'⟩, -, X', ⟨Lc, hQ, e1, e2, e3⟩, st⟩ := Jvm.LawKit.callS X0 hx (y := y) hown (mvT hZ w1) (mvT hZ w2) (mvT hZ w6) (mvT hZ w5) hy (backOf (W := W) (Q := fun v h' L => (Q' v h' ∧ h.size ≤ h'.size) ∧ Fr n0 L) (M []) hZ w5 w6 hf hlo) (g := mkF m pc Ls (argsL.reverse ++ S)) rfl (hsz.trans hml.symm) (argsL := argsL) (rest := S) (lenOf hpd hlen) rfl hW (hb hby hd) (fun _ _ => ⟨rfl, hh, hc, hl⟩)
  dsimp only [Pt.U, Pt.locs, Pt.cells, Pt.slots] at X' e1 e2 e3 st hQ
  subst e1 e2 e3
  exact own_step (k T' _ v ⟨C, rfl, Nat.le_trans hkm hQ.1.2, _, X', Fr.app N hQ.2⟩ hQ.1.1) st
end OwnKit
/-! ## own kit, arrays: the whole list of what lies in them -/
section OwnArr
variable {p : Program} {l : Launch} {e : Env} {R : Room} {s : State} {m : MethodId} {args : Array Value} {below : List Frame} {meth : Method} {c : Code} {Z : State} {own : String} {bytes : ByteArray} {maxL : Nat} {ret : Option FieldType} {nm : String} {n0 km : Nat} {Q : Option Value → Heap → Prop} {RR : State → Outcome → Prop} {T : State} {h h' : Heap} {cells slots : Nat} {a0 : Array Value} {pc pc' : Nat} {Ls : Array Slot} {S : List Value} {a b : Addr} {ty : FieldType} {vs : List Value} {sl : Nat} {v : Value} {ws : List Addr}
def OwnAr (Z : State) (h : Heap) (a : Addr) (ty : FieldType) (vs : List Value) : Prop := ∃ c : Cell, Arr Z h a c ty ∧ c.slots = vs.toArray ∧ vs.length < 2 ^ 31
theorem OwnAr.lt (F : OwnAr Z h a ty vs) : a < h.size := F.elim fun _ q => q.1.lt
theorem OwnAr.ext (F : OwnAr Z h a ty vs) (E : Ext h h') : OwnAr Z h' a ty vs := by obtain ⟨c, A, r⟩ := F; exact ⟨c, A.ext E, r⟩
theorem OwnAr.other (F : OwnAr Z h b ty vs) (W : Wr h h' a sl v) (q : b ≠ a) : OwnAr Z h' b ty vs := by obtain ⟨c, A, r⟩ := F; exact ⟨c, A.other W q, r⟩
theorem OwnAr.keep (F : OwnAr Z h a ty vs) (K : Keep h h' ws) (q : a ∉ ws) : OwnAr Z h' a ty vs := by obtain ⟨c, A, r⟩ := F; exact ⟨c, ⟨K.2.1 a c A.1 q, A.2⟩, r⟩
theorem OwnAr.same (F : OwnAr Z h a ty vs) (W : Wr h h' a sl v) : OwnAr Z h' a ty (vs.set sl v) := by
  obtain ⟨c, A, r1, r2⟩ := F
  exact ⟨_, A.same W, by simp [Cell.setSlot, r1], by simpa using r2⟩
theorem OwnAr.in (F : OwnAr Z h a ty vs) {j : Int32} (h1 : ¬ j < 0) (h2 : j.toNatClampNeg < vs.length) {c : Cell} (r1 : c.slots = vs.toArray) : ¬ (j < 0 ∨ c.slots.size ≤ j.toNatClampNeg) := by
  rintro (q | q)
  · exact h1 q
  · rw [r1, List.size_toArray] at q; omega
theorem own_lt_of_get {i : Nat} {x : Value} (q : vs[i]? = some x) : i < vs.length := (List.getElem?_eq_some_iff.mp q).1
theorem own_getI {xs : List Int32} {i : Nat} (q : i < xs.length) : (xs.map Value.int)[i]? = some (.int (xs.getD i 0)) := by
  rw [List.getElem?_map, List.getElem?_eq_getElem q, List.getD_eq_getElem?_getD, List.getElem?_eq_getElem q]; rfl
theorem own_getJ {xs : List Int64} {i : Nat} (q : i < xs.length) : (xs.map Value.long)[i]? = some (.long (xs.getD i 0)) := by
  rw [List.getElem?_map, List.getElem?_eq_getElem q, List.getD_eq_getElem?_getD, List.getElem?_eq_getElem q]; rfl
theorem own_newarr {aty : ArrayType} {n : Int32} {cap : Nat} (X : OwnSt p l e R s m args below meth c Z own bytes maxL ret nm n0 km Q RR T h cells slots) (hd : decode bytes pc = .ok (.newarray aty, 2)) (w : (Cond.arrayClass (newarray.typeOf aty)).before a0 Z = true) (hp : pc + 2 = pc') (hn : ¬ n < 0) (hcap : n.toNatClampNeg ≤ cap) (hbig : cap * 8 ≤ 536870912) (hc : cells + 1 ≤ R.cells) (hl : slots + cap ≤ R.slots)
    (k : ∀ T' h' b, b = h.size → OwnSt p l e R s m args below meth c Z own bytes maxL ret nm n0 km Q RR T' h' (cells + 1) (slots + cap) → Ext h h' → OwnAr Z h' b (newarray.typeOf aty) (List.replicate n.toNatClampNeg (defaultValue (newarray.typeOf aty))) → OwnGo p e below (T'.setTop (mkF m pc' Ls (.ref b :: S))) RR) : OwnGo p e below (T.setTop (mkF m pc Ls (.int n :: S))) RR := by
  subst hp
  obtain ⟨C, hh, hkm, locs, X0, N⟩ := X
  obtain ⟨hx, hby, hml, hZ, hown, hnm, hret, hlk, hR⟩ := id C
  obtain ⟨T', h', cA, X', e', E', A', st⟩ := newP X0 hx hZ w hh (g := mkF m pc Ls (.int n :: S)) rfl (hb hby hd) rfl hn hcap hbig hc hl
  exact own_step (k T' h' _ rfl ⟨C, e', Nat.le_trans hkm E'.1, locs, X', N⟩ E' ⟨_, A', by simp [newA], by simp only [List.length_replicate]; omega⟩) st
theorem own_arraylength (X : OwnSt p l e R s m args below meth c Z own bytes maxL ret nm n0 km Q RR T h cells slots) (hd : decode bytes pc = .ok (.arraylength, 1)) (A : OwnAr Z h a ty vs) {n : Int32} (hn : vs.length.toInt32 = n) (hp : pc + 1 = pc') (k : OwnGo p e below (T.setTop (mkF m pc' Ls (.int n :: S))) RR) : OwnGo p e below (T.setTop (mkF m pc Ls (.ref a :: S))) RR := by
  subst hp hn
  obtain ⟨C, hh, hkm, locs, X0, N⟩ := id X
  obtain ⟨cl, A0, r1, r2⟩ := A
  refine own_step k fun t q => ?_
  refine X0.arraylength X.hx (by rw [hh]; exact A0.1) (State.isArrayOf_alike X.hZ.alike A0.2.1) (g := mkF m pc Ls (.ref a :: S)) rfl rfl (hb X.by' hd) _ ?_
  rw [r1, List.size_toArray]; exact q
theorem own_iaload {j : Int32} (X : OwnSt p l e R s m args below meth c Z own bytes maxL ret nm n0 km Q RR T h cells slots) (hd : decode bytes pc = .ok (.iaload, 1)) (A : OwnAr Z h a .int vs) (hj : ¬ j < 0) (hv : vs[j.toNatClampNeg]? = some v) (hp : pc + 1 = pc') (k : OwnGo p e below (T.setTop (mkF m pc' Ls (v :: S))) RR) : OwnGo p e below (T.setTop (mkF m pc Ls (.int j :: .ref a :: S))) RR := by
  subst hp
  obtain ⟨C, hh, hkm, locs, X0, N⟩ := id X
  obtain ⟨cl, A0, r1, r2⟩ := id A
  exact own_step k fun t q => X0.iaload X.hx (by rw [hh]; exact A0.1) (State.isArrayOf_alike X.hZ.alike A0.2.1) A0.2.2 (A.in hj (own_lt_of_get hv) r1) (by rw [r1, List.getElem?_toArray]; exact hv) (g := mkF m pc Ls (.int j :: .ref a :: S)) rfl rfl (hb X.by' hd) _ q
theorem own_laload {j : Int32} (X : OwnSt p l e R s m args below meth c Z own bytes maxL ret nm n0 km Q RR T h cells slots) (hd : decode bytes pc = .ok (.laload, 1)) (A : OwnAr Z h a .long vs) (hj : ¬ j < 0) (hv : vs[j.toNatClampNeg]? = some v) (hp : pc + 1 = pc') (k : OwnGo p e below (T.setTop (mkF m pc' Ls (v :: S))) RR) : OwnGo p e below (T.setTop (mkF m pc Ls (.int j :: .ref a :: S))) RR := by
  subst hp
  obtain ⟨C, hh, hkm, locs, X0, N⟩ := id X
  obtain ⟨cl, A0, r1, r2⟩ := id A
  exact own_step k fun t q => X0.laload X.hx (by rw [hh]; exact A0.1) (State.isArrayOf_alike X.hZ.alike A0.2.1) A0.2.2 (A.in hj (own_lt_of_get hv) r1) (by rw [r1, List.getElem?_toArray]; exact hv) (g := mkF m pc Ls (.int j :: .ref a :: S)) rfl rfl (hb X.by' hd) _ q
theorem own_caload {j : Int32} (X : OwnSt p l e R s m args below meth c Z own bytes maxL ret nm n0 km Q RR T h cells slots) (hd : decode bytes pc = .ok (.caload, 1)) (A : OwnAr Z h a .char vs) (hj : ¬ j < 0) (hv : vs[j.toNatClampNeg]? = some v) (hp : pc + 1 = pc') (k : OwnGo p e below (T.setTop (mkF m pc' Ls (v :: S))) RR) : OwnGo p e below (T.setTop (mkF m pc Ls (.int j :: .ref a :: S))) RR := by
  subst hp
  obtain ⟨C, hh, hkm, locs, X0, N⟩ := id X
  obtain ⟨cl, A0, r1, r2⟩ := id A
  exact own_step k fun t q => X0.caload X.hx (by rw [hh]; exact A0.1) (State.isArrayOf_alike X.hZ.alike A0.2.1) A0.2.2 (A.in hj (own_lt_of_get hv) r1) (by rw [r1, List.getElem?_toArray]; exact hv) (g := mkF m pc Ls (.int j :: .ref a :: S)) rfl rfl (hb X.by' hd) _ q
theorem own_baload {j : Int32} (X : OwnSt p l e R s m args below meth c Z own bytes maxL ret nm n0 km Q RR T h cells slots) (hd : decode bytes pc = .ok (.baload, 1)) (A : OwnAr Z h a .byte vs) (hj : ¬ j < 0) (hv : vs[j.toNatClampNeg]? = some v) (hp : pc + 1 = pc') (k : OwnGo p e below (T.setTop (mkF m pc' Ls (v :: S))) RR) : OwnGo p e below (T.setTop (mkF m pc Ls (.int j :: .ref a :: S))) RR := by
  subst hp
  obtain ⟨C, hh, hkm, locs, X0, N⟩ := id X
  obtain ⟨cl, A0, r1, r2⟩ := id A
  exact own_step k fun t q => X0.baloadBytes X.hx (by rw [hh]; exact A0.1) (State.isArrayOf_alike X.hZ.alike A0.2.1) A0.2.2 (A.in hj (own_lt_of_get hv) r1) (by rw [r1, List.getElem?_toArray]; exact hv) (g := mkF m pc Ls (.int j :: .ref a :: S)) rfl rfl (hb X.by' hd) _ q
theorem own_aaload {j : Int32} (X : OwnSt p l e R s m args below meth c Z own bytes maxL ret nm n0 km Q RR T h cells slots) (hd : decode bytes pc = .ok (.aaload, 1)) (A : OwnAr Z h a ty vs) (hty : ty.isReference = true) (hj : ¬ j < 0) (hv : vs[j.toNatClampNeg]? = some v) (hp : pc + 1 = pc') (k : OwnGo p e below (T.setTop (mkF m pc' Ls (v :: S))) RR) : OwnGo p e below (T.setTop (mkF m pc Ls (.int j :: .ref a :: S))) RR := by
  subst hp
  obtain ⟨C, hh, hkm, locs, X0, N⟩ := id X
  obtain ⟨cl, A0, r1, r2⟩ := id A
  exact own_step k fun t q => X0.aaload X.hx (by rw [hh]; exact A0.1) (State.isArrayOf_alike X.hZ.alike A0.2.1) hty A0.2.2 (A.in hj (own_lt_of_get hv) r1) (by rw [r1, List.getElem?_toArray]; exact hv) (g := mkF m pc Ls (.int j :: .ref a :: S)) rfl rfl (hb X.by' hd) _ q
theorem own_iastore {j : Int32} {x : Int32} (X : OwnSt p l e R s m args below meth c Z own bytes maxL ret nm n0 km Q RR T h cells slots) (hd : decode bytes pc = .ok (.iastore, 1)) (A : OwnAr Z h a .int vs) (hj : ¬ j < 0) (hj2 : j.toNatClampNeg < vs.length) (hge : n0 ≤ a) (hp : pc + 1 = pc') (k : ∀ T' h', OwnSt p l e R s m args below meth c Z own bytes maxL ret nm n0 km Q RR T' h' cells slots → Wr h h' a j.toNatClampNeg (.int x) → OwnAr Z h' a .int (vs.set j.toNatClampNeg (.int x)) → OwnGo p e below (T'.setTop (mkF m pc' Ls S)) RR) : OwnGo p e below (T.setTop (mkF m pc Ls (.int x :: .int j :: .ref a :: S))) RR := by
  subst hp
  obtain ⟨C, hh, hkm, locs, X0, N⟩ := id X
  obtain ⟨cl, A0, r1, r2⟩ := id A
  obtain ⟨T', h', X', e', W', st⟩ := stI X0 X.hx X.hZ hh A0 (A.in hj hj2 r1) (g := mkF m pc Ls (.int x :: .int j :: .ref a :: S)) rfl rfl (hb X.by' hd)
  exact own_step (k T' h' ⟨C, e', Nat.le_trans hkm (Nat.le_of_eq W'.size.symm), _, X', Fr.snoc X' N hge⟩ W' (A.same W')) st
theorem own_lastore {j : Int32} {x : Int64} (X : OwnSt p l e R s m args below meth c Z own bytes maxL ret nm n0 km Q RR T h cells slots) (hd : decode bytes pc = .ok (.lastore, 1)) (A : OwnAr Z h a .long vs) (hj : ¬ j < 0) (hj2 : j.toNatClampNeg < vs.length) (hge : n0 ≤ a) (hp : pc + 1 = pc') (k : ∀ T' h', OwnSt p l e R s m args below meth c Z own bytes maxL ret nm n0 km Q RR T' h' cells slots → Wr h h' a j.toNatClampNeg (.long x) → OwnAr Z h' a .long (vs.set j.toNatClampNeg (.long x)) → OwnGo p e below (T'.setTop (mkF m pc' Ls S)) RR) : OwnGo p e below (T.setTop (mkF m pc Ls (.long x :: .int j :: .ref a :: S))) RR := by
  subst hp
  obtain ⟨C, hh, hkm, locs, X0, N⟩ := id X
  obtain ⟨cl, A0, r1, r2⟩ := id A
  obtain ⟨T', h', X', e', W', st⟩ := stJ X0 X.hx X.hZ hh A0 (A.in hj hj2 r1) (g := mkF m pc Ls (.long x :: .int j :: .ref a :: S)) rfl rfl (hb X.by' hd)
  exact own_step (k T' h' ⟨C, e', Nat.le_trans hkm (Nat.le_of_eq W'.size.symm), _, X', Fr.snoc X' N hge⟩ W' (A.same W')) st
theorem own_castore {j : Int32} {x : Int32} (X : OwnSt p l e R s m args below meth c Z own bytes maxL ret nm n0 km Q RR T h cells slots) (hd : decode bytes pc = .ok (.castore, 1)) (A : OwnAr Z h a .char vs) (hj : ¬ j < 0) (hj2 : j.toNatClampNeg < vs.length) (hge : n0 ≤ a) (hp : pc + 1 = pc') (k : ∀ T' h', OwnSt p l e R s m args below meth c Z own bytes maxL ret nm n0 km Q RR T' h' cells slots → Wr h h' a j.toNatClampNeg (.int (x.toUInt32.toUInt16.toUInt32.toInt32)) → OwnAr Z h' a .char (vs.set j.toNatClampNeg (.int (x.toUInt32.toUInt16.toUInt32.toInt32))) → OwnGo p e below (T'.setTop (mkF m pc' Ls S)) RR) : OwnGo p e below (T.setTop (mkF m pc Ls (.int x :: .int j :: .ref a :: S))) RR := by
  subst hp
  obtain ⟨C, hh, hkm, locs, X0, N⟩ := id X
  obtain ⟨cl, A0, r1, r2⟩ := id A
  obtain ⟨T', h', X', e', W', st⟩ := stC X0 X.hx X.hZ hh A0 (A.in hj hj2 r1) (g := mkF m pc Ls (.int x :: .int j :: .ref a :: S)) rfl rfl (hb X.by' hd)
  exact own_step (k T' h' ⟨C, e', Nat.le_trans hkm (Nat.le_of_eq W'.size.symm), _, X', Fr.snoc X' N hge⟩ W' (A.same W')) st
end OwnArr
theorem own_ix {k n : Nat} (h : k < n) (hn : n < 2147483648) : ¬ (Int32.ofNat k < 0) ∧ (Int32.ofNat k).toNatClampNeg = k ∧ Int32.ofNat k < Int32.ofNat n := by
  have e1 : (Int32.ofNat k).toInt = k := len_toInt (n := k) (by omega)
  have e2 : (Int32.ofNat n).toInt = n := len_toInt (n := n) (by omega)
  have e0 : (0 : Int32).toInt = 0 := rfl
  refine ⟨?_, ?_, ?_⟩
  · rw [Int32.lt_iff_toInt_lt]; omega
  · simp only [Int32.toNatClampNeg, e1]; rfl
  · rw [Int32.lt_iff_toInt_lt]; omega
theorem own_ofs (k : Nat) : Int32.ofNat k + Int32.ofInt 1 = Int32.ofNat (k + 1) := by
  rw [Int32.ofNat_add]; rfl
/-! ## own kit: an array of ints that a case pins whole -/
theorem own_len {st : State} {as' : Array Value} {t : Term} {x : Addr} {z : Int32} {c : Cell} {ty : FieldType} (ht : t.eval as' st none [] st = some (.ref x)) (A : Arr st st.heap x c ty) (h : (Cond.eq (.length t) (.int z)).value as' st none st [] = some true) : c.slots.size < 2 ^ 31 ∧ c.slots.size.toInt32 = z := by
  have ha : st.arrayAt? x = some c := A.fin (Vm.Alike.refl _)
  obtain ⟨a, b, e1, e2, k1, k2⟩ := cmp_v (Or.inl h)
  by_cases q : c.slots.size < 2 ^ 31
  · refine ⟨q, ?_⟩
    have e3 := len_f (args := as') (first := st) (o := none) (idx := []) ht ha q
    cases e3.symm.trans e1
    cases (Term.int_eval z).symm.trans e2
    simpa [Cond.value, e1, e2] using h
  · simp [Term.eval, ht, ha, q] at e1
theorem own_elI {st : State} {as' : Array Value} {t : Term} {x : Addr} {k z : Int32} {c : Cell} {ty : FieldType} (ht : t.eval as' st none [] st = some (.ref x)) (A : Arr st st.heap x c ty) (h : (Cond.eq (.elem t (.int k)) (.int z)).value as' st none st [] = some true) : c.slots[k.toNatClampNeg]? = some (.int z) := by
  obtain ⟨a, b, e1, e2, k1, k2⟩ := cmp_v (Or.inl h)
  cases (Term.int_eval z).symm.trans e2
  obtain ⟨w, rfl⟩ := k2
  have q : w = z := by simpa [Cond.value, e1, e2] using h
  subst q
  exact (elem_in e1 ht (Term.int_eval k) A.1).2
theorem own_arOf {st : State} {x : Addr} {c : Cell} {ty : FieldType} {vs : List Value} (A : Arr st st.heap x c ty) (h1 : c.slots.size = vs.length) (h2 : vs.length < 2 ^ 31) (H : HasL c 0 vs) : OwnAr st st.heap x ty vs := by
  refine ⟨c, A, ?_, h2⟩
  apply Array.ext_getElem?
  intro i
  by_cases q : i < vs.length
  · have := HasL.at (dv := .null) vs 0 H i q
    rw [Nat.zero_add] at this
    rw [this, List.getElem?_toArray, List.getD_eq_getElem?_getD, List.getElem?_eq_getElem q]; rfl
  · rw [Array.getElem?_eq_none (by omega), List.getElem?_toArray, List.getElem?_eq_none (by omega)]
/-! the CRC's arithmetic, over bit vectors: T is 'times x', S a b k the sum of the first k shifted copies -/
def ownG : BitVec 32 := 0xEDB88320#32
def ownT (b : BitVec 32) : BitVec 32 := (b >>> 1) ^^^ (if b.getLsbD 0 then ownG else 0#32)
def ownSh (b : BitVec 32) : Nat → BitVec 32
  | 0 => b
  | k + 1 => ownT (ownSh b k)
def ownS (a b : BitVec 32) : Nat → BitVec 32
  | 0 => 0#32
  | k + 1 => ownS a b k ^^^ (if a.getLsbD (31 - k) then ownSh b k else 0#32)
def ownE : BitVec 32 := 0x80000000#32
def ownM (a b : BitVec 32) : BitVec 32 := ownS a b 32
theorem own_x4 (a b c d : BitVec 32) : (a ^^^ b) ^^^ (c ^^^ d) = (a ^^^ c) ^^^ (b ^^^ d) := by
  rw [BitVec.xor_assoc, BitVec.xor_assoc, ← BitVec.xor_assoc b c d, BitVec.xor_comm b c, BitVec.xor_assoc]
theorem own_T0 : ownT 0#32 = 0#32 := by decide
theorem own_Tx (a b : BitVec 32) : ownT (a ^^^ b) = ownT a ^^^ ownT b := by
  unfold ownT
  rw [BitVec.ushiftRight_xor_distrib, BitVec.getLsbD_xor, own_x4]
  congr 1
  cases a.getLsbD 0 <;> cases b.getLsbD 0 <;> simp
theorem own_shx (a b : BitVec 32) (k : Nat) : ownSh (a ^^^ b) k = ownSh a k ^^^ ownSh b k := by
  induction k with
  | zero => rfl
  | succ k ih => rw [ownSh, ih, own_Tx]; rfl
theorem own_sh0 (k : Nat) : ownSh 0#32 k = 0#32 := by
  induction k with
  | zero => rfl
  | succ k ih => rw [ownSh, ih, own_T0]
theorem own_shT (b : BitVec 32) (k : Nat) : ownSh (ownT b) k = ownT (ownSh b k) := by
  induction k with
  | zero => rfl
  | succ k ih => rw [ownSh, ih]; rfl
theorem own_sha (b : BitVec 32) (j k : Nat) : ownSh (ownSh b j) k = ownSh b (j + k) := by
  induction k with
  | zero => rfl
  | succ k ih => rw [ownSh, ih]; rfl
theorem own_Sx1 (a a' b : BitVec 32) (k : Nat) : ownS (a ^^^ a') b k = ownS a b k ^^^ ownS a' b k := by
  induction k with
  | zero => simp [ownS]
  | succ k ih =>
    rw [ownS, ownS, ownS, ih, BitVec.getLsbD_xor, own_x4]
    congr 1
    cases a.getLsbD (31 - k) <;> cases a'.getLsbD (31 - k) <;> simp
theorem own_Sx2 (a b b' : BitVec 32) (k : Nat) : ownS a (b ^^^ b') k = ownS a b k ^^^ ownS a b' k := by
  induction k with
  | zero => simp [ownS]
  | succ k ih =>
    rw [ownS, ownS, ownS, ih, own_shx, own_x4]
    congr 1
    cases a.getLsbD (31 - k) <;> simp
theorem own_S01 (b : BitVec 32) (k : Nat) : ownS 0#32 b k = 0#32 := by
  induction k with
  | zero => rfl
  | succ k ih => rw [ownS, ih]; simp
theorem own_S02 (a : BitVec 32) (k : Nat) : ownS a 0#32 k = 0#32 := by
  induction k with
  | zero => rfl
  | succ k ih => rw [ownS, ih, own_sh0]; simp
theorem own_ST (a b : BitVec 32) (k : Nat) : ownS a (ownT b) k = ownT (ownS a b k) := by
  induction k with
  | zero => rw [ownS, ownS, own_T0]
  | succ k ih =>
    rw [ownS, ownS, ih, own_Tx, own_shT]
    congr 1
    cases a.getLsbD (31 - k) <;> simp [own_T0]
theorem own_Ssh (a b : BitVec 32) (k j : Nat) : ownS a (ownSh b j) k = ownSh (ownS a b k) j := by
  induction j with
  | zero => rfl
  | succ j ih => rw [ownSh, own_ST, ih]; rfl
/-- the unit's shifts are the single bits -/
theorem own_eb (k : Nat) (hk : k < 32) : ownSh ownE k = BitVec.twoPow 32 (31 - k) := by
  have h : ∀ k : Fin 32, ownSh ownE k.val = BitVec.twoPow 32 (31 - k.val) := by decide +kernel
  exact h ⟨k, hk⟩
theorem own_eG : ownSh ownE 32 = ownG := by decide +kernel
theorem own_Sbit (a : BitVec 32) (k : Nat) (hk : k ≤ 32) (j : Nat) (hj : j < 32) : (ownS a ownE k).getLsbD j = (decide (31 - j < k) && a.getLsbD j) := by
  induction k with
  | zero => simp [ownS]
  | succ k ih =>
    rw [ownS, BitVec.getLsbD_xor, ih (by omega), own_eb k (by omega)]
    by_cases q : 31 - k = j
    · subst q
      have e1 : decide (31 - (31 - k) < k) = false := by simp; omega
      have e2 : decide (31 - (31 - k) < k + 1) = true := by simp; omega
      rw [e1, e2]
      cases h : a.getLsbD (31 - k)
      · simp
      · simp only [if_true, BitVec.getLsbD_twoPow]; simp; omega
    · have e : decide (31 - j < k + 1) = decide (31 - j < k) := by simp; omega
      rw [e]
      cases a.getLsbD (31 - k)
      · simp
      · simp only [if_true, BitVec.getLsbD_twoPow, q, decide_false, Bool.and_false, Bool.xor_false]
theorem own_unit (a : BitVec 32) : ownM a ownE = a := by
  apply BitVec.eq_of_getLsbD_eq
  intro j hj
  have h := own_Sbit a 32 (Nat.le_refl _) j hj
  have e : decide (31 - j < 32) = true := by simp; omega
  rw [e, Bool.true_and] at h
  exact h
/-- a single bit picks one shift -/
theorem own_pick (b : BitVec 32) (i : Nat) (hi : i < 32) (k : Nat) (hk : k ≤ 32) : ownS (BitVec.twoPow 32 (31 - i)) b k = if i < k then ownSh b i else 0#32 := by
  induction k with
  | zero => simp [ownS]
  | succ k ih =>
    rw [ownS, ih (by omega), BitVec.getLsbD_twoPow]
    by_cases q : i = k
    · subst q
      have : decide (31 - i < 32) = true := by simp; omega
      simp
      omega
    · have e : ¬ (31 - i = 31 - k) := by omega
      have z : (if (decide (31 - i < 32) && decide (31 - i = 31 - k)) = true then ownSh b k else 0#32) = 0#32 := by simp [e]
      rw [z, BitVec.xor_zero]
      by_cases r : i < k
      · rw [if_pos r, if_pos (by omega)]
      · rw [if_neg r, if_neg (by omega)]
theorem own_Gm (b : BitVec 32) : ownM ownG b = ownSh b 32 := by
  have h : ∀ k, k ≤ 32 → ownM ownG (ownS b ownE k) = ownSh (ownS b ownE k) 32 := by
    intro k hk
    induction k with
    | zero => rw [ownS, own_sh0]; exact own_S02 _ _
    | succ k ih =>
      rw [ownS]
      unfold ownM at *
      rw [own_Sx2, own_shx, ih (by omega)]
      congr 1
      cases b.getLsbD (31 - k)
      · simp only [Bool.false_eq_true, if_false]; rw [own_sh0]; exact own_S02 _ _
      · simp only [if_true]
        rw [own_Ssh, own_sha, Nat.add_comm, ← own_sha, own_eG]
        have := own_unit ownG
        unfold ownM at this
        rw [this]
  have := h 32 (Nat.le_refl _)
  have e : ownS b ownE 32 = b := own_unit b
  rw [e] at this
  exact this
theorem own_MT (a b : BitVec 32) : ownM (ownT a) b = ownT (ownM a b) := by
  have h : ∀ k, k ≤ 32 → ownM (ownT (ownS a ownE k)) b = ownT (ownM (ownS a ownE k) b) := by
    intro k hk
    induction k with
    | zero => rw [ownS, own_T0]; unfold ownM; rw [own_S01, own_T0]
    | succ k ih =>
      rw [ownS, own_Tx]
      unfold ownM at *
      rw [own_Sx1, own_Sx1, own_Tx, ih (by omega)]
      congr 1
      cases a.getLsbD (31 - k)
      · simp only [Bool.false_eq_true, if_false]; rw [own_T0, own_S01, own_T0]
      · simp only [if_true]
        have e1 : ownS (ownSh ownE k) b 32 = ownSh b k := by
          rw [own_eb k (by omega), own_pick b k (by omega) 32 (Nat.le_refl _), if_pos (by omega)]
        rw [e1]
        by_cases q : k < 31
        · have e2 : ownT (ownSh ownE k) = ownSh ownE (k + 1) := rfl
          rw [e2, own_eb (k + 1) (by omega), own_pick b (k + 1) (by omega) 32 (Nat.le_refl _), if_pos (by omega)]; rfl
        · have e3 : k = 31 := by omega
          subst e3
          have e2 : ownT (ownSh ownE 31) = ownG := own_eG
          rw [e2]
          have := own_Gm b
          unfold ownM at this
          rw [this]; rfl
  have := h 32 (Nat.le_refl _)
  have e : ownS a ownE 32 = a := own_unit a
  rw [e] at this
  exact this
theorem own_Msh (a b : BitVec 32) (k : Nat) : ownM (ownSh a k) b = ownSh (ownM a b) k := by
  induction k with
  | zero => rfl
  | succ k ih => rw [ownSh, own_MT, ih]; rfl
theorem own_assoc (a b c : BitVec 32) : ownM (ownM a b) c = ownM a (ownM b c) := by
  have h : ∀ k, k ≤ 32 → ownM (ownS a b k) c = ownS a (ownM b c) k := by
    intro k hk
    induction k with
    | zero => rw [ownS, ownS]; exact own_S01 _ _
    | succ k ih =>
      rw [ownS, ownS, ← ih (by omega)]
      unfold ownM at *
      rw [own_Sx1]
      congr 1
      cases a.getLsbD (31 - k)
      · simp only [Bool.false_eq_true, if_false]; exact own_S01 _ _
      · simp only [if_true]
        have := own_Msh b c k
        unfold ownM at this
        exact this
  exact h 32 (Nat.le_refl _)
/-- powers of x^8 -/
def ownPw (g : BitVec 32) : Nat → BitVec 32
  | 0 => ownE
  | n + 1 => ownM (ownPw g n) g
theorem own_pwa (g : BitVec 32) (m n : Nat) : ownPw g (m + n) = ownM (ownPw g m) (ownPw g n) := by
  induction n with
  | zero => rw [ownPw, own_unit]; rfl
  | succ n ih => rw [← Nat.add_assoc, ownPw, ih, own_assoc]; rfl
def ownBit : Nat → Int32
  | 0 => (-2147483648 : Int32)
  | k + 1 => ((ownBit k).toUInt32 >>> ((1 : Int32) &&& 31).toUInt32).toInt32
def ownShI (b : Int32) : Nat → Int32
  | 0 => b
  | k + 1 => if (ownShI b k &&& (1 : Int32)) = (0 : Int32) then ((ownShI b k).toUInt32 >>> ((1 : Int32) &&& 31).toUInt32).toInt32 else (((ownShI b k).toUInt32 >>> ((1 : Int32) &&& 31).toUInt32).toInt32 ^^^ (-306674912 : Int32))
def ownPrI (a b : Int32) : Nat → Int32
  | 0 => (0 : Int32)
  | k + 1 => if (a &&& ownBit k) = (0 : Int32) then ownPrI a b k else (ownPrI a b k ^^^ ownShI b k)
def ownMulI (a b : Int32) : Int32 := ownPrI a b 32
def ownBP : List Int32 := [(8388608 : Int32), 32768, -306674912, -1310281582, -1603656425, -312312402, -1999551385, -675545494, -331055343, -1904303760, 1680310286, 1296546528, 167662735, -2088424177, 808857370, 2069535939, 838779241, -1611922902, 1821240772, 366380877, 1608415822, -1160180169, 776888047, 1319870996, -1465617728, 1117427358, 344797226, -1005869360, -991810500, 1073741824, 536870912, 134217728, 8388608, 32768, -306674912, -1310281582, -1603656425, -312312402, -1999551385, -675545494, -331055343, -1904303760, 1680310286, 1296546528, 167662735, -2088424177, 808857370, 2069535939, 838779241, -1611922902, 1821240772, 366380877, 1608415822, -1160180169, 776888047, 1319870996, -1465617728, 1117427358, 344797226, -1005869360, -991810500, 1073741824, 536870912, 134217728]
def ownBs (x : Int64) : Nat → Int64
  | 0 => x
  | k + 1 => ((ownBs x k).toUInt64 >>> ((1 : Int32) &&& 0x3f).toInt64.toUInt64).toInt64
def ownFacI (x : Int64) : Nat → Int32
  | 0 => (-2147483648 : Int32)
  | k + 1 => if (ownBs x k &&& (1 : Int64)) = (0 : Int64) then ownFacI x k else ownMulI (ownFacI x k) (ownBP.getD k 0)
theorem own_u1 (x : Int32) : ((x.toUInt32 >>> ((1 : Int32) &&& 31).toUInt32).toInt32).toBitVec = x.toBitVec >>> 1 := by
  show (x.toUInt32 >>> ((1 : Int32) &&& 31).toUInt32).toBitVec = _
  rw [UInt32.toBitVec_shiftRight]
  have : (((1 : Int32) &&& 31).toUInt32.toBitVec % 32) = 1#32 := by decide
  rw [this]; rfl
theorem own_u64 (x : Int64) : ((x.toUInt64 >>> ((1 : Int32) &&& 0x3f).toInt64.toUInt64).toInt64).toBitVec = x.toBitVec >>> 1 := by
  show (x.toUInt64 >>> ((1 : Int32) &&& 0x3f).toInt64.toUInt64).toBitVec = _
  rw [UInt64.toBitVec_shiftRight]
  have : (((1 : Int32) &&& 0x3f).toInt64.toUInt64.toBitVec % 64) = 1#64 := by decide
  rw [this]; rfl
theorem own_b0 (x : Int32) : (x &&& (1 : Int32)) = (0 : Int32) ↔ x.toBitVec.getLsbD 0 = false := by
  rw [← Int32.toBitVec_inj, Int32.toBitVec_and]
  have t : (1 : Int32).toBitVec = BitVec.twoPow 32 0 := by decide
  have z : (0 : Int32).toBitVec = 0#32 := rfl
  rw [t, z, BitVec.and_twoPow]
  cases x.toBitVec.getLsbD 0 <;> decide
theorem own_bk (k : Nat) (hk : k < 32) : (ownBit k).toBitVec = BitVec.twoPow 32 (31 - k) := by
  have h : ∀ k : Fin 32, (ownBit k.val).toBitVec = BitVec.twoPow 32 (31 - k.val) := by decide +kernel
  exact h ⟨k, hk⟩
theorem own_b32 : ownBit 32 = 0 := by decide +kernel
theorem own_bne (k : Nat) (hk : k < 32) : ¬ ownBit k = 0 := by
  have h : ∀ k : Fin 32, ¬ ownBit k.val = 0 := by decide +kernel
  exact h ⟨k, hk⟩
theorem own_ba (a : Int32) (k : Nat) (hk : k < 32) : (a &&& ownBit k) = (0 : Int32) ↔ a.toBitVec.getLsbD (31 - k) = false := by
  rw [← Int32.toBitVec_inj, Int32.toBitVec_and, own_bk k hk]
  have z : (0 : Int32).toBitVec = 0#32 := rfl
  rw [z, BitVec.and_twoPow]
  have nz : ¬ BitVec.twoPow 32 (31 - k) = 0#32 := by
    have h : ∀ k : Fin 32, ¬ BitVec.twoPow 32 (31 - k.val) = 0#32 := by decide +kernel
    exact h ⟨k, hk⟩
  cases a.toBitVec.getLsbD (31 - k)
  · simp
  · simp [nz]
theorem own_shI (b : Int32) (k : Nat) : (ownShI b k).toBitVec = ownSh b.toBitVec k := by
  induction k with
  | zero => rfl
  | succ k ih =>
    rw [ownShI, ownSh, ownT, ← ih]
    by_cases q : (ownShI b k &&& (1 : Int32)) = (0 : Int32)
    · rw [if_pos q, own_u1, (own_b0 _).mp q]; simp
    · have q' : (ownShI b k).toBitVec.getLsbD 0 = true := by
        cases h : (ownShI b k).toBitVec.getLsbD 0
        · exact absurd ((own_b0 _).mpr h) q
        · rfl
      rw [if_neg q, Int32.toBitVec_xor, own_u1, q']; rfl
theorem own_prI (a b : Int32) (k : Nat) (hk : k ≤ 32) : (ownPrI a b k).toBitVec = ownS a.toBitVec b.toBitVec k := by
  induction k with
  | zero => rfl
  | succ k ih =>
    rw [ownPrI, ownS, ← ih (by omega), ← own_shI]
    by_cases q : (a &&& ownBit k) = (0 : Int32)
    · rw [if_pos q, (own_ba a k (by omega)).mp q]; simp
    · have q' : a.toBitVec.getLsbD (31 - k) = true := by
        cases h : a.toBitVec.getLsbD (31 - k)
        · exact absurd ((own_ba a k (by omega)).mpr h) q
        · rfl
      rw [if_neg q, Int32.toBitVec_xor, q']; rfl
theorem own_mulI (a b : Int32) : (ownMulI a b).toBitVec = ownM a.toBitVec b.toBitVec := own_prI a b 32 (Nat.le_refl _)
def ownGB : BitVec 32 := 0x00800000#32
theorem own_bp (k : Nat) (hk : k < 64) : (ownBP.getD k 0).toBitVec = ownPw ownGB (2 ^ k) := by
  have sq : ∀ k : Fin 63, ownM (ownBP.getD k.val 0).toBitVec (ownBP.getD k.val 0).toBitVec = (ownBP.getD (k.val + 1) 0).toBitVec := by decide +kernel
  induction k with
  | zero => decide +kernel
  | succ k ih =>
    have h := sq ⟨k, by omega⟩
    have e : 2 ^ (k + 1) = 2 ^ k + 2 ^ k := by rw [Nat.pow_succ]; omega
    rw [e, own_pwa, ← ih (by omega)]
    exact h.symm
theorem own_bsn (x : Int64) (k : Nat) : (ownBs x k).toBitVec.toNat = x.toBitVec.toNat / 2 ^ k := by
  induction k with
  | zero => simp [ownBs]
  | succ k ih => rw [ownBs, own_u64, BitVec.toNat_ushiftRight, ih, Nat.shiftRight_eq_div_pow, Nat.div_div_eq_div_mul, Nat.pow_one, ← Nat.pow_succ]
theorem own_bs1 (y : Int64) : (y &&& (1 : Int64)) = (0 : Int64) ↔ y.toBitVec.toNat % 2 = 0 := by
  rw [← Int64.toBitVec_inj, Int64.toBitVec_and]
  have o : (1 : Int64).toBitVec = 1#64 := rfl
  have z : (0 : Int64).toBitVec = 0#64 := rfl
  rw [o, z]
  constructor
  · intro h
    have := congrArg BitVec.toNat h
    rw [BitVec.toNat_and] at this
    simpa [Nat.and_one_is_mod] using this
  · intro h
    apply BitVec.eq_of_toNat_eq
    rw [BitVec.toNat_and]
    simpa [Nat.and_one_is_mod] using h
theorem own_b64 (x : Int64) : ownBs x 64 = 0 := by
  apply Int64.toBitVec_inj.mp
  apply BitVec.eq_of_toNat_eq
  rw [own_bsn]
  exact Nat.div_eq_of_lt x.toBitVec.isLt
theorem own_facI (x : Int64) (k : Nat) (hk : k ≤ 64) : (ownFacI x k).toBitVec = ownPw ownGB (x.toBitVec.toNat % 2 ^ k) := by
  induction k with
  | zero => simp only [ownFacI, Nat.pow_zero, Nat.mod_one]; rfl
  | succ k ih =>
    have hm : x.toBitVec.toNat % 2 ^ (k + 1) = x.toBitVec.toNat % 2 ^ k + 2 ^ k * (x.toBitVec.toNat / 2 ^ k % 2) := by rw [Nat.pow_succ, Nat.mod_mul]
    have hb := own_bs1 (ownBs x k)
    rw [own_bsn] at hb
    rw [ownFacI]
    by_cases q : (ownBs x k &&& (1 : Int64)) = (0 : Int64)
    · rw [if_pos q, ih (by omega), hm, hb.mp q, Nat.mul_zero, Nat.add_zero]
    · have h1 : x.toBitVec.toNat / 2 ^ k % 2 = 1 := by
        rcases Nat.mod_two_eq_zero_or_one (x.toBitVec.toNat / 2 ^ k) with z | z
        · exact absurd (hb.mpr z) q
        · exact z
      rw [if_neg q, own_mulI, ih (by omega), own_bp k (by omega), hm, h1, Nat.mul_one, own_pwa]
theorem own_stab (x : Int64) (k : Nat) (hk : k ≤ 64) (h : ownBs x k = 0) : ownFacI x k = ownFacI x 64 := by
  apply Int32.toBitVec_inj.mp
  rw [own_facI x k hk, own_facI x 64 (Nat.le_refl _)]
  have := own_bsn x k
  rw [h] at this
  have z : (0 : Int64).toBitVec.toNat = 0 := rfl
  rw [z] at this
  have hlt : x.toBitVec.toNat < 2 ^ k := by
    have hp : 0 < 2 ^ k := Nat.pow_pos (by decide)
    rcases Nat.lt_or_ge x.toBitVec.toNat (2 ^ k) with q | q
    · exact q
    · have := Nat.div_pos q hp; omega
  rw [Nat.mod_eq_of_lt hlt, Nat.mod_eq_of_lt x.toBitVec.isLt]
theorem own_m62 (a : Int64) : (a &&& (4611686018427387903 : Int64)).toBitVec.toNat < 4611686018427387904 := by
  rw [Int64.toBitVec_and, BitVec.toNat_and]
  exact Nat.lt_of_le_of_lt Nat.and_le_right (by decide)
theorem own_add (a b x y : Int64) (hx : x = (a &&& (4611686018427387903 : Int64))) (hy : y = (b &&& (4611686018427387903 : Int64))) (r1 r2 r3 r4 : Int32) (h1 : r1 = ownFacI x 64) (h2 : r2 = ownFacI y 64) (h3 : r3 = ownFacI (x + y) 64) (h4 : r4 = (ownMulI r1 r2 ^^^ (0 : Int32))) : r4 = r3 := by
  have hx1 := own_m62 a
  have hy1 := own_m62 b
  rw [← hx] at hx1
  rw [← hy] at hy1
  subst h4 h1 h2 h3
  apply Int32.toBitVec_inj.mp
  have z : (0 : Int32).toBitVec = 0#32 := rfl
  rw [Int32.toBitVec_xor, z, BitVec.xor_zero, own_mulI, own_facI x 64 (Nat.le_refl _), own_facI y 64 (Nat.le_refl _), own_facI (x + y) 64 (Nat.le_refl _)]
  rw [Nat.mod_eq_of_lt x.toBitVec.isLt, Nat.mod_eq_of_lt y.toBitVec.isLt, Nat.mod_eq_of_lt (x + y).toBitVec.isLt, ← own_pwa]
  congr 1
  rw [Int64.toBitVec_add, BitVec.toNat_add]
  omega
theorem own_anch (n e r : Int32) (hn : n = 0 ∨ n = 1 ∨ n = 2 ∨ n = 3 ∨ n = 4) (he : e = (if n < (4 : Int32) then ((-2147483648 : Int32).toUInt32 >>> (((8 : Int32) * n) &&& 31).toUInt32).toInt32 else (-306674912 : Int32))) (hr : r = ownFacI (n.toInt64) 64) : r = e := by
  subst he hr
  rcases hn with rfl | rfl | rfl | rfl | rfl <;> decide +kernel
theorem own_sz {n : Nat} (h1 : n < 2 ^ 31) (h2 : n.toInt32 = (64 : Int32)) : n = (ownBP.map Value.int).length := by
  have e := len_toInt h1
  rw [h2] at e
  have e64 : (64 : Int32).toInt = 64 := rfl
  have l : (ownBP.map Value.int).length = 64 := by decide
  rw [l]; omega
theorem own_p5m (x : Int32) : ((x &&& (2147483647 : Int32)) % (5 : Int32)) = 0 ∨ ((x &&& (2147483647 : Int32)) % (5 : Int32)) = 1 ∨ ((x &&& (2147483647 : Int32)) % (5 : Int32)) = 2 ∨ ((x &&& (2147483647 : Int32)) % (5 : Int32)) = 3 ∨ ((x &&& (2147483647 : Int32)) % (5 : Int32)) = 4 := by
  have h0 : 0 ≤ (x &&& (2147483647 : Int32)).toInt := (c_andS x _).2.2 (by decide)
  have h2 := (Jvm.RoadKit.c_irem (x &&& (2147483647 : Int32)) 5 5 rfl).1 h0
  have h3 : ((x &&& (2147483647 : Int32)) % (5 : Int32)).toInt = 0 ∨ ((x &&& (2147483647 : Int32)) % (5 : Int32)).toInt = 1 ∨ ((x &&& (2147483647 : Int32)) % (5 : Int32)).toInt = 2 ∨ ((x &&& (2147483647 : Int32)) % (5 : Int32)).toInt = 3 ∨ ((x &&& (2147483647 : Int32)) % (5 : Int32)).toInt = 4 := by omega
  simp only [← Int32.toInt_inj]; exact h3
theorem own_d2_0 : decode prog_47_method_4_code 0 = .ok (.iconst 0, 1) := by decide +kernel
theorem own_d2_1 : decode prog_47_method_4_code 1 = .ok (.istore_n 2, 1) := by decide +kernel
theorem own_d2_2 : decode prog_47_method_4_code 2 = .ok (.iload_n 1, 1) := by decide +kernel
theorem own_d2_3 : decode prog_47_method_4_code 3 = .ok (.istore_n 3, 1) := by decide +kernel
theorem own_d2_4 : decode prog_47_method_4_code 4 = .ok (.ldc 9, 2) := by decide +kernel
theorem own_d2_6 : decode prog_47_method_4_code 6 = .ok (.istore 4, 2) := by decide +kernel
theorem own_d2_8 : decode prog_47_method_4_code 8 = .ok (.iload 4, 2) := by decide +kernel
theorem own_d2_10 : decode prog_47_method_4_code 10 = .ok (.ifCond .eq 42, 3) := by decide +kernel
theorem own_d2_13 : decode prog_47_method_4_code 13 = .ok (.iload_n 0, 1) := by decide +kernel
theorem own_d2_14 : decode prog_47_method_4_code 14 = .ok (.iload 4, 2) := by decide +kernel
theorem own_d2_16 : decode prog_47_method_4_code 16 = .ok (.iand, 1) := by decide +kernel
theorem own_d2_17 : decode prog_47_method_4_code 17 = .ok (.ifCond .eq 7, 3) := by decide +kernel
theorem own_d2_20 : decode prog_47_method_4_code 20 = .ok (.iload_n 2, 1) := by decide +kernel
theorem own_d2_21 : decode prog_47_method_4_code 21 = .ok (.iload_n 3, 1) := by decide +kernel
theorem own_d2_22 : decode prog_47_method_4_code 22 = .ok (.ixor, 1) := by decide +kernel
theorem own_d2_23 : decode prog_47_method_4_code 23 = .ok (.istore_n 2, 1) := by decide +kernel
theorem own_d2_24 : decode prog_47_method_4_code 24 = .ok (.iload_n 3, 1) := by decide +kernel
theorem own_d2_25 : decode prog_47_method_4_code 25 = .ok (.iconst 1, 1) := by decide +kernel
theorem own_d2_26 : decode prog_47_method_4_code 26 = .ok (.iand, 1) := by decide +kernel
theorem own_d2_27 : decode prog_47_method_4_code 27 = .ok (.ifCond .eq 12, 3) := by decide +kernel
theorem own_d2_30 : decode prog_47_method_4_code 30 = .ok (.iload_n 3, 1) := by decide +kernel
theorem own_d2_31 : decode prog_47_method_4_code 31 = .ok (.iconst 1, 1) := by decide +kernel
theorem own_d2_32 : decode prog_47_method_4_code 32 = .ok (.iushr, 1) := by decide +kernel
theorem own_d2_33 : decode prog_47_method_4_code 33 = .ok (.ldc 18, 2) := by decide +kernel
theorem own_d2_35 : decode prog_47_method_4_code 35 = .ok (.ixor, 1) := by decide +kernel
theorem own_d2_36 : decode prog_47_method_4_code 36 = .ok (.goto 6, 3) := by decide +kernel
theorem own_d2_39 : decode prog_47_method_4_code 39 = .ok (.iload_n 3, 1) := by decide +kernel
theorem own_d2_40 : decode prog_47_method_4_code 40 = .ok (.iconst 1, 1) := by decide +kernel
theorem own_d2_41 : decode prog_47_method_4_code 41 = .ok (.iushr, 1) := by decide +kernel
theorem own_d2_42 : decode prog_47_method_4_code 42 = .ok (.istore_n 3, 1) := by decide +kernel
theorem own_d2_43 : decode prog_47_method_4_code 43 = .ok (.iload 4, 2) := by decide +kernel
theorem own_d2_45 : decode prog_47_method_4_code 45 = .ok (.iconst 1, 1) := by decide +kernel
theorem own_d2_46 : decode prog_47_method_4_code 46 = .ok (.iushr, 1) := by decide +kernel
theorem own_d2_47 : decode prog_47_method_4_code 47 = .ok (.istore 4, 2) := by decide +kernel
theorem own_d2_49 : decode prog_47_method_4_code 49 = .ok (.goto (-41), 3) := by decide +kernel
theorem own_d2_52 : decode prog_47_method_4_code 52 = .ok (.iload_n 2, 1) := by decide +kernel
theorem own_d2_53 : decode prog_47_method_4_code 53 = .ok (.ireturn, 1) := by decide +kernel
theorem own_ef2 (m : MethodId) (x0 : Int32) (x1 : Int32) : entryFrame m #[(.int x0), (.int x1)] 5 = mkF m 0 #[.val (.int x0), .val (.int x1), .unset, .unset, .unset] [] := by first | (simp [entryFrame, mkF, argsToLocals, Value.category]; done) | rfl
theorem own_pn2 : plainFor (⟨"com/example/hearthroll/hearthroll/util/JoinedCrc32", "multiply", "(II)I"⟩ : MethodName) = true := by first | exact plainFor_of_name (by first | (simp [plainName, overriddenIn]; done) | decide +kernel) | exact Jvm.Free.JP.mathPlain rfl (by decide +kernel)
set_option maxRecDepth 65536 in
set_option maxHeartbeats 40000000 in
theorem own_rm2 (l : Launch) (Z : State) (a0 : Array Value) (hw : ∀ d ∈ tables_1, d.before a0 Z = true) (p1 : Int32) (p2 : Int32) (h0 : Heap) (n0 : Nat) (Z0 : n0 ≤ h0.size)  :
    OwnMet l Z (⟨"com/example/hearthroll/hearthroll/util/JoinedCrc32", "multiply", "(II)I"⟩ : MethodName) prog_47_method_4_code 5 (some .int) ({ frames := 0, cells := 0, slots := 0, locals := 0 } : Room) #[(.int p1), (.int p2)] h0 n0 (fun v h => v = some (.int (ownMulI p1 p2)) ∧ h0 = h) := by
  refine own_body own_pn2 ?_
  intro p e s m below meth c s₁ RR X0
  refine own_enter (own_ef2 m p1 p2) ?_
  refine own_iconst X0 own_d2_0 (pc' := 1) rfl (v := (0 : Int32)) (by decide) ?_
  refine own_istoreN X0 own_d2_1 (pc' := 2) rfl (l' := #[.val (.int p1), .val (.int p2), .val (.int (0 : Int32)), .unset, .unset]) rfl ?_
  refine own_iloadN X0 own_d2_2 (pc' := 3) rfl rfl ?_
  refine own_istoreN X0 own_d2_3 (pc' := 4) rfl (l' := #[.val (.int p1), .val (.int p2), .val (.int (0 : Int32)), .val (.int p2), .unset]) rfl ?_
  refine own_ldcInt X0 own_d2_4 (pc' := 6) rfl (hw _ (List.mem_of_getElem? (i := 5) rfl)) ?_
  refine own_istore X0 own_d2_6 (pc' := 8) rfl (l' := #[.val (.int p1), .val (.int p2), .val (.int (0 : Int32)), .val (.int p2), .val (.int (-2147483648 : Int32))]) rfl ?_
  have loop8 : ∀ (d k8 : Nat) (Tl8 : State), d + k8 = 32 → OwnAt X0 Tl8 → OwnGo p e below (Tl8.setTop (mkF m 8 #[.val (.int p1), .val (.int p2), .val (.int (ownPrI p1 p2 k8)), .val (.int (ownShI p2 k8)), .val (.int (ownBit k8))] [])) RR := by
    intro d
    induction d with
    | zero =>
      intro k8 Tl8 hdk8 Xl8 
      obtain rfl : k8 = 32 := by omega
      refine own_iload Xl8 own_d2_8 (pc' := 10) rfl rfl ?_
      refine own_ifY Xl8 own_d2_10 (teq ((own_b32 : (ownBit 32) = (0 : Int32)))).1 (pc' := 52) (by decide) (by decide) ?_
      refine own_iloadN Xl8 own_d2_52 (pc' := 53) rfl rfl ?_
      exact own_retI Xl8 own_d2_53 ⟨rfl, rfl⟩ (by decide) (by decide)
    | succ d ih8 =>
      intro k8 Tl8 hdk8 Xl8 
      have hk8 : k8 < 32 := by omega
      refine own_iload Xl8 own_d2_8 (pc' := 10) rfl rfl ?_
      refine own_ifN Xl8 own_d2_10 (feq ((own_bne _ hk8 : ¬ ((ownBit k8) = (0 : Int32))))).1 (pc' := 13) rfl ?_
      refine own_iloadN Xl8 own_d2_13 (pc' := 14) rfl rfl ?_
      refine own_iload Xl8 own_d2_14 (pc' := 16) rfl rfl ?_
      refine own_iand Xl8 own_d2_16 (pc' := 17) rfl ?_
      have j24_1 : ∀ (f24_2 : Int32), f24_2 = (if (p1 &&& (ownBit k8)) = (0 : Int32) then (ownPrI p1 p2 k8) else ((ownPrI p1 p2 k8) ^^^ (ownShI p2 k8))) → OwnGo p e below (Tl8.setTop (mkF m 24 #[.val (.int p1), .val (.int p2), .val (.int f24_2), .val (.int (ownShI p2 k8)), .val (.int (ownBit k8))] [])) RR := by
        intro f24_2 hf24_2
        refine own_iloadN Xl8 own_d2_24 (pc' := 25) rfl rfl ?_
        refine own_iconst Xl8 own_d2_25 (pc' := 26) rfl (v := (1 : Int32)) (by decide) ?_
        refine own_iand Xl8 own_d2_26 (pc' := 27) rfl ?_
        have j42_2 : ∀ (f42_s0 : Int32), f42_s0 = (if ((ownShI p2 k8) &&& (1 : Int32)) = (0 : Int32) then ((ownShI p2 k8).toUInt32 >>> ((1 : Int32) &&& 31).toUInt32).toInt32 else (((ownShI p2 k8).toUInt32 >>> ((1 : Int32) &&& 31).toUInt32).toInt32 ^^^ (-306674912 : Int32))) → OwnGo p e below (Tl8.setTop (mkF m 42 #[.val (.int p1), .val (.int p2), .val (.int f24_2), .val (.int (ownShI p2 k8)), .val (.int (ownBit k8))] [(.int f42_s0)])) RR := by
          intro f42_s0 hf42_s0
          refine own_istoreN Xl8 own_d2_42 (pc' := 43) rfl (l' := #[.val (.int p1), .val (.int p2), .val (.int f24_2), .val (.int f42_s0), .val (.int (ownBit k8))]) rfl ?_
          refine own_iload Xl8 own_d2_43 (pc' := 45) rfl rfl ?_
          refine own_iconst Xl8 own_d2_45 (pc' := 46) rfl (v := (1 : Int32)) (by decide) ?_
          refine own_iushr Xl8 own_d2_46 (pc' := 47) rfl ?_
          refine own_istoreV Xl8 own_d2_47 (pc' := 49) rfl (l' := fun v47 => #[.val (.int p1), .val (.int p2), .val (.int f24_2), .val (.int f42_s0), .val (.int v47)]) (fun _ => rfl) ?_
          intro v47 hv47
          refine own_goto Xl8 own_d2_49 (pc' := 8) (by decide) (by decide) ?_
          obtain rfl : f24_2 = ownPrI p1 p2 (k8 + 1) := hf24_2
          obtain rfl : f42_s0 = ownShI p2 (k8 + 1) := hf42_s0
          obtain rfl : v47 = ownBit (k8 + 1) := hv47
          exact ih8 (k8 + 1) _ (by omega) Xl8 
        by_cases hc27 : ((ownShI p2 k8) &&& (1 : Int32)) = (0 : Int32)
        · refine own_ifY Xl8 own_d2_27 (teq (hc27)).1 (pc' := 39) (by decide) (by decide) ?_
          refine own_iloadN Xl8 own_d2_39 (pc' := 40) rfl rfl ?_
          refine own_iconst Xl8 own_d2_40 (pc' := 41) rfl (v := (1 : Int32)) (by decide) ?_
          refine own_iushr Xl8 own_d2_41 (pc' := 42) rfl ?_
          exact j42_2 _ (by rw [if_pos hc27])
        · refine own_ifN Xl8 own_d2_27 (feq (hc27)).1 (pc' := 30) rfl ?_
          refine own_iloadN Xl8 own_d2_30 (pc' := 31) rfl rfl ?_
          refine own_iconst Xl8 own_d2_31 (pc' := 32) rfl (v := (1 : Int32)) (by decide) ?_
          refine own_iushr Xl8 own_d2_32 (pc' := 33) rfl ?_
          refine own_ldcInt Xl8 own_d2_33 (pc' := 35) rfl (hw _ (List.mem_of_getElem? (i := 11) rfl)) ?_
          refine own_ixor Xl8 own_d2_35 (pc' := 36) rfl ?_
          refine own_goto Xl8 own_d2_36 (pc' := 42) (by decide) (by decide) ?_
          exact j42_2 _ (by rw [if_neg hc27])
      by_cases hc17 : (p1 &&& (ownBit k8)) = (0 : Int32)
      · refine own_ifY Xl8 own_d2_17 (teq (hc17)).1 (pc' := 24) (by decide) (by decide) ?_
        exact j24_1 _ (by rw [if_pos hc17])
      · refine own_ifN Xl8 own_d2_17 (feq (hc17)).1 (pc' := 20) rfl ?_
        refine own_iloadN Xl8 own_d2_20 (pc' := 21) rfl rfl ?_
        refine own_iloadN Xl8 own_d2_21 (pc' := 22) rfl rfl ?_
        refine own_ixor Xl8 own_d2_22 (pc' := 23) rfl ?_
        refine own_istoreN Xl8 own_d2_23 (pc' := 24) rfl (l' := #[.val (.int p1), .val (.int p2), .val (.int ((ownPrI p1 p2 k8) ^^^ (ownShI p2 k8))), .val (.int (ownShI p2 k8)), .val (.int (ownBit k8))]) rfl ?_
        exact j24_1 _ (by rw [if_neg hc17])
  exact loop8 32 0 _ rfl X0 
theorem own_pd0 : parseMethodDescriptor "(II)I" = some ⟨[.int, .int], some .int⟩ := by decide +kernel
theorem own_d1_0 : decode prog_47_method_2_code 0 = .ok (.ldc 9, 2) := by decide +kernel
theorem own_d1_2 : decode prog_47_method_2_code 2 = .ok (.istore_n 2, 1) := by decide +kernel
theorem own_d1_3 : decode prog_47_method_2_code 3 = .ok (.lload_n 0, 1) := by decide +kernel
theorem own_d1_4 : decode prog_47_method_2_code 4 = .ok (.lstore_n 3, 1) := by decide +kernel
theorem own_d1_5 : decode prog_47_method_2_code 5 = .ok (.iconst 0, 1) := by decide +kernel
theorem own_d1_6 : decode prog_47_method_2_code 6 = .ok (.istore 5, 2) := by decide +kernel
theorem own_d1_8 : decode prog_47_method_2_code 8 = .ok (.lload_n 3, 1) := by decide +kernel
theorem own_d1_9 : decode prog_47_method_2_code 9 = .ok (.lconst 0, 1) := by decide +kernel
theorem own_d1_10 : decode prog_47_method_2_code 10 = .ok (.lcmp, 1) := by decide +kernel
theorem own_d1_11 : decode prog_47_method_2_code 11 = .ok (.ifCond .eq 32, 3) := by decide +kernel
theorem own_d1_14 : decode prog_47_method_2_code 14 = .ok (.lload_n 3, 1) := by decide +kernel
theorem own_d1_15 : decode prog_47_method_2_code 15 = .ok (.lconst 1, 1) := by decide +kernel
theorem own_d1_16 : decode prog_47_method_2_code 16 = .ok (.land, 1) := by decide +kernel
theorem own_d1_17 : decode prog_47_method_2_code 17 = .ok (.lconst 0, 1) := by decide +kernel
theorem own_d1_18 : decode prog_47_method_2_code 18 = .ok (.lcmp, 1) := by decide +kernel
theorem own_d1_19 : decode prog_47_method_2_code 19 = .ok (.ifCond .eq 14, 3) := by decide +kernel
theorem own_d1_22 : decode prog_47_method_2_code 22 = .ok (.iload_n 2, 1) := by decide +kernel
theorem own_d1_23 : decode prog_47_method_2_code 23 = .ok (.getstatic 10, 3) := by decide +kernel
theorem own_d1_26 : decode prog_47_method_2_code 26 = .ok (.iload 5, 2) := by decide +kernel
theorem own_d1_28 : decode prog_47_method_2_code 28 = .ok (.iaload, 1) := by decide +kernel
theorem own_d1_29 : decode prog_47_method_2_code 29 = .ok (.invokestatic 14, 3) := by decide +kernel
theorem own_d1_32 : decode prog_47_method_2_code 32 = .ok (.istore_n 2, 1) := by decide +kernel
theorem own_d1_33 : decode prog_47_method_2_code 33 = .ok (.lload_n 3, 1) := by decide +kernel
theorem own_d1_34 : decode prog_47_method_2_code 34 = .ok (.iconst 1, 1) := by decide +kernel
theorem own_d1_35 : decode prog_47_method_2_code 35 = .ok (.lushr, 1) := by decide +kernel
theorem own_d1_36 : decode prog_47_method_2_code 36 = .ok (.lstore_n 3, 1) := by decide +kernel
theorem own_d1_37 : decode prog_47_method_2_code 37 = .ok (.iinc 5 1, 3) := by decide +kernel
theorem own_d1_40 : decode prog_47_method_2_code 40 = .ok (.goto (-32), 3) := by decide +kernel
theorem own_d1_43 : decode prog_47_method_2_code 43 = .ok (.iload_n 2, 1) := by decide +kernel
theorem own_d1_44 : decode prog_47_method_2_code 44 = .ok (.ireturn, 1) := by decide +kernel
theorem own_ef1 (m : MethodId) (x0 : Int64) : entryFrame m #[(.long x0)] 6 = mkF m 0 #[.val (.long x0), .second, .unset, .unset, .unset, .unset] [] := by first | (simp [entryFrame, mkF, argsToLocals, Value.category]; done) | rfl
theorem own_pn1 : plainFor (⟨"com/example/hearthroll/hearthroll/util/JoinedCrc32", "factor", "(J)I"⟩ : MethodName) = true := by first | exact plainFor_of_name (by first | (simp [plainName, overriddenIn]; done) | decide +kernel) | exact Jvm.Free.JP.mathPlain rfl (by decide +kernel)
set_option maxRecDepth 65536 in
set_option maxHeartbeats 40000000 in
theorem own_rm1 (l : Launch) (Z : State) (a0 : Array Value) (hw : ∀ d ∈ tables_1, d.before a0 Z = true) (p1 : Int64) (d1 : Addr) (h0 : Heap) (n0 : Nat) (Z0 : n0 ≤ h0.size) (S_BYTE_POWERS : Sta Z h0 "com/example/hearthroll/hearthroll/util/JoinedCrc32" "BYTE_POWERS" "[I" (.ref d1)) (V_d1 : OwnAr Z h0 d1 .int (ownBP.map Value.int)) :
    OwnMet l Z (⟨"com/example/hearthroll/hearthroll/util/JoinedCrc32", "factor", "(J)I"⟩ : MethodName) prog_47_method_2_code 6 (some .int) ({ frames := 1, cells := 0, slots := 0, locals := 16 } : Room) #[(.long p1)] h0 n0 (fun v h => v = some (.int (ownFacI p1 64)) ∧ h0 = h) := by
  refine own_body own_pn1 ?_
  intro p e s m below meth c s₁ RR X0
  refine own_enter (own_ef1 m p1) ?_
  refine own_ldcInt X0 own_d1_0 (pc' := 2) rfl (hw _ (List.mem_of_getElem? (i := 5) rfl)) ?_
  refine own_istoreN X0 own_d1_2 (pc' := 3) rfl (l' := #[.val (.long p1), .second, .val (.int (-2147483648 : Int32)), .unset, .unset, .unset]) rfl ?_
  refine own_lloadN X0 own_d1_3 (pc' := 4) rfl rfl ?_
  refine own_lstoreN X0 own_d1_4 (pc' := 5) rfl (l' := #[.val (.long p1), .second, .val (.int (-2147483648 : Int32)), .val (.long p1), .second, .unset]) rfl ?_
  refine own_iconst X0 own_d1_5 (pc' := 6) rfl (v := (0 : Int32)) (by decide) ?_
  refine own_istore X0 own_d1_6 (pc' := 8) rfl (l' := #[.val (.long p1), .second, .val (.int (-2147483648 : Int32)), .val (.long p1), .second, .val (.int (0 : Int32))]) rfl ?_
  have loop8 : ∀ (d k8 : Nat) (Tl8 : State), d + k8 = 64 → OwnAt X0 Tl8 → OwnGo p e below (Tl8.setTop (mkF m 8 #[.val (.long p1), .second, .val (.int (ownFacI p1 k8)), .val (.long (ownBs p1 k8)), .second, .val (.int (Int32.ofNat k8))] [])) RR := by
    intro d
    induction d with
    | zero =>
      intro k8 Tl8 hdk8 Xl8 
      obtain rfl : k8 = 64 := by omega
      refine own_lloadN Xl8 own_d1_8 (pc' := 9) rfl rfl ?_
      refine own_lconst Xl8 own_d1_9 (pc' := 10) rfl (v := (0 : Int64)) (by decide) ?_
      refine own_ljY Xl8 own_d1_10 own_d1_11 (own_teqL ((own_b64 _ : (ownBs p1 64) = (0 : Int64)))).1 (pc' := 43) (by decide) (by decide) ?_
      refine own_iloadN Xl8 own_d1_43 (pc' := 44) rfl rfl ?_
      exact own_retI Xl8 own_d1_44 ⟨rfl, rfl⟩ (by decide) (by decide)
    | succ d ih8 =>
      intro k8 Tl8 hdk8 Xl8 
      have hk8 : k8 < 64 := by omega
      refine own_lloadN Xl8 own_d1_8 (pc' := 9) rfl rfl ?_
      refine own_lconst Xl8 own_d1_9 (pc' := 10) rfl (v := (0 : Int64)) (by decide) ?_
      by_cases hc11 : (ownBs p1 k8) = (0 : Int64)
      · refine own_ljY Xl8 own_d1_10 own_d1_11 (own_teqL (hc11)).1 (pc' := 43) (by decide) (by decide) ?_
        refine own_iloadN Xl8 own_d1_43 (pc' := 44) rfl rfl ?_
        exact own_retI Xl8 own_d1_44 ⟨(by rw [own_stab p1 k8 (by omega) hc11]), rfl⟩ (by decide) (by decide)
      · refine own_ljN Xl8 own_d1_10 own_d1_11 (own_feqL (hc11)).1 (pc' := 14) rfl ?_
        refine own_lloadN Xl8 own_d1_14 (pc' := 15) rfl rfl ?_
        refine own_lconst Xl8 own_d1_15 (pc' := 16) rfl (v := (1 : Int64)) (by decide) ?_
        refine own_land Xl8 own_d1_16 (pc' := 17) rfl ?_
        refine own_lconst Xl8 own_d1_17 (pc' := 18) rfl (v := (0 : Int64)) (by decide) ?_
        have j33_1 : ∀ T1, OwnAt Xl8 T1 → ∀ (f33_2 : Int32), f33_2 = (if ((ownBs p1 k8) &&& (1 : Int64)) = (0 : Int64) then (ownFacI p1 k8) else (ownMulI (ownFacI p1 k8) (ownBP.getD k8 0))) → OwnGo p e below (T1.setTop (mkF m 33 #[.val (.long p1), .second, .val (.int f33_2), .val (.long (ownBs p1 k8)), .second, .val (.int (Int32.ofNat k8))] [])) RR := by
          intro T1 X1 f33_2 hf33_2
          refine own_lloadN X1 own_d1_33 (pc' := 34) rfl rfl ?_
          refine own_iconst X1 own_d1_34 (pc' := 35) rfl (v := (1 : Int32)) (by decide) ?_
          refine own_lushr X1 own_d1_35 (pc' := 36) rfl ?_
          refine own_lstoreNV X1 own_d1_36 (pc' := 37) rfl (l' := fun v36 => #[.val (.long p1), .second, .val (.int f33_2), .val (.long v36), .second, .val (.int (Int32.ofNat k8))]) (fun _ => rfl) ?_
          intro v36 hv36
          refine own_iinc X1 own_d1_37 (pc' := 40) rfl rfl (y := (Int32.ofNat (k8 + 1))) (own_ofs _) (l' := #[.val (.long p1), .second, .val (.int f33_2), .val (.long v36), .second, .val (.int (Int32.ofNat (k8 + 1)))]) rfl ?_
          refine own_goto X1 own_d1_40 (pc' := 8) (by decide) (by decide) ?_
          obtain rfl : f33_2 = ownFacI p1 (k8 + 1) := hf33_2
          obtain rfl : v36 = ownBs p1 (k8 + 1) := hv36
          exact ih8 (k8 + 1) _ (by omega) X1 
        by_cases hc19 : ((ownBs p1 k8) &&& (1 : Int64)) = (0 : Int64)
        · refine own_ljY Xl8 own_d1_18 own_d1_19 (own_teqL (hc19)).1 (pc' := 33) (by decide) (by decide) ?_
          exact j33_1 Tl8 Xl8 _ (by rw [if_pos hc19])
        · refine own_ljN Xl8 own_d1_18 own_d1_19 (own_feqL (hc19)).1 (pc' := 22) rfl ?_
          refine own_iloadN Xl8 own_d1_22 (pc' := 23) rfl rfl ?_
          refine own_getS Xl8 own_d1_23 (hw _ (List.mem_of_getElem? (i := 6) rfl)) Via.refl S_BYTE_POWERS (pc' := 26) rfl ?_
          intro T2 X2
          refine own_iload X2 own_d1_26 (pc' := 28) rfl rfl ?_
          refine own_iaload X2 own_d1_28 V_d1 (own_ix hk8 (by decide)).1 (v := (.int (ownBP.getD k8 0))) (by rw [(own_ix hk8 (by decide)).2.1]; exact own_getI hk8) (pc' := 29) rfl ?_
          refine own_callS (argsL := [(.int (ownFacI p1 k8)), (.int (ownBP.getD k8 0))]) X2 own_d1_29 (y := (⟨"com/example/hearthroll/hearthroll/util/JoinedCrc32", "multiply", "(II)I"⟩ : MethodName)) (by decide) (hw _ (List.mem_of_getElem? (i := 8) rfl)) (hw _ (List.mem_of_getElem? (i := 9) rfl)) (hw _ (List.mem_of_getElem? (i := 10) rfl)) (hw _ (List.mem_of_getElem? (i := 3) rfl)) (own_rm2 l Z a0 hw ((ownFacI p1 k8)) ((ownBP.getD k8 0)) h0 n0 Z0 ) own_pd0 rfl (S := []) rfl (pc' := 32) rfl rfl (W := 0) (Nat.le_of_eq rfl) (by decide) (by decide) (by decide) (by decide) ?_
          intro T3 h3 v3_ X3 q3_
          obtain ⟨rfl, rfl⟩ := q3_
          show OwnGo p e below (T3.setTop (mkF m 32 #[.val (.long p1), .second, .val (.int (ownFacI p1 k8)), .val (.long (ownBs p1 k8)), .second, .val (.int (Int32.ofNat k8))] [(.int (ownMulI (ownFacI p1 k8) (ownBP.getD k8 0)))])) RR
          refine own_istoreN X3 own_d1_32 (pc' := 33) rfl (l' := #[.val (.long p1), .second, .val (.int (ownMulI (ownFacI p1 k8) (ownBP.getD k8 0))), .val (.long (ownBs p1 k8)), .second, .val (.int (Int32.ofNat k8))]) rfl ?_
          exact j33_1 T3 X3 _ (by rw [if_neg hc19])
  exact loop8 64 0 _ rfl X0 
theorem own_d3_0 : decode prog_47_method_3_code 0 = .ok (.iload_n 0, 1) := by decide +kernel
theorem own_d3_1 : decode prog_47_method_3_code 1 = .ok (.iload_n 2, 1) := by decide +kernel
theorem own_d3_2 : decode prog_47_method_3_code 2 = .ok (.invokestatic 14, 3) := by decide +kernel
theorem own_d3_5 : decode prog_47_method_3_code 5 = .ok (.iload_n 1, 1) := by decide +kernel
theorem own_d3_6 : decode prog_47_method_3_code 6 = .ok (.ixor, 1) := by decide +kernel
theorem own_d3_7 : decode prog_47_method_3_code 7 = .ok (.ireturn, 1) := by decide +kernel
theorem own_ef3 (m : MethodId) (x0 : Int32) (x1 : Int32) (x2 : Int32) : entryFrame m #[(.int x0), (.int x1), (.int x2)] 3 = mkF m 0 #[.val (.int x0), .val (.int x1), .val (.int x2)] [] := by first | (simp [entryFrame, mkF, argsToLocals, Value.category]; done) | rfl
theorem own_pn3 : plainFor (⟨"com/example/hearthroll/hearthroll/util/JoinedCrc32", "of", "(III)I"⟩ : MethodName) = true := by first | exact plainFor_of_name (by first | (simp [plainName, overriddenIn]; done) | decide +kernel) | exact Jvm.Free.JP.mathPlain rfl (by decide +kernel)
set_option maxRecDepth 65536 in
set_option maxHeartbeats 40000000 in
theorem own_rm3 (l : Launch) (Z : State) (a0 : Array Value) (hw : ∀ d ∈ tables_1, d.before a0 Z = true) (p1 : Int32) (p2 : Int32) (p3 : Int32) (h0 : Heap) (n0 : Nat) (Z0 : n0 ≤ h0.size)  :
    OwnMet l Z (⟨"com/example/hearthroll/hearthroll/util/JoinedCrc32", "of", "(III)I"⟩ : MethodName) prog_47_method_3_code 3 (some .int) ({ frames := 1, cells := 0, slots := 0, locals := 16 } : Room) #[(.int p1), (.int p2), (.int p3)] h0 n0 (fun v h => v = some (.int (ownMulI p1 p3 ^^^ p2)) ∧ h0 = h) := by
  refine own_body own_pn3 ?_
  intro p e s m below meth c s₁ RR X0
  refine own_enter (own_ef3 m p1 p2 p3) ?_
  refine own_iloadN X0 own_d3_0 (pc' := 1) rfl rfl ?_
  refine own_iloadN X0 own_d3_1 (pc' := 2) rfl rfl ?_
  refine own_callS (argsL := [(.int p1), (.int p3)]) X0 own_d3_2 (y := (⟨"com/example/hearthroll/hearthroll/util/JoinedCrc32", "multiply", "(II)I"⟩ : MethodName)) (by decide) (hw _ (List.mem_of_getElem? (i := 8) rfl)) (hw _ (List.mem_of_getElem? (i := 9) rfl)) (hw _ (List.mem_of_getElem? (i := 10) rfl)) (hw _ (List.mem_of_getElem? (i := 3) rfl)) (own_rm2 l Z a0 hw p1 p3 h0 n0 Z0 ) own_pd0 rfl (S := []) rfl (pc' := 5) rfl rfl (W := 0) (Nat.le_of_eq rfl) (by decide) (by decide) (by decide) (by decide) ?_
  intro T1 h1 v1_ X1 q1_
  obtain ⟨rfl, rfl⟩ := q1_
  obtain ⟨r1, hr1⟩ : ∃ z, z = (ownMulI p1 p3) := ⟨_, rfl⟩
  show OwnGo p e below (T1.setTop (mkF m 5 #[.val (.int p1), .val (.int p2), .val (.int p3)] [(.int (ownMulI p1 p3))])) RR
  rw [← hr1]
  refine own_iloadN X1 own_d3_5 (pc' := 6) rfl rfl ?_
  refine own_ixor X1 own_d3_6 (pc' := 7) rfl ?_
  exact own_retI X1 own_d3_7 ⟨(by rw [hr1]), rfl⟩ (by decide) (by decide)
theorem own_pd1 : parseMethodDescriptor "(J)I" = some ⟨[.long], some .int⟩ := by decide +kernel
theorem own_pd2 : parseMethodDescriptor "(III)I" = some ⟨[.int, .int, .int], some .int⟩ := by decide +kernel
theorem own_ef0 (m : MethodId) (x0 : Int64) (x1 : Int64) (x2 : Int32) : entryFrame m #[(.long x0), (.long x1), (.int x2)] maxLocals = mkF m 0 #[.val (.long x0), .second, .val (.long x1), .second, .val (.int x2), .unset, .unset, .unset, .unset, .unset, .unset, .unset, .unset, .unset, .unset, .unset] [] := by first | (simp [entryFrame, mkF, argsToLocals, Value.category, maxLocals]; done) | rfl
theorem own_pn0 : plainFor x = true := by first | exact plainFor_of_name (by first | (simp [plainName, overriddenIn]; done) | decide +kernel) | exact Jvm.Free.JP.mathPlain rfl (by decide +kernel)
set_option maxRecDepth 65536 in
set_option maxHeartbeats 40000000 in
theorem own_rm0 (l : Launch) (Z : State) (a0 : Array Value) (hw : ∀ d ∈ tables_1, d.before a0 Z = true) (q1 : Int64) (q2 : Int64) (p3 : Int32) (d1 : Addr) (h0 : Heap) (n0 : Nat) (Z0 : n0 ≤ h0.size) (S_BYTE_POWERS : Sta Z h0 "com/example/hearthroll/hearthroll/util/JoinedCrc32" "BYTE_POWERS" "[I" (.ref d1)) (V_d1 : OwnAr Z h0 d1 .int (ownBP.map Value.int)) :
    OwnMet l Z x code maxLocals ret room_1 #[(.long q1), (.long q2), (.int p3)] h0 n0 (fun v h => v = some (.int 1)) := by
  refine own_body own_pn0 ?_
  intro p e s m below meth c s₁ RR X0
  refine own_enter (own_ef0 m q1 q2 p3) ?_
  refine own_lloadN X0 at_0 (pc' := 1) rfl rfl ?_
  refine own_ldc2Long X0 at_1 (pc' := 4) rfl (hw _ (List.mem_of_getElem? (i := 0) rfl)) ?_
  refine own_land X0 at_4 (pc' := 5) rfl ?_
  refine own_lstoreV X0 at_5 (pc' := 7) rfl (l' := fun v5 => #[.val (.long q1), .second, .val (.long q2), .second, .val (.int p3), .val (.long v5), .second, .unset, .unset, .unset, .unset, .unset, .unset, .unset, .unset, .unset]) (fun _ => rfl) ?_
  intro v5 hv5
  refine own_lloadN X0 at_7 (pc' := 8) rfl rfl ?_
  refine own_ldc2Long X0 at_8 (pc' := 11) rfl (hw _ (List.mem_of_getElem? (i := 0) rfl)) ?_
  refine own_land X0 at_11 (pc' := 12) rfl ?_
  refine own_lstoreV X0 at_12 (pc' := 14) rfl (l' := fun v12 => #[.val (.long q1), .second, .val (.long q2), .second, .val (.int p3), .val (.long v5), .second, .val (.long v12), .second, .unset, .unset, .unset, .unset, .unset, .unset, .unset]) (fun _ => rfl) ?_
  intro v12 hv12
  refine own_lload X0 at_14 (pc' := 16) rfl rfl ?_
  refine own_callS (argsL := [(.long v5)]) X0 at_16 (y := (⟨"com/example/hearthroll/hearthroll/util/JoinedCrc32", "factor", "(J)I"⟩ : MethodName)) (by decide) (hw _ (List.mem_of_getElem? (i := 1) rfl)) (hw _ (List.mem_of_getElem? (i := 2) rfl)) (hw _ (List.mem_of_getElem? (i := 4) rfl)) (hw _ (List.mem_of_getElem? (i := 3) rfl)) (own_rm1 l Z a0 hw v5 d1 h0 n0 Z0 S_BYTE_POWERS V_d1) own_pd1 rfl (S := []) rfl (pc' := 19) rfl rfl (W := 0) (Nat.le_of_eq rfl) (by decide) (by decide) (by decide) (by decide) ?_
  intro T1 h1 v1_ X1 q1_
  obtain ⟨rfl, rfl⟩ := q1_
  obtain ⟨r1, hr1⟩ : ∃ z, z = (ownFacI v5 64) := ⟨_, rfl⟩
  show OwnGo p e below (T1.setTop (mkF m 19 #[.val (.long q1), .second, .val (.long q2), .second, .val (.int p3), .val (.long v5), .second, .val (.long v12), .second, .unset, .unset, .unset, .unset, .unset, .unset, .unset] [(.int (ownFacI v5 64))])) RR
  rw [← hr1]
  refine own_istore X1 at_19 (pc' := 21) rfl (l' := #[.val (.long q1), .second, .val (.long q2), .second, .val (.int p3), .val (.long v5), .second, .val (.long v12), .second, .val (.int r1), .unset, .unset, .unset, .unset, .unset, .unset]) rfl ?_
  refine own_lload X1 at_21 (pc' := 23) rfl rfl ?_
  refine own_callS (argsL := [(.long v12)]) X1 at_23 (y := (⟨"com/example/hearthroll/hearthroll/util/JoinedCrc32", "factor", "(J)I"⟩ : MethodName)) (by decide) (hw _ (List.mem_of_getElem? (i := 1) rfl)) (hw _ (List.mem_of_getElem? (i := 2) rfl)) (hw _ (List.mem_of_getElem? (i := 4) rfl)) (hw _ (List.mem_of_getElem? (i := 3) rfl)) (own_rm1 l Z a0 hw v12 d1 h0 n0 Z0 S_BYTE_POWERS V_d1) own_pd1 rfl (S := []) rfl (pc' := 26) rfl rfl (W := 0) (Nat.le_of_eq rfl) (by decide) (by decide) (by decide) (by decide) ?_
  intro T2 h2 v2_ X2 q2_
  obtain ⟨rfl, rfl⟩ := q2_
  obtain ⟨r2, hr2⟩ : ∃ z, z = (ownFacI v12 64) := ⟨_, rfl⟩
  show OwnGo p e below (T2.setTop (mkF m 26 #[.val (.long q1), .second, .val (.long q2), .second, .val (.int p3), .val (.long v5), .second, .val (.long v12), .second, .val (.int r1), .unset, .unset, .unset, .unset, .unset, .unset] [(.int (ownFacI v12 64))])) RR
  rw [← hr2]
  refine own_istore X2 at_26 (pc' := 28) rfl (l' := #[.val (.long q1), .second, .val (.long q2), .second, .val (.int p3), .val (.long v5), .second, .val (.long v12), .second, .val (.int r1), .val (.int r2), .unset, .unset, .unset, .unset, .unset]) rfl ?_
  refine own_lload X2 at_28 (pc' := 30) rfl rfl ?_
  refine own_lload X2 at_30 (pc' := 32) rfl rfl ?_
  refine own_ladd X2 at_32 (pc' := 33) rfl ?_
  refine own_callS (argsL := [(.long (v5 + v12))]) X2 at_33 (y := (⟨"com/example/hearthroll/hearthroll/util/JoinedCrc32", "factor", "(J)I"⟩ : MethodName)) (by decide) (hw _ (List.mem_of_getElem? (i := 1) rfl)) (hw _ (List.mem_of_getElem? (i := 2) rfl)) (hw _ (List.mem_of_getElem? (i := 4) rfl)) (hw _ (List.mem_of_getElem? (i := 3) rfl)) (own_rm1 l Z a0 hw ((v5 + v12)) d1 h0 n0 Z0 S_BYTE_POWERS V_d1) own_pd1 rfl (S := []) rfl (pc' := 36) rfl rfl (W := 0) (Nat.le_of_eq rfl) (by decide) (by decide) (by decide) (by decide) ?_
  intro T3 h3 v3_ X3 q3_
  obtain ⟨rfl, rfl⟩ := q3_
  obtain ⟨r3, hr3⟩ : ∃ z, z = (ownFacI (v5 + v12) 64) := ⟨_, rfl⟩
  show OwnGo p e below (T3.setTop (mkF m 36 #[.val (.long q1), .second, .val (.long q2), .second, .val (.int p3), .val (.long v5), .second, .val (.long v12), .second, .val (.int r1), .val (.int r2), .unset, .unset, .unset, .unset, .unset] [(.int (ownFacI (v5 + v12) 64))])) RR
  rw [← hr3]
  refine own_istore X3 at_36 (pc' := 38) rfl (l' := #[.val (.long q1), .second, .val (.long q2), .second, .val (.int p3), .val (.long v5), .second, .val (.long v12), .second, .val (.int r1), .val (.int r2), .val (.int r3), .unset, .unset, .unset, .unset]) rfl ?_
  refine own_iload X3 at_38 (pc' := 40) rfl rfl ?_
  refine own_iconst X3 at_40 (pc' := 41) rfl (v := (0 : Int32)) (by decide) ?_
  refine own_iload X3 at_41 (pc' := 43) rfl rfl ?_
  refine own_callS (argsL := [(.int r1), (.int (0 : Int32)), (.int r2)]) X3 at_43 (y := (⟨"com/example/hearthroll/hearthroll/util/JoinedCrc32", "of", "(III)I"⟩ : MethodName)) (by decide) (hw _ (List.mem_of_getElem? (i := 12) rfl)) (hw _ (List.mem_of_getElem? (i := 13) rfl)) (hw _ (List.mem_of_getElem? (i := 14) rfl)) (hw _ (List.mem_of_getElem? (i := 3) rfl)) (own_rm3 l Z a0 hw r1 (0 : Int32) r2 h0 n0 Z0 ) own_pd2 rfl (S := []) rfl (pc' := 46) rfl rfl (W := 0) (Nat.le_of_eq rfl) (by decide) (by decide) (by decide) (by decide) ?_
  intro T4 h4 v4_ X4 q4_
  obtain ⟨rfl, rfl⟩ := q4_
  obtain ⟨r4, hr4⟩ : ∃ z, z = (ownMulI r1 r2 ^^^ (0 : Int32)) := ⟨_, rfl⟩
  show OwnGo p e below (T4.setTop (mkF m 46 #[.val (.long q1), .second, .val (.long q2), .second, .val (.int p3), .val (.long v5), .second, .val (.long v12), .second, .val (.int r1), .val (.int r2), .val (.int r3), .unset, .unset, .unset, .unset] [(.int (ownMulI r1 r2 ^^^ (0 : Int32)))])) RR
  rw [← hr4]
  refine own_iload X4 at_46 (pc' := 48) rfl rfl ?_
  have j56_5 : ∀ (f56_s0 : Int32), f56_s0 = (if r4 = r3 then (1 : Int32) else (0 : Int32)) → OwnGo p e below (T4.setTop (mkF m 56 #[.val (.long q1), .second, .val (.long q2), .second, .val (.int p3), .val (.long v5), .second, .val (.long v12), .second, .val (.int r1), .val (.int r2), .val (.int r3), .unset, .unset, .unset, .unset] [(.int f56_s0)])) RR := by
    intro f56_s0 hf56_s0
    refine own_istore X4 at_56 (pc' := 58) rfl (l' := #[.val (.long q1), .second, .val (.long q2), .second, .val (.int p3), .val (.long v5), .second, .val (.long v12), .second, .val (.int r1), .val (.int r2), .val (.int r3), .val (.int f56_s0), .unset, .unset, .unset]) rfl ?_
    refine own_iload X4 at_58 (pc' := 60) rfl rfl ?_
    refine own_ldcInt X4 at_60 (pc' := 62) rfl (hw _ (List.mem_of_getElem? (i := 15) rfl)) ?_
    refine own_iand X4 at_62 (pc' := 63) rfl ?_
    refine own_iconst X4 at_63 (pc' := 64) rfl (v := (5 : Int32)) (by decide) ?_
    refine own_irem X4 at_64 (pc' := 65) rfl (by decide) ?_
    refine own_istoreV X4 at_65 (pc' := 67) rfl (l' := fun v65 => #[.val (.long q1), .second, .val (.long q2), .second, .val (.int p3), .val (.long v5), .second, .val (.long v12), .second, .val (.int r1), .val (.int r2), .val (.int r3), .val (.int f56_s0), .val (.int v65), .unset, .unset]) (fun _ => rfl) ?_
    intro v65 hv65
    refine own_iload X4 at_67 (pc' := 69) rfl rfl ?_
    refine own_iconst X4 at_69 (pc' := 70) rfl (v := (4 : Int32)) (by decide) ?_
    have j90_6 : ∀ (f90_14 : Int32), f90_14 = (if v65 < (4 : Int32) then ((-2147483648 : Int32).toUInt32 >>> (((8 : Int32) * v65) &&& 31).toUInt32).toInt32 else (-306674912 : Int32)) → OwnGo p e below (T4.setTop (mkF m 90 #[.val (.long q1), .second, .val (.long q2), .second, .val (.int p3), .val (.long v5), .second, .val (.long v12), .second, .val (.int r1), .val (.int r2), .val (.int r3), .val (.int f56_s0), .val (.int v65), .val (.int f90_14), .unset] [])) RR := by
      intro f90_14 hf90_14
      refine own_iload X4 at_90 (pc' := 92) rfl rfl ?_
      refine own_i2l X4 at_92 (pc' := 93) rfl ?_
      refine own_callS (argsL := [(.long (v65.toInt64))]) X4 at_93 (y := (⟨"com/example/hearthroll/hearthroll/util/JoinedCrc32", "factor", "(J)I"⟩ : MethodName)) (by decide) (hw _ (List.mem_of_getElem? (i := 1) rfl)) (hw _ (List.mem_of_getElem? (i := 2) rfl)) (hw _ (List.mem_of_getElem? (i := 4) rfl)) (hw _ (List.mem_of_getElem? (i := 3) rfl)) (own_rm1 l Z a0 hw ((v65.toInt64)) d1 h0 n0 Z0 S_BYTE_POWERS V_d1) own_pd1 rfl (S := []) rfl (pc' := 96) rfl rfl (W := 0) (Nat.le_of_eq rfl) (by decide) (by decide) (by decide) (by decide) ?_
      intro T7 h7 v7_ X7 q7_
      obtain ⟨rfl, rfl⟩ := q7_
      obtain ⟨r7, hr7⟩ : ∃ z, z = (ownFacI (v65.toInt64) 64) := ⟨_, rfl⟩
      show OwnGo p e below (T7.setTop (mkF m 96 #[.val (.long q1), .second, .val (.long q2), .second, .val (.int p3), .val (.long v5), .second, .val (.long v12), .second, .val (.int r1), .val (.int r2), .val (.int r3), .val (.int f56_s0), .val (.int v65), .val (.int f90_14), .unset] [(.int (ownFacI (v65.toInt64) 64))])) RR
      rw [← hr7]
      refine own_iload X7 at_96 (pc' := 98) rfl rfl ?_
      have j106_8 : ∀ (f106_s0 : Int32), f106_s0 = (if r7 = f90_14 then (1 : Int32) else (0 : Int32)) → OwnGo p e below (T7.setTop (mkF m 106 #[.val (.long q1), .second, .val (.long q2), .second, .val (.int p3), .val (.long v5), .second, .val (.long v12), .second, .val (.int r1), .val (.int r2), .val (.int r3), .val (.int f56_s0), .val (.int v65), .val (.int f90_14), .unset] [(.int f106_s0)])) RR := by
        intro f106_s0 hf106_s0
        refine own_istore X7 at_106 (pc' := 108) rfl (l' := #[.val (.long q1), .second, .val (.long q2), .second, .val (.int p3), .val (.long v5), .second, .val (.long v12), .second, .val (.int r1), .val (.int r2), .val (.int r3), .val (.int f56_s0), .val (.int v65), .val (.int f90_14), .val (.int f106_s0)]) rfl ?_
        refine own_iload X7 at_108 (pc' := 110) rfl rfl ?_
        refine own_ifN X7 at_110 (feq ((by rw [hf56_s0, if_pos (own_add _ _ _ _ hv5 hv12 _ _ _ _ hr1 hr2 hr3 hr4)]; decide : ¬ (f56_s0 = (0 : Int32))))).1 (pc' := 113) rfl ?_
        refine own_iload X7 at_113 (pc' := 115) rfl rfl ?_
        refine own_ifN X7 at_115 (feq ((by rw [hf106_s0, if_pos (own_anch _ _ _ (by rw [hv65]; exact own_p5m _) hf90_14 hr7)]; decide : ¬ (f106_s0 = (0 : Int32))))).1 (pc' := 118) rfl ?_
        refine own_iconst X7 at_118 (pc' := 119) rfl (v := (1 : Int32)) (by decide) ?_
        refine own_goto X7 at_119 (pc' := 123) (by decide) (by decide) ?_
        exact own_retZ X7 at_123 (by decide) rfl (by decide) (by decide)
      by_cases hc98 : r7 = f90_14
      · refine own_icN X7 at_98 (teq (hc98)).2 (pc' := 101) rfl ?_
        refine own_iconst X7 at_101 (pc' := 102) rfl (v := (1 : Int32)) (by decide) ?_
        refine own_goto X7 at_102 (pc' := 106) (by decide) (by decide) ?_
        exact j106_8 _ (by rw [if_pos hc98])
      · refine own_icY X7 at_98 (feq (hc98)).2 (pc' := 105) (by decide) (by decide) ?_
        refine own_iconst X7 at_105 (pc' := 106) rfl (v := (0 : Int32)) (by decide) ?_
        exact j106_8 _ (by rw [if_neg hc98])
    by_cases hc70 : v65 < (4 : Int32)
    · refine own_icN X4 at_70 (tlt (hc70)).2.1 (pc' := 73) rfl ?_
      refine own_ldcInt X4 at_73 (pc' := 75) rfl (hw _ (List.mem_of_getElem? (i := 16) rfl)) ?_
      refine own_bipush X4 at_75 (pc' := 77) rfl (v := (8 : Int32)) (by decide) ?_
      refine own_iload X4 at_77 (pc' := 79) rfl rfl ?_
      refine own_imul X4 at_79 (pc' := 80) rfl ?_
      refine own_iushr X4 at_80 (pc' := 81) rfl ?_
      refine own_istore X4 at_81 (pc' := 83) rfl (l' := #[.val (.long q1), .second, .val (.long q2), .second, .val (.int p3), .val (.long v5), .second, .val (.long v12), .second, .val (.int r1), .val (.int r2), .val (.int r3), .val (.int f56_s0), .val (.int v65), .val (.int ((-2147483648 : Int32).toUInt32 >>> (((8 : Int32) * v65) &&& 31).toUInt32).toInt32), .unset]) rfl ?_
      refine own_goto X4 at_83 (pc' := 90) (by decide) (by decide) ?_
      exact j90_6 _ (by rw [if_pos hc70])
    · refine own_icY X4 at_70 (flt (hc70)).2.1 (pc' := 86) (by decide) (by decide) ?_
      refine own_ldcInt X4 at_86 (pc' := 88) rfl (hw _ (List.mem_of_getElem? (i := 17) rfl)) ?_
      refine own_istore X4 at_88 (pc' := 90) rfl (l' := #[.val (.long q1), .second, .val (.long q2), .second, .val (.int p3), .val (.long v5), .second, .val (.long v12), .second, .val (.int r1), .val (.int r2), .val (.int r3), .val (.int f56_s0), .val (.int v65), .val (.int (-306674912 : Int32)), .unset]) rfl ?_
      exact j90_6 _ (by rw [if_neg hc70])
  by_cases hc48 : r4 = r3
  · refine own_icN X4 at_48 (teq (hc48)).2 (pc' := 51) rfl ?_
    refine own_iconst X4 at_51 (pc' := 52) rfl (v := (1 : Int32)) (by decide) ?_
    refine own_goto X4 at_52 (pc' := 56) (by decide) (by decide) ?_
    exact j56_5 _ (by rw [if_pos hc48])
  · refine own_icY X4 at_48 (feq (hc48)).2 (pc' := 55) (by decide) (by decide) ?_
    refine own_iconst X4 at_55 (pc' := 56) rfl (v := (0 : Int32)) (by decide) ?_
    exact j56_5 _ (by rw [if_neg hc48])
set_option maxRecDepth 65536 in
set_option maxHeartbeats 40000000 in
theorem own_comes {Post : Tables → Env → Array Value → State → Outcome → State → Prop} (hpost : ∀ tb e args s v u, (limb_1_1.after args s (.returned v) u = true ∧ limb_1_2.after args s (.returned v) u = true ∧ True) → FrameEnd s (.returned v) u (Jvm.fieldLocs frame_1_writes args s ++ Jvm.arrayLocs frame_1_arrays args s ++ Jvm.staticLocs frame_1_statics s) 0 0 → Post tb e args s (.returned v) u) :
    ArmFor flags0 classFile x code maxLocals ret World_1 tables_1 room_1 Calls_1 rest_1 Pre_1 Post := by
  intro l hfl _ _ p e ha hc hk s m args below hf hA hF happ hP
  obtain ⟨hcalls, hrest, hpre⟩ := hP
  obtain ⟨-, -, -, hnamed, -, -, -, hat⟩ := (Spec.applies_iff hf).mp happ
  obtain ⟨hg, hn⟩ := and_e (Cond.before_iff.mp (show (Jvm.Cond.and given_1 narrow_1).before args s = true from hpre))
  obtain ⟨gc, g0⟩ := and_e hg
  obtain ⟨w0_, g1⟩ := and_e g0
  obtain ⟨w1_, g2⟩ := and_e g1
  obtain ⟨z0, z1, z2, rfl⟩ : ∃ z0 z1 z2 : Value, args = #[z0, z1, z2] := by
    have hs : args.size = 3 := by simpa [Cond.value, given_1] using gc
    obtain ⟨L⟩ := args
    match L, hs with
    | [z0, z1, z2], _ => exact ⟨z0, z1, z2, rfl⟩
  have hw := fun d (hd : d ∈ tables_1) => atoms_spec (ws := Jvm.Cond.code x code maxLocals ret :: tables_1) hat d (List.mem_cons_of_mem _ hd)
  obtain ⟨i0, ei0⟩ := isL_v w0_
  obtain rfl : z0 = (.long i0) := Option.some.inj ei0
  obtain ⟨i1, ei1⟩ := isL_v w1_
  obtain rfl : z1 = (.long i1) := Option.some.inj ei1
  obtain ⟨i2, ei2⟩ := is_v g2
  obtain rfl : z2 = (.int i2) := Option.some.inj ei2
  obtain ⟨n0_, m0_⟩ := and_e hn
  obtain ⟨n1_, m1_⟩ := and_e m0_
  obtain ⟨n2_, m2_⟩ := and_e m1_
  obtain ⟨n3_, m3_⟩ := and_e m2_
  obtain ⟨n4_, m4_⟩ := and_e m3_
  obtain ⟨n5_, m5_⟩ := and_e m4_
  obtain ⟨n6_, m6_⟩ := and_e m5_
  obtain ⟨n7_, m7_⟩ := and_e m6_
  obtain ⟨n8_, m8_⟩ := and_e m7_
  obtain ⟨n9_, m9_⟩ := and_e m8_
  obtain ⟨n10_, m10_⟩ := and_e m9_
  obtain ⟨n11_, m11_⟩ := and_e m10_
  obtain ⟨n12_, m12_⟩ := and_e m11_
  obtain ⟨n13_, m13_⟩ := and_e m12_
  obtain ⟨n14_, m14_⟩ := and_e m13_
  obtain ⟨n15_, m15_⟩ := and_e m14_
  obtain ⟨n16_, m16_⟩ := and_e m15_
  obtain ⟨n17_, m17_⟩ := and_e m16_
  obtain ⟨n18_, m18_⟩ := and_e m17_
  obtain ⟨n19_, m19_⟩ := and_e m18_
  obtain ⟨n20_, m20_⟩ := and_e m19_
  obtain ⟨n21_, m21_⟩ := and_e m20_
  obtain ⟨n22_, m22_⟩ := and_e m21_
  obtain ⟨n23_, m23_⟩ := and_e m22_
  obtain ⟨n24_, m24_⟩ := and_e m23_
  obtain ⟨n25_, m25_⟩ := and_e m24_
  obtain ⟨n26_, m26_⟩ := and_e m25_
  obtain ⟨n27_, m27_⟩ := and_e m26_
  obtain ⟨n28_, m28_⟩ := and_e m27_
  obtain ⟨n29_, m29_⟩ := and_e m28_
  obtain ⟨n30_, m30_⟩ := and_e m29_
  obtain ⟨n31_, m31_⟩ := and_e m30_
  obtain ⟨n32_, m32_⟩ := and_e m31_
  obtain ⟨n33_, m33_⟩ := and_e m32_
  obtain ⟨n34_, m34_⟩ := and_e m33_
  obtain ⟨n35_, m35_⟩ := and_e m34_
  obtain ⟨n36_, m36_⟩ := and_e m35_
  obtain ⟨n37_, m37_⟩ := and_e m36_
  obtain ⟨n38_, m38_⟩ := and_e m37_
  obtain ⟨n39_, m39_⟩ := and_e m38_
  obtain ⟨n40_, m40_⟩ := and_e m39_
  obtain ⟨n41_, m41_⟩ := and_e m40_
  obtain ⟨n42_, m42_⟩ := and_e m41_
  obtain ⟨n43_, m43_⟩ := and_e m42_
  obtain ⟨n44_, m44_⟩ := and_e m43_
  obtain ⟨n45_, m45_⟩ := and_e m44_
  obtain ⟨n46_, m46_⟩ := and_e m45_
  obtain ⟨n47_, m47_⟩ := and_e m46_
  obtain ⟨n48_, m48_⟩ := and_e m47_
  obtain ⟨n49_, m49_⟩ := and_e m48_
  obtain ⟨n50_, m50_⟩ := and_e m49_
  obtain ⟨n51_, m51_⟩ := and_e m50_
  obtain ⟨n52_, m52_⟩ := and_e m51_
  obtain ⟨n53_, m53_⟩ := and_e m52_
  obtain ⟨n54_, m54_⟩ := and_e m53_
  obtain ⟨n55_, m55_⟩ := and_e m54_
  obtain ⟨n56_, m56_⟩ := and_e m55_
  obtain ⟨n57_, m57_⟩ := and_e m56_
  obtain ⟨n58_, m58_⟩ := and_e m57_
  obtain ⟨n59_, m59_⟩ := and_e m58_
  obtain ⟨n60_, m60_⟩ := and_e m59_
  obtain ⟨n61_, m61_⟩ := and_e m60_
  obtain ⟨n62_, m62_⟩ := and_e m61_
  obtain ⟨n63_, m63_⟩ := and_e m62_
  obtain ⟨n64_, m64_⟩ := and_e m63_
  obtain ⟨d1, ed1⟩ := arr_v n0_
  obtain ⟨cl, A⟩ := Arr.start ed1 n0_
  have hsz := own_len ed1 A n1_
  have Sd := Sta.start ed1 (Or.inr ⟨(hw _ (List.mem_of_getElem? (i := 3) rfl)), (hw _ (List.mem_of_getElem? (i := 7) rfl))⟩)
  have Vd : OwnAr s s.heap d1 .int (ownBP.map Value.int) := own_arOf A (own_sz hsz.1 hsz.2) (by decide) ⟨own_elI ed1 A n2_, own_elI ed1 A n3_, own_elI ed1 A n4_, own_elI ed1 A n5_, own_elI ed1 A n6_, own_elI ed1 A n7_, own_elI ed1 A n8_, own_elI ed1 A n9_, own_elI ed1 A n10_, own_elI ed1 A n11_, own_elI ed1 A n12_, own_elI ed1 A n13_, own_elI ed1 A n14_, own_elI ed1 A n15_, own_elI ed1 A n16_, own_elI ed1 A n17_, own_elI ed1 A n18_, own_elI ed1 A n19_, own_elI ed1 A n20_, own_elI ed1 A n21_, own_elI ed1 A n22_, own_elI ed1 A n23_, own_elI ed1 A n24_, own_elI ed1 A n25_, own_elI ed1 A n26_, own_elI ed1 A n27_, own_elI ed1 A n28_, own_elI ed1 A n29_, own_elI ed1 A n30_, own_elI ed1 A n31_, own_elI ed1 A n32_, own_elI ed1 A n33_, own_elI ed1 A n34_, own_elI ed1 A n35_, own_elI ed1 A n36_, own_elI ed1 A n37_, own_elI ed1 A n38_, own_elI ed1 A n39_, own_elI ed1 A n40_, own_elI ed1 A n41_, own_elI ed1 A n42_, own_elI ed1 A n43_, own_elI ed1 A n44_, own_elI ed1 A n45_, own_elI ed1 A n46_, own_elI ed1 A n47_, own_elI ed1 A n48_, own_elI ed1 A n49_, own_elI ed1 A n50_, own_elI ed1 A n51_, own_elI ed1 A n52_, own_elI ed1 A n53_, own_elI ed1 A n54_, own_elI ed1 A n55_, own_elI ed1 A n56_, own_elI ed1 A n57_, own_elI ed1 A n58_, own_elI ed1 A n59_, own_elI ed1 A n60_, own_elI ed1 A n61_, own_elI ed1 A n62_, own_elI ed1 A n63_, own_elI ed1 A n64_, own_elI ed1 A m64_, trivial⟩
  obtain ⟨n, o, h1, h2, h3, _, L, rfl, ⟨⟨rfl, -⟩, N⟩, hq⟩ := own_rm0 l s _ hw i0 i1 i2 d1 s.heap s.heap.size (Nat.le_refl _) Sd Vd tables_1 p e ha hc hk s m _ below hf ((Spec.applies_iff_loose hf).mp happ).1 ⟨rfl, State.Warmed39.refl s, rfl⟩ trivial
  exact ⟨n, _, h1, h2, h3, hpost _ _ _ _ _ _ ⟨Cond.after_iff.mpr rfl, Cond.after_iff.mpr (eq_i res_at (Term.int_eval (1)) rfl), trivial⟩ ⟨hq.1, hq.2.1, (hq.2.2.sift fun y hy => Or.inr (N y hy)).mono (by decide) (by decide)⟩⟩
theorem main_1_1 : Claimed_1_1 := own_comes fun _ _ _ _ _ _ h hF => ⟨h.1, hF⟩
theorem main_1_2 : Claimed_1_2 := own_comes fun _ _ _ _ _ _ h hF => ⟨h.2.1, hF⟩
end Jvm.Pilot.@@N@@
namespace Jvm.Pilot.@@N@@
open Jvm Jvm.ClassFile Sem Op Lib Jvm.Free Jvm.Stand Jvm.Pilot.@@N@@.Jvm.D
/-! MADE BY PROGRAM (witnessworld.py) out of the Statement's table words and the real class files: 9 classes; the members and pool entries that the words name. The judged class is class 1, her method 1. -/
namespace start1
open Jvm.ClassFile
def u (s : String) : CpInfo := .utf8 (stringToUtf16 s)
/-- a pool by its gaps: so many unusable entries, then the entry; so many at the end -/
def gap : Nat → List CpInfo → List CpInfo
  | 0, r => r
  | n + 1, r => .unusable :: gap n r
def poolList (es : List (Nat × CpInfo)) (last : Nat) : List CpInfo := es.foldr (fun e r => gap e.1 (e.2 :: r)) (gap last [])
def pool (es : List (Nat × CpInfo)) (last : Nat) : Array CpInfo := ⟨poolList es last⟩
def fileOf (pool : Array CpInfo) (this : Nat) (attrs : Array Attribute := #[]) (ms : Array MethodInfo := #[]) (fl : Nat := 33) (sup : Nat := 0) (ifs : Array Nat := #[]) (fds : Array FieldInfo := #[]) : ClassFile where
  minorVersion := 0
  majorVersion := 65
  constantPool := pool
  accessFlags := fl
  thisClass := this
  superClass := sup
  interfaces := ifs
  fields := fds
  methods := ms
  attributes := attrs
def plain (name : String) (sup : Option ClassId) : Class where
  name := name
  kind := .ordinary
  loader := none
  accessFlags := 33
  super := sup
  interfaces := #[]
  cf := none
  fields := #[]
  methods := #[]
  instanceTypes := #[]
  staticTypes := #[]
  resolved := #[]
  callSites := []
  init := .initialized
  statics := none
  mirror := none

def pool0 : Array CpInfo := pool [(5, u "<init>"), (0, u "()V"), (1, .class_ 10), (1, u "java/lang/Object")] 113

def k0m0 : Method := { name := "<init>", desc := "()V", sig := { parameters := [], returnType := none }, accessFlags := 1, code := none }
/-- java/lang/Object -/
def k0 : Class := { plain "java/lang/Object" none with
  accessFlags := 33
  interfaces := #[]
  cf := some (fileOf pool0 8 #[] #[{ accessFlags := 1, nameIndex := 5, descriptorIndex := 6, attributes := #[] }] 33 0 #[] #[])
  fields := #[]
  methods := #[k0m0]
  instanceTypes := #[]
  staticTypes := #[]
  resolved := Array.replicate 124 none
  statics := none }

def pool1 : Array CpInfo := pool [(2, .class_ 4), (1, u "java/lang/Object"), (0, u "<init>"), (0, u "()V"), (0, .long 4611686018427387903), (1, .methodref 10 11), (0, .class_ 12), (0, .nameAndType 13 14), (0, u "com/example/hearthroll/hearthroll/util/JoinedCrc32"), (0, u "factor"), (0, u "(J)I"), (0, .methodref 10 16), (0, .nameAndType 17 18), (0, u "of"), (0, u "(III)I"), (0, .integer 2147483647), (0, .integer 2147483648), (0, .integer 3988292384), (0, .class_ 23), (0, u "com/example/hearthroll/hearthroll/util/JoinedCrc32FactorPinLaw"), (2, u "law"), (0, u "(JJI)Z")] 3

def k1m0 : Method := { name := "<init>", desc := "()V", sig := { parameters := [], returnType := none }, accessFlags := 2, code := none }
def k1c1 : Code := { maxStack := 4, maxLocals := 16, code := code, exceptionTable := #[], attributes := #[] }
def k1m1 : Method := { name := "law", desc := "(JJI)Z", sig := { parameters := [.long, .long, .int], returnType := some .boolean }, accessFlags := 9, code := some k1c1 }
/-- com/example/hearthroll/hearthroll/util/JoinedCrc32FactorPinLaw -/
def k1 : Class := { plain "com/example/hearthroll/hearthroll/util/JoinedCrc32FactorPinLaw" (some 0) with
  accessFlags := 49
  interfaces := #[]
  cf := some (fileOf pool1 22 #[] #[{ accessFlags := 2, nameIndex := 5, descriptorIndex := 6, attributes := #[] }, { accessFlags := 9, nameIndex := 26, descriptorIndex := 27, attributes := #[] }] 49 2 #[] #[])
  fields := #[]
  methods := #[k1m0, k1m1]
  instanceTypes := #[]
  staticTypes := #[]
  resolved := Array.replicate 31 none
  statics := none }

def pool2 : Array CpInfo := pool [(2, .class_ 4), (1, u "java/lang/Object"), (0, u "<init>"), (0, u "()V"), (0, .class_ 8), (0, u "com/example/hearthroll/hearthroll/util/JoinedCrc32"), (0, .integer 2147483648), (0, .fieldref 7 11), (0, .nameAndType 12 13), (0, u "BYTE_POWERS"), (0, u "[I"), (0, .methodref 7 15), (0, .nameAndType 16 17), (0, u "multiply"), (0, u "(II)I"), (0, .integer 3988292384), (7, u "GENERATOR"), (0, u "I"), (1, u "ONE"), (2, u "factor"), (0, u "(J)I"), (1, u "of"), (0, u "(III)I")] 4

def k2m0 : Method := { name := "<init>", desc := "()V", sig := { parameters := [], returnType := none }, accessFlags := 2, code := none }
def k2c1 : Code := { maxStack := 4, maxLocals := 6, code := prog_47_method_2_code, exceptionTable := #[], attributes := #[] }
def k2m1 : Method := { name := "factor", desc := "(J)I", sig := { parameters := [.long], returnType := some .int }, accessFlags := 9, code := some k2c1 }
def k2c2 : Code := { maxStack := 2, maxLocals := 3, code := prog_47_method_3_code, exceptionTable := #[], attributes := #[] }
def k2m2 : Method := { name := "of", desc := "(III)I", sig := { parameters := [.int, .int, .int], returnType := some .int }, accessFlags := 9, code := some k2c2 }
def k2c3 : Code := { maxStack := 2, maxLocals := 5, code := prog_47_method_4_code, exceptionTable := #[], attributes := #[] }
def k2m3 : Method := { name := "multiply", desc := "(II)I", sig := { parameters := [.int, .int], returnType := some .int }, accessFlags := 10, code := some k2c3 }
/-- com/example/hearthroll/hearthroll/util/JoinedCrc32 -/
def k2 : Class := { plain "com/example/hearthroll/hearthroll/util/JoinedCrc32" (some 0) with
  accessFlags := 49
  interfaces := #[]
  cf := some (fileOf pool2 7 #[] #[{ accessFlags := 2, nameIndex := 5, descriptorIndex := 6, attributes := #[] }, { accessFlags := 9, nameIndex := 32, descriptorIndex := 33, attributes := #[] }, { accessFlags := 9, nameIndex := 35, descriptorIndex := 36, attributes := #[] }, { accessFlags := 10, nameIndex := 16, descriptorIndex := 17, attributes := #[] }] 49 2 #[] #[{ accessFlags := 26, nameIndex := 26, descriptorIndex := 27, attributes := #[] }, { accessFlags := 26, nameIndex := 29, descriptorIndex := 27, attributes := #[] }, { accessFlags := 26, nameIndex := 12, descriptorIndex := 13, attributes := #[] }])
  fields := #[{ name := "GENERATOR", type := .int, accessFlags := 26, slot := 0, constantValue := 0 }, { name := "ONE", type := .int, accessFlags := 26, slot := 1, constantValue := 0 }, { name := "BYTE_POWERS", type := (.array .int), accessFlags := 26, slot := 2, constantValue := 0 }]
  methods := #[k2m0, k2m1, k2m2, k2m3]
  instanceTypes := #[]
  staticTypes := #[.int, .int, (.array .int)]
  resolved := Array.replicate 41 none
  statics := some 0 }

def pool3 : Array CpInfo := pool [(1, u "java/lang/Cloneable"), (0, .class_ 1), (0, u "java/lang/Object"), (0, .class_ 3)] 3

/-- java/lang/Cloneable -/
def k3 : Class := { plain "java/lang/Cloneable" (some 0) with
  accessFlags := 1537
  interfaces := #[]
  cf := some (fileOf pool3 2 #[] #[] 1537 4 #[] #[])
  fields := #[]
  methods := #[]
  instanceTypes := #[]
  staticTypes := #[]
  resolved := Array.replicate 8 none
  statics := none }

def pool4 : Array CpInfo := pool [(1, u "java/io/Serializable"), (0, .class_ 1), (0, u "java/lang/Object"), (0, .class_ 3)] 3

/-- java/io/Serializable -/
def k4 : Class := { plain "java/io/Serializable" (some 0) with
  accessFlags := 1537
  interfaces := #[]
  cf := some (fileOf pool4 2 #[] #[] 1537 4 #[] #[])
  fields := #[]
  methods := #[]
  instanceTypes := #[]
  staticTypes := #[]
  resolved := Array.replicate 8 none
  statics := none }

/-- the primitive byte -/
def k5 : Class := { plain "byte" none with kind := .primitive 'B', accessFlags := 0x411 }
/-- [B -/
def k6 : Class := { plain "[B" (some 0) with kind := .array 5 .byte, interfaces := #[3, 4], accessFlags := 1041 }

/-- the primitive int -/
def k7 : Class := { plain "int" none with kind := .primitive 'I', accessFlags := 0x411 }
/-- [I -/
def k8 : Class := { plain "[I" (some 0) with kind := .array 7 .int, interfaces := #[3, 4], accessFlags := 1041 }

def heap : Heap := #[{ cls := 2, slots := #[.int 0, .int 0, .ref 1], vm := .statics 2 },
  { cls := 8, slots := #[.int 8388608, .int 32768, .int (-306674912), .int (-1310281582), .int (-1603656425), .int (-312312402), .int (-1999551385), .int (-675545494), .int (-331055343), .int (-1904303760), .int 1680310286, .int 1296546528, .int 167662735, .int (-2088424177), .int 808857370, .int 2069535939, .int 838779241, .int (-1611922902), .int 1821240772, .int 366380877, .int 1608415822, .int (-1160180169), .int 776888047, .int 1319870996, .int (-1465617728), .int 1117427358, .int 344797226, .int (-1005869360), .int (-991810500), .int 1073741824, .int 536870912, .int 134217728, .int 8388608, .int 32768, .int (-306674912), .int (-1310281582), .int (-1603656425), .int (-312312402), .int (-1999551385), .int (-675545494), .int (-331055343), .int (-1904303760), .int 1680310286, .int 1296546528, .int 167662735, .int (-2088424177), .int 808857370, .int 2069535939, .int 838779241, .int (-1611922902), .int 1821240772, .int 366380877, .int 1608415822, .int (-1160180169), .int 776888047, .int 1319870996, .int (-1465617728), .int 1117427358, .int 344797226, .int (-1005869360), .int (-991810500), .int 1073741824, .int 536870912, .int 134217728], vm := .none }]
def classes : Array Class := #[k0, k1, k2, k3, k4, k5, k6, k7, k8]
def interned : List (Array UInt16 × Addr) := []
def slotsUsed : Nat := 67
def theMethod : MethodId := ⟨1, 1⟩
def args0 : Array Value := #[.long 5, .long 7, .int 3]
def aboutOver (below : List Frame) : State where
  vm := { classes := classes, interned := interned.toArray }
  heap := heap
  slotsUsed := slotsUsed
  threads := #[{ frames := .invoking theMethod args0 :: below }]
def below0 : List Frame := [.native { method := ⟨0, 0⟩, args := #[] }]
def about1 : State := aboutOver below0
def p0 : Program := .bare "" "" ""
def e0 : Env := launch0.env 0 0 0
theorem w_frames : about1.frames = Frame.invoking theMethod args0 :: below0 := rfl
set_option maxRecDepth 65536 in
theorem w_args : argsFit about1.vm theMethod args0 = true := by decide +kernel
set_option maxRecDepth 65536 in
theorem w_heap : heapFits about1 = true := by decide +kernel
set_option maxRecDepth 65536 in
theorem w_runnable : about1.curStatus? = some .runnable := by decide +kernel
set_option maxRecDepth 65536 in
theorem w_alone : about1.alone = true := by decide +kernel
set_option maxRecDepth 65536 in
theorem w_named : about1.methodNamed? x = some theMethod := by decide +kernel
set_option maxRecDepth 65536 in
theorem w_hears : about1.hears theMethod below0 = true := by decide +kernel
set_option maxRecDepth 65536 in
theorem w_ripe : about1.ripe theMethod args0 below0 = true := by decide +kernel
theorem w_running : about1.status = .running := rfl
set_option maxRecDepth 65536 in
theorem w_room : about1.hasRoom e0.platform room_1 = true :=
  launch0.hasRoom_least _ room_1 (by decide +kernel) (by decide +kernel) (by decide +kernel) (by decide +kernel) (by decide +kernel) (by decide +kernel)
theorem allAtoms_all (ts : List Jvm.Cond) (a : Array Jvm.Value) (st : Jvm.State) : (allAtoms ts).before a st = ts.all (fun c => c.before a st) := by
  induction ts with
  | nil => rfl
  | cons c t ih =>
    show (Jvm.Cond.and c (allAtoms t)).before a st = _
    rw [Jvm.Cond.before_and, ih, List.all_cons]
def words1 : List Jvm.Cond := Jvm.Cond.code x code maxLocals ret :: tables_1
/-- a 'code' word, met by the world's own term for the bytes: nothing is compared byte by byte -/
theorem code_word {y : MethodName} {bytes : ByteArray} {mx : Nat} {rt : Option FieldType} {a : Array Value} {s : State} {m : MethodId} {meth : Method} {c : Code} (h1 : s.methodNamed? y = some m) (h2 : s.vm.method? m = some meth) (h3 : meth.code = some c) (h4 : c.code = bytes)
    (h5 : (c.maxLocals == mx && c.exceptionTable.isEmpty && decide (c.maxStack ≤ mostOperands) && decide (meth.sig.returnType = rt) && !meth.locks && decide (parseMethodDescriptor y.desc = some meth.sig)) = true) : (Jvm.Cond.code y bytes mx rt).before a s = true := by
  simp only [Bool.and_eq_true, beq_iff_eq, Bool.not_eq_true', decide_eq_true_eq] at h5
  obtain ⟨⟨⟨⟨⟨g1, g2⟩, g3⟩, g4⟩, g5⟩, g6⟩ := h5
  simp [Cond.before, Cond.holds, Cond.value, h1, h2, h3, h4, g1, g2, g3, g4, g5, g6]
def isCode : Jvm.Cond → Bool
  | .code _ _ _ _ => true
  | _ => false
theorem all_split {L : List Jvm.Cond} {P : Jvm.Cond → Bool} (h1 : L.all (fun c => isCode c || P c) = true) (h2 : ∀ c ∈ L.filter isCode, P c = true) : L.all P = true := by
  refine List.all_eq_true.mpr fun c hc => ?_
  have h := List.all_eq_true.mp h1 c hc
  rcases Bool.eq_false_or_eq_true (isCode c) with hi | hi
  · exact h2 c (List.mem_filter.mpr ⟨hc, hi⟩)
  · simpa [hi] using h
set_option maxRecDepth 65536 in
theorem w_c0 : (Jvm.Cond.code x code maxLocals ret).before args0 about1 = true := code_word (m := ⟨1, 1⟩) (meth := k1m1) (c := k1c1) (by decide +kernel) rfl rfl rfl (by decide +kernel)
set_option maxRecDepth 65536 in
theorem w_c1 : (Jvm.Cond.code ({ cls := "com/example/hearthroll/hearthroll/util/JoinedCrc32", name := "factor", desc := "(J)I" } : Jvm.MethodName) prog_47_method_2_code (6 : Nat) (Option.some Jvm.ClassFile.FieldType.int)).before args0 about1 = true := code_word (m := ⟨2, 1⟩) (meth := k2m1) (c := k2c1) (by decide +kernel) rfl rfl rfl (by decide +kernel)
set_option maxRecDepth 65536 in
theorem w_c2 : (Jvm.Cond.code ({ cls := "com/example/hearthroll/hearthroll/util/JoinedCrc32", name := "multiply", desc := "(II)I" } : Jvm.MethodName) prog_47_method_4_code (5 : Nat) (Option.some Jvm.ClassFile.FieldType.int)).before args0 about1 = true := code_word (m := ⟨2, 3⟩) (meth := k2m3) (c := k2c3) (by decide +kernel) rfl rfl rfl (by decide +kernel)
set_option maxRecDepth 65536 in
theorem w_c3 : (Jvm.Cond.code ({ cls := "com/example/hearthroll/hearthroll/util/JoinedCrc32", name := "of", desc := "(III)I" } : Jvm.MethodName) prog_47_method_3_code (3 : Nat) (Option.some Jvm.ClassFile.FieldType.int)).before args0 about1 = true := code_word (m := ⟨2, 2⟩) (meth := k2m2) (c := k2c2) (by decide +kernel) rfl rfl rfl (by decide +kernel)
def codes1 : List Jvm.Cond := [Jvm.Cond.code x code maxLocals ret, Jvm.Cond.code ({ cls := "com/example/hearthroll/hearthroll/util/JoinedCrc32", name := "factor", desc := "(J)I" } : Jvm.MethodName) prog_47_method_2_code (6 : Nat) (Option.some Jvm.ClassFile.FieldType.int), Jvm.Cond.code ({ cls := "com/example/hearthroll/hearthroll/util/JoinedCrc32", name := "multiply", desc := "(II)I" } : Jvm.MethodName) prog_47_method_4_code (5 : Nat) (Option.some Jvm.ClassFile.FieldType.int), Jvm.Cond.code ({ cls := "com/example/hearthroll/hearthroll/util/JoinedCrc32", name := "of", desc := "(III)I" } : Jvm.MethodName) prog_47_method_3_code (3 : Nat) (Option.some Jvm.ClassFile.FieldType.int)]
set_option maxRecDepth 65536 in
theorem codes_eq : words1.filter isCode = codes1 := rfl
theorem w_codes : ∀ c ∈ words1.filter isCode, c.before args0 about1 = true := by
  rw [codes_eq]
  intro c hc
  simp only [codes1, List.mem_cons, List.not_mem_nil, or_false] at hc
  rcases hc with rfl | rfl | rfl | rfl
  · exact w_c0
  · exact w_c1
  · exact w_c2
  · exact w_c3
set_option maxRecDepth 65536 in
theorem w_t1 : words1.all (fun c => isCode c || c.before args0 about1) = true := by decide +kernel
theorem w_tables : (allAtoms (Jvm.Cond.code x code maxLocals ret :: tables_1)).before args0 about1 = true := by
  rw [allAtoms_all]
  show words1.all (fun c => c.before args0 about1) = true
  refine all_split ?_ w_codes
  rw [w_t1]
set_option maxRecDepth 65536 in
theorem w_case : (Jvm.Cond.and given_1 narrow_1).before args0 about1 = true := by decide +kernel
theorem w_applies : (headSpec (Jvm.Cond.code x code maxLocals ret :: tables_1) room_1).applies x e0.platform about1 = true :=
  (Spec.applies_iff w_frames).mpr ⟨w_running, w_runnable, w_alone, w_named, w_hears, w_ripe, w_room, w_tables⟩
theorem atStart : AtStart classFile x code maxLocals ret World_1 tables_1 room_1 Calls_1 rest_1 Pre_1 launch0 p0 e0 about1 theMethod args0 below0 :=
  ⟨lists_1, trivial, launch0.admits_env _ _ _, launch0.least_env, fairChoices_fair.cas, fairChoices_fair.clock, w_frames, w_args, w_heap, w_applies, trivial, trivial, w_case⟩
end start1
theorem witness_1 : WitnessClaimed_1 := ⟨start1.p0, start1.e0, start1.about1, start1.theMethod, start1.args0, start1.below0, start1.atStart⟩
end Jvm.Pilot.@@N@@
